import PyProof.Rows.All
import Wide.All
import OpenK.AllK
import Wide.FinOn
import OpenK.XGo
import PySem.Challenge.RW_in0008_01
set_option Elab.async false
section
open PySem PySem.W PyProof.Rows
set_option maxRecDepth 100000
set_option maxHeartbeats 8000000
theorem Mine.calm_TopA : True := by
  w_top off
  k_with_none
  exact True.intro
namespace Mine
section
local macro_rules | `(tactic| o_head $_) => `(tactic| assumption)
/-- lays out the written part of the base heap as definitions (hd.heap_..); says nothing else -/
theorem hd (h : PySem.Challenge.rw_in0008_01.row.Holds) : PySem.Challenge.rw_in0008_01.row.Holds := by k_head
end
end Mine
end
section
open PySem PySem.W PyProof.Rows
set_option maxRecDepth 100000
theorem Mine.calm_R1 : True := by
  w_top off
  k_with_none
  exact True.intro
namespace Mine
open PySem.Builtin PySem.Builtin.Str

noncomputable def toIndex (len : Nat) (j : Int) : Nat := min (fromIndex len j) len
@[irreducible] noncomputable def find4 (x y : Str) (i j : Int) : Int := match occurrences x y (fromIndex x.length i) (toIndex x.length j) 1 with | k :: _ => (k : Int) | [] => -1
@[irreducible] noncomputable def rfind4 (x y : Str) (i j : Int) : Int := match lastOccurrence x y (fromIndex x.length i) (toIndex x.length j) with | some k => (k : Int) | none => -1

theorem gives_find4 (x y : Str) (i j : Int) (t u v z : Tok) : Gives («str.find» ⟨[.str x t, .str y u, .int i v, .int j z], []⟩) (.int (find4 x y i j)) := by
  unfold find4
  show Gives (match occurrences x y (fromIndex x.length i) (toIndex x.length j) 1 with | k :: _ => retInt k | [] => (do rule "str.find.not-found"; retInt (-1))) _
  cases occurrences x y (fromIndex x.length i) (toIndex x.length j) 1 with
  | nil => exact .rule (.of_eq rfl)
  | cons k _ => exact .of_eq rfl
theorem gives_rfind4 (x y : Str) (i j : Int) (t u v z : Tok) : Gives («str.rfind» ⟨[.str x t, .str y u, .int i v, .int j z], []⟩) (.int (rfind4 x y i j)) := by
  unfold rfind4
  show Gives (match lastOccurrence x y (fromIndex x.length i) (toIndex x.length j) with | some k => retInt k | none => (do rule "str.rfind.not-found"; retInt (-1))) _
  cases lastOccurrence x y (fromIndex x.length i) (toIndex x.length j) with
  | none => exact .rule (.of_eq rfl)
  | some k => exact .of_eq rfl
section
variable {prog : Program} {w : World} {A : Around} {E : Value → Shared → Prop} {s : Shared} {x y : Str} {t u v z : Tok} {i j : Int} {Q : Value → Shared → Prop}
theorem call_find4 (hq : Q (.int (find4 x y i j) s.toks) { s with toks := s.toks + 1 }) : wpAny (model prog w) A (call (.builtin "str.find") [.str x t, .str y u, .int i v, .int j z]) Q E s :=
  call_gives F.slot_str_find (typeIs_str _ _ _) F.entry_str_find (F.args_str_find_4 _ _ _ _) (gives_find4 x y i j t u v z) hq
theorem call_rfind4 (hq : Q (.int (rfind4 x y i j) s.toks) { s with toks := s.toks + 1 }) : wpAny (model prog w) A (call (.builtin "str.rfind") [.str x t, .str y u, .int i v, .int j z]) Q E s :=
  call_gives F.slot_str_rfind (typeIs_str _ _ _) F.entry_str_rfind (F.args_str_rfind_4 _ _ _ _) (gives_rfind4 x y i j t u v z) hq
end
end Mine
end
section
open PySem PySem.W PyProof.Rows PySem.Calls
set_option maxRecDepth 100000
theorem Mine.calm_R2 : True := by
  w_top off
  k_with_none
  exact True.intro
namespace Mine
section
variable {prog : Program} {w : World} {A : Around} {s : Shared} {K : Frag} {p : Program} {loose : List Str} {mean : ExcName → Option Value} {mg mb : Str → Option Value}
  {R : Result → Shared → Prop} {name qual : Str} {params : Arguments} {body : List Stmt} {scope : Scope} {dV kV doc pm cdv ct oc : Value} {an od : Option Addr} {osl : Array (Option Value)} {f : Addr} {args : Args} {binds : List (Str × Value)}

/-- a call of a def of the text's, seen from nowhere: all that stood before stands -/
theorem pure_call (X : K.In s.heap) (T : Top p loose mean mg mb s.heap)
    (ho : K.lookup f = some ⟨oc, od, .func (fnOf name qual params body scope dV kV doc pm an cdv ct), osl⟩) (hcd : codeIn K cdv qual = true) (hroom : A.depth < recursionLimit)
    (hbind : BindsTo s (fnOf name qual params body scope dV kV doc pm an cdv ct) args binds) (hloc : ∀ y ∈ binds, scope.names.lookup y.1 = some .local)
    (h : ∀ L' h₁, Fr s.heap L' h₁ (fun y => binds.reverse.lookup y) → News s.heap L' h₁ [] →
      wpAny (model prog w) (A.deeper (envOf qual scope L' f cdv)) (execs body (envOf qual scope L' f cdv))
        (fun fl s' => R (.ok (.ret (match fl with | .ret v => v | _ => .none))) s')
        (fun e s' => wpAny (model prog w) (A.deeper (envOf qual scope L' f cdv)) (leaving (envOf qual scope L' f cdv) e) (fun _ s'' => R (.error e) s'') (fun e' s'' => R (.error e') s'') s')
        { s with heap := h₁, toks := s.toks + binds.length })
    (hco : scope.isCoroutine = false) (hgen : scope.isGenerator = false) (hk : scope.kind = .function)
    (hcell : ∀ x ∈ scope.names, x.2 ≠ .cell) : codeAny (model prog w) A (.call (.ref f) args) R s := by
  refine codeAny_call_def (fd := fnX name qual params body scope [] dV kV doc pm an cdv ct) (body := body) (binds := binds) hroom (X _ _ ho) rfl T.nolimit (codeRec_of X hcd) rfl hbind hcell hloc (fun h₁ hns hk₁ => ?_) hco hgen hk
  exact h s.heap.objs.size h₁ ⟨hns, hk₁, Nat.le_refl _⟩ News.nil

theorem pure_callC (X : K.In s.heap) (T : Top p loose mean mg mb s.heap)
    (ho : K.lookup f = some ⟨oc, od, .func (fnOf name qual params body scope dV kV doc pm an cdv ct), osl⟩) (hcd : codeIn K cdv qual = true) (hroom : A.depth < recursionLimit)
    (hbind : BindsTo s (fnOf name qual params body scope dV kV doc pm an cdv ct) args binds)
    (hkind : (binds.all fun y => scope.names.lookup y.1 == some .local || scope.names.lookup y.1 == some .cell) = true)
    (hnd : ((cellsFrom 0 scope.names []).map (·.1)).Nodup)
    (h : ∀ L' h₁ tk cells, Fr s.heap L' h₁ (bindL (envOfC qual scope L' f cdv).kindOf binds fun _ => none) → News s.heap L' h₁ cells →
      CellsAre (bindC (envOfC qual scope L' f cdv).kindOf binds fun _ => none) (cellsFrom (L' + 1) scope.names []) cells →
      wpAny (model prog w) (A.deeper (envOfC qual scope L' f cdv)) (execs body (envOfC qual scope L' f cdv))
        (fun fl s' => R (.ok (.ret (match fl with | .ret v => v | _ => .none))) s')
        (fun e s' => wpAny (model prog w) (A.deeper (envOfC qual scope L' f cdv)) (leaving (envOfC qual scope L' f cdv) e) (fun _ s'' => R (.error e) s'') (fun e' s'' => R (.error e') s'') s')
        { s with heap := h₁, toks := tk })
    (hco : scope.isCoroutine = false) (hgen : scope.isGenerator = false) (hk : scope.kind = .function) :
    codeAny (model prog w) A (.call (.ref f) args) R s := by
  refine codeAny_call_function (fd := fnX name qual params body scope [] dV kV doc pm an cdv ct) hroom (X _ _ ho) rfl hco hgen rfl (codeRec_of X hcd) (hbind _ _ _ _ ?_)
  refine wpAny_newFunctionEnv_cells hk (kindsX hkind _) fun env' he s' x => ?_
  subst he
  refine ⟨T.nolimit.keeps x.toInCall.keep, codeAny_func ?_⟩
  obtain ⟨h₁, tk, rfl, _⟩ := x.done
  have hk₁ := x.toInCall.keep
  obtain ⟨cells, NC, Y⟩ := Cl.news (h₀ := s.heap) (Nat.le_refl _) fun n c hm => ⟨x.cell n c (lookup_of_mem_nodup (cellsFrom_names scope.names 0 (s.heap.objs.size + 1) [] [] rfl ▸ hnd) hm), x.above n c hm⟩
  exact h s.heap.objs.size h₁ tk cells ⟨x.toInCall.ns, hk₁, Nat.le_refl _⟩ (fun p hp => ⟨(NC p hp).1, (NC p hp).2.1, (NC p hp).2.2⟩) Y
end

/-- what a call that only makes leaves: all that stood before stands -/
noncomputable def Kept (s : Shared) (Q : Value → Heap → Prop) (r : Result) (s' : Shared) : Prop :=
  ∃ v h' tk', r = .ok (.ret v) ∧ s' = { s with heap := h', toks := tk' } ∧ (∀ b o, s.heap.get? b = some o → h'.get? b = some o) ∧ Q v h'
theorem Kept.intro {s : Shared} {Q : Value → Heap → Prop} {v : Value} {h' : Heap} {tk' : Nat} (k : ∀ b o, s.heap.get? b = some o → h'.get? b = some o) (q : Q v h') :
    Kept s Q (.ok (.ret v)) { s with heap := h', toks := tk' } := ⟨v, h', tk', rfl, rfl, k, q⟩

section
variable {prog : Program} {w : World} {A : Around} {s : Shared} {E : Value → Shared → Prop} {Q : Value → Shared → Prop} {P : Value → Heap → Prop} {f : Value} {vs : List Value}
/-- the use of such a call -/
theorem use_kept (h : codeAny (model prog w) A (.call f ⟨vs, []⟩) (Kept s P) s)
    (k : ∀ v h' tk', (∀ b o, s.heap.get? b = some o → h'.get? b = some o) → P v h' → Q v { s with heap := h', toks := tk' }) :
    wpAny (model prog w) A (call f vs) Q E s :=
  wpAny_call (codeAny_mono h fun r s' ⟨v, h', tk', e, e', k', q⟩ => by subst e; subst e'; exact k v h' tk' k' q)
end
theorem codeAny_lower {M : Model} {A : Around} {c : Code} {R : Result → Shared → Prop} {s : Shared} {D U : Nat} (h : codeAny M ⟨none, D, A.frames, A.guards, U⟩ c R s) (hh : A.handled = none) (hd : A.depth ≤ D) (hu : A.units ≤ U) : codeAny M A c R s :=
  fun Γ p hc hB => h Γ p hc ⟨hB.1.trans hh, Nat.le_trans hB.2.1 hd, hB.2.2.1, hB.2.2.2.1, Nat.le_trans hB.2.2.2.2 hu⟩
theorem Fr_kept {h₀ h h' : Heap} {L : Addr} {m : Str → Option Value} (F : Fr h₀ L h m) (k : ∀ b o, h.get? b = some o → h'.get? b = some o) : Fr h₀ L h' m :=
  ⟨F.ns.keeps k, fun b o e => k b o (F.keep b o e), F.above⟩
theorem News_kept {h₀ h h' : Heap} {L : Addr} {news : List (Addr × Obj)} (N : News h₀ L h news) (k : ∀ b o, h.get? b = some o → h'.get? b = some o) : News h₀ L h' news :=
  fun p hp => ⟨k _ _ (N p hp).1, (N p hp).2⟩
theorem News_get {h₀ h : Heap} {L : Addr} {news : List (Addr × Obj)} {a : Addr} {o : Obj} (N : News h₀ L h news) (hm : (a, o) ∈ news) : h.get? a = some o := (N _ hm).1
theorem fresh_back {h h' : Heap} {T : Addr} (k : ∀ b o, h.get? b = some o → h'.get? b = some o) (e : h'.get? T = none) : h.get? T = none := by
  cases q : h.get? T with
  | none => rfl
  | some o => rw [k _ _ q] at e; cases e
end Mine
end
section
open PySem PySem.W PyProof.Rows PySem.Calls
set_option maxRecDepth 100000
theorem Mine.calm_R8 : True := by
  w_top off
  k_with_none
  exact True.intro
namespace Mine
section
variable {prog : Program} {w : World} {A : Around} {s : Shared} {K : Frag} {p : Program} {loose : List Str} {mean : ExcName → Option Value} {mg mb : Str → Option Value}
  {R : Result → Shared → Prop} {name qual : Str} {params : Arguments} {body : Expr} {scope : Scope} {cl : List (Str × Addr)} {pm ctv : Value} {c' : Addr} {f : Addr} {args : Args} {binds : List (Str × Value)}
/-- a call of a lambda that stands on the heap: all that stood before stands -/
theorem pure_lam (T : Top p loose mean mg mb s.heap) (ho : s.heap.get? f = some (kla_obj name qual params body scope cl pm c' ctv)) (hcd : s.heap.CodeRec (.ref c') qual) (hroom : A.depth < recursionLimit)
    (hbind : bindArgs (kla_fn name qual params body scope cl pm (.ref c') ctv) args = pure binds) (hloc : ∀ y ∈ binds, scope.names.lookup y.1 = some .local)
    (h : ∀ L' h₁, Fr s.heap L' h₁ (fun y => binds.reverse.lookup y) → News s.heap L' h₁ [] →
      wpAny (model prog w) (A.deeper (envX qual scope L' f (.ref c') cl)) (eval body (envX qual scope L' f (.ref c') cl))
        (fun v s' => R (.ok (.ret v)) s')
        (fun e s' => wpAny (model prog w) (A.deeper (envX qual scope L' f (.ref c') cl)) (leaving (envX qual scope L' f (.ref c') cl) e) (fun _ s'' => R (.error e) s'') (fun e' s'' => R (.error e') s'') s')
        { s with heap := h₁, toks := s.toks + binds.length })
    (hco : scope.isCoroutine = false) (hgen : scope.isGenerator = false) (hk : scope.kind = .function)
    (hcell : ∀ x ∈ scope.names, x.2 ≠ .cell) : codeAny (model prog w) A (.call (.ref f) args) R s := by
  refine kla_callFunE hroom ho rfl hco hgen rfl hcd ?_
  rw [hbind]
  refine wpAny_pure (wpAny_newFunctionEnv hcell hloc (fun h₁ hns hsb => ⟨(T.nolimit).fresh _ hsb, ?_⟩) hk)
  show codeAny _ _ (.expr body (envX qual scope s.heap.objs.size f (.ref c') cl)) _ _
  have hk₁ : ∀ b o, s.heap.get? b = some o → h₁.get? b = some o := fun b o e => hsb.extBut b o (Nat.ne_of_lt (Heap.lt_size e)) (Heap.get?_push_of_some _ e)
  exact kla_codeExpr (h s.heap.objs.size h₁ ⟨hns, hk₁, Nat.le_refl _⟩ News.nil)
end
noncomputable abbrev Ext (h h' : Heap) : Prop := ∀ b o, h.get? b = some o → h'.get? b = some o
noncomputable abbrev listE (t : Tok) (c : Nat := 0) : Obj := { cls := .type "list", data := .seq #[.str (Str.ofString "E") t] c }
/-- a call that gives a new list of E -/
noncomputable def GivesE (M : Model) (h : Heap) (f : Value) (vs : List Value) : Prop :=
  ∀ (s : Shared) (fr : Option (List Env)) (gd : Option (List Code)) (R : Result → Shared → Prop), Ext h s.heap →
    (∀ l t h' tk', Ext s.heap h' → s.heap.get? l = none → h'.get? l = some (listE t) → R (.ok (.ret (.ref l))) { s with heap := h', toks := tk' }) →
    codeAny M ⟨none, 490, fr, gd, 580⟩ (.call f ⟨vs, []⟩) R s
theorem GivesE.keeps {M : Model} {h h' : Heap} {f : Value} {vs : List Value} (x : GivesE M h f vs) (k : Ext h h') : GivesE M h' f vs :=
  fun s fr gd R e q => x s fr gd R (fun b o z => e b o (k b o z)) q
end Mine
end
section
open PySem PySem.W PyProof.Rows PySem.Calls
set_option maxRecDepth 100000
theorem Mine.calm_R9 : True := by
  w_top off
  k_with_none
  exact True.intro
namespace Mine
noncomputable abbrev fdd (dx lam : Addr) (es : Array DictEntry) (ep : Nat) : Obj := ⟨.ref 108, some dx, .dict es ep, #[some (.ref lam)]⟩
noncomputable abbrev ents (kvs : List (Str × Addr)) : List (Str × Value) := kvs.map fun p => (p.1, .ref p.2)
/-- what a book holds: the names, as they first came, and where their lists stand -/
structure Holds (prog : Program) (w : World) (es : Array DictEntry) (kvs : List (Str × Addr)) : Prop where
  keys : KeysOf (PySem.strKind prog w) es
  pairs : Pairs (PySem.strKind prog w) es.toList (ents kvs)
  nd : (kvs.map (·.1)).Nodup
section
variable {prog : Program} {w : World} {A : Around} {E : Value → Shared → Prop} {s : Shared} {B dx lam : Addr} {es : Array DictEntry} {ep : Nat} {kvs : List (Str × Addr)} {k : Str} {t : Tok}
theorem Holds.nil : Holds prog w #[] [] := ⟨fun _ h => by simp at h, .nil, by simp⟩
theorem strKey (k : Str) (t : Tok) : (PySem.strKind prog w).is k (.str k t) = true := by
  show Value.isStrOf k (.str k t) = true
  simp [Value.isStrOf]
theorem Holds.size (H : Holds prog w es kvs) : es.size = kvs.length := by
  have := H.pairs.length
  simpa [ents] using this
theorem Holds.push (H : Holds prog w es kvs) (hk : k ∉ kvs.map (·.1)) (l : Addr) : Holds prog w (es.push ⟨(PySem.strKind prog w).hash k, .str k t, .ref l⟩) (kvs ++ [(k, l)]) where
  keys := H.keys.push (strKey k t) _
  pairs := by
    have := H.pairs.append (strKey (prog := prog) (w := w) k t) ((PySem.strKind prog w).hash k) (.ref l)
    simpa [ents] using this
  nd := by
    rw [List.map_append, List.nodup_append]
    refine ⟨H.nd, by simp, ?_⟩
    intro a ha b hb
    simp only [List.map_cons, List.map_nil, List.mem_singleton] at hb
    subst hb
    exact fun e => hk (e ▸ ha)
theorem Holds.idx (H : Holds prog w es kvs) (k : Str) : (es.findIdx? fun e => (PySem.strKind prog w).is k e.key) = kvs.findIdx? fun kv => decide (kv.1 = k) := by
  have e1 : (es.findIdx? fun e => (PySem.strKind prog w).is k e.key) = es.toList.findIdx? fun e => (PySem.strKind prog w).is k e.key := by obtain ⟨l⟩ := es; simp
  rw [e1, H.pairs.findIdx k, List.findIdx?_map]
  rfl
theorem Holds.miss (H : Holds prog w es kvs) (hk : k ∉ kvs.map (·.1)) : (es.findIdx? fun e => (PySem.strKind prog w).is k e.key) = none := by
  rw [H.idx k, List.findIdx?_eq_none_iff]
  intro kv hkv
  exact decide_eq_false fun e => hk (List.mem_map.mpr ⟨kv, hkv, e⟩)
theorem Holds.hit (H : Holds prog w es kvs) {l : Addr} (hk : (k, l) ∈ kvs) : ∃ i e, (es.findIdx? fun e => (PySem.strKind prog w).is k e.key) = some i ∧ es[i]? = some e ∧ e.val = .ref l := by
  have hv : valueAt (ents kvs) k = some (.ref l) := by
    obtain ⟨i, hi⟩ := List.getElem?_of_mem hk
    exact valueAt_of_get (i := i) (by simpa [ents, Function.comp_def] using H.nd) (by simp [ents, hi])
  have e1 : (es.findIdx? fun e => (PySem.strKind prog w).is k e.key) = es.toList.findIdx? fun e => (PySem.strKind prog w).is k e.key := by obtain ⟨l⟩ := es; simp
  cases q : es.toList.findIdx? fun e => (PySem.strKind prog w).is k e.key with
  | none =>
    have := H.pairs.find k
    rw [hv] at this
    have h2 : es.toList.find? (fun e => (PySem.strKind prog w).is k e.key) = none := by
      rw [List.find?_eq_none]
      intro e he
      have := List.findIdx?_eq_none_iff.mp q e he
      simp [this]
    rw [h2] at this
    cases this
  | some i =>
    obtain ⟨e, h1, _, h3⟩ := H.pairs.at q
    rw [hv] at h3
    exact ⟨i, e, e1.trans q, by simpa using h1, (Option.some.inj h3).symm⟩
theorem book_get_hit {l : Addr} {Q : Option Value → Shared → Prop} (hB : s.heap.get? B = some (fdd dx lam es ep)) (H : Holds prog w es kvs) (hk : (k, l) ∈ kvs) (h : Q (some (.ref l)) { s with toks := s.toks + 1 }) :
    wpAny (model prog w) A (dictGet B (.str k t)) Q E s := by
  obtain ⟨i, e, h1, h2, h3⟩ := H.hit hk
  unfold dictGet
  try with_reducible refine wpAny_holding ?_
  refine wpAny_bind ((PySem.strKind prog w).pyHash (strKey k t) (wpAny_bind (wpAny_dictFind_of (s := { s with toks := s.toks + 1 }) (strKey k t) hB rfl H.keys ?_)))
  rw [h1]
  refine wpAny_bind (wpAny_dictEntries (s := { s with toks := s.toks + 1 }) hB rfl (wpAny_pure ?_))
  rw [h2, Option.map_some, h3]
  exact h
theorem book_get_miss {Q : Option Value → Shared → Prop} (hB : s.heap.get? B = some (fdd dx lam es ep)) (H : Holds prog w es kvs) (hk : k ∉ kvs.map (·.1)) (h : Q none { s with toks := s.toks + 1 }) :
    wpAny (model prog w) A (dictGet B (.str k t)) Q E s := by
  unfold dictGet
  try with_reducible refine wpAny_holding ?_
  refine wpAny_bind ((PySem.strKind prog w).pyHash (strKey k t) (wpAny_bind (wpAny_dictFind_of (s := { s with toks := s.toks + 1 }) (strKey k t) hB rfl H.keys ?_)))
  rw [H.miss hk]
  exact wpAny_pure h
theorem book_setdefault {l : Addr} {Q : Value → Shared → Prop} (hB : s.heap.get? B = some (fdd dx lam es ep)) (H : Holds prog w es kvs) (hk : k ∉ kvs.map (·.1)) (hz : kvs.length ≤ 1000)
    (h : ∀ h' es', h'.get? B = some (fdd dx lam es' (ep + 1)) → Holds prog w es' (kvs ++ [(k, l)]) → (∀ b, b ≠ B → h'.get? b = s.heap.get? b) → Q (.ref l) { s with heap := h', toks := s.toks + 1 }) :
    wpAny (model prog w) A (dictSetDefault B (.str k t) (.ref l)) Q E s := by
  have hes : es.size ≤ sizeLine := by rw [H.size, sizeLine_eq]; omega
  unfold dictSetDefault
  try with_reducible refine wpAny_holding ?_
  refine wpAny_bind ((PySem.strKind prog w).pyHash (strKey k t) ?_)
  refine wpAny_bind (wpAny_dictFind_of (s := { s with toks := s.toks + 1 }) (strKey k t) hB rfl H.keys ?_)
  rw [H.miss hk]
  refine wpAny_bind (wpAny_rule (wpAny_bind (wpAny_updateDictKeys (hz := hes) (s := { s with toks := s.toks + 1 }) hB rfl (wpAny_pure (h _ _ (Heap.get?_update_self _ hB rfl) (H.push hk l) fun b hb => Heap.get?_update_other _ _ (Ne.symm hb))))))
end
end Mine
end
section
open PySem PySem.W PyProof.Rows
set_option maxRecDepth 100000
theorem Mine.calm_P1 : True := by
  w_top off
  k_with_none
  exact True.intro
namespace Mine
noncomputable def bareGo : List Nat → List Nat → List Nat
  | acc, [] => acc
  | acc, c :: r => if c = 58 ∨ c = 10 then acc else if c = 46 then bareGo [] r else bareGo (acc ++ [c]) r
noncomputable def bareF (x : Str) : Str := ⟨(bareGo [] x.cps.toList).toArray⟩
noncomputable def BareInv (pre : List Int) (b : Str) : Prop := ∀ r : List Nat, bareGo [] (pre.map Int.toNat ++ r) = bareGo b.cps.toList r
theorem str_ext {a b : Str} (h : a.cps.toList = b.cps.toList) : a = b := Str.ext' (Array.ext' h)
theorem sign_beq (n k : Nat) : ((⟨#[n]⟩ : Str) == ⟨#[k]⟩) = decide (n = k) := by
  by_cases h : n = k
  · subst h; simp
  · rw [decide_eq_false h, beq_eq_false_iff_ne]
    intro e
    exact h (by simpa using e)
theorem lit_colon : Str.ofString ":" = ⟨#[58]⟩ := by decide +kernel
theorem lit_dot : Str.ofString "." = ⟨#[46]⟩ := by decide +kernel
theorem lit_nl : Str.ofString "\n" = ⟨#[10]⟩ := by decide +kernel
theorem lit_sp : Str.ofString " " = ⟨#[32]⟩ := by decide +kernel
theorem lit_eq : Str.ofString "=" = ⟨#[61]⟩ := by decide +kernel
theorem lit_nil : Str.ofString "" = ⟨#[]⟩ := by decide +kernel
theorem lit_ten : (⟨#[Int.toNat 10]⟩ : Str) = ⟨#[10]⟩ := rfl
theorem codes_nat {x : Str} {pre post : List Int} {n : Nat} (h : KStt.codes x = pre ++ (n : Int) :: post) : x.cps.toList = pre.map Int.toNat ++ n :: post.map Int.toNat := by
  have := congrArg (List.map Int.toNat) h
  simpa [KStt.codes, Function.comp_def] using this
theorem codes_all {x : Str} : (KStt.codes x).map Int.toNat = x.cps.toList := by
  simp [KStt.codes, Function.comp_def]
theorem bareInv_nil : BareInv [] (Str.ofString "") := fun r => by rw [lit_nil]; rfl
theorem bareInv_dot {pre : List Int} {b : Str} {n : Nat} (h : BareInv pre b) (h1 : ((⟨#[n]⟩ : Str) == Str.ofString ":") = false) (h2 : ((⟨#[n]⟩ : Str) == ⟨#[Int.toNat 10]⟩) = false) (h3 : ((⟨#[n]⟩ : Str) == Str.ofString ".") = true) :
    BareInv (pre ++ [(n : Int)]) (Str.ofString "") := by
  rw [lit_colon, sign_beq] at h1
  rw [lit_ten, sign_beq] at h2
  rw [lit_dot, sign_beq] at h3
  have h1 := of_decide_eq_false h1
  have h2 := of_decide_eq_false h2
  have h3 := of_decide_eq_true h3
  intro r
  rw [List.map_append, List.append_assoc, h]
  simp [bareGo, h3, lit_nil]
theorem bareInv_step {pre : List Int} {b : Str} {n : Nat} (h : BareInv pre b) (h1 : ((⟨#[n]⟩ : Str) == Str.ofString ":") = false) (h2 : ((⟨#[n]⟩ : Str) == ⟨#[Int.toNat 10]⟩) = false) (h3 : ((⟨#[n]⟩ : Str) == Str.ofString ".") = false) :
    BareInv (pre ++ [(n : Int)]) (b ++ (⟨#[n]⟩ : Str)) := by
  rw [lit_colon, sign_beq] at h1
  rw [lit_ten, sign_beq] at h2
  rw [lit_dot, sign_beq] at h3
  have h1 := of_decide_eq_false h1
  have h2 := of_decide_eq_false h2
  have h3 := of_decide_eq_false h3
  intro r
  rw [List.map_append, List.append_assoc, h, Str.cps_append]
  simp [bareGo, h1, h2, h3]
theorem bareInv_len {pre : List Int} {b : Str} {n : Nat} (h : b.length ≤ pre.length) : (b ++ (⟨#[n]⟩ : Str)).length ≤ (pre ++ [(n : Int)]).length := by
  rw [Str.length_append, List.length_append]
  show _ + 1 ≤ _ + 1
  omega
theorem bare_stop {x b : Str} {pre post : List Int} {n : Nat} (e : KStt.codes x = pre ++ (n : Int) :: post) (h : BareInv pre b) (h1 : n = 58 ∨ n = 10) : b = bareF x := by
  have := h (n :: post.map Int.toNat)
  apply str_ext
  unfold bareF
  rw [codes_nat e, this]
  simp [bareGo, h1]
theorem bare_stop1 {x b : Str} {pre post : List Int} {n : Nat} (e : KStt.codes x = pre ++ (n : Int) :: post) (h : BareInv pre b) (h1 : ((⟨#[n]⟩ : Str) == Str.ofString ":") = true) : b = bareF x := by
  rw [lit_colon, sign_beq] at h1
  exact bare_stop e h (.inl (of_decide_eq_true h1))
theorem bare_stop2 {x b : Str} {pre post : List Int} {n : Nat} (e : KStt.codes x = pre ++ (n : Int) :: post) (h : BareInv pre b) (h1 : ((⟨#[n]⟩ : Str) == ⟨#[Int.toNat 10]⟩) = true) : b = bareF x := by
  rw [lit_ten, sign_beq] at h1
  exact bare_stop e h (.inr (of_decide_eq_true h1))
theorem bare_all {x b : Str} (h : BareInv (KStt.codes x) b) : b = bareF x := by
  have := h []
  apply str_ext
  unfold bareF
  rw [List.append_nil, codes_all] at this
  rw [this]
  rfl
end Mine
end
section
open PySem PySem.W PyProof.Rows
set_option maxRecDepth 100000
theorem Mine.calm_P2 : True := by
  w_top off
  k_with_none
  exact True.intro
namespace Mine
open PySem.Builtin PySem.Builtin.Str PySem.StrLaws

theorem at_one {x : Str} {c hi i : Nat} (hh : hi ≤ x.length) : At x ⟨#[c]⟩ hi i ↔ (i < hi ∧ x.cps.toList[i]? = some c) := by
  constructor
  · rintro ⟨h1, h2⟩
    have h1' : i + 1 ≤ hi := h1
    exact ⟨by omega, (subAt_one x c i).mp ⟨by show i + 1 ≤ _; omega, h2⟩⟩
  · rintro ⟨h1, h2⟩
    exact ⟨by show i + 1 ≤ hi; omega, ((subAt_one x c i).mpr h2).2⟩

/-- the first of a sign up to a place -/
noncomputable def FirstAt (l : List Nat) (c hi : Nat) (r : Int) : Prop :=
  (r = -1 ∧ ∀ i, i < hi → l[i]? ≠ some c) ∨ ∃ k : Nat, r = (k : Int) ∧ k < hi ∧ l[k]? = some c ∧ ∀ i, i < k → l[i]? ≠ some c
noncomputable def LastAt (l : List Nat) (c hi : Nat) (r : Int) : Prop :=
  (r = -1 ∧ ∀ i, i < hi → l[i]? ≠ some c) ∨ ∃ k : Nat, r = (k : Int) ∧ k < hi ∧ l[k]? = some c ∧ ∀ i, k < i → i < hi → l[i]? ≠ some c

theorem occ_firstAt (x : Str) (c hi : Nat) (hh : hi ≤ x.length) : FirstAt x.cps.toList c hi (match occurrences x ⟨#[c]⟩ 0 hi 1 with | k :: _ => (k : Int) | [] => -1) := by
  rw [occ_eq]
  rcases occ_first x ⟨#[c]⟩ hi 1 (Nat.le_refl _) (List.range' 0 (hi + 1 - 0)) 0 (fun _ _ => Nat.zero_le _) with ⟨h0, hn⟩ | ⟨pre, a, post, e, h0, ha, hn⟩
  · rw [h0]
    exact .inl ⟨rfl, fun i hi' q => hn i (by simp [List.mem_range'] <;> omega) ((at_one hh).mpr ⟨hi', q⟩)⟩
  · generalize (forIn (List.range' 0 (hi + 1 - 0)) ((#[] : Array Nat), 0) (occBody x ⟨#[c]⟩ hi 1)).run.fst = arr at h0
    have h1 : arr.toList[0]? = some a := by simpa using h0
    obtain ⟨q1, q2⟩ := (at_one hh).mp ha
    refine .inr ⟨a, ?_, q1, q2, fun i hi' q => hn i (range'_split e i hi') ((at_one hh).mpr ⟨by omega, q⟩)⟩
    cases hL : arr.toList with
    | nil => rw [hL] at h1; cases h1
    | cons b t => rw [hL] at h1; simp at h1; rw [h1]
theorem last_lastAt (x : Str) (c hi : Nat) (hh : hi ≤ x.length) : LastAt x.cps.toList c hi (match lastOccurrence x ⟨#[c]⟩ 0 hi with | some k => (k : Int) | none => -1) := by
  rw [last_eq]
  have key := last_run x ⟨#[c]⟩ hi (List.range' 0 (hi + 1 - 0)) [] none (fun _ h => nomatch h) (fun _ h => nomatch h) (by simpa using List.pairwise_lt_range' (s := 0) (n := hi + 1 - 0))
  have mem : ∀ i, i < hi → i ∈ [] ++ List.range' 0 (hi + 1 - 0) := fun i h => by simp [List.mem_range'] <;> omega
  cases hr : (forIn (List.range' 0 (hi + 1 - 0)) none (lastBody x ⟨#[c]⟩ hi)).run with
  | none => rw [hr] at key; exact .inl ⟨rfl, fun i h q => key i (mem i h) ((at_one hh).mpr ⟨h, q⟩)⟩
  | some a =>
    rw [hr] at key
    obtain ⟨q1, q2⟩ := (at_one hh).mp key.1
    exact .inr ⟨a, rfl, q1, q2, fun k h1 h2 q => key.2 k (mem k h2) h1 ((at_one hh).mpr ⟨h2, q⟩)⟩

theorem find_firstAt (x : Str) (c : Nat) : FirstAt x.cps.toList c x.length (Txt.find x ⟨#[c]⟩) := occ_firstAt x c x.length (Nat.le_refl _)
theorem toIndex_nat {x : Str} {hi : Nat} (hh : hi ≤ x.length) : toIndex x.length (hi : Int) = hi := by
  unfold toIndex fromIndex
  rw [if_neg (by omega)]
  omega
theorem fromIndex_zero (n : Nat) : fromIndex n 0 = 0 := rfl
theorem find4_firstAt (x : Str) (c hi : Nat) (hh : hi ≤ x.length) : FirstAt x.cps.toList c hi (find4 x ⟨#[c]⟩ 0 (hi : Int)) := by
  unfold find4
  rw [toIndex_nat hh, fromIndex_zero]
  exact occ_firstAt x c hi hh
theorem rfind4_lastAt (x : Str) (c hi : Nat) (hh : hi ≤ x.length) : LastAt x.cps.toList c hi (rfind4 x ⟨#[c]⟩ 0 (hi : Int)) := by
  unfold rfind4
  rw [toIndex_nat hh, fromIndex_zero]
  exact last_lastAt x c hi hh

theorem slice_nat (x : Str) {a b : Nat} (hab : a ≤ b) (hb : b ≤ x.length) : Txt.slice x (some (a : Int)) (some (b : Int)) = ⟨((x.cps.toList.drop a).take (b - a)).toArray⟩ := sliceText_nat x hab hb

/-- the signs behind the last dot -/
theorem bareGo_free : ∀ (l acc : List Nat), (∀ c ∈ l, c ≠ 58 ∧ c ≠ 10 ∧ c ≠ 46) → ∀ r, bareGo acc (l ++ r) = bareGo (acc ++ l) r
  | [], acc, _, r => by simp
  | c :: l, acc, h, r => by
    obtain ⟨h1, h2, h3⟩ := h c (.head _)
    rw [List.cons_append, bareGo, if_neg (by simp [h1, h2]), if_neg h3, bareGo_free l _ (fun d hd => h d (.tail _ hd))]
    simp
theorem bareGo_dot : ∀ (l acc : List Nat), (∀ c ∈ l, c ≠ 58 ∧ c ≠ 10) → ∀ r, bareGo acc (l ++ 46 :: r) = bareGo [] r
  | [], acc, _, r => by simp [bareGo]
  | c :: l, acc, h, r => by
    obtain ⟨h1, h2⟩ := h c (.head _)
    rw [List.cons_append, bareGo, if_neg (by simp [h1, h2])]
    split
    · exact bareGo_dot l _ (fun d hd => h d (.tail _ hd)) r
    · exact bareGo_dot l _ (fun d hd => h d (.tail _ hd)) r
theorem bareGo_stop {acc r : List Nat} (h : r = [] ∨ ∃ c t, r = c :: t ∧ (c = 58 ∨ c = 10)) : bareGo acc r = acc := by
  rcases h with rfl | ⟨c, t, rfl, hc⟩
  · rfl
  · rw [bareGo, if_pos hc]

/-- e: where the first colon or line end stands, or the end -/
structure StopAt (l : List Nat) (e : Nat) : Prop where
  le : e ≤ l.length
  free : ∀ i, i < e → ∀ c, l[i]? = some c → c ≠ 58 ∧ c ≠ 10
  stop : e = l.length ∨ l[e]? = some 58 ∨ l[e]? = some 10

theorem mem_take_get {l : List Nat} {e c : Nat} (h : c ∈ l.take e) : ∃ i, i < e ∧ l[i]? = some c := by
  obtain ⟨i, hi⟩ := List.mem_iff_getElem?.mp h
  rw [List.getElem?_take] at hi
  split at hi
  · exact ⟨i, by assumption, hi⟩
  · cases hi
theorem StopAt.rest {l : List Nat} {e : Nat} (h : StopAt l e) : l.drop e = [] ∨ ∃ c t, l.drop e = c :: t ∧ (c = 58 ∨ c = 10) := by
  rcases h.stop with q | q
  · left; rw [q, List.drop_length]
  · right
    have : ∃ c, l[e]? = some c ∧ (c = 58 ∨ c = 10) := q.elim (fun q => ⟨58, q, .inl rfl⟩) (fun q => ⟨10, q, .inr rfl⟩)
    obtain ⟨c, hc, hc'⟩ := this
    obtain ⟨hlt, hg⟩ := List.getElem?_eq_some_iff.mp hc
    exact ⟨c, l.drop (e + 1), by rw [← hg]; exact List.drop_eq_getElem_cons hlt, hc'⟩
theorem bare_nodot {x : Str} {e : Nat} (h : StopAt x.cps.toList e) (hd : ∀ i, i < e → x.cps.toList[i]? ≠ some 46) : (⟨((x.cps.toList.drop 0).take (e - 0)).toArray⟩ : Str) = bareF x := by
  apply str_ext
  unfold bareF
  have q : bareGo [] x.cps.toList = x.cps.toList.take e := by
    conv => lhs; rw [← List.take_append_drop e x.cps.toList]
    rw [bareGo_free _ _ (fun c hc => ?_), List.nil_append, bareGo_stop h.rest]
    obtain ⟨i, hi, hg⟩ := mem_take_get hc
    have := h.free i hi c hg
    exact ⟨this.1, this.2, fun q => hd i hi (by rw [hg, q])⟩
  rw [q]
  simp
theorem bare_dotted {x : Str} {e k : Nat} (h : StopAt x.cps.toList e) (hk : k < e) (h46 : x.cps.toList[k]? = some 46) (hd : ∀ i, k < i → i < e → x.cps.toList[i]? ≠ some 46) :
    (⟨((x.cps.toList.drop (k + 1)).take (e - (k + 1))).toArray⟩ : Str) = bareF x := by
  apply str_ext
  unfold bareF
  obtain ⟨hlt, hg⟩ := List.getElem?_eq_some_iff.mp h46
  have sp : x.cps.toList = x.cps.toList.take k ++ 46 :: (((x.cps.toList.drop (k + 1)).take (e - (k + 1))) ++ x.cps.toList.drop e) := by
    have e1 : (x.cps.toList.drop (k + 1)).drop (e - (k + 1)) = x.cps.toList.drop e := by rw [List.drop_drop]; congr 1; omega
    rw [← e1, List.take_append_drop, ← hg, ← List.drop_eq_getElem_cons hlt, List.take_append_drop]
  have q : bareGo [] x.cps.toList = (x.cps.toList.drop (k + 1)).take (e - (k + 1)) := by
    conv => lhs; rw [sp]
    rw [bareGo_dot _ _ (fun c hc => ?_), bareGo_free _ _ (fun c hc => ?_), List.nil_append, bareGo_stop h.rest]
    · obtain ⟨i, hi⟩ := List.mem_iff_getElem?.mp hc
      rw [List.getElem?_take] at hi
      split at hi
      · rw [List.getElem?_drop] at hi
        have := h.free (k + 1 + i) (by omega) c hi
        exact ⟨this.1, this.2, fun q => hd (k + 1 + i) (by omega) (by omega) (by rw [hi, q])⟩
      · cases hi
    · obtain ⟨i, hi, hg'⟩ := mem_take_get hc
      exact h.free i (by omega) c hg'
  rw [q]

theorem cps_len (x : Str) : x.cps.toList.length = x.length := by simp [Str.length]
/-- the end that the function finds -/
theorem stop1 {x : Str} {r : Int} (hr : 0 ≤ Txt.find x (Str.ofString "\n") ∧ r = Txt.find x (Str.ofString "\n") ∨ ¬0 ≤ Txt.find x (Str.ofString "\n") ∧ r = (x.length : Int)) :
    ∃ e₁ : Nat, r = (e₁ : Int) ∧ e₁ ≤ x.length ∧ (∀ i, i < e₁ → x.cps.toList[i]? ≠ some 10) ∧ (e₁ = x.length ∨ x.cps.toList[e₁]? = some 10) := by
  rw [lit_nl] at hr
  rcases find_firstAt x 10 with ⟨h1, h2⟩ | ⟨k, h1, h2, h3, h4⟩
  · rcases hr with ⟨q, _⟩ | ⟨_, q⟩
    · omega
    · exact ⟨x.length, q, Nat.le_refl _, h2, .inl rfl⟩
  · rcases hr with ⟨_, q⟩ | ⟨q, _⟩
    · exact ⟨k, by omega, by omega, h4, .inr h3⟩
    · omega
theorem stop2 {x : Str} {r : Int} (hr : 0 ≤ Txt.find x (Str.ofString "\n") ∧ r = Txt.find x (Str.ofString "\n") ∨ ¬0 ≤ Txt.find x (Str.ofString "\n") ∧ r = (x.length : Int)) :
    (0 ≤ find4 x (Str.ofString ":") 0 r → ∃ e : Nat, find4 x (Str.ofString ":") 0 r = (e : Int) ∧ StopAt x.cps.toList e) ∧
    (¬ 0 ≤ find4 x (Str.ofString ":") 0 r → ∃ e : Nat, r = (e : Int) ∧ StopAt x.cps.toList e) := by
  obtain ⟨e₁, rfl, hle, hf, hs⟩ := stop1 hr
  rw [lit_colon]
  have c10 : ∀ i, i < e₁ → ∀ c, x.cps.toList[i]? = some c → c ≠ 10 := fun i hi c hc q => hf i hi (by rw [hc, q])
  rcases find4_firstAt x 58 e₁ hle with ⟨h1, h2⟩ | ⟨k, h1, h2, h3, h4⟩
  · refine ⟨fun q => by omega, fun _ => ⟨e₁, rfl, by rw [cps_len]; exact hle, fun i hi c hc => ⟨fun q => h2 i hi (by rw [hc, q]), c10 i hi c hc⟩, ?_⟩⟩
    rw [cps_len]
    exact hs.imp_right .inr
  · refine ⟨fun _ => ⟨k, h1, by rw [cps_len]; omega, fun i hi c hc => ⟨fun q => h4 i hi (by rw [hc, q]), c10 i (by omega) c hc⟩, .inr (.inl h3)⟩, fun q => by omega⟩

theorem strip_law {x : Str} {e : Nat} (h : StopAt x.cps.toList e) :
    (0 ≤ rfind4 x (Str.ofString ".") 0 (e : Int) → Txt.slice x (some (rfind4 x (Str.ofString ".") 0 (e : Int) + 1)) (some (e : Int)) = bareF x) ∧
    (¬ 0 ≤ rfind4 x (Str.ofString ".") 0 (e : Int) → Txt.slice x (some 0) (some (e : Int)) = bareF x) := by
  have hle : e ≤ x.length := by rw [← cps_len]; exact h.le
  rw [lit_dot]
  rcases rfind4_lastAt x 46 e hle with ⟨h1, h2⟩ | ⟨k, h1, h2, h3, h4⟩
  · refine ⟨fun q => by omega, fun _ => ?_⟩
    exact (slice_nat x (a := 0) (Nat.zero_le _) hle).trans (bare_nodot h h2)
  · refine ⟨fun _ => ?_, fun q => by omega⟩
    rw [h1]
    exact (slice_nat x (a := k + 1) (by omega) hle).trans (bare_dotted h h2 h3 h4)
end Mine
end
section
open PySem PySem.W PyProof.Rows
set_option maxRecDepth 100000
theorem Mine.calm_P3 : True := by
  w_top off
  k_with_none
  exact True.intro
namespace Mine
open PySem.Builtin PySem.Builtin.Str PySem.StrLaws
noncomputable def blank (c : Nat) : Bool := c == 32 || c == 10
noncomputable def keptP (x : Str) (k : Int) : Bool := !blank (x.cps.toList.getD k.toNat 0)
noncomputable def keptI (x : Str) : List Int := (rangeKs 0 x.length).filter (keptP x)
noncomputable def trimL (l : List Nat) : List Nat := ((l.dropWhile blank).reverse.dropWhile blank).reverse
noncomputable def trimF (x : Str) : Str := ⟨(trimL x.cps.toList).toArray⟩
theorem item_nat {x : Str} {k : Int} (h : k ∈ rangeKs 0 x.length) : Txt.item x k = ⟨#[x.cps.toList.getD k.toNat 0]⟩ := by
  have hk := mem_rangeKs h
  have hlt : k.toNat < x.cps.toList.length := by rw [cps_len]; omega
  have e : x.cps[k.toNat]? = some (x.cps.toList.getD k.toNat 0) := by
    rw [← Array.getElem?_toList, List.getD_eq_getElem?_getD, List.getElem?_eq_getElem hlt]; rfl
  unfold Txt.item
  have q : Txt.charAt x k = some (x.cps.toList.getD k.toNat 0) := at_nonneg hk.1 e
  rw [q]
  rfl
theorem fold_filter {p : Int → Bool} {f : List Int → Int → List Int} : ∀ {R : List Int} (_ : ∀ l k, k ∈ R → f l k = if p k = true then l ++ [k] else l) (acc : List Int), R.foldl f acc = acc ++ R.filter p
  | [], _, acc => by simp
  | k :: R, h, acc => by
    rw [List.foldl_cons, h acc k (.head _), fold_filter (fun l j hj => h l j (.tail _ hj)), List.filter_cons]
    split <;> simp
theorem item_is {x : Str} {k : Int} (h : k ∈ rangeKs 0 x.length) (c : Nat) : Txt.item x k = ⟨#[c]⟩ ↔ x.cps.toList.getD k.toNat 0 = c := by
  rw [item_nat h]
  constructor
  · intro e; simpa using e
  · intro e; rw [e]
theorem keptP_iff {x : Str} {k : Int} : keptP x k = true ↔ x.cps.toList.getD k.toNat 0 ≠ 32 ∧ x.cps.toList.getD k.toNat 0 ≠ 10 := by
  simp [keptP, blank]
/-- the turn of the comprehension, as the walk tells it -/
theorem kept_turn {x : Str} {k : Int} (h : k ∈ rangeKs 0 x.length) :
    ((1 ≤ (Txt.item x k).length ∧ (Txt.item x k).length ≤ 1) ∧ ¬Txt.item x k = Str.ofString " " ∧ ¬Txt.item x k = (⟨#[Int.toNat 10]⟩ : Str)) ↔ keptP x k = true := by
  rw [lit_sp, lit_ten, item_is h, item_is h, keptP_iff]
  exact ⟨fun q => q.2, fun q => ⟨⟨Nat.le_refl _, Nat.le_refl _⟩, q⟩⟩

theorem range_sorted (n : Nat) : (rangeKs 0 n).Pairwise (· < ·) := by
  unfold rangeKs
  rw [List.pairwise_map]
  exact List.pairwise_lt_range.imp fun h => by omega
theorem mem_range_iff {k : Int} {n : Nat} : k ∈ rangeKs 0 n ↔ 0 ≤ k ∧ k < (n : Int) := by
  constructor
  · intro h; have := mem_rangeKs h; omega
  · intro h
    unfold rangeKs
    rw [List.mem_map]
    exact ⟨k.toNat, by rw [List.mem_range]; omega, by omega⟩
theorem filter_head {p : Int → Bool} {n : Nat} {a : Int} {r : List Int} (h : (rangeKs 0 n).filter p = a :: r) : p a = true ∧ a ∈ rangeKs 0 n ∧ ∀ k ∈ rangeKs 0 n, k < a → p k = false := by
  have hm : a ∈ (rangeKs 0 n).filter p := by rw [h]; exact .head _
  refine ⟨(List.mem_filter.mp hm).2, (List.mem_filter.mp hm).1, fun k hk hlt => ?_⟩
  cases q : p k with
  | false => rfl
  | true =>
    have hk' : k ∈ (rangeKs 0 n).filter p := List.mem_filter.mpr ⟨hk, q⟩
    have hs := (range_sorted n).filter p
    rw [h] at hk' hs
    rcases List.mem_cons.mp hk' with e | e
    · omega
    · have := (List.pairwise_cons.mp hs).1 k e; omega
theorem filter_last {p : Int → Bool} {n : Nat} {a : Int} {r : List Int} (h : (rangeKs 0 n).filter p = r ++ [a]) : p a = true ∧ a ∈ rangeKs 0 n ∧ ∀ k ∈ rangeKs 0 n, a < k → p k = false := by
  have hm : a ∈ (rangeKs 0 n).filter p := by rw [h]; simp
  refine ⟨(List.mem_filter.mp hm).2, (List.mem_filter.mp hm).1, fun k hk hlt => ?_⟩
  cases q : p k with
  | false => rfl
  | true =>
    have hk' : k ∈ (rangeKs 0 n).filter p := List.mem_filter.mpr ⟨hk, q⟩
    have hs := (range_sorted n).filter p
    rw [h] at hk' hs
    rcases List.mem_append.mp hk' with e | e
    · have := (List.pairwise_append.mp hs).2.2 k e a (.head _); omega
    · rw [List.mem_singleton.mp e] at hlt; omega

theorem dropWhile_at (p : Nat → Bool) : ∀ (l : List Nat) (a : Nat), (∀ i, i < a → ∃ c, l[i]? = some c ∧ p c = true) → (a = l.length ∨ ∃ c, l[a]? = some c ∧ p c = false) → l.dropWhile p = l.drop a
  | [], a, _, _ => by simp
  | c :: l, 0, _, h2 => by
    rcases h2 with h2 | ⟨d, hd, hp⟩
    · cases h2
    · have : c = d := by simpa using hd
      subst this
      rw [List.dropWhile_cons, hp]; rfl
  | c :: l, a + 1, h1, h2 => by
    obtain ⟨d, hd, hp⟩ := h1 0 (by omega)
    have : c = d := by simpa using hd
    subst this
    rw [List.dropWhile_cons, hp]
    show l.dropWhile p = l.drop a
    refine dropWhile_at p l a (fun i hi => ?_) ?_
    · obtain ⟨e, he, hp'⟩ := h1 (i + 1) (by omega)
      exact ⟨e, by simpa using he, hp'⟩
    · rcases h2 with h2 | ⟨e, he, hp'⟩
      · left; simpa using h2
      · right; exact ⟨e, by simpa using he, hp'⟩
theorem trimL_at {l : List Nat} {a b : Nat} (hb : b < l.length) (hab : a ≤ b) (ha' : ∀ i, i < a → ∃ c, l[i]? = some c ∧ blank c = true) (ha : ∃ c, l[a]? = some c ∧ blank c = false)
    (hb' : ∀ i, b < i → i < l.length → ∃ c, l[i]? = some c ∧ blank c = true) (hbb : ∃ c, l[b]? = some c ∧ blank c = false) : trimL l = (l.drop a).take (b + 1 - a) := by
  unfold trimL
  rw [dropWhile_at blank l a ha' (.inr ha)]
  have e : (l.drop a).reverse.dropWhile blank = (l.drop a).reverse.drop (l.length - (b + 1)) := by
    refine dropWhile_at blank _ _ (fun i hi => ?_) (.inr ?_)
    · obtain ⟨c, hc, hp⟩ := hb' (l.length - 1 - i) (by omega) (by omega)
      refine ⟨c, ?_, hp⟩
      rw [List.getElem?_reverse (by rw [List.length_drop]; omega), List.getElem?_drop, List.length_drop]
      rw [← hc]; congr 1; omega
    · obtain ⟨c, hc, hp⟩ := hbb
      refine ⟨c, ?_, hp⟩
      rw [List.getElem?_reverse (by rw [List.length_drop]; omega), List.getElem?_drop, List.length_drop]
      rw [← hc]; congr 1; omega
  rw [e, List.drop_reverse, List.reverse_reverse, List.length_drop]
  congr 1; omega
theorem trimL_blank {l : List Nat} (h : ∀ c ∈ l, blank c = true) : trimL l = [] := by
  unfold trimL
  have : l.dropWhile blank = [] := by
    induction l with
    | nil => rfl
    | cons a l ih => rw [List.dropWhile_cons, h a (.head _)]; exact ih fun c hc => h c (.tail _ hc)
  rw [this]; rfl
theorem dropWhile_len (p : Nat → Bool) : ∀ l : List Nat, (l.dropWhile p).length ≤ l.length
  | [] => Nat.le_refl _
  | c :: l => by
    rw [List.dropWhile_cons]
    split
    · exact Nat.le_succ_of_le (dropWhile_len p l)
    · exact Nat.le_refl _
theorem trimF_len (x : Str) : (trimF x).length ≤ x.length := by
  show ((trimL x.cps.toList).toArray).size ≤ x.length
  rw [← cps_len, List.size_toArray]
  unfold trimL
  rw [List.length_reverse]
  refine Nat.le_trans (dropWhile_len _ _) ?_
  rw [List.length_reverse]
  exact dropWhile_len _ _
theorem keptP_false {x : Str} {i : Nat} (hi : i < x.length) (h : keptP x (i : Int) = false) : ∃ c, x.cps.toList[i]? = some c ∧ blank c = true := by
  have hlt : i < x.cps.toList.length := by rw [cps_len]; exact hi
  refine ⟨_, List.getElem?_eq_getElem hlt, ?_⟩
  unfold keptP at h
  rw [Int.toNat_natCast, List.getD_eq_getElem?_getD, List.getElem?_eq_getElem hlt] at h
  simpa using h
theorem keptP_true {x : Str} {i : Nat} (hi : i < x.length) (h : keptP x (i : Int) = true) : ∃ c, x.cps.toList[i]? = some c ∧ blank c = false := by
  have hlt : i < x.cps.toList.length := by rw [cps_len]; exact hi
  refine ⟨_, List.getElem?_eq_getElem hlt, ?_⟩
  unfold keptP at h
  rw [Int.toNat_natCast, List.getD_eq_getElem?_getD, List.getElem?_eq_getElem hlt] at h
  simpa using h
theorem trim_none {x : Str} (h : keptI x = []) : Str.ofString "" = trimF x := by
  rw [lit_nil]
  apply str_ext
  unfold trimF
  rw [trimL_blank]
  intro c hc
  obtain ⟨i, hi⟩ := List.mem_iff_getElem?.mp hc
  have hlt : i < x.length := by rw [← cps_len]; exact (List.getElem?_eq_some_iff.mp hi).1
  have hk : keptP x (i : Int) = false := by
    cases q : keptP x (i : Int) with
    | false => rfl
    | true =>
      have : (i : Int) ∈ keptI x := List.mem_filter.mpr ⟨mem_range_iff.mpr ⟨by omega, by omega⟩, q⟩
      rw [h] at this; cases this
  obtain ⟨d, hd, hp⟩ := keptP_false hlt hk
  rw [hi] at hd; cases hd; exact hp
theorem trim_some {x : Str} {G : List Int} {i : Nat} (hG : G = keptI x) (hp : 0 < G.length) (hi : i = G.length - 1) : Txt.slice x (some (G.getD (Int.toNat 0) 0)) (some (G.getD i 0 + 1)) = trimF x := by
  subst hi
  obtain ⟨a, r, hr⟩ : ∃ a r, G = a :: r := by cases G with | nil => cases hp | cons a r => exact ⟨a, r, rfl⟩
  obtain ⟨r', b, hr'⟩ : ∃ r' b, G = r' ++ [b] := ⟨G.dropLast, G.getLast (List.ne_nil_of_length_pos hp), (List.dropLast_concat_getLast _).symm⟩
  have e1 : G.getD (Int.toNat 0) 0 = a := by rw [hr]; rfl
  have e2 : G.getD (G.length - 1) 0 = b := by rw [hr']; simp
  obtain ⟨pa, ma, la⟩ := filter_head (show (rangeKs 0 x.length).filter (keptP x) = a :: r from hG.symm.trans hr)
  obtain ⟨pb, mb, lb⟩ := filter_last (show (rangeKs 0 x.length).filter (keptP x) = r' ++ [b] from hG.symm.trans hr')
  obtain ⟨ha0, han⟩ := mem_range_iff.mp ma
  obtain ⟨hb0, hbn⟩ := mem_range_iff.mp mb
  have hab : a ≤ b := by
    by_cases q : a ≤ b
    · exact q
    · have := la b mb (by omega); rw [pb] at this; cases this
  rw [e1, e2]
  obtain ⟨A, rfl⟩ := Int.eq_ofNat_of_zero_le ha0
  obtain ⟨B, rfl⟩ := Int.eq_ofNat_of_zero_le hb0
  have e3 : ((B : Nat) : Int) + 1 = ((B + 1 : Nat) : Int) := by omega
  rw [e3, slice_nat x (by omega) (by omega)]
  apply str_ext
  unfold trimF
  show _ = trimL x.cps.toList
  rw [trimL_at (a := A) (b := B) (by rw [cps_len]; omega) (by omega) (fun i hi => keptP_false (by omega) (la i (mem_range_iff.mpr ⟨by omega, by omega⟩) (by omega))) (keptP_true (by omega) pa)
    (fun i hi hn => keptP_false (by rw [cps_len] at hn; exact hn) (lb i (mem_range_iff.mpr ⟨by omega, by rw [cps_len] at hn; omega⟩) (by omega))) (keptP_true (by omega) pb)]
/-- where the first equals sign stands -/
structure EqAt (x : Str) (n : Nat) : Prop where
  lt : n < x.length
  is : x.cps.toList[n]? = some 61
  no : ∀ i, i < n → x.cps.toList[i]? ≠ some 61
noncomputable def subL (x : Str) (a b : Nat) : Str := ⟨((x.cps.toList.drop a).take (b - a)).toArray⟩
noncomputable def firstF (x : Str) (n : Nat) : Str := trimF (subL x 0 n)
noncomputable def secondF (x : Str) (n : Nat) : Str := trimF (subL x (n + 1) x.length)
noncomputable def eqP (x : Str) (k : Int) : Bool := decide (x.cps.toList.getD k.toNat 0 = 61)
theorem eq_turn {x : Str} {k : Int} (h : k ∈ rangeKs 0 x.length) :
    ((1 ≤ (Txt.item x k).length ∧ (Txt.item x k).length ≤ 1) ∧ Txt.item x k = Str.ofString "=") ↔ eqP x k = true := by
  rw [lit_eq, item_is h, eqP, decide_eq_true_eq]
  exact ⟨fun q => q.2, fun q => ⟨⟨Nat.le_refl _, Nat.le_refl _⟩, q⟩⟩
theorem eq_first {x : Str} {n : Nat} (h : EqAt x n) : ∃ r, (rangeKs 0 x.length).filter (eqP x) = (n : Int) :: r := by
  have hn : eqP x (n : Int) = true := by
    have := h.is
    simp [eqP, this]
  have hm : (n : Int) ∈ (rangeKs 0 x.length).filter (eqP x) := List.mem_filter.mpr ⟨mem_range_iff.mpr ⟨by omega, by have := h.lt; omega⟩, hn⟩
  cases hG : (rangeKs 0 x.length).filter (eqP x) with
  | nil => rw [hG] at hm; cases hm
  | cons a r =>
    obtain ⟨pa, ma, la⟩ := filter_head hG
    obtain ⟨ha0, han⟩ := mem_range_iff.mp ma
    have h1 : ¬ (n : Int) < a := fun q => by
      have := la n (mem_range_iff.mpr ⟨by omega, by have := h.lt; omega⟩) q
      rw [hn] at this; cases this
    have h2 : ¬ a < (n : Int) := fun q => by
      refine h.no a.toNat (by omega) ?_
      have hlt : a.toNat < x.cps.toList.length := by rw [cps_len]; omega
      unfold eqP at pa
      rw [List.getD_eq_getElem?_getD, List.getElem?_eq_getElem hlt] at pa
      rw [List.getElem?_eq_getElem hlt, ← of_decide_eq_true pa]; rfl
    exact ⟨r, by rw [show a = (n : Int) by omega]⟩
theorem slice_to_nat (x : Str) {b : Nat} (hb : b ≤ x.length) : Txt.slice x none (some (b : Int)) = subL x 0 b := by
  have : Txt.slice x none (some (b : Int)) = sliceText x none (some (b : Int)) := rfl
  rw [this, sliceText_to ⟨by omega, by rw [cps_len]; omega⟩]
  unfold subL
  congr 3
theorem slice_from_nat (x : Str) {a : Nat} (ha : a ≤ x.length) : Txt.slice x (some (a : Int)) none = subL x a x.length := by
  have : Txt.slice x (some (a : Int)) none = sliceText x (some (a : Int)) none := rfl
  rw [this, sliceText_from ⟨by omega, by rw [cps_len]; omega⟩]
  unfold subL
  rw [cps_len]
  congr 3
  omega
end Mine
end
section
open PySem PySem.W PyProof.Rows PySem.Calls
set_option maxRecDepth 100000
theorem Mine.calm_R24 : True := by
  w_top off
  k_with_none
  exact True.intro
namespace Mine
inductive All2 {α β : Type} (R : α → β → Prop) : List α → List β → Prop
  | nil : All2 R [] []
  | cons {a b as bs} : R a b → All2 R as bs → All2 R (a :: as) (b :: bs)
theorem All2.snoc {α β : Type} {R : α → β → Prop} {as : List α} {bs : List β} {a : α} {b : β} (h : All2 R as bs) (r : R a b) : All2 R (as ++ [a]) (bs ++ [b]) := by
  induction h with
  | nil => exact .cons r .nil
  | cons x _ ih => exact .cons x ih
theorem All2.imp {α β : Type} {R S : α → β → Prop} {as : List α} {bs : List β} (h : All2 R as bs) (f : ∀ a b, R a b → S a b) : All2 S as bs := by
  induction h with
  | nil => exact .nil
  | cons x _ ih => exact .cons (f _ _ x) ih
theorem All2.length {α β : Type} {R : α → β → Prop} {as : List α} {bs : List β} (h : All2 R as bs) : as.length = bs.length := by
  induction h with
  | nil => rfl
  | cons _ _ ih => simp [ih]
theorem All2.get {α β : Type} {R : α → β → Prop} {as : List α} {bs : List β} (h : All2 R as bs) : ∀ {i : Nat} {a : α} {b : β}, as[i]? = some a → bs[i]? = some b → R a b := by
  induction h with
  | nil => intro i a b h1; simp at h1
  | cons x _ ih =>
    intro i a b h1 h2
    cases i with
    | zero => simp at h1 h2; subst h1; subst h2; exact x
    | succ i => simp at h1 h2; exact ih h1 h2
noncomputable abbrev Line := Str × Nat
noncomputable def keyF (p : Line) : Str := bareF (secondF p.1 p.2)
noncomputable def valF (p : Line) : Str := firstF p.1 p.2
noncomputable def keysOf (ts : List Line) : List Str := ts.foldl (fun ks p => if keyF p ∈ ks then ks else ks ++ [keyF p]) []
theorem keysOf_snoc (ts : List Line) (p : Line) : keysOf (ts ++ [p]) = if keyF p ∈ keysOf ts then keysOf ts else keysOf ts ++ [keyF p] := by
  unfold keysOf
  rw [List.foldl_append]
  rfl
noncomputable def firstsFor (k : Str) (ts : List Line) : List Str := (ts.filter fun p => decide (keyF p = k)).map valF
theorem firstsFor_snoc (k : Str) (ts : List Line) (p : Line) : firstsFor k (ts ++ [p]) = firstsFor k ts ++ if keyF p = k then [valF p] else [] := by
  by_cases h : keyF p = k <;> simp [firstsFor, List.filter_append, h]
theorem snoc_ind {α : Type} {P : List α → Prop} (h0 : P []) (h1 : ∀ ts p, P ts → P (ts ++ [p])) (ts : List α) : P ts := by
  rw [← ts.reverse_reverse]
  induction ts.reverse with
  | nil => exact h0
  | cons a l ih => rw [List.reverse_cons]; exact h1 _ _ ih
theorem firstsFor_none {k : Str} {ts : List Line} : k ∉ keysOf ts → firstsFor k ts = [] := by
  induction ts using snoc_ind with
  | h0 => intro _; rfl
  | h1 ts p ih =>
    intro h
    rw [keysOf_snoc] at h
    rw [firstsFor_snoc]
    by_cases hk : keyF p ∈ keysOf ts
    · rw [if_pos hk] at h
      rw [ih h, if_neg (fun (e : keyF p = k) => h (by rw [← e]; exact hk))]; rfl
    · rw [if_neg hk] at h
      rw [List.mem_append, not_or] at h
      rw [ih h.1, if_neg (fun (e : keyF p = k) => h.2 (by simp [e]))]; rfl
noncomputable def SV (vs : List Value) (ks : List Str) : Prop := All2 (fun v k => ∃ t, v = .str k t) vs ks
noncomputable def NameList (o : Obj) (ks : List Str) : Prop := ∃ vs n, o = listOf (vs : List Value).toArray n ∧ SV vs (Str.ofString "E" :: ks)
noncomputable abbrev tup5 (a b c d : Str) (ta tb tc td : Tok) : Obj := { cls := .type "tuple", data := .seq #[.str a ta, .str b tb, .str c tc, .str d td, .bool true] }
noncomputable def ToldO (o : Obj) (p : Line) : Prop := ∃ ta tb tc td, o = tup5 (valF p) (secondF p.1 p.2) (keyF p) (bareF p.1) ta tb tc td
noncomputable def Told (ents : List (Addr × Obj)) (vs : List Value) (ts : List Line) : Prop := All2 (fun v p => ∃ a o, v = .ref a ∧ (a, o) ∈ ents ∧ ToldO o p) vs ts
noncomputable def setAt (ents : List (Addr × Obj)) (l : Addr) (o' : Obj) : List (Addr × Obj) := ents.map fun q => if q.1 = l then (l, o') else q
section
variable {ents : List (Addr × Obj)} {l : Addr} {o o' : Obj}
theorem setAt_ne {b : Addr} {x : Obj} (h : (b, x) ∈ ents) (hb : b ≠ l) : (b, x) ∈ setAt ents l o' := List.mem_map.mpr ⟨_, h, by simp [hb]⟩
theorem setAt_self (h : (l, o) ∈ ents) : (l, o') ∈ setAt ents l o' := List.mem_map.mpr ⟨_, h, by simp⟩
theorem setAt_mem {q : Addr × Obj} (h : q ∈ setAt ents l o') : q = (l, o') ∨ (q ∈ ents ∧ q.1 ≠ l) := by
  obtain ⟨x, hx, rfl⟩ := List.mem_map.mp h
  by_cases e : x.1 = l
  · left; simp [e]
  · right; simpa [e] using hx
end
theorem news_setAt {h₀ h h' : Heap} {L l : Addr} {o' : Obj} {ents pre fixed : List (Addr × Obj)} (N : News h₀ L h (pre ++ (ents ++ fixed))) (hs : Heap.SameBut l h h') (ho : h'.get? l = some o') (hl : l ≠ L ∧ h₀.get? l = none) (hp : ∀ q ∈ pre, q.1 ≠ l) (hf : ∀ q ∈ fixed, q.1 ≠ l) :
    News h₀ L h' (pre ++ (setAt ents l o' ++ fixed)) := fun q hq => by
  rcases List.mem_append.mp hq with hq | hq
  · have z := N q (List.mem_append_left _ hq)
    exact ⟨(hs.2 _ (hp q hq)).trans z.1, z.2⟩
  · rcases List.mem_append.mp hq with hq | hq
    · rcases setAt_mem hq with rfl | ⟨hq, hn⟩
      · exact ⟨ho, hl⟩
      · have z := N q (List.mem_append_right _ (List.mem_append_left _ hq))
        exact ⟨(hs.2 _ hn).trans z.1, z.2⟩
    · have z := N q (List.mem_append_right _ (List.mem_append_right _ hq))
      exact ⟨(hs.2 _ (hf q hq)).trans z.1, z.2⟩
structure BookInv (prog : Program) (w : World) (ts : List Line) (tis : Array Value) (kvs : List (Str × Addr)) (es : Array DictEntry) (ents : List (Addr × Obj)) : Prop where
  holds : Holds prog w es kvs
  keys : kvs.map (·.1) = keysOf ts
  told : Told ents tis.toList ts
  lists : ∀ kl ∈ kvs, ∃ o, (kl.2, o) ∈ ents ∧ NameList o (firstsFor kl.1 ts)
  nd : (kvs.map (·.2)).Nodup
  cls : ∀ q ∈ ents, (∃ p, ToldO q.2 p) ∨ ∃ ks, NameList q.2 ks
theorem BookInv.nil {prog : Program} {w : World} : BookInv prog w [] #[] [] #[] [] where
  holds := .nil
  keys := rfl
  told := .nil
  lists := fun _ h => by cases h
  nd := by simp
  cls := fun _ h => by cases h
section
variable {prog : Program} {w : World} {ts : List Line} {tis : Array Value} {kvs : List (Str × Addr)} {es es' : Array DictEntry} {ents : List (Addr × Obj)} {p : Line} {a l : Addr} {oT : Obj}
theorem tuple_not_list {o : Obj} {p : Line} {ks : List Str} (x : ToldO o p) (y : NameList o ks) : False := by
  obtain ⟨_, _, _, _, rfl⟩ := x
  obtain ⟨_, _, e, _⟩ := y
  have := congrArg Obj.cls e
  simp [W.listOf] at this
theorem Told.push (h : Told ents tis.toList ts) (ho : ToldO oT p) : Told ((a, oT) :: ents) (tis.push (.ref a)).toList (ts ++ [p]) := by
  rw [Array.toList_push]
  exact All2.snoc (h.imp fun v q ⟨b, o, e, m, t⟩ => ⟨b, o, e, .tail _ m, t⟩) ⟨a, oT, rfl, .head _, ho⟩
theorem nodup_inj {kvs : List (Str × Addr)} {x y : Str × Addr} (hn : (kvs.map (·.2)).Nodup) (hx : x ∈ kvs) (hy : y ∈ kvs) (e : x.2 = y.2) : x = y := by
  induction kvs with
  | nil => cases hx
  | cons z r ih =>
    rw [List.map_cons, List.nodup_cons] at hn
    rcases List.mem_cons.mp hx with hx1 | hx1
    · rcases List.mem_cons.mp hy with hy1 | hy1
      · rw [hx1, hy1]
      · exact absurd (List.mem_map.mpr ⟨y, hy1, by rw [← e, hx1]⟩ : _ ∈ r.map (·.2)) hn.1
    · rcases List.mem_cons.mp hy with hy1 | hy1
      · exact absurd (List.mem_map.mpr ⟨x, hx1, by rw [e, hy1]⟩ : _ ∈ r.map (·.2)) hn.1
      · exact ih hn.2 hx1 hy1
theorem BookInv.hit {vs : List Value} {n : Nat} {t : Tok} (I : BookInv prog w ts tis kvs es ents) (hT : ToldO oT p) (hk : (keyF p, l) ∈ kvs) (hl : (l, listOf vs.toArray n) ∈ ents) (hal : a ≠ l) (hfun : ∀ q ∈ ents, q.1 = l → q.2 = listOf vs.toArray n)
    (hsv : SV vs (Str.ofString "E" :: firstsFor (keyF p) ts)) :
    BookInv prog w (ts ++ [p]) (tis.push (.ref a)) kvs es (setAt ((a, oT) :: ents) l (listOf (vs.toArray.push (.str (valF p) t)) (n + 1))) where
  holds := I.holds
  keys := by rw [keysOf_snoc, ← I.keys, if_pos (List.mem_map.mpr ⟨_, hk, rfl⟩)]
  told := (I.told.push (a := a) hT).imp fun v q ⟨b, o, e, m, x⟩ => by
    refine ⟨b, o, e, setAt_ne m fun z => ?_, x⟩
    subst z
    rcases List.mem_cons.mp m with m | m
    · exact hal (congrArg Prod.fst m).symm
    · have := hfun _ m rfl
      dsimp only at this
      subst this
      exact tuple_not_list x ⟨vs, n, rfl, hsv⟩
  lists := fun kl hkl => by
    rw [firstsFor_snoc]
    by_cases e : kl.2 = l
    · have : kl = (keyF p, l) := nodup_inj I.nd hkl hk e
      subst this
      refine ⟨_, setAt_self (.tail _ hl), vs ++ [.str (valF p) t], n + 1, by simp, ?_⟩
      rw [if_pos rfl, ← List.cons_append]
      exact All2.snoc hsv ⟨t, rfl⟩
    · obtain ⟨o, m, x⟩ := I.lists kl hkl
      refine ⟨o, setAt_ne (.tail _ m) e, ?_⟩
      have hne : keyF p ≠ kl.1 := fun z => by
        have h1 := I.holds.nd
        have h2 : ∀ {r : List (Str × Addr)}, (r.map (·.1)).Nodup → ∀ x ∈ r, ∀ y ∈ r, x.1 = y.1 → x = y := by
          intro r hr
          induction r with
          | nil => intro x hx; cases hx
          | cons z r ih =>
            rw [List.map_cons, List.nodup_cons] at hr
            intro x hx y hy e
            rcases List.mem_cons.mp hx with hx1 | hx1
            · rcases List.mem_cons.mp hy with hy1 | hy1
              · rw [hx1, hy1]
              · exact absurd (List.mem_map.mpr ⟨y, hy1, by rw [← e, hx1]⟩ : _ ∈ r.map (·.1)) hr.1
            · rcases List.mem_cons.mp hy with hy1 | hy1
              · exact absurd (List.mem_map.mpr ⟨x, hx1, by rw [e, hy1]⟩ : _ ∈ r.map (·.1)) hr.1
              · exact ih hr.2 x hx1 y hy1 e
        exact e (congrArg Prod.snd (h2 h1 _ hkl _ hk z.symm))
      rw [if_neg hne, List.append_nil]
      exact x
  nd := I.nd
  cls := fun q hq => by
    rcases setAt_mem hq with rfl | ⟨hq, _⟩
    · right
      refine ⟨firstsFor (keyF p) ts ++ [valF p], vs ++ [.str (valF p) t], n + 1, by simp, ?_⟩
      rw [← List.cons_append]
      exact All2.snoc hsv ⟨t, rfl⟩
    · rcases List.mem_cons.mp hq with rfl | hq
      · exact .inl ⟨p, hT⟩
      · exact I.cls q hq
theorem BookInv.miss {t t' : Tok} {n : Nat} (I : BookInv prog w ts tis kvs es ents) (hT : ToldO oT p) (hk : keyF p ∉ kvs.map (·.1)) (hH : Holds prog w es' (kvs ++ [(keyF p, l)])) (hal : a ≠ l) (hfresh : ∀ q ∈ ents, q.1 ≠ l) :
    BookInv prog w (ts ++ [p]) (tis.push (.ref a)) (kvs ++ [(keyF p, l)]) es' ((l, listOf #[.str (Str.ofString "E") t, .str (valF p) t'] n) :: (a, oT) :: ents) where
  holds := hH
  keys := by
    rw [keysOf_snoc, ← I.keys, if_neg hk, List.map_append]; rfl
  told := (I.told.push (a := a) hT).imp fun v q ⟨b, o, e, m, x⟩ => ⟨b, o, e, .tail _ m, x⟩
  lists := fun kl hkl => by
    rw [firstsFor_snoc]
    rcases List.mem_append.mp hkl with h | h
    · obtain ⟨o, m, x⟩ := I.lists kl h
      refine ⟨o, .tail _ (.tail _ m), ?_⟩
      rw [if_neg fun z => hk (List.mem_map.mpr ⟨kl, h, z.symm⟩), List.append_nil]
      exact x
    · rw [List.mem_singleton] at h
      subst h
      refine ⟨_, .head _, [.str (Str.ofString "E") t, .str (valF p) t'], n, rfl, ?_⟩
      rw [firstsFor_none (I.keys ▸ hk), if_pos rfl]
      exact .cons ⟨_, rfl⟩ (.cons ⟨_, rfl⟩ .nil)
  nd := by
    rw [List.map_append, List.nodup_append]
    refine ⟨I.nd, by simp, ?_⟩
    intro x hx y hy
    simp only [List.map_cons, List.map_nil, List.mem_singleton] at hy
    subst hy
    obtain ⟨kl, hkl, rfl⟩ := List.mem_map.mp hx
    obtain ⟨o, m, _⟩ := I.lists kl hkl
    exact hfresh _ m
  cls := fun q hq => by
    rcases List.mem_cons.mp hq with rfl | hq
    · exact .inr ⟨[valF p], [.str (Str.ofString "E") t, .str (valF p) t'], n, rfl, .cons ⟨_, rfl⟩ (.cons ⟨_, rfl⟩ .nil)⟩
    · rcases List.mem_cons.mp hq with rfl | hq
      · exact .inl ⟨p, hT⟩
      · exact I.cls q hq
end
end Mine
end
section
open PySem PySem.W PyProof.Rows PySem.Calls
set_option maxRecDepth 100000
theorem Mine.calm_R21 : True := by
  w_top off
  k_with_none
  exact True.intro
namespace Mine
section
variable {prog : Program} {w : World} {A : Around} {E : Value → Shared → Prop} {s : Shared} {env : Env} {h₀ : Heap} {x : Str} {body : List Stmt} {Q : Flow → Shared → Prop}
/-- a turn that ends as every turn ends: the invariant of the next place -/
noncomputable def TurnJ (h₀ : Heap) (L : Addr) (own : Addr × Obj) (Jn : (Str → Option Value) → List (Addr × Obj) → Prop) (s₁ : Shared) (Q : Flow → Shared → Prop) (f : Flow) (s₂ : Shared) : Prop :=
  match f with
  | .ret v => Q (.ret v) s₂
  | .brk => Q .next s₂
  | _ => ∃ h' tk m₂ news₂, s₂ = { s₁ with heap := h', toks := tk } ∧ Fr h₀ L h' m₂ ∧ News h₀ L h' (own :: news₂) ∧ (∀ p ∈ news₂, p.1 ≠ own.1) ∧ Jn m₂ news₂
theorem iter_listJ {o : Obj} {l : Addr} {vs : Array Value} {m₀ : Str → Option Value} {news : List (Addr × Obj)} (J : Nat → (Str → Option Value) → List (Addr × Obj) → Prop)
    (hh : A.handled = none) (ho : s.heap.get? l = some o) (hc : s.heap.IsList l vs) (F : Fr h₀ env.locals s.heap m₀) (N : News h₀ env.locals s.heap news)
    (hJk : ∀ i m n, J i m n → h₀.get? l = some o ∨ (l, o) ∈ n) (hJ : J 0 m₀ news)
    (turn : ∀ I i (hi : i < vs.size) m₁ news₁ h tk oI, oI.cls = .type "list_iterator" → (∀ p ∈ news₁, p.1 ≠ I) → J i m₁ news₁ → Fr h₀ env.locals h (fun y => if y = x then some vs[i] else m₁ y) → News h₀ env.locals h ((I, oI) :: news₁) →
      wpAny (model prog w) A (execs body env) (TurnJ h₀ env.locals (I, oI) (J (i + 1)) { s with heap := h, toks := tk } Q) E { s with heap := h, toks := tk })
    (done : ∀ m' news' h' tk, Fr h₀ env.locals h' m' → News h₀ env.locals h' news' → J vs.size m' news' → Q .next { s with heap := h', toks := tk }) :
    wpAny (model prog w) A (pyIter (.ref l)) (fun it s₂ => LoopAtV prog w A h₀ env x body Q E it s₂) E s := by
  have hlt : l < s.heap.objs.size := Heap.lt_size ho
  have hne : l ≠ s.heap.objs.size := Nat.ne_of_lt hlt
  have hlL : l ≠ env.locals := by
    rcases hJk _ _ _ hJ with q | q
    · exact Nat.ne_of_lt (Nat.lt_of_lt_of_le (Heap.lt_size q) F.above)
    · exact (N _ q).2.1
  refine wpAny_pyIter_list hc ?_
  have W := Walks.list (prog := prog) (w := w) hh s.heap.objs.size l hne vs
  refine ⟨_, _, _, _, _, _, m₀, news, J, rfl, W, ?_, ?_, ?_, ⟨⟨_, Heap.get?_push_size _ rfl, rfl, rfl⟩, hc.push _⟩, F.push _, (fun p hp => ⟨Heap.get?_push_of_some _ (N p hp).1, (N p hp).2⟩), hJ, ?_, ?_⟩
  · intro hm
    rcases List.mem_cons.mp hm with e | hm
    · exact absurd F.ns.lt (e ▸ Nat.lt_irrefl _)
    · exact hlL (List.mem_singleton.mp hm).symm
  · intro b hb
    rw [List.mem_singleton.mp hb]
    exact next_is_new F
  · intro p hp hI
    exact absurd (Heap.lt_size (N p hp).1) ((List.mem_singleton.mp hI) ▸ Nat.lt_irrefl _)
  · rintro i v m₁ news₁ s₁ own ⟨hh', tk', rfl⟩ hin hP hJ₁ hoff hsub hget hall hst F₁ N₁
    obtain ⟨oI, hoI, cI, _⟩ := hst.1
    have hv : v = vs[i] := by
      rw [Array.getElem?_eq_getElem hin] at hP
      exact (Option.some.inj hP).symm
    subst hv
    have hI₀ : h₀.get? s.heap.objs.size = none := next_is_new F
    have N₂ : News h₀ env.locals hh' ((s.heap.objs.size, oI) :: news₁) := fun p hp => by
      rcases List.mem_cons.mp hp with rfl | hp
      · exact N₁ _ (List.mem_append_left _ (hall _ (.head _) hI₀ _ hoI))
      · exact N₁ _ (List.mem_append_right _ hp)
    have hown : ∀ p ∈ own, p = (s.heap.objs.size, oI) ∨ (p = (l, o) ∧ h₀.get? l = none) := fun p hp => by
      have a := N₁ p (List.mem_append_left _ hp)
      rcases List.mem_cons.mp (hsub p hp) with e | e
      · left
        have c := a.1
        rw [e] at c
        exact Prod.ext e (Option.some.inj (c.symm.trans hoI))
      · right
        have e : p.1 = l := List.mem_singleton.mp e
        have z : h₀.get? l = none := e ▸ a.2.2
        refine ⟨?_, z⟩
        rcases hJk _ _ _ hJ₁ with q | q
        · rw [z] at q; cases q
        · have b := (N₂ _ (List.mem_cons_of_mem _ q)).1
          have c := a.1
          rw [e] at c
          exact Prod.ext e (Option.some.inj (c.symm.trans b))
    refine wpAny_mono (turn _ i hin m₁ news₁ hh' tk' oI cI (fun p hp e => hoff p hp (List.mem_singleton.mpr e)) hJ₁ F₁ N₂) (fun f s₂ p => ?_) fun _ _ e => e
    have fin : (∃ h' tk m₂ news₂, s₂ = { ({ s with heap := hh', toks := tk' } : Shared) with heap := h', toks := tk } ∧ Fr h₀ env.locals h' m₂ ∧ News h₀ env.locals h' ((s.heap.objs.size, oI) :: news₂) ∧ (∀ p ∈ news₂, p.1 ≠ s.heap.objs.size) ∧ J (i + 1) m₂ news₂) →
        LoopStepU h₀ env.locals [s.heap.objs.size] own (J (i + 1)) { s with heap := hh', toks := tk' } .next s₂ := by
      rintro ⟨h', tk, m', news', e, F', N', hcl, hJ'⟩
      refine ⟨rfl, h', tk, m', news', e, F', fun p hp => ?_, fun p hp hb => ?_, hJ'⟩
      · rcases List.mem_append.mp hp with hp | hp
        · rcases hown p hp with rfl | ⟨rfl, z⟩
          · exact N' _ (.head _)
          · rcases hJk _ _ _ hJ' with q | q
            · rw [z] at q; cases q
            · exact N' _ (.tail _ q)
        · exact N' _ (.tail _ hp)
      · exact hcl p hp (List.mem_singleton.mp hb)
    cases f with
    | ret v => exact .ret p
    | brk => exact .brk p
    | next => exact .next (fin p)
    | cont => exact .cont (fin p)
  · rintro h' tk m' news' F' N' _ hJ'
    exact done m' news' h' tk F' N' hJ'
end
end Mine
end
section
open PySem PySem.W PyProof.Rows PySem.Calls
set_option maxRecDepth 100000
theorem Mine.calm_R3 : True := by
  w_top off
  k_with_none
  exact True.intro
namespace Mine
section
variable {prog : Program} {w : World} {A : Around} {E : Value → Shared → Prop} {s : Shared} {K : Frag} {h₀ : Heap} {L : Addr} {m : Str → Option Value} {name : Str} {v : Value}
theorem attr_type {T : String} {expr : Bool} {Q : Value → Shared → Prop} (F : Fr h₀ L s.heap m) (X₀ : K.In h₀) (ht : kitMeta T = true) (hs : Manifest.isStub T = false)
    (e : findCls K (.type T) (.type "type") name = some (.val v)) (hh : handedIn v = true) (h : Q v { s with toks := s.toks + 1 }) : wpAny (model prog w) A (getAttr (.type T) name expr) Q E s := by
  have X := X₀.keeps F.keep
  have hstub : opaqueClassAbove (.type T) = pure none := by unfold opaqueClassAbove; dsimp only; rw [hs]; rfl
  have L0 : Looks (model prog w) s.heap (typeOf (.type T)) (.type "type") := Looks.of_pure (kitMeta_of ht)
  have LO : Looks (model prog w) s.heap (opaqueClassAbove (.type T)) none := Looks.of_pure hstub
  have hg : findIn K (.type "type") "__getattribute__" = some (some (.builtin "type.__getattribute__")) := type_tga
  exact cls_open X LO L0 hg (looks_hook X (r := none) (by rfl)) (by show subIn K _ _ = _; rfl) e (wpAny_pure (by show wpAny _ _ (handedOut v) _ _ _; rw [handedOut_of hh]; exact wpAny_pure h))
end
end Mine
end
section
open PySem PySem.W PyProof.Rows PySem.Calls
set_option maxRecDepth 100000
theorem Mine.calm_R4 : True := by
  w_top off
  k_with_none
  exact True.intro
namespace Mine
theorem slot_map_next : Slot "map" "__next__" "map.__next__" :=
  .of (owner := "map") (n := "__next__") (by rw [typeLookup_type, builtinLookup_eq_fast]; kernel_rfl) (by decide +kernel) (by decide +kernel) (by decide +kernel)
    (by first | exact .inl (by decide +kernel) | exact .inr (by decide +kernel)) (by rw [isSubtype_type]; kernel_rfl)
theorem entry_map_next : entryFor table "map.__next__" = some Builtin.«map.__next__» := entryFor_of_tree (by kernel_rfl)
theorem args_map_next (a : Value) : argsOk "map.__next__" ⟨[a], []⟩ := by unfold argsOk; kernel_rfl
theorem slot_map_iter : Slot "map" "__iter__" "map.__iter__" :=
  .of (owner := "map") (n := "__iter__") (by rw [typeLookup_type, builtinLookup_eq_fast]; kernel_rfl) (by decide +kernel) (by decide +kernel) (by decide +kernel)
    (by first | exact .inl (by decide +kernel) | exact .inr (by decide +kernel)) (by rw [isSubtype_type]; kernel_rfl)
theorem entry_map_iter : entryFor table "map.__iter__" = some Builtin.«dict_keyiterator.__iter__» :=
  entryFor_alias (id' := "dict_keyiterator.__iter__") (by kernel_rfl) rfl (by decide +kernel) (by kernel_rfl)
theorem args_map_iter (a : Value) : argsOk "map.__iter__" ⟨[a], []⟩ := by unfold argsOk; kernel_rfl
theorem map_no_len : typeLookup (.type "map") "__len__" = pure none := by rw [typeLookup_type, builtinLookup_eq_fast]; kernel_rfl
theorem map_no_hint : typeLookup (.type "map") "__length_hint__" = pure none := by rw [typeLookup_type, builtinLookup_eq_fast]; kernel_rfl

noncomputable abbrev IsMap (h : Heap) (M tp : Addr) : Prop := h.get? M = some { cls := .type "map", dict := none, data := .fields #[.ref tp, .builtin "str.strip"], slots := #[] }
noncomputable abbrev IsOne (h : Heap) (tp it : Addr) : Prop := h.get? tp = some { cls := .type "tuple", dict := none, data := .seq #[.ref it], slots := #[] }
section
variable {prog : Program} {w : World} {A : Around} {E : Value → Shared → Prop} {s : Shared}
theorem map_next_item {M tp it l : Addr} {i : Nat} {items : Array Value} {a : Str} {ta : Tok} {Q : Value → Shared → Prop}
    (hM : IsMap s.heap M tp) (hT : IsOne s.heap tp it) (hit : s.heap.IsListIter it l i) (hl : s.heap.IsList l items) (hx : items[i]? = some (.str a ta)) (hMi : M ≠ it) (hsz : a.length ≤ sizeLine)
    (hQ : ∀ t tk h', h'.IsListIter it l (i + 1) → Heap.SameBut it s.heap h' → Q (.str (Txt.strip a) t) { s with heap := h', toks := tk }) :
    wpAny (model prog w) A (Builtin.«map.__next__» ⟨[.ref M], []⟩) (fun fin s' => ∃ v, fin = .done (.ret v) ∧ Q v s') E s := by
  show wpAny _ _ (field (.ref M) 0 >>= _) _ _ _
  refine wpAny_bind (wpAny_field hM rfl (x := .ref tp) rfl ?_)
  show wpAny _ _ (seqItems? (.ref tp) >>= _) _ _ _
  refine wpAny_bind (wpAny_seqItems hT rfl ?_)
  dsimp only
  refine wpAny_bind ?_
  have e1 : ∀ f : Value → Array Value → Sem (ForInStep (Array Value)), (forIn #[Value.ref it] (#[] : Array Value) f : Sem (Array Value)) = (f (.ref it) #[] >>= fun r => match r with | .done b => pure b | .yield b => pure b) := fun f => by
    simp only [List.forIn_toArray, List.forIn_cons, List.forIn_nil]
    refine congrArg (f (.ref it) #[] >>= ·) (funext fun r => ?_)
    cases r <;> rfl
  rw [e1]
  refine wpAny_bind (wpAny_bind (wpAny_holding (wpAny_nextOf_list_item hit hl hx fun h₁ hit₁ hs₁ => wpAny_pure ?_)))
  refine wpAny_pure ?_
  have hM₁ : IsMap h₁ M tp := (hs₁.2 M hMi).trans hM
  refine wpAny_bind (wpAny_field hM₁ rfl (x := .builtin "str.strip") rfl ?_)
  refine wpAny_bind (wpAny_holding (SC.strip (fun t k => ?_) hsz))
  exact wpAny_bind (wpAny_letGo (wpAny_pure ⟨_, rfl, hQ t k h₁ hit₁ hs₁⟩))

theorem map_pyNext_item {M tp it l : Addr} {i : Nat} {items : Array Value} {a : Str} {ta : Tok} {Q : Option Value → Shared → Prop}
    (hM : IsMap s.heap M tp) (hT : IsOne s.heap tp it) (hit : s.heap.IsListIter it l i) (hl : s.heap.IsList l items) (hx : items[i]? = some (.str a ta)) (hMi : M ≠ it) (hsz : a.length ≤ sizeLine)
    (hQ : ∀ t tk h', h'.IsListIter it l (i + 1) → Heap.SameBut it s.heap h' → Q (some (.str (Txt.strip a) t)) { s with heap := h', toks := tk }) :
    wpAny (model prog w) A (pyNext (.ref M)) Q E s := by
  have hTy : s.TypeIs (.ref M) "map" := ⟨_, hM, rfl⟩
  unfold pyNext
  exact wpAny_bind (wpAny_attempt (wpAny_callSpecial?_slot (name := Str.ofString "__next__") hTy slot_map_next
    (wpAny_call_entry slot_map_next hTy entry_map_next
      (map_next_item hM hT hit hl hx hMi hsz fun t tk h' a b => wpAny_pure (hQ t tk h' a b)) (args_map_next _))))
theorem map_pyNext_end {M tp it l : Addr} {i : Nat} {items : Array Value} {Q : Option Value → Shared → Prop} (hh : A.handled = none)
    (hM : IsMap s.heap M tp) (hT : IsOne s.heap tp it) (hit : s.heap.IsListIter it l i) (hl : s.heap.IsList l items) (hx : items[i]? = none)
    (hQ : ∀ h', Heap.ExtBut it s.heap h' → Q none { s with heap := h' }) : wpAny (model prog w) A (pyNext (.ref M)) Q E s := by
  have hTy : s.TypeIs (.ref M) "map" := ⟨_, hM, rfl⟩
  unfold pyNext
  refine wpAny_bind (wpAny_attempt (wpAny_callSpecial?_slot (name := Str.ofString "__next__") hTy slot_map_next
    (wpAny_call_entry slot_map_next hTy entry_map_next ?_ (args_map_next _))))
  show wpAny _ _ (field (.ref M) 0 >>= _) _ _ _
  refine wpAny_bind (wpAny_field hM rfl (x := .ref tp) rfl ?_)
  show wpAny _ _ (seqItems? (.ref tp) >>= _) _ _ _
  refine wpAny_bind (wpAny_seqItems hT rfl ?_)
  dsimp only
  refine wpAny_bind ?_
  have e1 : ∀ f : Value → Array Value → Sem (ForInStep (Array Value)), (forIn #[Value.ref it] (#[] : Array Value) f : Sem (Array Value)) = (f (.ref it) #[] >>= fun r => match r with | .done b => pure b | .yield b => pure b) := fun f => by
    simp only [List.forIn_toArray, List.forIn_cons, List.forIn_nil]
    refine congrArg (f (.ref it) #[] >>= ·) (funext fun r => ?_)
    cases r <;> rfl
  rw [e1]
  refine wpAny_bind (wpAny_bind (wpAny_holding (wpAny_nextOf_list_end hh hit hl hx fun h₁ e he₁ hx₁ => ?_)))
  obtain ⟨o, ho, hc⟩ := hx₁
  refine wpAny_bind (wpAny_isInstance (T := "StopIteration") (b := true) ⟨o, ho, hc⟩ isSubtype_stop ?_)
  exact wpAny_pure (hQ _ he₁)
theorem map_pyIter {M tp : Addr} {Q : Value → Shared → Prop} (hM : IsMap s.heap M tp) (h : Q (.ref M) s) : wpAny (model prog w) A (pyIter (.ref M)) Q E s := by
  have hTy : s.TypeIs (.ref M) "map" := ⟨_, hM, rfl⟩
  refine wpAny_pyIter_slot hTy slot_map_iter (wpAny_call_entry slot_map_iter hTy entry_map_iter ?_ (args_map_iter _))
  show wpAny _ _ (ret (.ref M)) _ _ s
  exact wpAny_pure ⟨_, rfl, "map", _, hTy, slot_map_next.lookup, h⟩
end

/-- the signs of a list of texts, each without the blanks at its ends -/
noncomputable def StripAt (items : Array Value) (i : Nat) (v : Value) : Prop := ∃ a ta t, items[i]? = some (.str a ta) ∧ v = .str (Txt.strip a) t
theorem walks_map {prog : Program} {w : World} {A : Around} (hh : A.handled = none) (M tp it l : Addr) (h1 : M ≠ it) (h2 : tp ≠ it) (h3 : l ≠ it) (items : Array Value) (hs : ∀ (i : Nat) v, items[i]? = some v → ∃ a ta, v = .str a ta ∧ a.length ≤ sizeLine) :
    Walks prog w A M [M, tp, it, l] [it] items.size (StripAt items) (fun i h => IsMap h M tp ∧ IsOne h tp it ∧ h.IsListIter it l i ∧ h.IsList l items) where
  sub := fun b hb => by simp at hb; simp [hb]
  frame := fun _ _ _ st hk => ⟨hk M (by simp) _ st.1, hk tp (by simp) _ st.2.1, st.2.2.1.at fun o e => hk it (by simp) o e, st.2.2.2.at fun o e => hk l (by simp) o e⟩
  item := fun i s Q E hi st hQ => by
    obtain ⟨a, ta, ha, hz⟩ := hs i items[i] (by simp [hi])
    have hx : items[i]? = some (.str a ta) := by rw [← ha]; simp [hi]
    refine map_pyNext_item st.1 st.2.1 st.2.2.1 st.2.2.2 hx h1 hz fun t tk h' hit' hs' => ?_
    exact hQ _ h' tk ⟨a, ta, t, hx, rfl⟩ ⟨(hs'.2 M h1).trans st.1, (hs'.2 tp h2).trans st.2.1, hit', st.2.2.2.extBut hs'.extBut h3⟩ fun b o hb e => hs'.extBut b o (fun h => hb (by simp [h])) e
  done := fun s Q E st hQ => map_pyNext_end hh st.1 st.2.1 st.2.2.1 st.2.2.2 (by simp) fun h' he' => hQ h' s.toks fun b o hb e => he' b o (fun h => hb (by simp [h])) e
  self := fun _ _ _ _ st hQ => map_pyIter st.1 hQ

section
variable {prog : Program} {w : World} {A : Around} {E : Value → Shared → Prop} {s : Shared}
theorem map_hint {M : Addr} {Q : Bool → Shared → Prop} (hT : s.TypeIs (.ref M) "map") (h : Q true s) : wpAny (model prog w) A (Builtin.List.listLengthHint (.ref M)) Q E s := by
  unfold Builtin.List.listLengthHint
  refine wpAny_bind (wpAny_specialOf hT map_no_len ?_)
  show wpAny _ _ (specialOf (Value.ref M) (Str.ofString "__length_hint__") >>= _) _ _ _
  exact wpAny_bind (wpAny_specialOf hT map_no_hint (wpAny_pure h))
noncomputable abbrev IsAcc (h : Heap) (S : Addr) (acc : Array Value) (c : Nat) : Prop := h.get? S = some { cls := .type "list", dict := none, data := .seq acc c, slots := #[] }
theorem touch_empty {S : Addr} {c : Nat} {Q : Unit → Shared → Prop} (hS : IsAcc s.heap S #[] c) (h : ∀ h' c', IsAcc h' S #[] c' → (∀ b o, b ≠ S → s.heap.get? b = some o → h'.get? b = some o) → Q () { s with heap := h' }) :
    wpAny (model prog w) A (Builtin.List.listTouch (.ref S)) Q E s := by
  show wpAny _ _ (updateSeq S (·.push .none) >>= fun _ => updateSeq S (·.pop)) _ _ _
  have q1 := Heap.get?_update_self (Obj.mapSeq (·.push Value.none)) hS rfl
  refine wpAny_bind (wpAny_updateSeq hS rfl (wpAny_updateSeq q1 rfl (h _ _ (Heap.get?_update_self (Obj.mapSeq (·.pop)) q1 rfl) fun b o hb e => ?_)))
  rw [Heap.get?_update_other _ _ (Ne.symm hb), Heap.get?_update_other _ _ (Ne.symm hb)]
  exact e
/-- all that a map over a list of texts gives, as a list -/
theorem collect_map {M tp it l : Addr} {items : Array Value} {Q : List Value → Shared → Prop} (hh : A.handled = none) (h1 : M ≠ it) (h2 : tp ≠ it) (h3 : l ≠ it)
    (hs : ∀ (i : Nat) v, items[i]? = some v → ∃ a ta, v = .str a ta ∧ a.length ≤ sizeLine) (hz : items.size ≤ sizeLine)
    (hM : IsMap s.heap M tp) (hT : IsOne s.heap tp it) (hit : s.heap.IsListIter it l 0) (hl : s.heap.IsList l items)
    (hQ : ∀ h' tk acc, (∀ b o, b ≠ it → s.heap.get? b = some o → h'.get? b = some o) → ItemsOf (StripAt items) acc items.size → Q acc.toList { s with heap := h', toks := tk }) :
    wpAny (model prog w) A (collect (.ref M)) Q E s := by
  have W := (walks_map (prog := prog) (w := w) (A := A.in1) hh M tp it l h1 h2 h3 items hs).toS
  have old : ∀ b o, s.heap.get? b = some o → b ≠ s.heap.objs.size := fun b o e => Nat.ne_of_lt (Heap.lt_size e)
  obtain ⟨oi, hoi, _⟩ := id hit
  obtain ⟨ol, hol, _⟩ := id hl
  unfold collect
  refine wpAny_bind (wpAny_runValue (codeAny_builtin F.entry_proto_collect ?_))
  rw [Around.under_plainId F.plain_proto_collect _]
  show wpAny _ A.in1 (newList [] >>= fun y => again (.builtin "list.__iadd__" ⟨[y, .ref M], []⟩)) _ _ s
  refine wpAny_bind (wpAny_newObj_type (wpAny_pure ⟨plainId_quiet F.plain_list_iadd _, codeAny_builtin F.entry_list_iadd ?_⟩))
  rw [Around.under_plainId F.plain_list_iadd _]
  generalize hS : s.heap.objs.size = S
  generalize hp : s.heap.push { cls := .type "list", dict := none, data := .seq ([] : List Value).toArray } = H
  have up : ∀ b o, s.heap.get? b = some o → H.get? b = some o := fun b o e => hp ▸ Heap.get?_push_of_some _ e
  have hacc : IsAcc H S #[] 0 := by rw [← hp, ← hS]; exact Heap.get?_push_size _ rfl
  have hTy : ({ s with heap := H } : Shared).TypeIs (.ref M) "map" := ⟨_, up _ _ hM, rfl⟩
  have neM : S ≠ M := fun e => old _ _ hM (e.symm.trans hS.symm)
  show wpAny _ A.in1 (Builtin.List.listExtendWith (.ref S) (.ref M) (.ref S)) _ _ { s with heap := H }
  unfold Builtin.List.listExtendWith
  refine wpAny_bind (wpAny_typeOf hTy ?_)
  rw [if_neg (by
    have : Builtin.List.listSameRef (.ref S) (.ref M) = false := by simp [Builtin.List.listSameRef, neM]
    rw [this]; decide)]
  refine wpAny_bind (map_pyIter (up _ _ hM) (wpAny_bind (wpAny_holding (map_hint hTy ?_))))
  show wpAny _ A.in1 (rule "list.extend.makes-room" >>= fun _ => Builtin.List.listTouch (.ref S) >>= fun _ => again (.builtin "list.extend.loop" ⟨[.ref S, .ref M, .ref S], []⟩)) _ _ _
  refine wpAny_bind (wpAny_rule (wpAny_bind (touch_empty hacc fun h' c' hS' hk' => wpAny_pure ⟨plainId_quiet F.plain_extend_loop _, ?_⟩)))
  have up' : ∀ b o, s.heap.get? b = some o → h'.get? b = some o := fun b o e => hk' b o (fun q => old b o e (q.trans hS.symm)) (up b o e)
  have hSf : S ∉ [M, tp, it, l] := fun q => by
    simp only [List.mem_cons, List.not_mem_nil, or_false] at q
    rcases q with q | q | q | q
    · exact neM q
    · exact old _ _ hT (q.symm.trans hS.symm)
    · exact old _ _ hoi (q.symm.trans hS.symm)
    · exact old _ _ hol (q.symm.trans hS.symm)
  refine codeAny_extend_loopS W hz S hSf _ _ 0 _ #[] c' rfl (Nat.zero_le _) ⟨up' _ _ hM, up' _ _ hT, hit.at fun o e => up' _ _ e, hl.at fun o e => up' _ _ e⟩ hS' (ItemsOf.nil _) fun s' acc c'' mv hS'' hI => ?_
  show wpAny _ A (load S >>= _) _ _ s'
  refine wpAny_bind (wpAny_load hS'' (wpAny_pure ?_))
  obtain ⟨hh', g', d', tk', os'⟩ := s'
  obtain ⟨m1, m2, m3, m4, m5⟩ := mv
  cases m2; cases m3; cases m4
  refine hQ hh' tk' acc (fun b o hb e => m1 b o (fun q => ?_) (up' b o e)) hI
  rcases List.mem_cons.mp q with q | q
  · exact old b o e (q.trans hS.symm)
  · exact hb (List.mem_singleton.mp q)
theorem star_map {M tp : Addr} {Q : Bool → Shared → Prop} (hM : IsMap s.heap M tp) (h : Q false s) : wpAny (model prog w) A (notIterableAtAll (.ref M)) Q E s := by
  have hTy : s.TypeIs (.ref M) "map" := ⟨_, hM, rfl⟩
  unfold notIterableAtAll
  refine wpAny_bind (wpAny_specialOf hTy slot_map_iter.lookup ?_)
  exact wpAny_pure h
end
end Mine
end
section
open PySem PySem.W PySem.W.X PyProof.Rows
set_option maxRecDepth 100000
set_option maxHeartbeats 8000000
theorem Mine.calm_X1 : True := by
  w_top off
  k_with_none
  exact True.intro
namespace Mine
theorem mem_keep {h₀ h : Heap} {news : List (Addr × Obj)} (D : Mem h₀ h [] news) : ∀ b o, h₀.get? b = some o → h.get? b = some o :=
  fun b o e => D.keep b o e (by rw [show away [] b = true from rfl, Bool.or_true])
theorem wpAny_lower {α : Type} {M : Model} {A : Around} {t : Sem α} {Q : α → Shared → Prop} {E : Value → Shared → Prop} {s : Shared} {D U : Nat} (h : wpAny M ⟨none, D, A.frames, A.guards, U⟩ t Q E s) (hh : A.handled = none) (hd : A.depth ≤ D) (hu : A.units ≤ U) : wpAny M A t Q E s :=
  fun Γ p hB => h Γ p ⟨hB.1.trans hh, Nat.le_trans hB.2.1 hd, hB.2.2.1, hB.2.2.2.1, Nat.le_trans hB.2.2.2.2 hu⟩
structure Then (P : Prop) : Prop where
  go : P
section
local macro_rules | `(tactic| x_close) => `(tactic| (rename Mem _ _ _ _ => D9; rename Then _ => hQ9; exact hQ9.go _ _ _ _ (mem_keep D9) (D9.nw _ (.head _)).1 (D9.nw _ (.tail _ (.head _))).1 ⟨_, (D9.nw _ (.tail _ (.tail _ (.head _)))).1, rfl, rfl⟩ (D9.nw _ (.tail _ (.tail _ (.head _)))).2 (D9.ne 0 2 _ _ _ _ rfl rfl rfl) (D9.ne 1 2 _ _ _ _ rfl rfl rfl)))
theorem map_make {w : World} {gd : Option (List Code)} {fr : Option (List Env)} {h : Heap} {g : Array GenState} {d : Drawn} {t : Nat} {os : OsState} {l : Addr} {a b : Str} {ta tb : Tok} {Q E : Value → Shared → Prop} :
    (hd.heap_1 w.params).In h → h.get? l = some ⟨.type "list", none, .seq #[.str a ta, .str b tb] 0, #[]⟩ →
    Then (∀ M tp it h', (∀ b o, h.get? b = some o → h'.get? b = some o) → IsMap h' M tp → IsOne h' tp it → h'.IsListIter it l 0 → h.get? it = none → M ≠ it → tp ≠ it → Q (.ref M) ⟨h', g, d, t, os⟩) →
    wpAny (model PySem.Challenge.rw_in0008_01.row.prog w) ⟨none, 500, fr, gd, 600⟩ (call (.type "map") [.builtin "str.strip", .ref l]) Q E ⟨h, g, d, t, os⟩ := by
  k_fill
  intro X hl hQ
  x_run
end
section
local macro_rules | `(tactic| x_close) => `(tactic| (rename Mem _ _ _ _ => D9; rename Then _ => hQ9; exact hQ9.go _ _ _ (mem_keep D9) (D9.nw _ (.head _)).2 (D9.nw _ (.head _)).1 (D9.nw _ (.tail _ (.head _))).2 (D9.nw _ (.tail _ (.head _))).1))
theorem tnew_make {w : World} {gd : Option (List Code)} {fr : Option (List Env)} {h : Heap} {g : Array GenState} {d : Drawn} {t : Nat} {os : OsState} {l : Addr} {a b : Str} {ta tb : Tok} {Q E : Value → Shared → Prop} :
    (hd.heap_1 w.params).In h → h.get? l = some ⟨.type "tuple", none, .seq #[.str a ta, .str b tb] 0, #[]⟩ →
    Then (∀ T dx h', (∀ b o, h.get? b = some o → h'.get? b = some o) → h.get? T = none → h'.get? T = some ⟨.ref 203, some dx, .seq #[.str a ta, .str b tb] 0, #[]⟩ → h.get? dx = none → h'.get? dx = some emptyDict → Q (.ref T) ⟨h', g, d, t, os⟩) →
    wpAny (model PySem.Challenge.rw_in0008_01.row.prog w) ⟨none, 500, fr, gd, 600⟩ (call (.builtin "tuple.__new__") [.ref 203, .ref l]) Q E ⟨h, g, d, t, os⟩ := by
  k_fill
  intro X hl hQ
  x_run
end
section
local macro_rules | `(tactic| x_close) => `(tactic| (rename Mem _ _ _ _ => D9; rename Then _ => hQ9; exact hQ9.go _ _ _ (mem_keep D9) (D9.nw _ (.head _)).1 (D9.nw _ (.tail _ (.head _))).1 (D9.nw _ (.head _)).2 (D9.nw _ (.tail _ (.head _))).2 ((List.pairwise_cons.mp D9.ord).1 _ (.head _))))
theorem fdd_make {w : World} {gd : Option (List Code)} {fr : Option (List Env)} {h : Heap} {g : Array GenState} {d : Drawn} {t : Nat} {os : OsState} {l : Addr} {fd : FuncData} {Q E : Value → Shared → Prop} :
    (hd.heap_1 w.params).In h → h.get? l = some ⟨.type "function", none, .func fd, #[]⟩ →
    Then (∀ B dx h', (∀ b o, h.get? b = some o → h'.get? b = some o) → h'.get? B = some ⟨.ref 108, some dx, .dict #[], #[some (.ref l)]⟩ → h'.get? dx = some emptyDict → h.get? B = none → h.get? dx = none → B > dx → Q (.ref B) ⟨h', g, d, t, os⟩) →
    wpAny (model PySem.Challenge.rw_in0008_01.row.prog w) ⟨none, 500, fr, gd, 600⟩ (call (.ref 108) [.ref l]) Q E ⟨h, g, d, t, os⟩ := by
  k_fill
  intro X hl hQ
  x_run
end
section
local macro_rules | `(tactic| x_close) => `(tactic| (rename Then _ => hQ9; exact hQ9.go))
theorem oinit {w : World} {gd : Option (List Code)} {fr : Option (List Env)} {h : Heap} {g : Array GenState} {d : Drawn} {t : Nat} {os : OsState} {l dx : Addr} {a b : Str} {ta tb : Tok} {Q E : Value → Shared → Prop} :
    (hd.heap_1 w.params).In h → h.get? l = some ⟨.ref 203, some dx, .seq #[.str a ta, .str b tb] 0, #[]⟩ →
    Then (Q .none ⟨h, g, d, t, os⟩) →
    wpAny (model PySem.Challenge.rw_in0008_01.row.prog w) ⟨none, 500, fr, gd, 600⟩ (call (.builtin "object.__init__") [.ref l, .str a ta, .str b tb]) Q E ⟨h, g, d, t, os⟩ := by
  k_fill
  intro X hl hQ
  x_run
end
end Mine
end
section
open PySem PySem.W PyProof.Rows PySem.Calls
set_option maxRecDepth 100000
theorem Mine.calm_R29 : True := by
  w_top off
  k_with_none
  exact True.intro
namespace Mine
section
variable {prog : Program} {w : World} {A : Around} {E : Value → Shared → Prop} {s : Shared} {env : Env} {h₀ : Heap} {L : Addr} {x : Str} {px : Pos} {body : List Stmt} {Q : Flow → Shared → Prop}
/-- a for loop over a list, the target left to the walk (a cell) -/
theorem iter_cellJ {o : Obj} {l : Addr} {vs : Array Value} {m₀ : Str → Option Value} {news : List (Addr × Obj)} (J : Nat → (Str → Option Value) → List (Addr × Obj) → Prop)
    (hh : A.handled = none) (ho : s.heap.get? l = some o) (hc : s.heap.IsList l vs) (F : Fr h₀ L s.heap m₀) (N : News h₀ L s.heap news)
    (hJk : ∀ i m n, J i m n → h₀.get? l = some o ∨ (l, o) ∈ n) (hJ : J 0 m₀ news)
    (turn : ∀ I i (hi : i < vs.size) m₁ news₁ h tk oI, oI.cls = .type "list_iterator" → (∀ p ∈ news₁, p.1 ≠ I) → (∀ p ∈ news₁, p.1 < I ∨ I < p.1) → J i m₁ news₁ → Fr h₀ L h m₁ → News h₀ L h ((I, oI) :: news₁) →
      wpAny (model prog w) A (storeName env x vs[i]) (fun _ s₂ => wpAny (model prog w) A (execs body env) (TurnJ h₀ L (I, oI) (J (i + 1)) { s with heap := h, toks := tk } Q) E s₂) E { s with heap := h, toks := tk })
    (done : ∀ m' news' h' tk, Fr h₀ L h' m' → News h₀ L h' news' → J vs.size m' news' → Q .next { s with heap := h', toks := tk })
    (hE : PassesOwn (model prog w) A env E := by passes_own) :
    wpAny (model prog w) A (pyIter (.ref l)) (fun it s₂ => codeAny (model prog w) A (.forLoop (.Name x px) it body [] env) (fun r s' => match r with | .ok f => Q f s' | .error e => cameBackBy (model prog w) A env E e s') s₂) E s := by
  have hlt : l < s.heap.objs.size := Heap.lt_size ho
  have hne : l ≠ s.heap.objs.size := Nat.ne_of_lt hlt
  refine wpAny_pyIter_list hc ?_
  refine codeAny_forLoop
    (fun k s' => ∃ h' tk m' news' i, s' = { s with heap := h', toks := tk } ∧ h'.IsListIter s.heap.objs.size l i ∧ Fr h₀ L h' m' ∧ News h₀ L h' news' ∧ (∀ p ∈ news', p.1 ≠ s.heap.objs.size) ∧ J i m' news' ∧ i ≤ vs.size ∧ k = vs.size + 1 - i) ?_ (vs.size + 1)
    ⟨_, _, m₀, news, 0, rfl, ⟨_, Heap.get?_push_size _ rfl, rfl, rfl⟩, F.push _, (fun p hp => ⟨Heap.get?_push_of_some _ (N p hp).1, (N p hp).2⟩), (fun p hp hI => absurd (Heap.lt_size (N p hp).1) (hI ▸ Nat.lt_irrefl _)), hJ, Nat.zero_le _, rfl⟩
  have hI₀ : h₀.get? s.heap.objs.size = none := next_is_new F
  have hIL : s.heap.objs.size ≠ L := fun e => absurd F.ns.lt (e ▸ Nat.lt_irrefl _)
  rintro k s' ⟨h', tk, m', news', i, rfl, hst, F', N', hoff, hJ', hi, rfl⟩
  have hlo : h'.get? l = some o := by
    rcases hJk _ _ _ hJ' with q | q
    · exact F'.keep _ _ q
    · exact (N' _ q).1
  have hlist : h'.IsList l vs := by
    obtain ⟨o', h1, r⟩ := hc
    rw [ho] at h1
    cases h1
    exact ⟨o, hlo, r⟩
  have next : ∀ h₁ : Heap, Heap.ExtBut s.heap.objs.size h' h₁ → Fr h₀ L h₁ m' ∧ News h₀ L h₁ news' := fun h₁ e =>
    ⟨⟨F'.ns.at' fun o z => e _ o (Ne.symm hIL) z, fun b o z => e b o (fun q => by rw [q, hI₀] at z; cases z) (F'.keep b o z), F'.above⟩, fun p hp => ⟨e _ _ (hoff p hp) (N' p hp).1, (N' p hp).2⟩⟩
  by_cases hlt : i < vs.size
  · refine wpAny_pyNext_list_item hst hlist (x := vs[i]) (by simp [hlt]) fun h₁ hit₁ hs₁ => ?_
    obtain ⟨F₁, N₁⟩ := next h₁ hs₁.extBut
    obtain ⟨oI, hoI, cI, dI⟩ := hit₁
    have N₂ : News h₀ L h₁ ((s.heap.objs.size, oI) :: news') := fun p hp => by
      rcases List.mem_cons.mp hp with rfl | hp
      · exact ⟨hoI, hIL, hI₀⟩
      · exact N₁ p hp
    refine wpAny_passesOwn hE (wpAny_assign_Name (wpAny_mono (turn _ i hlt m' news' h₁ _ oI cI hoff (fun p hp => Nat.lt_or_gt_of_ne (hoff p hp)) hJ' F₁ N₂) (fun _ s₂ h₂ => wpAny_passesOwn hE (wpAny_mono h₂ (fun f s₃ h₃ => ?_) fun _ _ e => e)) fun _ _ e => e))
    have fin : (∃ h'' tk m₂ news₂, s₃ = { ({ s with heap := h₁, toks := tk } : Shared) with heap := h'', toks := tk } ∧ Fr h₀ L h'' m₂ ∧ News h₀ L h'' ((s.heap.objs.size, oI) :: news₂) ∧ (∀ p ∈ news₂, p.1 ≠ s.heap.objs.size) ∧ J (i + 1) m₂ news₂) →
        ∃ m, m < vs.size + 1 - i ∧ ∃ h' tk m' news' i, s₃ = { s with heap := h', toks := tk } ∧ h'.IsListIter s.heap.objs.size l i ∧ Fr h₀ L h' m' ∧ News h₀ L h' news' ∧ (∀ p ∈ news', p.1 ≠ s.heap.objs.size) ∧ J i m' news' ∧ i ≤ vs.size ∧ m = vs.size + 1 - i := by
      rintro ⟨h'', tk₂, m₂, news₂, e, F₂, N₃, off₂, J₂⟩
      exact ⟨vs.size + 1 - (i + 1), by omega, h'', tk₂, m₂, news₂, i + 1, e, ⟨oI, (N₃ _ (.head _)).1, cI, dI⟩, F₂, fun p hp => N₃ p (.tail _ hp), off₂, J₂, hlt, rfl⟩
    cases f with
    | ret v => exact h₃
    | brk => exact h₃
    | next => exact fin h₃
    | cont => exact fin h₃
  · have hin : i = vs.size := by omega
    subst hin
    refine wpAny_pyNext_list_end hh hst hlist (by simp) fun h₁ he => wpAny_execs_nil ?_
    obtain ⟨F₁, N₁⟩ := next h₁ fun b o hb z => he b o hb z
    exact done m' news' h₁ tk F₁ N₁ hJ'
end
end Mine
end
section
open PySem PySem.W PyProof.Rows
set_option maxRecDepth 100000
theorem Mine.calm_P4 : True := by
  w_top off
  k_with_none
  exact True.intro
namespace Mine
open PySem.Builtin PySem.Builtin.Str PySem.StrLaws
noncomputable def theSigns : List Nat := [97, 98, 46, 58, 61, 32, 10, 69]
/-- a text of the eight signs alone -/
noncomputable def SignsOk (x : Str) : Prop := ∀ c ∈ x.cps.toList, c ∈ theSigns
theorem space_signs : ∀ c ∈ theSigns, Unicode.isSpace c = blank c := by decide +kernel
theorem takeWhile_congr' {p q : Nat → Bool} : ∀ {l : List Nat}, (∀ c ∈ l, p c = q c) → l.takeWhile p = l.takeWhile q
  | [], _ => rfl
  | c :: l, h => by
    rw [List.takeWhile_cons, List.takeWhile_cons, h c (.head _), takeWhile_congr' fun d hd => h d (.tail _ hd)]
theorem drop_takeWhile {p : Nat → Bool} : ∀ (l : List Nat), l.drop (l.takeWhile p).length = l.dropWhile p
  | [] => rfl
  | c :: l => by
    rw [List.takeWhile_cons, List.dropWhile_cons]
    cases p c with
    | true => simpa using drop_takeWhile l
    | false => rfl
theorem strip_trim {y : Str} (h : SignsOk y) : Txt.strip y = trimF y := by
  refine str_ext ?_
  unfold Txt.strip
  rw [PyProof.Rows.stripBy_eq]
  have hs : ∀ c ∈ y.cps.toList, Unicode.isSpace c = blank c := fun c hc => space_signs c (h c hc)
  have e1 : stripLo Unicode.isSpace true y = (y.cps.toList.takeWhile blank).length := by
    show (y.cps.toList.takeWhile Unicode.isSpace).length = _
    rw [takeWhile_congr' hs]
  have e2 : stripHi Unicode.isSpace true y (stripLo Unicode.isSpace true y) = y.length - ((y.cps.toList.dropWhile blank).reverse.takeWhile blank).length := by
    rw [e1]
    show y.length - (((y.cps.toList.drop (y.cps.toList.takeWhile blank).length).reverse.takeWhile Unicode.isSpace)).length = _
    rw [drop_takeWhile, takeWhile_congr' (q := blank) fun c hc => hs c ((List.dropWhile_sublist _).subset (List.mem_reverse.mp hc))]
  rw [e2, e1]
  show (y.cps.extract _ _).toList = trimL y.cps.toList
  rw [Array.toList_extract]
  have hlen : (y.cps.toList.dropWhile blank).length = y.length - (y.cps.toList.takeWhile blank).length := by
    rw [← drop_takeWhile, List.length_drop, cps_len]
  unfold trimL
  rw [← drop_takeWhile (y.cps.toList.dropWhile blank).reverse, List.drop_reverse, List.reverse_reverse, hlen, ← drop_takeWhile y.cps.toList]
  simp only [List.extract_eq_take_drop]
  congr 1
  omega
theorem limit_one (x : Str) : limitOf x 1 = 1 := rfl
theorem partsMax {x : Str} {n : Nat} (h : EqAt x n) : Txt.splitMax x (Str.ofString "=") 1 = [subL x 0 n, subL x (n + 1) x.length] := by
  rw [lit_eq]
  have hlt := h.lt
  have hocc : occurrences x ⟨#[61]⟩ 0 x.length 1 = [n] := by
    have h1 := occ_firstAt x 61 x.length (Nat.le_refl _)
    have h2 : (occurrences x ⟨#[61]⟩ 0 x.length 1).length ≤ 1 := by
      rw [occ_eq, Array.length_toList]
      exact occ_size_le x ⟨#[61]⟩ x.length 1 _ _ (by simp)
    cases q : occurrences x ⟨#[61]⟩ 0 x.length 1 with
    | nil =>
      rw [q] at h1
      rcases h1 with ⟨_, h1⟩ | ⟨k, e, _⟩
      · exact absurd h.is (h1 n hlt)
      · exact absurd e (by show ¬ (-1 : Int) = _; omega)
    | cons a r =>
      rw [q] at h1 h2
      have hr : r = [] := by
        cases r with
        | nil => rfl
        | cons _ _ => simp at h2
      rcases h1 with ⟨e, _⟩ | ⟨k, e, hk, h61, hno⟩
      · exact absurd e (by show ¬ (a : Int) = _; omega)
      · have hak : a = k := by
          have e' : (a : Int) = (k : Int) := e
          omega
        subst hak
        subst hr
        by_cases c1 : a < n
        · exact absurd h61 (h.no a c1)
        · by_cases c2 : n < a
          · exact absurd h.is (hno n c2)
          · rw [show a = n by omega]
  unfold Txt.splitMax
  have hk : (decide (x.length < (⟨#[61]⟩ : Str).length) || decide (strKind x < strKind ⟨#[61]⟩)) = false := by
    rw [Bool.or_eq_false_iff]
    refine ⟨decide_eq_false (by show ¬ x.length < 1; omega), decide_eq_false fun q => ?_⟩
    exact kind_free x 61 q (List.mem_of_getElem? h.is)
  rw [hk, limit_one, hocc]
  show partsBetween x [n] 1 = _
  show [strSub x 0 n, strSub x (n + 1) x.length] = _
  have e : ∀ a b, strSub x a b = subL x a b := fun a b => by
    refine str_ext ?_
    show (x.cps.extract a b).toList = ((x.cps.toList.drop a).take (b - a))
    rw [Array.toList_extract, List.extract_eq_take_drop]
  rw [e, e]
theorem sub_signs {x : Str} (h : SignsOk x) (a b : Nat) : SignsOk (subL x a b) := fun c hc => h c (List.mem_of_mem_drop (List.mem_of_mem_take hc))
theorem sub_len (x : Str) (a b : Nat) : (subL x a b).length ≤ x.length := by
  rw [← cps_len, ← cps_len x]
  show ((x.cps.toList.drop a).take (b - a)).length ≤ _
  rw [List.length_take, List.length_drop]
  omega
end Mine
end
section
open PySem PySem.W PyProof.Rows PySem.Calls
set_option maxRecDepth 100000
theorem Mine.calm_R30 : True := by
  w_top off
  k_with_none
  exact True.intro
namespace Mine
noncomputable def LineOk (p : Line) : Prop := p.1.length ≤ 10 ∧ EqAt p.1 p.2 ∧ SignsOk p.1
noncomputable def TextsAre (vs : List Value) (ts : List Line) : Prop := All2 (fun v p => ∃ t, v = Value.str p.1 t) vs ts ∧ ∀ p ∈ ts, LineOk p
theorem TextsAre.nil : TextsAre [] [] := ⟨.nil, fun _ h => by cases h⟩
theorem TextsAre.push {its : Array Value} {ts : List Line} {p : Line} {t : Tok} (h : TextsAre its.toList ts) (hp : LineOk p) : TextsAre (its.push (.str p.1 t)).toList (ts ++ [p]) := by
  rw [Array.toList_push]
  refine ⟨h.1.snoc ⟨t, rfl⟩, fun q hq => ?_⟩
  rcases List.mem_append.mp hq with hq | hq
  · exact h.2 q hq
  · rw [List.mem_singleton.mp hq]; exact hp
noncomputable def TxtJ (m₀ : Str → Option Value) (tx xc : Addr) (fixed : List (Addr × Obj)) (i : Nat) (m : Str → Option Value) (news : List (Addr × Obj)) : Prop :=
  ∃ its n ox, ∃ dv xv : Option Value, ∃ ts, m = (fun y => if y = Str.ofString "drawn" then dv else m₀ y) ∧ news = (tx, listOf its n) :: (xc, ox) :: fixed ∧ ox.data = .cell xv ∧ TextsAre its.toList ts ∧ ts.length = i
theorem m_at (m : Str → Option Value) (k : Str) : m = fun y => if y = k then m k else m y := by
  funext y
  by_cases h : y = k
  · subst h; simp
  · simp [h]
theorem TxtJ.zero {m₀ : Str → Option Value} {tx xc : Addr} {fixed : List (Addr × Obj)} {ox : Obj} {xv : Option Value} (h : ox.data = .cell xv) : TxtJ m₀ tx xc fixed 0 m₀ ((tx, listOf #[] 0) :: (xc, ox) :: fixed) :=
  ⟨#[], 0, ox, _, xv, [], m_at _ _, rfl, h, .nil, rfl⟩
theorem TxtJ.next {m₀ : Str → Option Value} {tx xc : Addr} {fixed : List (Addr × Obj)} {i : Nat} {its : Array Value} {n : Nat} {ox : Obj} {dv dv' xv : Option Value} {ts : List Line} {p : Line} {t : Tok}
    (h : ox.data = .cell xv) (ht : TextsAre its.toList ts) (hl : ts.length = i) (hp : LineOk p) :
    TxtJ m₀ tx xc fixed (i + 1) (fun y => if y = Str.ofString "drawn" then dv else if y = Str.ofString "drawn" then dv' else m₀ y) ((tx, listOf (its.push (.str p.1 t)) n) :: (xc, ox) :: fixed) := by
  refine ⟨_, n, ox, dv, xv, ts ++ [p], ?_, rfl, h, ht.push hp, by simp [hl]⟩
  funext y
  by_cases h : y = Str.ofString "drawn"
  · subst h; simp
  · simp [h]
end Mine
end
section
open PySem PySem.W PyProof.Rows PySem.Calls
set_option maxRecDepth 100000
theorem Mine.calm_R31 : True := by
  w_top off
  k_with_none
  exact True.intro
namespace Mine
section
variable {prog : Program} {w : World} {A : Around} {h₀ : Heap} {L : Addr} {m : Str → Option Value} {env : Env} {elt : Expr} {x : Str} {scope : Scope} {cl : List (Str × Addr)} {s : Shared} {S : List (Addr × Obj) → Prop} {P : Nat → Value → Prop} {Fin : List Value → List (Addr × Obj) → Prop} {news : List (Addr × Obj)}
/-- a list comprehension with any invariant of place, items and ledger -/
theorem restJ {n : Nat} (J : Nat → List Value → List (Addr × Obj) → Prop) (h0 : J 0 [] news)
    (turn : ∀ i v I oI C oC D m₂ ys h tk (E' : Value → Shared → Prop) news, i < n → P i v → J i ys news → LCg.NsObj oC m₂ → m₂ x = some v → Fr h₀ L h m → News h₀ L h ((I, oI) :: (C, oC) :: (D, LCg.lst ys) :: news) → LCg.Off3 I C D news → ((@Ne Nat I C) ∧ (@Ne Nat I D) ∧ (@Ne Nat C D)) →
      wpAny (model prog w) A (eval elt (compEnvC scope cl C env)) (LCg.CompEnd h₀ L m { s with heap := h, toks := tk } I oI C oC D (LCg.lst ys) S (fun y news' => J (i + 1) (ys ++ [y]) news')) E' { s with heap := h, toks := tk })
    (fin : ∀ ys news, J n ys news → Fin ys news) : LCg.CompRest prog w A h₀ L m env elt x scope cl s S P Fin n 0 [] news := by
  have key : ∀ (j i : Nat) (ys : List Value) (news : List (Addr × Obj)), i + j = n → J i ys news → LCg.CompRest prog w A h₀ L m env elt x scope cl s S P Fin j i ys news := by
    intro j
    induction j with
    | zero =>
      intro i ys news hi hy
      have e : i = n := by omega
      subst e
      exact LCg.CompRest.zero (fin ys news hy)
    | succ j ih =>
      intro i ys news hi hy
      refine LCg.CompRest.succ ?_
      intro v I oI C oC D m₂ h tk E' hv hC hx F N off ne
      refine wpAny_mono (turn i v I oI C oC D m₂ ys h tk E' news (by omega) hv hy hC hx F N off ne) (fun y s₂ hq => ?_) fun _ _ e => e
      obtain ⟨h', tk', nw, e, F', N', off', hS, hJ⟩ := hq
      exact ⟨h', tk', nw, e, F', N', off', hS, ih (i + 1) _ _ (by omega) hJ⟩
  exact key n 0 [] news (by omega) h0
/-- a comprehension that leaves the ledger: every item as R says of its place -/
noncomputable def ItemsR (R : Nat → Value → Prop) (i : Nat) (ys : List Value) : Prop := ys.length = i ∧ ∀ k v, ys[k]? = some v → R k v
theorem ItemsR.nil {R : Nat → Value → Prop} : ItemsR R 0 [] := ⟨rfl, fun k v h => by simp at h⟩
theorem ItemsR.snoc {R : Nat → Value → Prop} {i : Nat} {ys : List Value} {y : Value} (h : ItemsR R i ys) (r : R i y) : ItemsR R (i + 1) (ys ++ [y]) := by
  refine ⟨by rw [List.length_append, h.1]; rfl, fun k v hk => ?_⟩
  rw [List.getElem?_append] at hk
  split at hk
  · exact h.2 k v hk
  · rename_i hlt
    have hl := h.1
    have hk0 : k - ys.length = 0 := by
      cases z : k - ys.length with
      | zero => rfl
      | succ j => rw [z] at hk; simp at hk
    rw [hk0] at hk
    simp at hk
    have : k = i := by omega
    subst this
    exact hk ▸ r
end
end Mine
namespace Mine
section
variable {prog : Program} {w : World} {A : Around} {h₀ : Heap} {L : Addr} {m : Str → Option Value} {env : Env} {elt : Expr} {x : Str} {scope : Scope} {cl : List (Str × Addr)} {s : Shared} {S : List (Addr × Obj) → Prop} {P : Nat → Value → Prop} {Fin : List Value → List (Addr × Obj) → Prop} {news : List (Addr × Obj)}
theorem restQ {n : Nat} (R : Nat → Value → Prop)
    (turn : ∀ i v I oI C oC D m₂ ys h tk (E' : Value → Shared → Prop), i < n → P i v → LCg.NsObj oC m₂ → m₂ x = some v → Fr h₀ L h m → News h₀ L h ((I, oI) :: (C, oC) :: (D, LCg.lst ys) :: news) → LCg.Off3 I C D news → ((@Ne Nat I C) ∧ (@Ne Nat I D) ∧ (@Ne Nat C D)) →
      wpAny (model prog w) A (eval elt (compEnvC scope cl C env)) (LCg.CompEnd h₀ L m { s with heap := h, toks := tk } I oI C oC D (LCg.lst ys) S (fun y news' => news' = news ∧ R i y)) E' { s with heap := h, toks := tk })
    (fin : ∀ ys, ys.length = n → (∀ k v, ys[k]? = some v → R k v) → Fin ys news) : LCg.CompRest prog w A h₀ L m env elt x scope cl s S P Fin n 0 [] news :=
  restJ (fun i ys nw => nw = news ∧ ItemsR R i ys) ⟨rfl, .nil⟩ (fun i v I oI C oC D m₂ ys h tk E' nw hi hv hJ hC hx F N off ne => by
    obtain ⟨rfl, hJ⟩ := hJ
    refine wpAny_mono (turn i v I oI C oC D m₂ ys h tk E' hi hv hC hx F N off ne) (fun y s₂ hq => ?_) fun _ _ e => e
    obtain ⟨h', tk', nw', e, F', N', off', hS, hn, hR⟩ := hq
    exact ⟨h', tk', nw', e, F', N', off', hS, hn, hJ.snoc hR⟩) fun ys nw hJ => by
    obtain ⟨rfl, hJ⟩ := hJ
    exact fin ys hJ.1 hJ.2
end
end Mine
end
section
open PySem PySem.W PyProof.Rows PySem.Calls
set_option maxRecDepth 100000
theorem Mine.calm_R32 : True := by
  w_top off
  k_with_none
  exact True.intro
namespace Mine
theorem pow8_ne (n : Nat) : (8 : Int) ^ n ≠ 0 := by
  have : (0 : Int) < 8 ^ n := Int.pow_pos (by decide)
  omega
theorem fmod8 (a : Int) : 0 ≤ a.fmod 8 ∧ a.fmod 8 < 8 := by
  rw [Int.fmod_eq_emod_of_nonneg a (by decide)]
  omega
noncomputable def OneSign (v : Value) : Prop := ∃ c ∈ theSigns, ∃ t, v = .str ⟨#[c]⟩ t
section
variable {prog : Program} {w : World} {A : Around} {h₀ : Heap} {L sg : Addr} {news : List (Addr × Obj)} {s : Shared} {Q : Value → Shared → Prop} {E : Value → Shared → Prop} {value slice : Expr} {j : Int} {t : Tok} {its : Array Value} {n : Nat}
theorem use_sign (hsub : subscripted slice false (.ref sg) (.int j t) = operate [.ref sg, .int j t] (getItem (.ref sg) (.int j t))) (N : News h₀ L s.heap news) (hm : (sg, W.listOf its n) ∈ news) (hz : its.size = 8) (hs : ∀ v ∈ its, OneSign v) (h0 : 0 ≤ j) (h8 : j < 8)
    (h : ∀ v, OneSign v → Q v s) : wpAny (model prog w) A (subscriptTail value slice (.ref sg) (.int j t)) Q E s := by
  have hL : s.heap.IsList sg its := ⟨_, (N _ hm).1, rfl, _, rfl⟩
  have hj : j.toNat < its.size := by omega
  exact tail_any hL.typeIs slot_list_getitem.lookup (wpAny_getItem_list hL h0 (by omega) (by simp [hj]) (h its[j.toNat] (hs _ (Array.getElem_mem hj)))) hsub
end
theorem one_a {t : Tok} : OneSign (.str (Str.ofString "a") t) := ⟨97, by decide, t, rfl⟩
theorem one_b {t : Tok} : OneSign (.str (Str.ofString "b") t) := ⟨98, by decide, t, rfl⟩
theorem one_dot {t : Tok} : OneSign (.str (Str.ofString ".") t) := ⟨46, by decide, t, rfl⟩
theorem one_colon {t : Tok} : OneSign (.str (Str.ofString ":") t) := ⟨58, by decide, t, rfl⟩
theorem one_eq {t : Tok} : OneSign (.str (Str.ofString "=") t) := ⟨61, by decide, t, rfl⟩
theorem one_sp {t : Tok} : OneSign (.str (Str.ofString " ") t) := ⟨32, by decide, t, rfl⟩
theorem one_E {t : Tok} : OneSign (.str (Str.ofString "E") t) := ⟨69, by decide, t, rfl⟩
theorem one_ten {t : Tok} : OneSign (.str ⟨#[Int.toNat 10]⟩ t) := ⟨10, by decide, t, rfl⟩
theorem pow8_small {k : Nat} (h : k < 9) : ((8 : Int) ^ k).natAbs < 1073741824 := by
  have : k = 0 ∨ k = 1 ∨ k = 2 ∨ k = 3 ∨ k = 4 ∨ k = 5 ∨ k = 6 ∨ k = 7 ∨ k = 8 := by omega
  rcases this with h | h | h | h | h | h | h | h | h <;> subst h <;> decide
section
variable {prog : Program} {w : World} {A : Around} {s : Shared} {Q : Value → Shared → Prop} {E : Value → Shared → Prop} {a : Int} {t u : Tok}
theorem use_fdiv8 {k : Nat} (hk : k < 9) (h : ∀ a t', Q (.int a t') { s with toks := s.toks + 1 }) : wpAny (model prog w) A (binaryOp .FloorDiv (.int a t) (.int (8 ^ k) u)) Q E s :=
  floordiv_int (pow8_ne k) (h _ _) (Or.inl (PyProof.noPylong_small (pow8_small hk)))
theorem use_mod8 (h : ∀ a t', 0 ≤ a → a < 8 → Q (.int a t') { s with toks := s.toks + 1 }) : wpAny (model prog w) A (binaryOp .Mod (.int a t) (.int 8 u)) Q E s :=
  mod_int' (by decide) (h _ _ (fmod8 a).1 (fmod8 a).2)
end
theorem one_nl {t : Tok} : OneSign (.str (Str.ofString "\n") t) := ⟨10, by decide, t, rfl⟩
theorem nine_signs {ys : List Value} (hl : ys.length = 9) (h : ∀ (k : Nat) v, ys[k]? = some v → OneSign v) :
    ∃ c0 c1 c2 c3 c4 c5 c6 c7 c8, ∃ t0 t1 t2 t3 t4 t5 t6 t7 t8, ys = [.str ⟨#[c0]⟩ t0, .str ⟨#[c1]⟩ t1, .str ⟨#[c2]⟩ t2, .str ⟨#[c3]⟩ t3, .str ⟨#[c4]⟩ t4, .str ⟨#[c5]⟩ t5, .str ⟨#[c6]⟩ t6, .str ⟨#[c7]⟩ t7, .str ⟨#[c8]⟩ t8] ∧ c0 ∈ theSigns ∧ c1 ∈ theSigns ∧ c2 ∈ theSigns ∧ c3 ∈ theSigns ∧ c4 ∈ theSigns ∧ c5 ∈ theSigns ∧ c6 ∈ theSigns ∧ c7 ∈ theSigns ∧ c8 ∈ theSigns := by
  match ys, hl, h with
  | [v0, v1, v2, v3, v4, v5, v6, v7, v8], _, h =>
    obtain ⟨c0, h0, t0, rfl⟩ := h 0 v0 rfl
    obtain ⟨c1, h1, t1, rfl⟩ := h 1 v1 rfl
    obtain ⟨c2, h2, t2, rfl⟩ := h 2 v2 rfl
    obtain ⟨c3, h3, t3, rfl⟩ := h 3 v3 rfl
    obtain ⟨c4, h4, t4, rfl⟩ := h 4 v4 rfl
    obtain ⟨c5, h5, t5, rfl⟩ := h 5 v5 rfl
    obtain ⟨c6, h6, t6, rfl⟩ := h 6 v6 rfl
    obtain ⟨c7, h7, t7, rfl⟩ := h 7 v7 rfl
    obtain ⟨c8, h8, t8, rfl⟩ := h 8 v8 rfl
    exact ⟨c0, c1, c2, c3, c4, c5, c6, c7, c8, t0, t1, t2, t3, t4, t5, t6, t7, t8, rfl, h0, h1, h2, h3, h4, h5, h6, h7, h8⟩
end Mine
end
section
open PySem PySem.W PyProof.Rows PySem.Calls
set_option maxRecDepth 100000
theorem Mine.calm_R33 : True := by
  w_top off
  k_with_none
  exact True.intro
namespace Mine
theorem str_empty : Str.ofString "" = ⟨#[]⟩ := by decide +kernel
theorem str_eq : Str.ofString "=" = ⟨#[61]⟩ := by decide +kernel
theorem join3 (a b c : Nat) : Txt.join (Str.ofString "") [⟨#[a]⟩, ⟨#[b]⟩, ⟨#[c]⟩] = ⟨#[a, b, c]⟩ := by rw [str_empty]; rfl
theorem join6 (a b c d e f : Nat) : Txt.join (Str.ofString "") [⟨#[a]⟩, ⟨#[b]⟩, ⟨#[c]⟩, ⟨#[d]⟩, ⟨#[e]⟩, ⟨#[f]⟩] = ⟨#[a, b, c, d, e, f]⟩ := by rw [str_empty]; rfl
theorem line_text (a b c d e f g h i : Nat) : (Txt.join (Str.ofString "") [⟨#[a]⟩, ⟨#[b]⟩, ⟨#[c]⟩] ++ Str.ofString "=") ++ Txt.join (Str.ofString "") [⟨#[d]⟩, ⟨#[e]⟩, ⟨#[f]⟩, ⟨#[g]⟩, ⟨#[h]⟩, ⟨#[i]⟩] = ⟨#[a, b, c, 61, d, e, f, g, h, i]⟩ := by
  rw [join3, join6, str_eq]; rfl
theorem line_ok {a b c d e f g h i : Nat} (h0 : a ∈ theSigns) (h1 : b ∈ theSigns) (h2 : c ∈ theSigns) (h3 : d ∈ theSigns) (h4 : e ∈ theSigns) (h5 : f ∈ theSigns) (h6 : g ∈ theSigns) (h7 : h ∈ theSigns) (h8 : i ∈ theSigns) :
    ∃ n, LineOk (⟨#[a, b, c, 61, d, e, f, g, h, i]⟩, n) := by
  have hs : SignsOk ⟨#[a, b, c, 61, d, e, f, g, h, i]⟩ := by
    intro x hx
    simp only [List.mem_cons, List.not_mem_nil, or_false] at hx
    have h61 : (61 : Nat) ∈ theSigns := by decide
    rcases hx with rfl | rfl | rfl | rfl | rfl | rfl | rfl | rfl | rfl | rfl <;> assumption
  by_cases ea : a = 61
  · exact ⟨0, Nat.le_of_ble_eq_true rfl, ⟨Nat.le_of_ble_eq_true rfl, congrArg some ea, fun k hk => absurd hk (Nat.not_lt_zero _)⟩, hs⟩
  · by_cases eb : b = 61
    · exact ⟨1, Nat.le_of_ble_eq_true rfl, ⟨Nat.le_of_ble_eq_true rfl, congrArg some eb, fun k hk e => by
        have : k = 0 := by omega
        subst this
        exact ea (Option.some.inj e)⟩, hs⟩
    · by_cases ec : c = 61
      · exact ⟨2, Nat.le_of_ble_eq_true rfl, ⟨Nat.le_of_ble_eq_true rfl, congrArg some ec, fun k hk e => by
          have : k = 0 ∨ k = 1 := by omega
          rcases this with rfl | rfl
          · exact ea (Option.some.inj e)
          · exact eb (Option.some.inj e)⟩, hs⟩
      · exact ⟨3, Nat.le_of_ble_eq_true rfl, ⟨Nat.le_of_ble_eq_true rfl, rfl, fun k hk e => by
          have : k = 0 ∨ k = 1 ∨ k = 2 := by omega
          rcases this with rfl | rfl | rfl
          · exact ea (Option.some.inj e)
          · exact eb (Option.some.inj e)
          · exact ec (Option.some.inj e)⟩, hs⟩
theorem use_join {prog : Program} {w : World} {A : Around} {h₀ : Heap} {L D : Addr} {news : List (Addr × Obj)} {s : Shared} {Q : Value → Shared → Prop} {E : Value → Shared → Prop} {t : Tok} {its : List Value} {n : Nat} {ys : List Str} (N : News h₀ L s.heap news) (hm : (D, W.listOf its.toArray n) ∈ news)
    (hi : StrsAre its ys) (hw : (ys.map (·.length)).sum + ys.length ≤ 1048576) (h : ∀ t' k, Q (.str (Txt.join (Str.ofString "") ys) t') { s with toks := k }) : wpAny (model prog w) A (call (.builtin "str.join") [.str (Str.ofString "") t, .ref D]) Q E s :=
  join_listW ⟨_, (N _ hm).1, rfl, _, rfl⟩ (by simpa using hi) (by decide) hw h
end Mine
end
section
open PySem PySem.W PyProof.Rows PySem.Calls
set_option maxRecDepth 100000
set_option maxHeartbeats 400000
theorem Mine.calm_R12 : True := by
  w_top off
  k_with_none
  exact True.intro
namespace Mine
theorem tnw1 (K : Frag) : findIn K (.type "type") "__new__" = some (some (.builtin "type.__new__")) := by kernel_rfl
theorem tnw1b (K : Frag) : specialIn K (.builtin "type.__new__") "__get__" = some none := by kernel_rfl
theorem tnw2 (K : Frag) : findIn K (.type "tuple") "__new__" = some (some (.builtin "tuple.__new__")) := by kernel_rfl
theorem tnw3 : PySem.Builtin.heldUnderItsOwnName "__new__" (.builtin "tuple.__new__") = false := by decide +kernel
theorem tnw4 (K : Frag) : typeIn K (.builtin "tuple.__new__") = some (.type "builtin_function_or_method") := by kernel_rfl
theorem tnw4b (K : Frag) : specialIn K (.builtin "tuple.__new__") "__get__" = some none := by kernel_rfl
theorem tnw5 : bareKinds.contains (.type "builtin_function_or_method") = false := by decide +kernel
theorem tnw6 : handedIn (.builtin "tuple.__new__") = true := by decide +kernel
theorem find_tnw (K : Frag) : findCls K (.type "tuple") (.type "type") "__new__" = some (.val (.builtin "tuple.__new__")) := by
  unfold findCls
  rw [tnw1 K, tnw2 K]
  simp only [Option.bind_some, tnw1b, tnw3, tnw4, tnw4b, tnw5, tnw6, if_true, Bool.false_eq_true, if_false]
theorem tnw7 : typeOf (.type "tuple") = pure (.type "type") := kitMeta_of (by decide +kernel)
theorem tnw8 : Manifest.isStub "tuple" = false := by decide +kernel
theorem meth_tnw {prog : Program} {w : World} {A : Around} {E : Value → Shared → Prop} {s : Shared} {K : Frag} {h₀ : Heap} {L : Addr} {m : Str → Option Value} {pl : Sem Bool} {Q : Value × List Value → Shared → Prop} (F : Fr h₀ L s.heap m) (X₀ : K.In h₀) (h : Q (.builtin "tuple.__new__", []) { s with toks := s.toks + 1 }) :
    wpAny (model prog w) A (getMethod (.type "tuple") (Str.ofString "__new__") pl) Q E s :=
  method_type (T := "tuple") (name := Str.ofString "__new__") (v := .builtin "tuple.__new__") F X₀ tnw7 tnw8 (find_tnw K) tnw6 h
end Mine
end
section
open PySem PySem.W PyProof.Rows
set_option maxRecDepth 100000
set_option maxHeartbeats 800000
theorem Mine.calm_S7 : True := by
  w_top off
  k_with_none
  exact True.intro
namespace Mine
local macro_rules | `(tactic| walk_at "getMethod") => `(tactic| (k_here; (with_reducible show wpAny _ _ (getMethod (Value.type _) _ _) _ _ _); (refine' meth_tnw ?F ?X ?_; (case F => k_asm); (case X => k_asm); k_whole)))
theorem new_spec {w : World} {p : Program} {loose : List Str} {mean : ExcName → Option Value} {mg mb : Str → Option Value} {gd : Option (List Code)} {fr : Option (List Env)} {s : Shared} {x y : Str} {tx ty : Tok} {R : Result → Shared → Prop} :
    (hd.heap_1 w.params).In s.heap → Top p loose mean mg mb s.heap → 
    (∀ T d h' tk', (∀ b o, s.heap.get? b = some o → h'.get? b = some o) → s.heap.get? T = none →
      h'.get? T = some { cls := .ref 203, dict := some d, data := .seq #[.str x tx, .str y ty] } → s.heap.get? d = none → h'.get? d = some emptyDict → R (.ok (.ret (.ref T))) { s with heap := h', toks := tk' }) →
    codeAny (model PySem.Challenge.rw_in0008_01.row.prog w) ⟨none, 480, fr, gd, 560⟩ (.call (.ref 130) ⟨[.ref 203, .str x tx, .str y ty], []⟩) R s := by
  k_fill
  intro X T hret
  k_dflt (refine' pure_call ?kX ?kT ?ho ?hcd ?room ?bind ?loc ?_ ?c2 ?c3 ?c4 ?c5; (case kX => assumption); (case kT => assumption); (case ho => k_is); (case hcd => k_is); (case room => exact Nat.le_of_ble_eq_true rfl); (case bind => exact BindsTo.of_eq rfl); (case loc => exact locs rfl); (case c2 => exact rfl); (case c3 => exact rfl); (case c4 => exact rfl); (case c5 => decide); k_whole)
  intro L' h' F' N'
  dsimp only
  k_fold
  k_steps
  · refine wpAny_lower (D := 500) (U := 600) (tnew_make (X.keeps (by with_reducible exact Fr.keep (by assumption))) (News_get (by with_reducible assumption) (.head _)) ⟨fun T dx h'' k hn hT hdn hde => ?_⟩) rfl (Nat.le_of_ble_eq_true rfl) (Nat.le_of_ble_eq_true rfl)
    have kk := Fr.keep (h₀ := s.heap) (by with_reducible assumption)
    exact hret T dx h'' _ (fun b o e => k b o (kk b o e)) (fresh_back kk hn) hT (fresh_back kk hdn) hde
  k_with_none
end Mine
end
section
open PySem PySem.W PyProof.Rows PySem.Calls Builtin
set_option maxRecDepth 100000
set_option maxHeartbeats 8000000
theorem Mine.calm_S8 : True := by
  w_top off
  k_with_none
  exact True.intro
namespace Mine
theorem pair_make {w : World} {p : Program} {loose : List Str} {mean : ExcName → Option Value} {mg mb : Str → Option Value} {gd : Option (List Code)} {fr : Option (List Env)} {s : Shared} {x y : Str} {tx ty : Tok} {R : Result → Shared → Prop} :
    (hd.heap_1 w.params).In s.heap → Top p loose mean mg mb s.heap → 
    (∀ T d h' tk', (∀ b o, s.heap.get? b = some o → h'.get? b = some o) → s.heap.get? T = none →
      h'.get? T = some { cls := .ref 203, dict := some d, data := .seq #[.str x tx, .str y ty] } → s.heap.get? d = none → h'.get? d = some emptyDict → R (.ok (.ret (.ref T))) { s with heap := h', toks := tk' }) →
    codeAny (model PySem.Challenge.rw_in0008_01.row.prog w) ⟨none, 460, fr, gd, 520⟩ (.call (.ref 203) ⟨[.str x tx, .str y ty], []⟩) R s := by
  k_fill
  intro X T hret
  obtain ⟨h, g, d, t, os⟩ := s
  dsimp only at X T hret
  have hC : h.get? 203 = some _ := X 203 _ (by k_is)
  have hI : h.get? 180 = some _ := X 180 _ (by k_is)
  have call : Looks (model PySem.Challenge.rw_in0008_01.row.prog w) h (specialOf (.ref 203) "__call__") _ := looks_specialIn X (by k_is)
  have typ : Looks (model PySem.Challenge.rw_in0008_01.row.prog w) h (isInstance (.ref 203) (.type "type")) true := looks_instIn X (by kernel_rfl)
  have self : Looks (model PySem.Challenge.rw_in0008_01.row.prog w) h (isSubtype (.ref 203) (.ref 203)) true := looks_mroIn X (by kernel_rfl)
  have init : Looks (model PySem.Challenge.rw_in0008_01.row.prog w) h (typeLookup (.ref 203) "__init__") _ := looks_findIn X (by k_is)
  have new : Looks (model PySem.Challenge.rw_in0008_01.row.prog w) h (typeLookup (.ref 203) "__new__") _ := looks_findIn X (by k_is)
  refine codeAny_of_tree ?_
  show wpAny _ _ (callAny (.ref 203) _) _ _ _
  refine nd_load hC ?_
  show wpAny _ _ (callAny.viaDunder (.ref 203) _) _ _ _
  unfold callAny.viaDunder
  refine wpAny_bind (call.at ?_)
  dsimp only
  rw [tc_bind]
  refine wpAny_bind (wpAny_pure (wpAny_bind (wpAny_pure ?_)))
  refine wpAny_pure (a := Fin.again (.call (.builtin "type.__call__") ⟨.ref 203 :: _, _⟩)) (And.intro rfl ?_)
  refine codeAny_call_builtin_at (Code.quiet_builtin _ (by decide +kernel)) entry_typeCall (check_slot tc_kind tc_split typ (tc_args _ _ _) ?_)
  unfold Builtin.«type.__call__»
  repeat ((fail_if_success (with_reducible show wpAny _ _ (getAttr _ _ _) _ _ _)); lk)
  refine cls_bind X (mc := .type "type") (by kernel_rfl) (by k_is) (wpAny_call (sm_get (s := ⟨h, g, d, t + 1, os⟩) X (by k_is) (handed_on rfl ?_)))
  repeat ((fail_if_success (with_reducible show wpAny _ _ (PySem.call _ _ _) _ _ _)); lk)
  refine wpAny_call (codeAny_lower (D := 480) (U := 560) (new_spec (s := ⟨h, g, d, t + 1, os⟩) X T fun O dx h' tk' k hn ho hdn hde => ?_) rfl (Nat.le_of_ble_eq_true rfl) (Nat.le_of_ble_eq_true rfl))
  dsimp only
  have self' := self.keeps k
  have init' := init.keeps k
  have t1 : Looks (model PySem.Challenge.rw_in0008_01.row.prog w) h' (typeOf (.ref O)) (.ref 203) := (Looks.ld ho).andThen .now
  unfold isInstance callSpecial? specialOf
  repeat ((fail_if_success (with_reducible show wpAny _ _ (PySem.call _ _ _) _ _ _)); lk)
  refine wpAny_lower (D := 500) (U := 600) (oinit (X.keeps k) ho ⟨?_⟩) rfl (Nat.le_of_ble_eq_true rfl) (Nat.le_of_ble_eq_true rfl)
  exact wpAny_pure (wpAny_pure (hret O dx h' tk' k hn ho hdn hde))
end Mine
end
section
open PySem PySem.W PyProof.Rows
set_option maxRecDepth 100000
set_option maxHeartbeats 8000000
theorem Mine.calm_S6 : True := by
  w_top off
  k_with_none
  exact True.intro
namespace Mine
local macro_rules | `(tactic| walk_at "getAttr") => `(tactic| (k_here; (with_reducible show wpAny _ _ (getAttr (Value.type _) _ _) _ _ _); k_dflt (refine' attr_type ?F ?X ?t ?s ?e ?q ?_; (case F => k_asm); (case X => k_asm); (case t => decide +kernel); (case s => decide +kernel); (case e => k_is); (case q => k_handed); k_whole)))
theorem two_of {l : List (Str × Tok)} {a b : Str} (h : l.map (·.1) = [a, b]) : ∃ ta tb, l = [(a, ta), (b, tb)] := by
  match l, h with
  | [(a', ta), (b', tb)], h =>
    simp only [List.map_cons, List.map_nil, List.cons.injEq, and_true] at h
    obtain ⟨rfl, rfl⟩ := h
    exact ⟨_, _, rfl⟩
theorem two_items {acc : Array Value} {a b : Str} {ta tb : Tok} (h : ItemsOf (StripAt #[.str a ta, .str b tb]) acc 2) : ∃ t1 t2, acc.toList = [.str (Txt.strip a) t1, .str (Txt.strip b) t2] := by
  obtain ⟨l⟩ := acc
  obtain ⟨h1, h2⟩ := h
  match l, h1, h2 with
  | [v, v'], _, h2 =>
    obtain ⟨_, _, t1, e, rfl⟩ := h2 0 v rfl
    obtain ⟨_, _, t2, e', rfl⟩ := h2 1 v' rfl
    cases e; cases e'
    exact ⟨t1, t2, rfl⟩
theorem parse_spec {w : World} {p : Program} {loose : List Str} {mean : ExcName → Option Value} {mg mb : Str → Option Value} {gd : Option (List Code)} {fr : Option (List Env)} {s : Shared} {x : Str} {tk : Tok} {R : Result → Shared → Prop} {n : Nat} :
    (hd.heap_1 w.params).In s.heap → Top p loose mean mg mb s.heap → x.length ≤ 10 → EqAt x n → SignsOk x →
    (∀ T dx ta tb h' tk', (∀ b o, s.heap.get? b = some o → h'.get? b = some o) → s.heap.get? T = none →
      h'.get? T = some { cls := .ref 203, dict := some dx, data := .seq #[.str (firstF x n) ta, .str (secondF x n) tb] } → s.heap.get? dx = none → h'.get? dx = some emptyDict → R (.ok (.ret (.ref T))) { s with heap := h', toks := tk' }) →
    codeAny (model PySem.Challenge.rw_in0008_01.row.prog w) ⟨none, 450, fr, gd, 500⟩ (.call (.ref 197) ⟨[.ref 203, .str x tk], []⟩) R s := by
  k_fill
  intro X T hlen hat hsg hret
  k_dflt (refine' pure_call ?kX ?kT ?ho ?hcd ?room ?bind ?loc ?_ ?c2 ?c3 ?c4 ?c5; (case kX => assumption); (case kT => assumption); (case ho => k_is); (case hcd => k_is); (case room => exact Nat.le_of_ble_eq_true rfl); (case bind => exact BindsTo.of_eq rfl); (case loc => exact locs rfl); (case c2 => exact rfl); (case c3 => exact rfl); (case c4 => exact rfl); (case c5 => decide); k_whole)
  intro L' h' F' N'
  dsimp only
  k_fold
  k_steps
  · rename_i l h₁ tk₁ hp _ _ hl F₁ N₁
    obtain ⟨ta, tb, rfl⟩ := two_of (hp.trans (partsMax hat))
    have hls := News_get N₁ (.head _)
    have X₁ := X.keeps F₁.keep
    refine wpAny_lower (D := 500) (U := 600) (map_make X₁ hls ⟨fun M tp it h₂ k hM hT hit hn n1 n2 => ?_⟩) rfl (Nat.le_of_ble_eq_true rfl) (Nat.le_of_ble_eq_true rfl)
    have z1 : (subL x 0 n).length ≤ sizeLine := by have := sub_len x 0 n; rw [sizeLine_eq]; omega
    have z2 : (subL x (n + 1) x.length).length ≤ sizeLine := by have := sub_len x (n + 1) x.length; rw [sizeLine_eq]; omega
    refine star_map hM (And.intro rfl (collect_map (items := #[.str (subL x 0 n) ta, .str (subL x (n + 1) x.length) tb]) rfl n1 n2 (fun q => ?_) ?_ (by rw [sizeLine_eq]; exact Nat.le_of_ble_eq_true rfl) hM hT hit ⟨_, k _ _ hls, rfl, _, rfl⟩ fun h₃ tk₃ acc k₃ hI => ?_))
    · exact absurd (hls.symm.trans ((congrArg h₁.get? q).trans hn)) (fun e => by cases e)
    · intro i v hv
      match i, hv with
      | 0, hv => cases hv; exact ⟨_, _, rfl, z1⟩
      | 1, hv => cases hv; exact ⟨_, _, rfl, z2⟩
    · obtain ⟨t1, t2, e⟩ := two_items hI
      rw [e, strip_trim (sub_signs hsg _ _), strip_trim (sub_signs hsg _ _)]
      have kk : ∀ b o, s.heap.get? b = some o → h₃.get? b = some o := fun b o e => by
        have e1 := F₁.keep b o e
        refine k₃ b o (fun q => ?_) (k b o e1)
        rw [q, show h₁.get? it = none from hn] at e1; cases e1
      refine And.intro (X.keeps kk) ?_
      refine wpAny_call (codeAny_lower (D := 460) (U := 520) (pair_make (X.keeps kk) (T.keeps kk) fun O dx h' tk' k' hn' ho hdn hde => ?_) rfl (Nat.le_of_ble_eq_true rfl) (Nat.le_of_ble_eq_true rfl))
      exact hret O dx _ _ h' tk' (fun b o e => k' b o (kk b o e)) (fresh_back kk hn') ho (fresh_back kk hdn) hde
  k_with_none
end Mine
end
section
open PySem PySem.W PyProof.Rows PySem.Calls
set_option maxRecDepth 100000
theorem Mine.calm_R5 : True := by
  w_top off
  k_with_none
  exact True.intro
namespace Mine
section
variable {prog : Program} {w : World} {A : Around} {s : Shared} {K : Frag} {p : Program} {loose : List Str} {mean : ExcName → Option Value} {mg mb : Str → Option Value}
  {R : Result → Shared → Prop} {name qual : Str} {params : Arguments} {body : List Stmt} {scope : Scope} {dV kV doc pm cdv ct oc : Value} {an od : Option Addr} {osl : Array (Option Value)} {f cc : Addr} {args : Args} {binds : List (Str × Value)}
theorem pure_callS (X : K.In s.heap) (T : Top p loose mean mg mb s.heap)
    (ho : K.lookup f = some ⟨oc, od, .func (ksFn name qual params body scope dV kV doc pm an cdv ct cc), osl⟩) (hcd : codeIn K cdv qual = true) (hroom : A.depth < recursionLimit)
    (hbind : BindsTo s (ksFn name qual params body scope dV kV doc pm an cdv ct cc) args binds) (hloc : ∀ y ∈ binds, scope.names.lookup y.1 = some .local)
    (h : ∀ L' h₁, Fr s.heap L' h₁ (fun y => binds.reverse.lookup y) → News s.heap L' h₁ [] →
      PySem.wpAt (model prog w) (A.deeper (ksEnv qual scope L' f cdv cc)) (.func body (ksEnv qual scope L' f cdv cc)) (execs body (ksEnv qual scope L' f cdv cc))
        (fun fl s' => R (.ok (.ret (match fl with | .ret v => v | _ => .none))) s')
        (fun e s' => wpAny (model prog w) (A.deeper (ksEnv qual scope L' f cdv cc)) (leaving (ksEnv qual scope L' f cdv cc) e) (fun _ s'' => R (.error e) s'') (fun e' s'' => R (.error e') s'') s')
        { s with heap := h₁, toks := s.toks + binds.length })
    (hco : scope.isCoroutine = false) (hgen : scope.isGenerator = false) (hk : scope.kind = .function)
    (hcell : ∀ x ∈ scope.names, x.2 ≠ .cell) : codeAny (model prog w) A (.call (.ref f) args) R s := by
  refine ks_codeAny_call_defAt (fd := ksFn name qual params body scope dV kV doc pm an cdv ct cc) (body := body) (binds := binds) hroom (X _ _ ho) rfl T.nolimit (codeRec_of X hcd) rfl hbind hcell hloc (fun h₁ hns hk₁ => ?_) hco hgen hk
  exact h s.heap.objs.size h₁ ⟨hns, hk₁, Nat.le_refl _⟩ News.nil
end
section
variable {prog : Program} {w : World} {A : Around} {c : Code} {E : Value → Shared → Prop} {s : Shared} {env : Env}
theorem at_CallCall {M : Model} {g : Expr} {gargs args : List Expr} {gp pos : Pos} {Q : Value → Shared → Prop}
    (h : PySem.wpAt M A c (eval (.Call g gargs [] gp) env) (fun f s₁ => wpAny M A (callWith pos f [] (backTo pos (starEach args env)) []) Q E s₁) E s)
    (he : eval (.Call (.Call g gargs [] gp) args [] pos) env = (do
      let f ← eval (.Call g gargs [] gp) env
      callWith pos f [] (backTo pos (starEach args env)) []) := by rfl) : PySem.wpAt M A c (eval (.Call (.Call g gargs [] gp) args [] pos) env) Q E s := by
  rw [he]
  exact PySem.wpAt_bind (PySem.wpAt_mono h (fun _ _ h₁ => PySem.wpAt_of_wpAny h₁) fun _ _ x => x)
theorem at_Attr {o : Expr} {attr : Str} {ap : Pos} {Q : Value → Shared → Prop}
    (h : PySem.wpAt (model prog w) A c (attributeBase o attr env (eval o env)) (fun so s₁ => wpAny (model prog w) A (getAttr so attr true) Q E s₁) E s)
    (he : eval (.Attribute o attr ap) env = (do
      let o' ← attributeBase o attr env (eval o env)
      standAt ap.atName
      let r ← holding [o'] (getAttr o' attr true)
      letTemporaryGo o o' r
      pure r) := by rfl) : PySem.wpAt (model prog w) A c (eval (.Attribute o attr ap) env) Q E s := by
  rw [he]
  refine PySem.wpAt_bind (PySem.wpAt_mono h (fun so s₁ h₁ => PySem.wpAt_of_wpAny (wpAny_bind (wpAny_standAt (wpAny_bind (wpAny_holding (wpAny_mono h₁ (fun r s₂ h₂ => ?_) fun _ _ x => x)))))) fun _ _ x => x)
  exact wpAny_bind (wpAny_letTemporaryGo (wpAny_pure h₂))
theorem at_evalArgs3 {M : Model} {f : Value} {x0 x1 x2 : Sem Value} {Q : Args → Shared → Prop}
    (h : wpAny M A x0 (fun v0 s₂ => wpAny M A x1 (fun v1 s₃ => PySem.wpAt M A c x2 (fun v2 s₄ => Q ⟨[v0, v1, v2], []⟩ s₄) E s₃) E s₂) E s) :
    PySem.wpAt M A c (evalArgs f true [(false, x0), (false, x1), (false, x2)] []) Q E s := by
  unfold evalArgs
  show PySem.wpAt M A c (spliced [(false, x0), (false, x1), (false, x2)] >>= _) Q E s
  refine PySem.wpAt_bind ?_
  rw [spliced]
  refine PySem.wpAt_bind (PySem.wpAt_of_wpAny (wpAny_mono h (fun v0 s₂ h₂ => ?_) fun _ _ x => x))
  refine PySem.wpAt_bind (PySem.wpAt_of_wpAny (wpAny_pure ?_))
  refine PySem.wpAt_bind (ks_wpAt_holding ?_)
  rw [spliced]
  refine PySem.wpAt_bind (PySem.wpAt_of_wpAny (wpAny_mono h₂ (fun v1 s₃ h₃ => ?_) fun _ _ x => x))
  refine PySem.wpAt_bind (PySem.wpAt_of_wpAny (wpAny_pure ?_))
  refine PySem.wpAt_bind (ks_wpAt_holding ?_)
  rw [spliced]
  refine PySem.wpAt_bind (PySem.wpAt_mono h₃ (fun v2 s₄ h₄ => ?_) fun _ _ x => x)
  refine PySem.wpAt_bind (PySem.wpAt_of_wpAny (wpAny_pure ?_))
  refine PySem.wpAt_bind (ks_wpAt_holding ?_)
  rw [spliced]
  repeat (refine PySem.wpAt_of_wpAny (wpAny_pure ?_))
  refine ks_wpAt_holding (PySem.wpAt_of_wpAny ?_)
  exact wpAny_bind (wpAny_pure (wpAny_bind (wpAny_pure (wpAny_pure h₄))))
theorem at_Call3 {M : Model} {a0 a1 a2 : Expr} {gp pos : Pos} {gn : Str} {id : String} {Q : Value → Shared → Prop}
    (h : wpAny M A (eval (.Name gn gp) env) (fun f s₁ => f = .builtin id ∧ wpAny M A (eval a0 env) (fun v0 s₂ => wpAny M A (eval a1 env) (fun v1 s₃ => PySem.wpAt M A c (eval a2 env) (fun v2 s₄ =>
      wpAny M A (call (.builtin id) [v0, v1, v2]) Q E s₄) E s₃) E s₂) E s₁) E s)
    (h0 : backTo pos (starEach [a0, a1, a2] env) = [(false, eval a0 env), (false, eval a1 env), (false, eval a2 env)] := by rfl)
    (he : eval (.Call (.Name gn gp) [a0, a1, a2] [] pos) env = (do
      let f ← eval (.Name gn gp) env
      callWith pos f [] (backTo pos (starEach [a0, a1, a2] env)) []) := by rfl) : PySem.wpAt M A c (eval (.Call (.Name gn gp) [a0, a1, a2] [] pos) env) Q E s := by
  rw [he, h0]
  refine PySem.wpAt_bind (PySem.wpAt_of_wpAny (wpAny_mono h (fun f s₁ h₁ => ?_) fun _ _ x => x))
  obtain ⟨rfl, h₁⟩ := h₁
  unfold callWith
  refine PySem.wpAt_bind (ks_wpAt_holding (at_evalArgs3 (wpAny_mono h₁ (fun v0 s₂ h₂ => wpAny_mono h₂ (fun v1 s₃ h₃ => PySem.wpAt_mono h₃ (fun v2 s₄ h₄ => ?_) fun _ _ x => x) fun _ _ x => x) fun _ _ x => x)))
  refine PySem.wpAt_of_wpAny (wpAny_bind (wpAny_standAt ?_))
  simp only [List.any_cons, List.any_nil, Bool.or_false]
  refine wpAny_bind (wpAny_pure ?_)
  exact wpAny_bind (wpAny_mono h₄ (fun r s₂ hr => wpAny_bind (wpAny_holding (wpAny_point (wpAny_pure hr)))) fun _ _ x => x)
theorem at_Call3' {M : Model} {a0 a1 a2 : Expr} {gp pos : Pos} {gn : Str} {id : String} {vB : Value} {nm : Str} {Q : Value → Shared → Prop}
    (h1 : wpAny M A (eval (.Name gn gp) env) (fun f s₁ => f = .builtin id ∧ wpAny M A (eval a0 env) (fun v0 s₂ => wpAny M A (eval a1 env) (fun v1 s₃ => v0 = vB ∧ (∃ t, v1 = .str nm t) ∧ ∃ tk, s₃ = { s with toks := tk }) E s₂) E s₁) E s)
    (h2 : ∀ t tk, PySem.wpAt M A c (eval a2 env) (fun v2 s₄ => wpAny M A (call (.builtin id) [vB, .str nm t, v2]) Q E s₄) E { s with toks := tk })
    (h0 : backTo pos (starEach [a0, a1, a2] env) = [(false, eval a0 env), (false, eval a1 env), (false, eval a2 env)] := by rfl)
    (he : eval (.Call (.Name gn gp) [a0, a1, a2] [] pos) env = (do
      let f ← eval (.Name gn gp) env
      callWith pos f [] (backTo pos (starEach [a0, a1, a2] env)) []) := by rfl) : PySem.wpAt M A c (eval (.Call (.Name gn gp) [a0, a1, a2] [] pos) env) Q E s := by
  refine at_Call3 (id := id) (wpAny_mono h1 (fun f s₁ h => ⟨h.1, wpAny_mono h.2 (fun v0 s₂ h => wpAny_mono h (fun v1 s₃ h => ?_) fun _ _ x => x) fun _ _ x => x⟩) fun _ _ x => x) h0 he
  obtain ⟨rfl, ⟨t, rfl⟩, tk, rfl⟩ := h
  exact h2 t tk
theorem callWith_1 {M : Model} {P : Heap → Prop} {f : Value} {e : Expr} {pos : Pos} {Q : Value → Shared → Prop} (hk : ∀ h, P h → ∃ k, (k = Keeper.frame ∨ k = Keeper.machine ∨ k = Keeper.boundFrame) ∧ Looks M h (keeperOf f) k)
    (h : wpAny M A (eval e env) (fun v s₁ => P s₁.heap ∧ wpAny M A (call f [v]) Q E s₁) E s) (h0 : backTo pos (starEach [e] env) = [(false, eval e env)] := by rfl) :
    wpAny M A (callWith pos f [] (backTo pos (starEach [e] env)) []) Q E s := by
  rw [h0]
  refine callWith_of (P := P) rfl hk (Calls.evalArgs_plain ?_)
  rw [spliced]
  refine wpAny_bind (wpAny_mono h (fun v s₁ h₁ => ?_) fun _ _ x => x)
  refine wpAny_bind (wpAny_pure (wpAny_bind (wpAny_holding ?_)))
  rw [spliced]
  exact wpAny_pure (wpAny_pure h₁)
theorem keep_fn {M : Model} {f : Addr} {fd : FuncData} (h : Heap) (e : h.get? f = some ⟨.type "function", none, .func fd, #[]⟩) : ∃ k, (k = Keeper.frame ∨ k = Keeper.machine ∨ k = Keeper.boundFrame) ∧ Looks M h (keeperOf (.ref f)) k :=
  ⟨.frame, .inl rfl, (Looks.ld (part := none) e).andThen .now⟩
theorem keep_bm {M : Model} {f : Addr} {vs : Array Value} (h : Heap) (e : h.get? f = some ⟨.type "builtin_function_or_method", none, .fields vs, #[]⟩) : ∃ k, (k = Keeper.frame ∨ k = Keeper.machine ∨ k = Keeper.boundFrame) ∧ Looks M h (keeperOf (.ref f)) k :=
  ⟨.machine, .inr (.inl rfl), (Looks.ld (part := none) e).andThen .now⟩
end
end Mine
end
section
open PySem PySem.W PyProof.Rows PySem.Calls Builtin Builtin.ObjectAttr
set_option maxRecDepth 100000
theorem Mine.calm_R6 : True := by
  w_top off
  k_with_none
  exact True.intro
namespace Mine
theorem args_getattr_3 (a b c : Value) : argsOk "getattr" ⟨[a, b, c], []⟩ := by unfold argsOk; kernel_rfl
section
variable {prog : Program} {w : World} {A : Around} {s : Shared} {K : Frag} {E : Value → Shared → Prop} {Q : Value → Shared → Prop} {x C : Addr} {ox : Obj} {od : Option Obj} {name : Str} {tk : Tok} {dflt : Value}
theorem getattr3_open (X : K.In s.heap) (I : InstAt s.heap x ox C od) (hm : mroIn K C (.type "module") = some false) (hn : (name == ("get_source" : Str)) = false)
    (h : wpAny (model prog w) A.in1 (getAttrBy? (.ref x) (.str name tk)) (fun r s' => Q (r.getD dflt) s') E s) : wpAny (model prog w) A (call (.builtin "getattr") [.ref x, .str name tk, dflt]) Q E s := by
  refine Calls.call_function_entry KB.kind_getattr KB.plain_getattr KB.entry_getattr (args_getattr_3 _ _ _) ?_
  obtain ⟨hh, g, d, t, os⟩ := s
  have L0 := I.type (M := model prog w)
  have L1 := looks_mroIn (M := model prog w) X hm
  dsimp only at L0 L1
  unfold Builtin.«getattr»
  refine wpAny_bind (wpAny_of_eq (a := [.ref x, .str name tk, dflt]) (by first | rfl | kernel_rfl) ?_)
  dsimp only
  refine wpAny_bind (wpAny_of_eq (a := ()) (by first | rfl | kernel_rfl) ?_)
  refine wpAny_bind (wpAny_of_eq (a := none) ?_ ?_)
  · show (if (name != ("get_source" : Str)) = true then _ else _) = _
    rw [if_pos (by simp [bne, hn])]
  repeat ((fail_if_success (with_reducible show wpAny _ _ (getAttrBy? _ _) _ _ _)); lk)
  refine wpAny_mono h (fun r s' hq => ?_) fun _ _ e => e
  cases r with
  | some v => exact wpAny_pure ⟨_, rfl, hq⟩
  | none => exact wpAny_pure ⟨_, rfl, hq⟩
theorem own_open {i T : String} {r : Value} {fill expr : Bool} (S : Slot T "__getattribute__" i) (hent : entryFor table i = some Builtin.«object.__getattribute__») (hk : builtinKind i = some .slot) (hsp : splitId i = some (T, "__getattribute__")) (ha : ∀ a b, argsOk i ⟨[a, b], []⟩)
    (hne : (Value.builtin i == Value.builtin "object.__getattribute__") = false) (X : K.In s.heap) (I : InstAt s.heap x ox C od) (hga : findIn K (.ref C) "__getattribute__" = some (some (.builtin i))) (hg : findIn K (.ref C) "__getattr__" = some none) (hT : mroIn K C (.type T) = some true)
    (h : wpAny (model prog w) A.in1 (Builtin.«object.__getattribute__» ⟨[.ref x, .str name tk], []⟩) (fun fin s' => match fin with | .done (.ret v) => wpAny (model prog w) A (handedOut v) Q E s' | _ => False)
      (fun e s' => wpAny (model prog w) A (getattributeRaised (.ref x) (.str name tk) (.ref C) e none fill expr) Q E s') s) :
    wpAny (model prog w) A (getAttrBy (.ref x) (.str name tk) fill expr) Q E s := by
  obtain ⟨hp, g, d, t, os⟩ := s
  have L0 := I.type (M := model prog w)
  have L1 := looks_findIn (M := model prog w) X hga
  have L3 := looks_findIn (M := model prog w) X hg
  dsimp only at L0 L1 L3
  have L4 : Looks (model prog w) hp (isInstance (.ref x) (.type T)) true := L0.andThen (looks_mroIn X hT)
  unfold getAttrBy
  refine wpAny_holding (wpAny_bind (L0.at (wpAny_bind (L1.at ?_))))
  dsimp only
  rw [hne, Bool.and_false, if_neg (by decide)]
  unfold getAttrByItsOwn hookBefore callGetattribute boundAndCalled
  refine wpAny_bind (L3.at ?_)
  refine wpAny_bind (wpAny_attempt (wpAny_holding ?_))
  rw [show (expr && onTheHeap (Value.builtin i)) = false from Bool.and_false _, if_neg (by decide), S.bind]
  refine wpAny_bind (wpAny_pure (wpAny_call (codeAny_call_builtin S.plain hent (check_slot (s := ⟨hp, g, d, t, os⟩) hk hsp L4 (ha _ _) (wpAny_mono h (fun fin s' z => ?_) fun _ _ z => z)))))
  rcases fin with (_ | _ | _ | _) | _ <;> first | exact z | exact z.elim
theorem oga_run {r : Found} {QF : Fin → Shared → Prop} (X : K.In s.heap) (I : InstAt s.heap x ox C od) (hf : findObj K C od name = some r)
    (h : wpAny (model prog w) A (match r with | .value v => ret v | .bind g a => bindTo g a (.ref x) (.ref C) | .missing => noSuchAttribute (.ref x) name) QF E s) :
    wpAny (model prog w) A (Builtin.«object.__getattribute__» ⟨[.ref x, .str name tk], []⟩) QF E s := by
  obtain ⟨hp, g, d, t, os⟩ := s
  have L0 := I.type (M := model prog w)
  have L2 := looks_find (M := model prog w) X I hf
  dsimp only at L0 L2
  unfold Builtin.«object.__getattribute__»
  refine wpAny_bind (wpAny_of_eq (a := (.ref x, [.str name tk])) (by rfl) (wpAny_bind (wpAny_of_eq (a := name) (by rfl) (wpAny_bind (L0.at (wpAny_bind (L2.at ?_)))))))
  cases r with
  | value v => exact h
  | bind g a => exact h
  | missing => exact h
theorem name_cut {cd : ClassData} (X : K.In s.heap) (I : InstAt s.heap x ox C od) (hcd : clsIn K C = some cd) (hnl : (decide (cd.name.cps.foldl (fun k c => k + (Str.utf8Of c).length) 0 ≤ 100)) = true) : Looks (model prog w) s.heap (typeNameOfCut 100 (.ref x)) cd.name.toString := by
  have L0 := I.type (M := model prog w)
  unfold typeNameOfCut shownTypeOf
  refine Looks.andThen (a := .ref C) ?_ ?_
  · exact L0.andThen (by
      show Looks _ _ (if (Value.ref C == Value.type "builtin_function_or_method") = true then _ else _) _
      rw [if_neg (by simp)]
      exact .now)
  · refine (looks_clsIn X hcd).andThen ?_
    dsimp only
    rw [if_pos (of_decide_eq_true hnl)]
    exact .now
end
theorem slot_dd_ga : Slot "collections.defaultdict" "__getattribute__" "collections.defaultdict.__getattribute__" :=
  .of (owner := "collections.defaultdict") (n := "__getattribute__") (by rw [typeLookup_type, builtinLookup_eq_fast]; kernel_rfl) (by decide +kernel) (by decide +kernel) (by decide +kernel)
    (by first | exact .inl (by decide +kernel) | exact .inr (by decide +kernel)) (by rw [isSubtype_type]; kernel_rfl)
theorem entry_dd_ga : entryFor table "collections.defaultdict.__getattribute__" = some Builtin.«object.__getattribute__» :=
  entryFor_alias (id' := "object.__getattribute__") (by kernel_rfl) (by decide +kernel) (by decide +kernel) (by kernel_rfl)
theorem args_dd_ga (a b : Value) : argsOk "collections.defaultdict.__getattribute__" ⟨[a, b], []⟩ := by unfold argsOk; kernel_rfl
theorem kind_dd_ga : builtinKind "collections.defaultdict.__getattribute__" = some .slot := by decide +kernel
theorem split_dd_ga : splitId "collections.defaultdict.__getattribute__" = some ("collections.defaultdict", "__getattribute__") := by decide +kernel
theorem ne_dd_ga : (Value.builtin "collections.defaultdict.__getattribute__" == Value.builtin "object.__getattribute__") = false := by decide +kernel
theorem kind_tp_ga : builtinKind "tuple.__getattribute__" = some .slot := by decide +kernel
theorem split_tp_ga : splitId "tuple.__getattribute__" = some ("tuple", "__getattribute__") := by decide +kernel
theorem ne_tp_ga : (Value.builtin "tuple.__getattribute__" == Value.builtin "object.__getattribute__") = false := by decide +kernel
section
variable {prog : Program} {w : World} {A : Around} {s : Shared} {K : Frag} {E : Value → Shared → Prop} {Q : Value → Shared → Prop} {x C : Addr} {ox : Obj} {od : Option Obj} {name : Str} {tk : Tok} {dflt : Value}
theorem dd_open {fill expr : Bool} (X : K.In s.heap) (I : InstAt s.heap x ox C od) (hga : findIn K (.ref C) "__getattribute__" = some (some (.builtin "collections.defaultdict.__getattribute__"))) (hg : findIn K (.ref C) "__getattr__" = some none) (hT : mroIn K C (.type "collections.defaultdict") = some true)
    (h : wpAny (model prog w) A.in1 (Builtin.«object.__getattribute__» ⟨[.ref x, .str name tk], []⟩) (fun fin s' => match fin with | .done (.ret v) => wpAny (model prog w) A (handedOut v) Q E s' | _ => False)
      (fun e s' => wpAny (model prog w) A (getattributeRaised (.ref x) (.str name tk) (.ref C) e none fill expr) Q E s') s) :
    wpAny (model prog w) A (getAttrBy (.ref x) (.str name tk) fill expr) Q E s := own_open (r := .none) slot_dd_ga entry_dd_ga kind_dd_ga split_dd_ga args_dd_ga ne_dd_ga X I hga hg hT h
theorem tp_open {fill expr : Bool} (X : K.In s.heap) (I : InstAt s.heap x ox C od) (hga : findIn K (.ref C) "__getattribute__" = some (some (.builtin "tuple.__getattribute__"))) (hg : findIn K (.ref C) "__getattr__" = some none) (hT : mroIn K C (.type "tuple") = some true)
    (h : wpAny (model prog w) A.in1 (Builtin.«object.__getattribute__» ⟨[.ref x, .str name tk], []⟩) (fun fin s' => match fin with | .done (.ret v) => wpAny (model prog w) A (handedOut v) Q E s' | _ => False)
      (fun e s' => wpAny (model prog w) A (getattributeRaised (.ref x) (.str name tk) (.ref C) e none fill expr) Q E s') s) :
    wpAny (model prog w) A (getAttrBy (.ref x) (.str name tk) fill expr) Q E s := own_open (r := .none) F.slot_tuple_getattribute am_entry_tuple_getattribute kind_tp_ga split_tp_ga F.args_tuple_getattribute_2 ne_tp_ga X I hga hg hT h
theorem getattr3_hit {v : Value} (X : K.In s.heap) (I : InstAt s.heap x ox C od) (hm : mroIn K C (.type "module") = some false) (hn : (name == ("get_source" : Str)) = false)
    (hga : findIn K (.ref C) "__getattribute__" = some (some (.builtin "collections.defaultdict.__getattribute__"))) (hg : findIn K (.ref C) "__getattr__" = some none) (hT : mroIn K C (.type "collections.defaultdict") = some true)
    (hf : findObj K C od name = some (.value v)) (hh : handedIn v = true) (h : Q v s) : wpAny (model prog w) A (call (.builtin "getattr") [.ref x, .str name tk, dflt]) Q E s := by
  refine getattr3_open X I hm hn ?_
  unfold getAttrBy?
  refine wpAny_bind (wpAny_attempt (dd_open X I hga hg hT (oga_run X I hf (wpAny_pure ?_))))
  show wpAny _ _ (handedOut v) _ _ _
  rw [handedOut_of hh]
  exact wpAny_pure (wpAny_pure h)
theorem getattr3_miss {cd : ClassData} (X : K.In s.heap) (I : InstAt s.heap x ox C od) (hcd : clsIn K C = some cd) (hnl : (decide (cd.name.cps.foldl (fun k c => k + (Str.utf8Of c).length) 0 ≤ 100)) = true) (hml : ((s!"'{cd.name.toString}' object has no attribute '" : Str) ++ name ++ "'").length ≤ sizeLine)
    (hm : mroIn K C (.type "module") = some false) (hn : (name == ("get_source" : Str)) = false) (hA : A.handled = none)
    (hga : findIn K (.ref C) "__getattribute__" = some (some (.builtin "collections.defaultdict.__getattribute__"))) (hg : findIn K (.ref C) "__getattr__" = some none) (hT : mroIn K C (.type "collections.defaultdict") = some true)
    (hf : findObj K C od name = some .missing) (h : ∀ h' tk, (∀ b o, s.heap.get? b = some o → h'.get? b = some o) → Q dflt { s with heap := h', toks := tk }) : wpAny (model prog w) A (call (.builtin "getattr") [.ref x, .str name tk, dflt]) Q E s := by
  refine getattr3_open X I hm hn ?_
  unfold getAttrBy?
  refine wpAny_bind (wpAny_attempt (dd_open X I hga hg hT (oga_run X I hf ?_)))
  dsimp only
  unfold noSuchAttribute
  obtain ⟨hp, g, d, t, os⟩ := s
  refine wpAny_bind ((name_cut (prog := prog) (w := w) X I hcd hnl).at ?_)
  refine wpAny_raiseAttrError hA (fun h' tk' e hx => ?_) hml
  unfold getattributeRaised
  have hi : ({ heap := h', gens := g, drawn := d, toks := tk', os := os } : Shared).TypeIs (.ref e) "AttributeError" := by
    obtain ⟨t', u', he⟩ := hx.there
    exact ⟨_, he, rfl⟩
  refine wpAny_bind (wpAny_isInstance (T := "AttributeError") (b := true) hi sub_AttributeError ?_)
  refine wpAny_bind (wpAny_pure ?_)
  refine wpAny_throw ?_
  refine wpAny_bind (wpAny_isInstance (T := "AttributeError") (b := true) hi sub_AttributeError ?_)
  exact wpAny_pure (h h' tk' hx.keeps)
end
end Mine
end
section
open PySem PySem.W PyProof.Rows PySem.Calls
set_option maxRecDepth 100000
set_option maxHeartbeats 400000
theorem Mine.calm_R11 : True := by
  w_top off
  k_with_none
  exact True.intro
namespace Mine
theorem tup_item {prog : Program} {w : World} {A : Around} {h : Heap} {g : Array GenState} {d : Drawn} {t : Nat} {os : OsState} {l : Addr} {cl : Value} {od : Option Addr} {items : Array Value} {n : Nat} {sl : Array (Option Value)} {i : Int} {u : Tok} {k : Nat} {y : Value} {Q : Fin → Shared → Prop} {E : Value → Shared → Prop}
    (hl : h.get? l = some ⟨cl, od, .seq items n, sl⟩) (hi : 0 ≤ i ∧ i < 2 ^ 62) (hk : seqIndex? i items.size = some k) (hy : items[k]? = some y) (q : Q (.done (.ret y)) ⟨h, g, d, t, os⟩) :
    wpAny (model prog w) A (Builtin.«tuple.__getitem__» ⟨[.ref l, .int i u], []⟩) Q E ⟨h, g, d, t, os⟩ := by
  have f1 := AutoSeq1.idx_int
  have no : ¬ (decide (i < -2 ^ 63) || decide (i ≥ 2 ^ 63)) = true := by simp; omega
  wp_walk using wpAny_loadPart' hl
  rw [if_neg no]
  simp only [hk, hy, Option.bind_some]
  exact wpAny_pure q
end Mine
end
section
open PySem PySem.W PySem.W.X PyProof.Rows PySem.Calls
set_option maxRecDepth 100000
set_option maxHeartbeats 8000000
theorem Mine.calm_X3 : True := by
  w_top off
  k_with_none
  exact True.intro
namespace Mine
noncomputable abbrev pairO (d : Addr) (x y : Str) (tx ty : Tok) : Obj := ⟨.ref 203, some d, .seq #[.str x tx, .str y ty] 0, #[]⟩
section
local macro_rules | `(tactic| x_close) => `(tactic| (rename Then _ => hQ9; exact hQ9.go))
variable {w : World} {gd : Option (List Code)} {fr : Option (List Env)} {h : Heap} {g : Array GenState} {d : Drawn} {t : Nat} {os : OsState} {l dx : Addr} {a b : Str} {ta tb tk : Tok} {Q E : Value → Shared → Prop}
theorem xtype :
    (hd.heap_1 w.params).In h → h.get? l = some ⟨.ref 203, some dx, .seq #[.str a ta, .str b tb] 0, #[]⟩ → Then (Q (.ref 203) ⟨h, g, d, t, os⟩) →
    wpAny (model PySem.Challenge.rw_in0008_01.row.prog w) ⟨none, 500, fr, gd, 600⟩ (call (.type "type") [.ref l]) Q E ⟨h, g, d, t, os⟩ := by
  k_fill
  intro X hl hQ
  x_run
theorem xsub :
    (hd.heap_1 w.params).In h → Then (Q (.bool true) ⟨h, g, d, t, os⟩) →
    wpAny (model PySem.Challenge.rw_in0008_01.row.prog w) ⟨none, 500, fr, gd, 600⟩ (call (.builtin "issubclass") [.ref 203, .type "tuple"]) Q E ⟨h, g, d, t, os⟩ := by
  k_fill
  intro X hQ
  x_run
end
end Mine
end
section
open PySem PySem.W PyProof.Rows PySem.Calls
set_option maxRecDepth 100000
set_option maxHeartbeats 1000000
theorem Mine.calm_X4 : True := by
  w_top off
  k_with_none
  exact True.intro
namespace Mine
theorem tgi1 (K : Frag) : findIn K (.type "type") "__getitem__" = some none := by kernel_rfl
theorem tgi2 (K : Frag) : findIn K (.type "tuple") "__getitem__" = some (some (.builtin "tuple.__getitem__")) := by kernel_rfl
theorem tgi3 : PySem.Builtin.heldUnderItsOwnName "__getitem__" (.builtin "tuple.__getitem__") = false := by decide +kernel
theorem tgi4 (K : Frag) : typeIn K (.builtin "tuple.__getitem__") = some (.type "wrapper_descriptor") := by kernel_rfl
theorem tgi5 : bareKinds.contains (.type "wrapper_descriptor") = true := by decide +kernel
theorem find_tgi (K : Frag) : findCls K (.type "tuple") (.type "type") "__getitem__" = some (.val (.builtin "tuple.__getitem__")) := by
  unfold findCls
  rw [tgi1 K, tgi2 K]
  simp only [Option.bind_some, tgi3, tgi4, tgi5, if_true, Bool.false_eq_true, if_false]
theorem tgi6 : handedIn (.builtin "tuple.__getitem__") = true := by decide +kernel
theorem tgi7 : typeOf (.type "tuple") = pure (.type "type") := kitMeta_of (by decide +kernel)
theorem tgi8 : Manifest.isStub "tuple" = false := by decide +kernel
theorem meth_tgi {prog : Program} {w : World} {A : Around} {E : Value → Shared → Prop} {s : Shared} {K : Frag} {h₀ : Heap} {L : Addr} {m : Str → Option Value} {pl : Sem Bool} {Q : Value × List Value → Shared → Prop} (F : Fr h₀ L s.heap m) (X₀ : K.In h₀) (h : Q (.builtin "tuple.__getitem__", []) { s with toks := s.toks + 1 }) :
    wpAny (model prog w) A (getMethod (.type "tuple") (Str.ofString "__getitem__") pl) Q E s :=
  method_type (T := "tuple") (name := Str.ofString "__getitem__") (v := .builtin "tuple.__getitem__") F X₀ tgi7 tgi8 (find_tgi K) tgi6 h
theorem kind_tgi : builtinKind "tuple.__getitem__" = some .slot := by decide +kernel
theorem split_tgi : splitId "tuple.__getitem__" = some ("tuple", "__getitem__") := by decide +kernel
section
variable {w : World} {A : Around} {s : Shared} {l dx : Addr} {a b : Str} {ta tb tk : Tok} {R : Result → Shared → Prop}
theorem pair_tup : (hd.heap_1 w.params).In s.heap → s.heap.get? l = some (pairO dx a b ta tb) → Looks (model PySem.Challenge.rw_in0008_01.row.prog w) s.heap (isInstance (.ref l) (.type "tuple")) true := by
  intro X hl
  have L0 : Looks (model PySem.Challenge.rw_in0008_01.row.prog w) s.heap (typeOf (.ref l)) (.ref 203) := (Looks.ld hl).andThen .now
  exact L0.andThen (looks_mroIn X (by kernel_rfl))
theorem pair_item {i : Int} {k : Nat} {v : Value} (hi : 0 ≤ i ∧ i < 2 ^ 62) (hk : seqIndex? i (#[Value.str a ta, .str b tb]).size = some k) (hy : (#[Value.str a ta, .str b tb])[k]? = some v)
    (L1 : Looks (model PySem.Challenge.rw_in0008_01.row.prog w) s.heap (isInstance (.ref l) (.type "tuple")) true) (hl : s.heap.get? l = some (pairO dx a b ta tb)) (hQ : R (.ok (.ret v)) s) :
    codeAny (model PySem.Challenge.rw_in0008_01.row.prog w) A (.call (.builtin "tuple.__getitem__") ⟨[.ref l, .int i tk], []⟩) R s := by
  obtain ⟨h, g, d, t, os⟩ := s
  refine codeAny_call_builtin PySem.F.slot_tuple_getitem.plain PySem.F.entry_tuple_getitem (@check_slot (model PySem.Challenge.rw_in0008_01.row.prog w) _ _ ⟨h, g, d, t, os⟩ "tuple.__getitem__" "tuple" "__getitem__" (.ref l) [.int i tk] [] _ kind_tgi split_tgi L1 (PySem.F.args_tuple_getitem_2 (.ref l) (.int i tk)) ?_)
  exact tup_item hl hi hk hy hQ
theorem seq0 : seqIndex? 0 2 = some 0 := by decide
theorem seq1 : seqIndex? 1 2 = some 1 := by decide
theorem pair_item0 (L1 : Looks (model PySem.Challenge.rw_in0008_01.row.prog w) s.heap (isInstance (.ref l) (.type "tuple")) true) (hl : s.heap.get? l = some (pairO dx a b ta tb)) (hQ : R (.ok (.ret (.str a ta))) s) :
    codeAny (model PySem.Challenge.rw_in0008_01.row.prog w) A (.call (.builtin "tuple.__getitem__") ⟨[.ref l, .int 0 tk], []⟩) R s := pair_item ⟨by decide, by decide⟩ (k := 0) (v := .str a ta) seq0 (by simp) L1 hl hQ
theorem pair_item1 (L1 : Looks (model PySem.Challenge.rw_in0008_01.row.prog w) s.heap (isInstance (.ref l) (.type "tuple")) true) (hl : s.heap.get? l = some (pairO dx a b ta tb)) (hQ : R (.ok (.ret (.str b tb))) s) :
    codeAny (model PySem.Challenge.rw_in0008_01.row.prog w) A (.call (.builtin "tuple.__getitem__") ⟨[.ref l, .int 1 tk], []⟩) R s := pair_item ⟨by decide, by decide⟩ (k := 1) (v := .str b tb) seq1 (by simp) L1 hl hQ
end
end Mine
end
section
open PySem PySem.W PyProof.Rows
set_option maxRecDepth 100000
set_option maxHeartbeats 8000000
theorem Mine.calm_S12 : True := by
  w_top off
  k_with_none
  exact True.intro
namespace Mine
local macro_rules | `(tactic| walk_at "getMethod") => `(tactic| (k_here; (with_reducible show wpAny _ _ (getMethod (Value.type _) _ _) _ _ _); (refine' meth_tgi ?F ?X ?_; (case F => k_asm); (case X => k_asm); k_whole)))
theorem use_xsub {w : World} {A : Around} {E : Value → Shared → Prop} {s : Shared} {h₀ : Heap} {L : Addr} {m : Str → Option Value} {Q : Value → Shared → Prop} (F : Fr h₀ L s.heap m) (X : (hd.heap_1 w.params).In h₀) (hh : A.handled = none) (hd : A.depth ≤ 500) (hu : A.units ≤ 600) (q : Q (.bool true) s) :
    wpAny (model PySem.Challenge.rw_in0008_01.row.prog w) A (call (.builtin "issubclass") [.ref 203, .type "tuple"]) Q E s := wpAny_lower (xsub (X.keeps F.keep) ⟨q⟩) hh hd hu
local macro_rules | `(tactic| walk_at "call builtin:issubclass") => `(tactic| (k_here; (refine' use_xsub ?k1 ?k2 ?k3 ?k4 ?k5 ?_; (case k1 => k_asm); (case k2 => k_asm); (case k3 => exact rfl); (case k4 => exact Nat.le_of_ble_eq_true rfl); (case k5 => exact Nat.le_of_ble_eq_true rfl); k_whole)))
theorem getter0 {w : World} {p : Program} {loose : List Str} {mean : ExcName → Option Value} {mg mb : Str → Option Value} {gd : Option (List Code)} {fr : Option (List Env)} {s : Shared} {O dO : Addr} {x y : Str} {tx ty : Tok} {R : Result → Shared → Prop} :
    (hd.heap_1 w.params).In s.heap → Top p loose mean mg mb s.heap → s.heap.get? O = some (pairO dO x y tx ty) →
    (∀ h' tk', Ext s.heap h' → R (.ok (.ret (.str x tx))) { s with heap := h', toks := tk' }) →
    codeAny (model PySem.Challenge.rw_in0008_01.row.prog w) ⟨none, 420, fr, gd, 460⟩ (.call (.ref 61) ⟨[.ref 172, .ref O, .ref 203], []⟩) R s := by
  k_fill
  intro X T hO hret
  k_dflt (refine' pure_call ?kX ?kT ?ho ?hcd ?room ?bind ?loc ?_ ?c2 ?c3 ?c4 ?c5; (case kX => assumption); (case kT => assumption); (case ho => k_is); (case hcd => k_is); (case room => exact Nat.le_of_ble_eq_true rfl); (case bind => exact binds_K (by assumption) rfl (by k_is) rfl rfl rfl); (case loc => exact locs rfl); (case c2 => exact rfl); (case c3 => exact rfl); (case c4 => exact rfl); (case c5 => decide); k_whole)
  intro L' h' F' N'
  dsimp only
  k_fold
  k_steps
  have kk : Ext s.heap h' := Fr.keep (by with_reducible assumption)
  refine wpAny_lower (D := 500) (U := 600) (xtype (X.keeps kk) (kk _ _ hO) ⟨?_⟩) rfl (Nat.le_of_ble_eq_true rfl) (Nat.le_of_ble_eq_true rfl)
  k_steps
  refine wpAny_call (pair_item0 (pair_tup (X.keeps kk) (kk _ _ hO)) (kk _ _ hO) ?_)
  exact hret _ _ kk
theorem getter1 {w : World} {p : Program} {loose : List Str} {mean : ExcName → Option Value} {mg mb : Str → Option Value} {gd : Option (List Code)} {fr : Option (List Env)} {s : Shared} {O dO : Addr} {x y : Str} {tx ty : Tok} {R : Result → Shared → Prop} :
    (hd.heap_1 w.params).In s.heap → Top p loose mean mg mb s.heap → s.heap.get? O = some (pairO dO x y tx ty) →
    (∀ h' tk', Ext s.heap h' → R (.ok (.ret (.str y ty))) { s with heap := h', toks := tk' }) →
    codeAny (model PySem.Challenge.rw_in0008_01.row.prog w) ⟨none, 420, fr, gd, 460⟩ (.call (.ref 61) ⟨[.ref 175, .ref O, .ref 203], []⟩) R s := by
  k_fill
  intro X T hO hret
  k_dflt (refine' pure_call ?kX ?kT ?ho ?hcd ?room ?bind ?loc ?_ ?c2 ?c3 ?c4 ?c5; (case kX => assumption); (case kT => assumption); (case ho => k_is); (case hcd => k_is); (case room => exact Nat.le_of_ble_eq_true rfl); (case bind => exact binds_K (by assumption) rfl (by k_is) rfl rfl rfl); (case loc => exact locs rfl); (case c2 => exact rfl); (case c3 => exact rfl); (case c4 => exact rfl); (case c5 => decide); k_whole)
  intro L' h' F' N'
  dsimp only
  k_fold
  k_steps
  have kk : Ext s.heap h' := Fr.keep (by with_reducible assumption)
  refine wpAny_lower (D := 500) (U := 600) (xtype (X.keeps kk) (kk _ _ hO) ⟨?_⟩) rfl (Nat.le_of_ble_eq_true rfl) (Nat.le_of_ble_eq_true rfl)
  k_steps
  refine wpAny_call (pair_item1 (pair_tup (X.keeps kk) (kk _ _ hO)) (kk _ _ hO) ?_)
  exact hret _ _ kk
end Mine
end
section
open PySem PySem.W PyProof.Rows PySem.Calls Builtin Builtin.ObjectAttr
set_option maxRecDepth 100000
set_option maxHeartbeats 800000
theorem Mine.calm_S13 : True := by
  w_top off
  k_with_none
  exact True.intro
namespace Mine
section
variable {w : World} {p : Program} {loose : List Str} {mean : ExcName → Option Value} {mg mb : Str → Option Value} {A : Around} {s : Shared} {O dO : Addr} {x y : Str} {tx ty : Tok} {expr : Bool} {Q : Value → Shared → Prop} {E : Value → Shared → Prop}
theorem pair_name :
    (hd.heap_1 w.params).In s.heap → Top p loose mean mg mb s.heap → s.heap.get? O = some (pairO dO x y tx ty) → s.heap.get? dO = some emptyDict → A.handled = none → A.depth ≤ 400 → A.units ≤ 400 →
    (∀ h' tk', Ext s.heap h' → Q (.str x tx) { s with heap := h', toks := tk' }) →
    wpAny (model PySem.Challenge.rw_in0008_01.row.prog w) A (getAttr (.ref O) (Str.ofString "name") expr) Q E s := by
  k_fill
  intro X T hO hd hA hD hU hQ
  unfold getAttr
  refine wpAny_bind (wpAny_mkText ?_)
  refine tp_open (s := { s with toks := s.toks + 1 }) X (od := some emptyDict) (I := ⟨hO, rfl, rfl, hd⟩) (by k_is) (by k_is) (by kernel_rfl) (oga_run (s := { s with toks := s.toks + 1 }) X (od := some emptyDict) (I := ⟨hO, rfl, rfl, hd⟩) (r := .bind (.ref 61) (.ref 172)) (findObj_data (by kernel_rfl) (by k_is) (by k_is) (by k_is)) ?_)
  dsimp only
  refine wpAny_bind (wpAny_holding (wpAny_call ?_))
  refine codeAny_lower (D := 420) (U := 460) (getter0 (s := { s with toks := s.toks + 1 }) X T hO fun h' tk' k => ?_) hA (Nat.le_trans hD (by decide)) (Nat.le_trans (Nat.succ_le_succ hU) (by decide))
  exact wpAny_pure (wpAny_pure (hQ h' tk' k))
theorem pair_value :
    (hd.heap_1 w.params).In s.heap → Top p loose mean mg mb s.heap → s.heap.get? O = some (pairO dO x y tx ty) → s.heap.get? dO = some emptyDict → A.handled = none → A.depth ≤ 400 → A.units ≤ 400 →
    (∀ h' tk', Ext s.heap h' → Q (.str y ty) { s with heap := h', toks := tk' }) →
    wpAny (model PySem.Challenge.rw_in0008_01.row.prog w) A (getAttr (.ref O) (Str.ofString "value") expr) Q E s := by
  k_fill
  intro X T hO hd hA hD hU hQ
  unfold getAttr
  refine wpAny_bind (wpAny_mkText ?_)
  refine tp_open (s := { s with toks := s.toks + 1 }) X (od := some emptyDict) (I := ⟨hO, rfl, rfl, hd⟩) (by k_is) (by k_is) (by kernel_rfl) (oga_run (s := { s with toks := s.toks + 1 }) X (od := some emptyDict) (I := ⟨hO, rfl, rfl, hd⟩) (r := .bind (.ref 61) (.ref 175)) (findObj_data (by kernel_rfl) (by k_is) (by k_is) (by k_is)) ?_)
  dsimp only
  refine wpAny_bind (wpAny_holding (wpAny_call ?_))
  refine codeAny_lower (D := 420) (U := 460) (getter1 (s := { s with toks := s.toks + 1 }) X T hO fun h' tk' k => ?_) hA (Nat.le_trans hD (by decide)) (Nat.le_trans (Nat.succ_le_succ hU) (by decide))
  exact wpAny_pure (wpAny_pure (hQ h' tk' k))
end
end Mine
end
section
open PySem PySem.W PySem.W.X PyProof.Rows
set_option maxRecDepth 100000
set_option maxHeartbeats 8000000
theorem Mine.calm_X2 : True := by
  w_top off
  k_with_none
  exact True.intro
namespace Mine
noncomputable abbrev bmiss (B : Addr) : Obj := ⟨.type "builtin_function_or_method", none, .fields #[.builtin "collections.defaultdict.__missing__", .ref B], #[]⟩
section
local macro_rules | `(tactic| x_close) => `(tactic| (rename Mem _ _ _ _ => D9; rename Then _ => hQ9; exact hQ9.go _ _ (mem_keep D9) (D9.nw _ (.head _)).2 (D9.nw _ (.head _)).1))
theorem descr_get {w : World} {gd : Option (List Code)} {fr : Option (List Env)} {h : Heap} {g : Array GenState} {d : Drawn} {t : Nat} {os : OsState} {B dx lam : Addr} {es : Array DictEntry} {ep : Nat} {Q E : Value → Shared → Prop} :
    (hd.heap_1 w.params).In h → h.get? B = some ⟨.ref 108, some dx, .dict es ep, #[some (.ref lam)]⟩ →
    Then (∀ q h', (∀ b o, h.get? b = some o → h'.get? b = some o) → h.get? q = none → h'.get? q = some (bmiss B) → Q (.ref q) ⟨h', g, d, t, os⟩) →
    wpAny (model PySem.Challenge.rw_in0008_01.row.prog w) ⟨none, 500, fr, gd, 600⟩ (call (.builtin "method_descriptor.__get__") [.builtin "collections.defaultdict.__missing__", .ref B, .ref 108]) Q E ⟨h, g, d, t, os⟩ := by
  k_fill
  intro X hB hQ
  x_run
end
end Mine
end
section
open PySem PySem.W PyProof.Rows PySem.Calls Builtin Builtin.ObjectAttr
set_option maxRecDepth 100000
set_option maxHeartbeats 8000000
theorem Mine.calm_R7 : True := by
  w_top off
  k_with_none
  exact True.intro
namespace Mine
theorem mro_of {K : Frag} {M : Model} {h : Heap} {C : Addr} {l : List Value} {cd : ClassData} (X : K.In h) (e : clsIn K C = some cd) (e2 : cd.mro = l) : Looks M h (mroOf (.ref C)) l := e2 ▸ (looks_clsIn X e).andThen .now
section
variable {w : World} {A : Around} {E : Value → Shared → Prop} {h : Heap} {g : Array GenState} {d : Drawn} {t : Nat} {os : OsState} {so B dx lam : Addr} {es : Array DictEntry} {ep : Nat}
theorem super_ga {tk : Tok} {Q : Fin → Shared → Prop} :
    (hd.heap_1 w.params).In h →
    h.get? so = some { cls := .type "super", dict := none, data := .fields #[.ref 108, .ref B, .ref 108], slots := #[] } → h.get? B = some ⟨.ref 108, some dx, .dict es ep, #[some (.ref lam)]⟩ → B ≠ 108 → A.handled = none → A.depth ≤ 500 → A.units ≤ 600 →
    (∀ q h', (∀ b o, h.get? b = some o → h'.get? b = some o) → h.get? q = none → h'.get? q = some (bmiss B) → Q (.done (.ret (.ref q))) ⟨h', g, d, t, os⟩) →
    wpAny (model PySem.Challenge.rw_in0008_01.row.prog w) A (Builtin.«super.__getattribute__» ⟨[.ref so, .str (Str.ofString "__missing__") tk], []⟩) Q E ⟨h, g, d, t, os⟩ := by
  k_fill
  intro X hso hB hne hA hD hU hq
  have hlk : typeLookup (.type "method_descriptor") "__get__" = pure (some (.builtin "method_descriptor.__get__")) := by rw [typeLookup_type, builtinLookup_eq_fast]; kernel_rfl
  have hne' : (Value.ref B == Value.ref 108) = false := by simp [hne]
  have hdt : ({ cls := .type "super", dict := none, data := .fields #[.ref 108, .ref B, .ref 108], slots := #[] } : Obj).data = .fields #[.ref 108, .ref B, .ref 108] := rfl
  have f0 : (#[.ref 108, .ref B, .ref 108] : Array Value)[0]? = some (.ref 108) := rfl
  have f1 : (#[.ref 108, .ref B, .ref 108] : Array Value)[1]? = some (.ref B) := rfl
  have f2 : (#[.ref 108, .ref B, .ref 108] : Array Value)[2]? = some (.ref 108) := rfl
  have hno : Looks (model PySem.Challenge.rw_in0008_01.row.prog w) h (opaqueClassAbove (.ref 108)) none := looks_opaque X (by k_is)
  have hC : Looks (model PySem.Challenge.rw_in0008_01.row.prog w) h (mroOf (.ref 108)) [Value.ref 108, .type "collections.defaultdict", .type "dict", .type "object"] := by
    refine' mro_of X ?a ?b
    (case a => k_is)
    (case b => rfl)
  have hown : Looks (model PySem.Challenge.rw_in0008_01.row.prog w) h (classOwn (.type "collections.defaultdict") "__missing__") (some (.builtin "collections.defaultdict.__missing__")) := looks_ownIn X (by show some (fastBuiltinOwn _ _) = _; kernel_rfl)
  have hTf : typeOf (.builtin "collections.defaultdict.__missing__") = pure (.type "method_descriptor") := by show builtinType _ = _; rw [builtinType_eq_fast]; kernel_rfl
  have hd1 : (List.drop 1 (List.dropWhile (fun x => x != Value.ref 108) [Value.ref 108, .type "collections.defaultdict", .type "dict", .type "object"])) = [.type "collections.defaultdict", .type "dict", .type "object"] := by decide +kernel
  unfold Builtin.«super.__getattribute__»
  iterate 22 (try (fail_if_success (with_reducible show wpAny _ _ (PySem.call _ _ _) _ _ _)); first
    | (with_reducible refine wpAny_field hso hdt f0 ?_) | (with_reducible refine wpAny_field hso hdt f1 ?_) | (with_reducible refine wpAny_field hso hdt f2 ?_)
    | (with_reducible refine ks_wpAny_notOpaque hno ?_)
    | (with_reducible refine Looks.at hC ?_; rw [hd1])
    | (with_reducible refine wpAny_of_eq hTf ?_)
    | (with_reducible refine wpAny_of_eq hlk ?_)
    | (simp only [hne', Bool.or_false, Bool.false_eq_true, if_false])
    | wp_step
    | dsimp only)
  refine wpAny_bind ?_
  rw [List.forIn_cons]
  refine wpAny_bind (wpAny_bind (hown.at ?_))
  dsimp only
  refine wpAny_bind (wpAny_of_eq hTf (wpAny_bind (wpAny_of_eq hlk ?_)))
  dsimp only
  refine wpAny_bind (wpAny_holding ?_)
  refine wpAny_lower (D := 500) (U := 600) (descr_get X hB ⟨fun q h' k hn hb => ?_⟩) hA hD hU
  exact wpAny_bind (wpAny_pure (wpAny_pure (wpAny_pure (wpAny_pure (hq q h' k hn hb)))))
/-- the bound method under super() -/
theorem super_attr {Q : Value → Shared → Prop} {s : Shared} :
    (hd.heap_1 w.params).In s.heap →
    s.heap.get? so = some { cls := .type "super", dict := none, data := .fields #[.ref 108, .ref B, .ref 108], slots := #[] } → s.heap.get? B = some ⟨.ref 108, some dx, .dict es ep, #[some (.ref lam)]⟩ → B ≠ 108 → A.handled = none → A.depth ≤ 500 → A.in1.units ≤ 600 →
    (∀ q h', (∀ b o, s.heap.get? b = some o → h'.get? b = some o) → s.heap.get? q = none → h'.get? q = some (bmiss B) → Q (.ref q) { s with heap := h', toks := s.toks + 1 }) →
    wpAny (model PySem.Challenge.rw_in0008_01.row.prog w) A (getAttr (.ref so) (Str.ofString "__missing__") true) Q E s := by
  k_fill
  intro X hso hB hne hA hD hU hq
  obtain ⟨h, g, d, t, os⟩ := s
  have hlk := F.ks_slot_super_ga.lookup
  have hT : ∀ t', (⟨h, g, d, t', os⟩ : Shared).TypeIs (.ref so) "super" := fun _ => ⟨_, hso, rfl⟩
  unfold getAttr getAttrBy
  refine wpAny_bind (wpAny_mkText (wpAny_holding (wpAny_bind (wpAny_typeOf (hT _) (wpAny_bind (wpAny_of_eq hlk ?_))))))
  show wpAny _ _ (getAttrByItsOwn (.ref so) (.str (Str.ofString "__missing__") t) (.type "super") (.builtin "super.__getattribute__") true true) _ _ _
  unfold getAttrByItsOwn hookBefore callGetattribute boundAndCalled
  refine wpAny_bind (wpAny_of_eq (show (if onTheHeap (.type "super") then typeLookup (.type "super") "__getattr__" else pure none) = pure none from rfl) ?_)
  refine wpAny_bind (wpAny_attempt (wpAny_holding ?_))
  show wpAny _ _ (bindSpecial (.builtin "super.__getattribute__") (.ref so) >>= _) _ _ _
  refine wpAny_bind (wpAny_of_eq (F.ks_slot_super_ga.bind _) ?_)
  refine wpAny_mono (Q := fun v s' => ∃ q h', (∀ b o, h.get? b = some o → h'.get? b = some o) ∧ h.get? q = none ∧ h'.get? q = some (bmiss B) ∧ v = .ref q ∧ s' = ⟨h', g, d, t + 1, os⟩) (E := fun _ _ => False)
    (wpAny_call_entry F.ks_slot_super_ga (hT _) F.ks_entry_super_ga (super_ga X hso hB hne hA hD hU fun q h' k hn hb => ⟨_, rfl, q, h', k, hn, hb, rfl, rfl⟩) (F.ks_gaArgs_super _ _)) (fun v s' hv => ?_) fun _ _ z => z.elim
  obtain ⟨q, h', k, hn, hb, rfl, rfl⟩ := hv
  exact wpAny_pure (hq q h' k hn hb)
end
end Mine
end
section
open PySem PySem.W PyProof.Rows PySem.Calls Builtin Builtin.ObjectAttr Builtin.Collections_defaultdict
set_option maxRecDepth 100000
set_option maxHeartbeats 8000000
theorem Mine.calm_R10 : True := by
  w_top off
  k_with_none
  exact True.intro
namespace Mine
theorem entry_ddm : entryFor table "collections.defaultdict.__missing__" = some Builtin.«collections.defaultdict.__missing__» := entryFor_of_tree (by kernel_rfl)
theorem entry_setdefault : entryFor table "dict.setdefault" = some Builtin.«dict.setdefault» := entryFor_of_tree (by kernel_rfl)
theorem wpAny_callBorrowed {M : Model} {A : Around} {E : Value → Shared → Prop} {s : Shared} {f : Value} {pos : List Value} {Q : Value → Shared → Prop}
    (hc : codeAny M A (.call f ⟨pos, []⟩) (fun r s' => match r with | .ok (.ret v) => Q v s' | .ok _ => False | .error e => E e s') s) : wpAny M A (callBorrowed f pos) Q E s := fun Γ p hΓ => by
  unfold callBorrowed
  rw [Sem.wp_call]
  refine wpCode_mono (fun r s' h => ?_) (hc _ p rfl (hΓ.enter _ none p (by intro x; cases x)))
  rcases r with e | (v | _ | _ | _) <;> first | exact False.elim h | (rw [Sem.wp]; exact h)
section
variable {w : World} {fr : Option (List Env)} {gd : Option (List Code)} {s : Shared} {B dx lam q : Addr} {es : Array DictEntry} {ep : Nat} {kvs : List (Str × Addr)} {y : Str} {ty : Tok}
theorem ddm_call {R : Result → Shared → Prop} {fd : FuncData} :
    (hd.heap_1 w.params).In s.heap → s.heap.get? q = some (bmiss B) → s.heap.get? B = some (fdd dx lam es ep) → s.heap.get? lam = some ⟨.type "function", none, .func fd, #[]⟩ →
    Holds PySem.Challenge.rw_in0008_01.row.prog w es kvs → y ∉ kvs.map (·.1) → kvs.length ≤ 1000 → B ≠ sysModules →
    GivesE (model PySem.Challenge.rw_in0008_01.row.prog w) s.heap (.ref lam) [] →
    (∀ l t h' tk' es', (∀ b o, b ≠ B → s.heap.get? b = some o → h'.get? b = some o) → s.heap.get? l = none → l ≠ B → h'.get? l = some (listE t) → h'.get? B = some (fdd dx lam es' (ep + 1)) →
      Holds PySem.Challenge.rw_in0008_01.row.prog w es' (kvs ++ [(y, l)]) → R (.ok (.ret (.ref l))) { s with heap := h', toks := tk' }) →
    codeAny (model PySem.Challenge.rw_in0008_01.row.prog w) ⟨none, 450, fr, gd, 500⟩ (.call (.ref q) ⟨[.str y ty], []⟩) R s := by
  k_fill
  intro X hq hB hlam H hk hz hsys hG hret
  obtain ⟨h, g, d, t, os⟩ := s
  dsimp only at X hq hB hlam hG hret
  have L0 : Looks (model PySem.Challenge.rw_in0008_01.row.prog w) h (typeOf (.ref B)) (.ref 108) := (Looks.ld hB).andThen .now
  have L1 : Looks (model PySem.Challenge.rw_in0008_01.row.prog w) h (isSubtype (.ref 108) (.type "module")) false := looks_mroIn X (by kernel_rfl)
  have L2 : Looks (model PySem.Challenge.rw_in0008_01.row.prog w) h (classData 108) _ := looks_clsIn X (by k_is)
  have L3 : Looks (model PySem.Challenge.rw_in0008_01.row.prog w) h (typeOf (.ref 108)) (.type "type") := looks_typeIn X (by k_is)
  have L4 : Looks (model PySem.Challenge.rw_in0008_01.row.prog w) h (isInstance (.ref B) (.type "module")) false := L0.andThen L1
  refine codeAny_of_tree ?_
  show wpAny _ _ (callAny (.ref q) _) _ _ _
  refine nd_load hq ?_
  dsimp only
  repeat ((fail_if_success (with_reducible show wpAny _ _ (checkBoundCall _ _) _ _ _)); lk)
  repeat lk
  refine And.intro (Code.quiet_builtin _ (by decide +kernel)) ?_
  show codeAny _ _ (.builtin "collections.defaultdict.__missing__" ⟨[.ref B, .str y ty], []⟩) _ _
  refine codeAny_builtin entry_ddm ?_
  unfold Builtin.«collections.defaultdict.__missing__» callOutOfASlot
  repeat ((fail_if_success (with_reducible show wpAny _ _ (callBorrowed _ _) _ _ _)); lk)
  refine wpAny_callBorrowed ?_
  refine codeAny_lower (D := 490) (U := 580) (hG _ _ _ _ (fun _ _ e => e) fun l tl h' tk' e n hl => ?_) rfl (Nat.le_of_ble_eq_true rfl) (Nat.le_of_ble_eq_true rfl)
  dsimp only at e n hl
  refine wpAny_pure (And.intro (Code.quiet_builtin _ (by decide +kernel)) ?_)
  refine codeAny_builtin entry_setdefault ?_
  have hB' := e _ _ hB
  have L0' := L0.keeps e
  have L1' := L1.keeps e
  have X' := X.keeps e
  have L5' : Looks (model PySem.Challenge.rw_in0008_01.row.prog w) h' (isSubtype (.ref 108) (.type "collections.OrderedDict")) false := looks_mroIn X' (by kernel_rfl)
  unfold Builtin.«dict.setdefault»
  repeat ((fail_if_success (with_reducible show wpAny _ _ (dictSetDefault _ _ _) _ _ _)); lk)
  rw [if_neg (by simpa using hsys)]
  have hlB : l ≠ B := fun q => by rw [q, hB] at n; cases n
  refine wpAny_bind (book_setdefault (l := l) hB' H hk hz fun h'' es' hB'' H' hs => wpAny_pure ?_)
  exact hret l tl h'' _ es' (fun b o hb q => (hs b hb).trans (e b o q)) n hlB ((hs l hlB).trans hl) hB'' H'
end
end Mine
end
section
open PySem PySem.W PyProof.Rows
set_option maxRecDepth 100000
set_option maxHeartbeats 8000000
theorem Mine.calm_S10 : True := by
  w_top off
  k_with_none
  exact True.intro
namespace Mine
theorem missing_fresh {w : World} {p : Program} {loose : List Str} {mean : ExcName → Option Value} {mg mb : Str → Option Value} {gd : Option (List Code)} {fr : Option (List Env)} {s : Shared} {B dx lam : Addr} {es : Array DictEntry} {ep : Nat} {kvs : List (Str × Addr)} {y : Str} {ty : Tok} {fd : FuncData} {R : Result → Shared → Prop} :
    (hd.heap_1 w.params).In s.heap → Top p loose mean mg mb s.heap → B ≠ 108 → B ≠ sysModules →
    s.heap.get? B = some (fdd dx lam es ep) → s.heap.get? dx = some emptyDict → s.heap.get? lam = some ⟨.type "function", none, .func fd, #[]⟩ →
    Holds PySem.Challenge.rw_in0008_01.row.prog w es kvs → y ∉ kvs.map (·.1) → kvs.length ≤ 1000 →
    GivesE (model PySem.Challenge.rw_in0008_01.row.prog w) s.heap (.ref lam) [] →
    (∀ l t h' tk' es', (∀ b o, b ≠ B → s.heap.get? b = some o → h'.get? b = some o) → s.heap.get? l = none → h'.get? l = some (listE t) → h'.get? B = some (fdd dx lam es' (ep + 1)) →
      Holds PySem.Challenge.rw_in0008_01.row.prog w es' (kvs ++ [(y, l)]) → R (.ok (.ret (.ref l))) { s with heap := h', toks := tk' }) →
    codeAny (model PySem.Challenge.rw_in0008_01.row.prog w) ⟨none, 420, fr, gd, 460⟩ (.call (.ref 98) ⟨[.ref B, .str y ty], []⟩) R s := by
  k_fill
  intro X T hne hsys hB hdx hlam H hk hz hG hret
  k_dflt (refine' pure_callS ?kX ?kT ?ho ?hcd ?room ?bind ?loc ?_ ?c2 ?c3 ?c4 ?c5; (case kX => assumption); (case kT => assumption); (case ho => k_is); (case hcd => k_is); (case room => exact Nat.le_of_ble_eq_true rfl); (case bind => exact BindsTo.of_eq rfl); (case loc => exact locs rfl); (case c2 => exact rfl); (case c3 => exact rfl); (case c4 => exact rfl); (case c5 => decide); k_whole)
  intro L' h' F' N'
  dsimp only
  have I' : InstAt h' B (fdd dx lam es ep) 108 (some emptyDict) := ⟨F'.keep _ _ hB, rfl, rfl, F'.keep _ _ hdx⟩
  refine ks_wpAt_execs_cons (ks_wpAt_Return_some (at_CallCall (at_Call3' (id := "getattr") (vB := .ref B) (nm := Str.ofString "_frozen") ?_ fun t tk => at_Attr ?_)))
  · k_fold
    k_steps
  · k_dflt (refine ks_node (by k_asm) (by k_asm) (by k_asm) (by k_asm) (by k_is) (by rfl) (by rfl) (by assumption) (by k_is) (by rfl) (by first | rfl | decide +kernel) (by k_is) (by k_is) (by k_is) (by k_is) (by decide) (by rfl) (by rfl) (by rfl) (by rfl) (by decide +kernel) (by first | boot_by_name | rfl | kernel_rfl) ?_)
    intro so' h' F' N' l1
    have kk := F'.keep
    dsimp only
    refine super_attr (X.keeps kk) (News_get N' (.head _)) (kk _ _ hB) hne rfl (Nat.le_of_ble_eq_true rfl) (Nat.le_of_ble_eq_true rfl) fun q h₂ k hn hb => ?_
    dsimp only
    have k₂ : Ext s.heap h₂ := fun b o e => k b o (kk b o e)
    refine getattr3_miss (X.keeps k₂) (od := some emptyDict) (I := ⟨k₂ _ _ hB, rfl, rfl, k₂ _ _ hdx⟩) (by k_is) (by decide +kernel) (by decide +kernel) (by kernel_rfl) (by decide +kernel) rfl (by k_is) (by k_is) (by kernel_rfl) (by kernel_rfl) fun h₃ tk₃ k₃ => ?_
    dsimp only at k₃
    have k₄ : Ext s.heap h₃ := fun b o e => k₃ b o (k₂ b o e)
    have F₃ := Fr_kept (Fr_kept F' k) k₃
    refine callWith_1 (keep_bm (vs := #[.builtin "collections.defaultdict.__missing__", .ref B])) ?_
    k_fold
    k_steps
    · exact k₃ _ _ hb
    refine wpAny_call ?_
    refine codeAny_lower (D := 450) (U := 500) (ddm_call (X.keeps k₄) (k₃ _ _ hb) (k₄ _ _ hB) (k₄ _ _ hlam) H hk hz hsys (hG.keeps k₄) fun l t h' tk' es' e n hlB hl hB' H' => ?_) rfl (Nat.le_of_ble_eq_true rfl) (Nat.le_of_ble_eq_true rfl)
    exact hret l t h' tk' es' (fun b o hb z => e b o hb (k₄ b o z)) (fresh_back k₄ n) hl hB' H'
  k_with_none
end Mine
end
section
open PySem PySem.W PyProof.Rows PySem.Calls Builtin
set_option maxRecDepth 100000
set_option maxHeartbeats 1000000
theorem Mine.calm_R13 : True := by
  w_top off
  k_with_none
  exact True.intro
namespace Mine
theorem kind_dgi : builtinKind "dict.__getitem__" = some .method := by decide +kernel
section
variable {prog : Program} {w : World} {A : Around} {s : Shared} {K : Frag} {E : Value → Shared → Prop} {x C : Addr} {i T : String} {name : Str} {args : List Value}
theorem special_builtin {Q : Option Value → Shared → Prop} (S : Slot T name i) (X : K.In s.heap) (L0 : Looks (model prog w) s.heap (typeOf (.ref x)) (.ref C)) (hs : findIn K (.ref C) name = some (some (.builtin i)))
    (h : codeAny (model prog w) A (.call (.builtin i) ⟨.ref x :: args, []⟩) (fun r s' => match r with | .ok (.ret v) => Q (some v) s' | .ok _ => False | .error e => E e s') s) :
    wpAny (model prog w) A (callSpecial? (.ref x) name args) Q E s := by
  refine wpAny_bind (wpAny_bind (L0.here ((looks_findIn X hs).here (wpAny_holding ?_))))
  rw [S.bind]
  refine wpAny_bind (wpAny_pure (wpAny_bind (wpAny_call (codeAny_mono h fun r s' z => ?_))))
  rcases r with e | (v | _ | _ | _) <;> first | exact z | exact wpAny_pure z
end
theorem check_method {M : Model} {A : Around} {E : Value → Shared → Prop} {s : Shared} {i owner n : String} {self : Value} {rest : List Value} {Q : Unit → Shared → Prop}
    (hk : builtinKind i = some .method) (hs : splitId i = some (owner, n)) (hi : Looks M s.heap (isInstance self (.type owner)) true) (ha : argsOk i ⟨self :: rest, []⟩) (q : Q () s) :
    wpAny M A (checkBuiltinCall i ⟨self :: rest, []⟩) Q E s := by
  simp only [checkBuiltinCall, hk, hs]
  refine wpAny_bind (hi.here ?_)
  simp only [Bool.not_true, Bool.false_eq_true, if_false]
  cases hsig : Manifest.signature? i with
  | none => exact wpAny_pure q
  | some sig =>
    simp only [argsOk, hsig] at ha
    show wpAny M A (Bind.checkArgs i sig ⟨self :: rest, []⟩) Q E s
    rw [show Bind.checkArgs i sig ⟨self :: rest, []⟩ = pure () from ha]; exact wpAny_pure q
theorem split_dgi : splitId "dict.__getitem__" = some ("dict", "__getitem__") := by decide +kernel
section
variable {w : World} {A : Around} {s : Shared} {E : Value → Shared → Prop} {B dx lam : Addr} {es : Array DictEntry} {ep : Nat} {kvs : List (Str × Addr)} {k : Str} {t : Tok}
theorem fdd_item {Q : Value → Shared → Prop} :
    (hd.heap_1 w.params).In s.heap → s.heap.get? B = some (fdd dx lam es ep) →
    wpAny (model PySem.Challenge.rw_in0008_01.row.prog w) A.in1 (Builtin.«dict.__getitem__» ⟨[.ref B, .str k t], []⟩) (fun fin s' => match fin with | .done (.ret v) => Q v s' | _ => False) E s →
    wpAny (model PySem.Challenge.rw_in0008_01.row.prog w) A (getItem (.ref B) (.str k t)) Q E s := by
  k_fill
  intro X hB h
  have L0 : Looks (model PySem.Challenge.rw_in0008_01.row.prog w) s.heap (typeOf (.ref B)) (.ref 108) := (Looks.ld hB).andThen .now
  unfold getItem sequenceKey
  refine wpAny_holding (wpAny_bind (wpAny_bind (L0.here ?_)))
  refine wpAny_bind ((anyM_none X (by kernel_rfl)).here ?_)
  rw [if_pos (show (!false) = true from rfl)]
  refine wpAny_pure (wpAny_bind (special_builtin PySem.F.slot_dict_getitem X L0 (by k_is) ?_))
  refine codeAny_call_builtin PySem.F.slot_dict_getitem.plain PySem.F.entry_dict_getitem ?_
  have L1 : Looks (model PySem.Challenge.rw_in0008_01.row.prog w) s.heap (isInstance (.ref B) (.type "dict")) true := L0.andThen (looks_mroIn X (by kernel_rfl))
  refine @check_method (model PySem.Challenge.rw_in0008_01.row.prog w) _ _ s "dict.__getitem__" "dict" "__getitem__" (.ref B) [.str k t] _ kind_dgi split_dgi L1 (PySem.F.args_dict_getitem_2 (.ref B) (.str k t)) ?_
  refine wpAny_mono h (fun fin s' z => ?_) fun _ _ z => z
  rcases fin with (_ | _ | _ | _) | _ <;> first | exact wpAny_pure z | exact False.elim z
theorem fdd_hit {Q : Value → Shared → Prop} {l : Addr} (H : Holds PySem.Challenge.rw_in0008_01.row.prog w es kvs) (hk : (k, l) ∈ kvs) :
    (hd.heap_1 w.params).In s.heap → s.heap.get? B = some (fdd dx lam es ep) → Q (.ref l) { s with toks := s.toks + 1 } →
    wpAny (model PySem.Challenge.rw_in0008_01.row.prog w) A (getItem (.ref B) (.str k t)) Q E s := by
  k_fill
  intro X hB h
  refine fdd_item X hB ?_
  have L0 : Looks (model PySem.Challenge.rw_in0008_01.row.prog w) s.heap (typeOf (.ref B)) (.ref 108) := (Looks.ld hB).andThen .now
  obtain ⟨hp, g, d, tk, os⟩ := s
  dsimp only at L0
  unfold Builtin.«dict.__getitem__»
  repeat ((fail_if_success (with_reducible show wpAny _ _ (dictGet _ _) _ _ _)); lk)
  refine book_get_hit hB H hk ?_
  exact wpAny_pure h
theorem fdd_miss {Q : Value → Shared → Prop} (H : Holds PySem.Challenge.rw_in0008_01.row.prog w es kvs) (hk : k ∉ kvs.map (·.1)) (hsys : B ≠ sysModules) (hA : A.handled = none) (hD : A.depth ≤ 400) (hU : A.units ≤ 400) :
    (hd.heap_1 w.params).In s.heap → s.heap.get? B = some (fdd dx lam es ep) →
    (∀ fr gd, codeAny (model PySem.Challenge.rw_in0008_01.row.prog w) ⟨none, 420, fr, gd, 460⟩ (.call (.ref 98) ⟨[.ref B, .str k t], []⟩) (fun r s' => match r with | .ok (.ret v) => Q v s' | _ => False) { s with toks := s.toks + 1 }) →
    wpAny (model PySem.Challenge.rw_in0008_01.row.prog w) A (getItem (.ref B) (.str k t)) Q E s := by
  k_fill
  intro X hB h
  refine fdd_item X hB ?_
  have L0 : Looks (model PySem.Challenge.rw_in0008_01.row.prog w) s.heap (typeOf (.ref B)) (.ref 108) := (Looks.ld hB).andThen .now
  have LM : Looks (model PySem.Challenge.rw_in0008_01.row.prog w) s.heap (typeLookup (.ref 108) "__missing__") (some (.ref 98)) := looks_findIn X (by k_is)
  have LB : Looks (model PySem.Challenge.rw_in0008_01.row.prog w) s.heap (bindSpecial (.ref 98) (.ref B)) (.ref 98, [.ref B]) := bind_fn X (.ref B) (by k_is)
  obtain ⟨hp, g, d, tk, os⟩ := s
  dsimp only at L0 LM LB
  unfold Builtin.«dict.__getitem__»
  repeat ((fail_if_success (with_reducible show wpAny _ _ (dictGet _ _) _ _ _)); lk)
  refine book_get_miss hB H hk ?_
  dsimp only
  refine wpAny_bind (wpAny_missed_other (by simpa using hsys) ?_)
  unfold callSpecial? specialOf
  repeat ((fail_if_success (with_reducible show wpAny _ _ (PySem.call _ _ _) _ _ _)); lk)
  refine wpAny_call (codeAny_mono (codeAny_lower (h A.in1.frames A.in1.guards) hA (Nat.le_trans hD (by decide)) (Nat.le_trans (Nat.succ_le_succ hU) (by decide))) fun r s' z => ?_)
  rcases r with e | (v | _ | _ | _) <;> first | exact False.elim z | (refine wpAny_pure (wpAny_bind (wpAny_rule ?_)); exact wpAny_pure z)
end
end Mine
end
section
open PySem PySem.W PyProof.Rows PySem.Calls Builtin
set_option maxRecDepth 100000
set_option maxHeartbeats 1000000
theorem Mine.calm_R14 : True := by
  w_top off
  k_with_none
  exact True.intro
namespace Mine
section
variable {prog : Program} {w : World} {A : Around} {s : Shared} {K : Frag} {E : Value → Shared → Prop} {x C : Addr} {i : String} {v : Value}
theorem tail_inst {value slice : Expr} {Q : Value → Shared → Prop} (X : K.In s.heap) (L0 : Looks (model prog w) s.heap (typeOf (.ref x)) (.ref C)) (hs : findIn K (.ref C) "__getitem__" = some (some (.builtin i)))
    (hg : wpAny (model prog w) A (getItem (.ref x) v) Q E s) (hsub : subscripted slice false (.ref x) v = operate [.ref x, v] (getItem (.ref x) v) := by with_unfolding_all rfl) :
    wpAny (model prog w) A (subscriptTail value slice (.ref x) v) Q E s := by
  unfold subscriptTail getitemInPython
  refine wpAny_bind (wpAny_bind (wpAny_bind (L0.here ((looks_findIn X hs).here ?_))))
  dsimp only
  refine wpAny_pure (wpAny_bind ?_)
  rw [hsub]
  exact wpAny_operate' (wpAny_mono hg (fun r s₃ h₃ => wpAny_bind (wpAny_letTemporaryGo (wpAny_pure h₃))) fun _ _ x => x)
end
section
variable {w : World} {A : Around} {s : Shared} {E : Value → Shared → Prop} {O dO : Addr} {x y : Str} {tx ty t : Tok}
theorem pair_getItem0 {Q : Value → Shared → Prop} :
    (hd.heap_1 w.params).In s.heap → s.heap.get? O = some (pairO dO x y tx ty) → Q (.str x tx) s →
    wpAny (model PySem.Challenge.rw_in0008_01.row.prog w) A (getItem (.ref O) (.int 0 t)) Q E s := by
  k_fill
  intro X hO h
  have L0 : Looks (model PySem.Challenge.rw_in0008_01.row.prog w) s.heap (typeOf (.ref O)) (.ref 203) := (Looks.ld hO).andThen .now
  unfold getItem sequenceKey
  refine wpAny_holding (wpAny_bind (wpAny_bind (L0.here ?_)))
  refine wpAny_bind ((anyM_none X (by kernel_rfl)).here ?_)
  rw [if_pos (show (!false) = true from rfl)]
  refine wpAny_pure (wpAny_bind (special_builtin PySem.F.slot_tuple_getitem X L0 (by k_is) ?_))
  exact pair_item0 (pair_tup X hO) hO (wpAny_pure h)
theorem pair_getItem1 {Q : Value → Shared → Prop} :
    (hd.heap_1 w.params).In s.heap → s.heap.get? O = some (pairO dO x y tx ty) → Q (.str y ty) s →
    wpAny (model PySem.Challenge.rw_in0008_01.row.prog w) A (getItem (.ref O) (.int 1 t)) Q E s := by
  k_fill
  intro X hO h
  have L0 : Looks (model PySem.Challenge.rw_in0008_01.row.prog w) s.heap (typeOf (.ref O)) (.ref 203) := (Looks.ld hO).andThen .now
  unfold getItem sequenceKey
  refine wpAny_holding (wpAny_bind (wpAny_bind (L0.here ?_)))
  refine wpAny_bind ((anyM_none X (by kernel_rfl)).here ?_)
  rw [if_pos (show (!false) = true from rfl)]
  refine wpAny_pure (wpAny_bind (special_builtin PySem.F.slot_tuple_getitem X L0 (by k_is) ?_))
  exact pair_item1 (pair_tup X hO) hO (wpAny_pure h)
end
end Mine
end
section
open PySem PySem.W PyProof.Rows PySem.Calls Builtin
set_option maxRecDepth 100000
set_option maxHeartbeats 1000000
theorem Mine.calm_R15 : True := by
  w_top off
  k_with_none
  exact True.intro
namespace Mine
theorem kind_teq : builtinKind "tuple.__eq__" = some .slot := by decide +kernel
theorem split_teq : splitId "tuple.__eq__" = some ("tuple", "__eq__") := by decide +kernel
theorem sub_tt : isSubtype (.type "tuple") (.type "tuple") = pure true := by rw [isSubtype_type]; kernel_rfl
noncomputable abbrev tup2 (x y : Str) (tx ty : Tok) : Obj := ⟨.type "tuple", none, .seq #[.str x tx, .str y ty] 0, #[]⟩
section
variable {w : World} {A : Around} {s : Shared} {E : Value → Shared → Prop} {O dO T : Addr} {x y : Str} {tx ty tx' ty' : Tok}
theorem teq_run {R : Result → Shared → Prop} :
    (hd.heap_1 w.params).In s.heap → s.heap.get? O = some (pairO dO x y tx ty) → s.heap.get? T = some (tup2 x y tx' ty') → R (.ok (.ret (.bool true))) s →
    codeAny (model PySem.Challenge.rw_in0008_01.row.prog w) A (.call (.builtin "tuple.__eq__") ⟨[.ref O, .ref T], []⟩) R s := by
  intro X hO hT h
  have L1 := pair_tup X hO
  obtain ⟨hp, g, d, t, os⟩ := s
  dsimp only at L1 hO hT
  have L2 : Looks (model PySem.Challenge.rw_in0008_01.row.prog w) hp (isInstance (.ref T) (.type "tuple")) true := ((Looks.ld hT).andThen .now : Looks _ hp (typeOf (.ref T)) (.type "tuple")).andThen (Looks.of_pure sub_tt)
  refine codeAny_call_builtin PySem.F.slot_tuple_eq.plain PySem.F.entry_tuple_eq ?_
  refine @check_slot (model PySem.Challenge.rw_in0008_01.row.prog w) _ _ ⟨hp, g, d, t, os⟩ "tuple.__eq__" "tuple" "__eq__" (.ref O) [.ref T] [] _ kind_teq split_teq L1 (PySem.F.args_tuple_eq_2 (.ref O) (.ref T)) ?_
  unfold Builtin.«tuple.__eq__»
  repeat ((fail_if_success (with_reducible show wpAny _ _ (forIn _ _ _) _ _ _)); lk)
  have eqb : ∀ (z : Str) (u v : Tok) (Q : Bool → Shared → Prop) (E : Value → Shared → Prop) (A' : Around), Q true ⟨hp, g, d, t, os⟩ → wpAny (model PySem.Challenge.rw_in0008_01.row.prog w) A' (eqBool (.str z u) (.str z v)) Q E ⟨hp, g, d, t, os⟩ := fun z u v Q E A' q =>
    (PySem.strKind PySem.Challenge.rw_in0008_01.row.prog w).eqBool (strKey z u) (strKey z v) (by rw [decide_eq_true rfl]; exact q)
  rw [show [Value.str x tx, Value.str y ty].zip [Value.str x tx', Value.str y ty'] = [(Value.str x tx, Value.str x tx'), (Value.str y ty, Value.str y ty')] from rfl, List.forIn_cons]
  refine wpAny_bind (wpAny_bind (eqb _ _ _ _ _ _ ?_))
  refine wpAny_pure ?_
  dsimp only
  rw [List.forIn_cons]
  refine wpAny_bind (wpAny_bind (eqb _ _ _ _ _ _ ?_))
  refine wpAny_pure ?_
  dsimp only
  rw [List.forIn_nil]
  refine wpAny_pure ?_
  exact wpAny_pure h
theorem pair_eq {Q : Value → Shared → Prop} (hu : A.units < cLine) :
    (hd.heap_1 w.params).In s.heap → s.heap.get? O = some (pairO dO x y tx ty) → s.heap.get? T = some (tup2 x y tx' ty') → Q (.bool true) s →
    wpAny (model PySem.Challenge.rw_in0008_01.row.prog w) A (richCompare .Eq (.ref O) (.ref T)) Q E s := by
  k_fill
  intro X hO hT h
  have L0 : Looks (model PySem.Challenge.rw_in0008_01.row.prog w) s.heap (typeOf (.ref O)) (.ref 203) := (Looks.ld hO).andThen .now
  have LT : Looks (model PySem.Challenge.rw_in0008_01.row.prog w) s.heap (typeOf (.ref T)) (.type "tuple") := (Looks.ld hT).andThen .now
  have LE : Looks (model PySem.Challenge.rw_in0008_01.row.prog w) s.heap (typeLookup (.ref 203) (cmpInfo .Eq).2.1) (some (.builtin "tuple.__eq__")) := looks_findIn X (by k_is)
  have LS : Looks (model PySem.Challenge.rw_in0008_01.row.prog w) s.heap (isSubtype (.type "tuple") (.ref 203)) false := looks_subIn X (by kernel_rfl)
  have one : wpAny (model PySem.Challenge.rw_in0008_01.row.prog w) A (tryCompare (.ref O) (cmpInfo .Eq).2.1 (.ref T)) (fun r s' => ∃ v, r = some v ∧ Q v s') E s := by
    unfold tryCompare
    refine wpAny_bind ?_
    simp only [callSpecialIfBound?, bindSpecialIfBound?]
    refine wpAny_holding (wpAny_bind (wpAny_bind (wpAny_bind (L0.here (LE.here ?_)))))
    refine wpAny_bind (wpAny_askSetting (wpAny_ite ?_))
    have fin : wpAny (model PySem.Challenge.rw_in0008_01.row.prog w) A (PySem.call (.builtin "tuple.__eq__") ([.ref O] ++ [.ref T]) >>= fun v => pure (some v)) (fun a s' => wpAny (model PySem.Challenge.rw_in0008_01.row.prog w) A (match a with | some Value.notImplemented => pure none | none => pure none | some v => pure (some v)) (fun r s' => ∃ v, r = some v ∧ Q v s') E s') E s :=
      wpAny_bind (wpAny_call (teq_run X hO hT (wpAny_pure (wpAny_pure ⟨_, rfl, h⟩))))
    split
    · rw [PySem.F.slot_tuple_eq.bind]
      exact wpAny_bind (wpAny_pure (wpAny_pure fin))
    · rw [PySem.F.slot_tuple_eq.bind]
      exact wpAny_tryCatch (wpAny_bind (wpAny_pure (wpAny_pure fin)))
  unfold richCompare
  simp only [oneThing_ref]
  refine wpAny_holding (wpAny_bind (wpAny_cRoomFor hu ?_))
  refine wpAny_bind (L0.here (wpAny_bind (LT.here ?_)))
  rw [if_pos (by simp)]
  refine wpAny_bind (LS.here ?_)
  simp only [Bool.false_eq_true, if_false]
  refine wpAny_bind (wpAny_mono one (fun r s' z => ?_) fun _ _ e => e)
  obtain ⟨v, rfl, hq⟩ := z
  exact wpAny_pure hq
end
end Mine
end
section
open PySem PySem.W PyProof.Rows PySem.Calls
set_option maxRecDepth 100000
theorem Mine.calm_R20 : True := by
  w_top off
  k_with_none
  exact True.intro
namespace Mine
section
variable {w : World} {A : Around} {h₀ : Heap} {L l : Addr} {m : Str → Option Value} {news : List (Addr × Obj)} {s : Shared} {fd : FuncData}
theorem fr_ne {h : Heap} {a : Addr} (F : Fr h₀ L h m) (e : h.get? a = none) : a ≠ L := fun q => by
  obtain ⟨o, es, ep, ho, _⟩ := F.ns
  rw [← q, e] at ho; cases ho
theorem news_new {h h' : Heap} {a : Addr} {o : Obj} (F : Fr h₀ L h m) (N : News h₀ L h news) (k : ∀ b o, h.get? b = some o → h'.get? b = some o) (hn : h.get? a = none) (ho : h'.get? a = some o) : News h₀ L h' ((a, o) :: news) := fun q hq => by
  rcases List.mem_cons.mp hq with rfl | hq
  · refine ⟨ho, fr_ne F hn, ?_⟩
    cases z : h₀.get? a with
    | none => rfl
    | some x => rw [F.keep _ _ z] at hn; cases hn
  · exact News_kept N k q hq
theorem use_fdd {Q : Value → Shared → Prop} {E : Value → Shared → Prop} (F : Fr h₀ L s.heap m) (N : News h₀ L s.heap news) (X : (hd.heap_1 w.params).In h₀) (hl : (l, (⟨.type "function", none, .func fd, #[]⟩ : Obj)) ∈ news) (hh : A.handled = none) (hd : A.depth ≤ 500) (hu : A.units ≤ 600)
    (k : ∀ B dx h', Fr h₀ L h' m → News h₀ L h' ((B, fdd dx l #[] 0) :: (dx, emptyDict) :: news) → B > dx → (∀ q ∈ news, q.1 ≠ B ∧ q.1 ≠ dx) → B ≠ L → Q (.ref B) { s with heap := h' }) :
    wpAny (model PySem.Challenge.rw_in0008_01.row.prog w) A (call (.ref 108) [.ref l]) Q E s :=
  wpAny_lower (fdd_make (X.keeps F.keep) (N _ hl).1 ⟨fun B dx h' kp hB hdx nB ndx hne => k B dx h' (Fr_kept F kp)
    (fun q hq => by
      rcases List.mem_cons.mp hq with rfl | hq
      · exact news_new F N kp nB hB _ (.head _)
      · exact news_new F N kp ndx hdx q hq)
    hne (fun q hq => ⟨fun z => (by have := (N q hq).1; rw [z, show s.heap.get? B = none from nB] at this; cases this), fun z => (by have := (N q hq).1; rw [z, show s.heap.get? dx = none from ndx] at this; cases this)⟩) (fr_ne F nB)⟩) hh hd hu
end
end Mine
end
section
open PySem PySem.W PyProof.Rows PySem.Calls
set_option maxRecDepth 100000
set_option maxHeartbeats 1000000
theorem Mine.calm_R27 : True := by
  w_top off
  k_with_none
  exact True.intro
namespace Mine
theorem cline : 600 < cLine := by decide +kernel
section
variable {w : World} {A : Around} {h₀ : Heap} {L P dP : Addr} {m : Str → Option Value} {news rest pre post : List (Addr × Obj)} {s : Shared} {x y : Str} {n : Nat} {tk tx ty : Tok}
  {p : Program} {loose : List Str} {mean : ExcName → Option Value} {mg mb : Str → Option Value} {Q : Value → Shared → Prop} {E : Value → Shared → Prop}
theorem use_parse {q : Addr} (F : Fr h₀ L s.heap m) (N : News h₀ L s.heap ((q, methodObj (.ref 197) (.ref 203)) :: rest)) (X : (hd.heap_1 w.params).In h₀) (T : Top p loose mean mg mb h₀) (hlen : x.length ≤ 10) (hat : EqAt x n) (hsg : SignsOk x)
    (hh : A.handled = none) (hD : A.depth ≤ 450) (hU : A.units ≤ 500)
    (k : ∀ P dx ta tb h' tk', Fr h₀ L h' m → News h₀ L h' ((P, pairO dx (firstF x n) (secondF x n) ta tb) :: (dx, emptyDict) :: rest) → Q (.ref P) { s with heap := h', toks := tk' }) :
    wpAny (model PySem.Challenge.rw_in0008_01.row.prog w) A (call (.ref q) [.str x tk]) Q E s :=
  call_meth N (.head _) (codeAny_lower (D := 450) (U := 500) (parse_spec (X.keeps F.keep) (T.keeps F.keep) hlen hat hsg fun P dx ta tb h' tk' kp hn ho hdn hdo => k P dx ta tb h' tk' (Fr_kept F kp) (fun z hz => by
    rcases List.mem_cons.mp hz with rfl | hz
    · exact news_new F N kp hn ho _ (.head _)
    · rcases List.mem_cons.mp hz with rfl | hz
      · exact news_new F N kp hdn hdo _ (.head _)
      · exact News_kept N kp z (.tail _ hz))) hh hD hU)
theorem use_xtype (F : Fr h₀ L s.heap m) (N : News h₀ L s.heap news) (X : (hd.heap_1 w.params).In h₀) (hP : (P, pairO dP x y tx ty) ∈ news) (hh : A.handled = none) (hD : A.depth ≤ 500) (hU : A.units ≤ 600) (h : Q (.ref 203) s) :
    wpAny (model PySem.Challenge.rw_in0008_01.row.prog w) A (call (.type "type") [.ref P]) Q E s :=
  wpAny_lower (xtype (X.keeps F.keep) (N _ hP).1 ⟨h⟩) hh hD hU
theorem use_name {expr : Bool} (F : Fr h₀ L s.heap m) (N : News h₀ L s.heap news) (X : (hd.heap_1 w.params).In h₀) (T : Top p loose mean mg mb h₀) (hP : (P, pairO dP x y tx ty) ∈ news) (hdP : (dP, emptyDict) ∈ news) (hh : A.handled = none) (hD : A.depth ≤ 400) (hU : A.units ≤ 400)
    (k : ∀ h' tk', Fr h₀ L h' m → News h₀ L h' news → Q (.str x tx) { s with heap := h', toks := tk' }) :
    wpAny (model PySem.Challenge.rw_in0008_01.row.prog w) A (getAttr (.ref P) (Str.ofString "name") expr) Q E s :=
  pair_name (X.keeps F.keep) (T.keeps F.keep) (N _ hP).1 (N _ hdP).1 hh hD hU fun h' tk' kp => k h' tk' (Fr_kept F kp) (News_kept N kp)
theorem use_value {expr : Bool} (F : Fr h₀ L s.heap m) (N : News h₀ L s.heap news) (X : (hd.heap_1 w.params).In h₀) (T : Top p loose mean mg mb h₀) (hP : (P, pairO dP x y tx ty) ∈ news) (hdP : (dP, emptyDict) ∈ news) (hh : A.handled = none) (hD : A.depth ≤ 400) (hU : A.units ≤ 400)
    (k : ∀ h' tk', Fr h₀ L h' m → News h₀ L h' news → Q (.str y ty) { s with heap := h', toks := tk' }) :
    wpAny (model PySem.Challenge.rw_in0008_01.row.prog w) A (getAttr (.ref P) (Str.ofString "value") expr) Q E s :=
  pair_value (X.keeps F.keep) (T.keeps F.keep) (N _ hP).1 (N _ hdP).1 hh hD hU fun h' tk' kp => k h' tk' (Fr_kept F kp) (News_kept N kp)
theorem use_eq {T : Addr} {tx' ty' : Tok} (F : Fr h₀ L s.heap m) (N : News h₀ L s.heap news) (X : (hd.heap_1 w.params).In h₀) (hP : (P, pairO dP x y tx ty) ∈ news) (hT : (T, tup2 x y tx' ty') ∈ news) (hU : A.units ≤ 600) (h : Q (.bool true) s) :
    wpAny (model PySem.Challenge.rw_in0008_01.row.prog w) A (richCompare .Eq (.ref P) (.ref T)) Q E s :=
  pair_eq (Nat.lt_of_le_of_lt hU cline) (X.keeps F.keep) (N _ hP).1 (N _ hT).1 h
theorem use_item0 {value slice : Expr} {t : Tok} (hsub : subscripted slice false (.ref P) (.int 0 t) = operate [.ref P, .int 0 t] (getItem (.ref P) (.int 0 t))) (F : Fr h₀ L s.heap m) (N : News h₀ L s.heap news) (hP : (P, pairO dP x y tx ty) ∈ news) :
    (hd.heap_1 w.params).In h₀ → Q (.str x tx) s →
    wpAny (model PySem.Challenge.rw_in0008_01.row.prog w) A (subscriptTail value slice (.ref P) (.int 0 t)) Q E s := by
  k_fill
  intro X h
  have L0 : Looks (model PySem.Challenge.rw_in0008_01.row.prog w) s.heap (typeOf (.ref P)) (.ref 203) := (Looks.ld (N _ hP).1).andThen .now
  exact tail_inst (i := "tuple.__getitem__") (X.keeps F.keep) L0 (by k_is) (pair_getItem0 (X.keeps F.keep) (N _ hP).1 h) hsub
theorem use_item1 {value slice : Expr} {t : Tok} (hsub : subscripted slice false (.ref P) (.int 1 t) = operate [.ref P, .int 1 t] (getItem (.ref P) (.int 1 t))) (F : Fr h₀ L s.heap m) (N : News h₀ L s.heap news) (hP : (P, pairO dP x y tx ty) ∈ news) :
    (hd.heap_1 w.params).In h₀ → Q (.str y ty) s →
    wpAny (model PySem.Challenge.rw_in0008_01.row.prog w) A (subscriptTail value slice (.ref P) (.int 1 t)) Q E s := by
  k_fill
  intro X h
  have L0 : Looks (model PySem.Challenge.rw_in0008_01.row.prog w) s.heap (typeOf (.ref P)) (.ref 203) := (Looks.ld (N _ hP).1).andThen .now
  exact tail_inst (i := "tuple.__getitem__") (X.keeps F.keep) L0 (by k_is) (pair_getItem1 (X.keeps F.keep) (N _ hP).1 h) hsub
end
section
variable {w : World} {A : Around} {h₀ : Heap} {L B dx lam l : Addr} {m : Str → Option Value} {news rest pre post : List (Addr × Obj)} {s : Shared} {k : Str} {t : Tok} {es : Array DictEntry} {ep : Nat} {kvs : List (Str × Addr)}
  {p : Program} {loose : List Str} {mean : ExcName → Option Value} {mg mb : Str → Option Value} {Q : Value → Shared → Prop} {E : Value → Shared → Prop} {value slice : Expr} {fd : FuncData}
theorem use_hit (hsub : subscripted slice false (.ref B) (.str k t) = operate [.ref B, .str k t] (getItem (.ref B) (.str k t))) (F : Fr h₀ L s.heap m) (N : News h₀ L s.heap news) (hB : (B, fdd dx lam es ep) ∈ news)
    (H : Holds PySem.Challenge.rw_in0008_01.row.prog w es kvs) (hk : (k, l) ∈ kvs) :
    (hd.heap_1 w.params).In h₀ → Q (.ref l) { s with toks := s.toks + 1 } →
    wpAny (model PySem.Challenge.rw_in0008_01.row.prog w) A (subscriptTail value slice (.ref B) (.str k t)) Q E s := by
  k_fill
  intro X h
  have L0 : Looks (model PySem.Challenge.rw_in0008_01.row.prog w) s.heap (typeOf (.ref B)) (.ref 108) := (Looks.ld (N _ hB).1).andThen .now
  exact tail_inst (i := "dict.__getitem__") (X.keeps F.keep) L0 (by k_is) (fdd_hit H hk (X.keeps F.keep) (N _ hB).1 h) hsub
theorem new_ne {b : Addr} {o : Obj} (N : News h₀ L s.heap news) (hB : (B, o) ∈ news) (h : ∃ x, h₀.get? b = some x) : B ≠ b := fun e => by
  obtain ⟨x, h⟩ := h
  have := (N _ hB).2.2
  rw [show (B, o).1 = b from e, h] at this; cases this
theorem use_miss (hsub : subscripted slice false (.ref B) (.str k t) = operate [.ref B, .str k t] (getItem (.ref B) (.str k t))) (F : Fr h₀ L s.heap m) (N : News h₀ L s.heap (pre ++ (B, fdd dx lam es ep) :: post))
    (hd1 : ∀ q ∈ pre, q.1 ≠ B) (hd2 : ∀ q ∈ post, q.1 ≠ B) (hdx : (dx, emptyDict) ∈ post) (hlam : (lam, (⟨.type "function", none, .func fd, #[]⟩ : Obj)) ∈ post)
    (H : Holds PySem.Challenge.rw_in0008_01.row.prog w es kvs) (hk : k ∉ kvs.map (·.1)) (hz : kvs.length ≤ 1000) (hG : GivesE (model PySem.Challenge.rw_in0008_01.row.prog w) s.heap (.ref lam) [])
    (hA : A.handled = none) (hD : A.depth ≤ 400) (hU : A.units ≤ 400) (hns : B ≠ sysModules) (T : Top p loose mean mg mb h₀) :
    (hd.heap_1 w.params).In h₀ →
    (∀ l t' h' tk' es', Fr h₀ L h' m → News h₀ L h' ((l, listE t') :: (pre ++ (B, fdd dx lam es' (ep + 1)) :: post)) → Holds PySem.Challenge.rw_in0008_01.row.prog w es' (kvs ++ [(k, l)]) → (∀ q ∈ pre, q.1 ≠ l) → (∀ q ∈ post, q.1 ≠ l) → Q (.ref l) { s with heap := h', toks := tk' }) →
    wpAny (model PySem.Challenge.rw_in0008_01.row.prog w) A (subscriptTail value slice (.ref B) (.str k t)) Q E s := by
  k_fill
  intro X h
  have mB : (B, fdd dx lam es ep) ∈ pre ++ (B, fdd dx lam es ep) :: post := List.mem_append_right _ (.head _)
  have L0 : Looks (model PySem.Challenge.rw_in0008_01.row.prog w) s.heap (typeOf (.ref B)) (.ref 108) := (Looks.ld (N _ mB).1).andThen .now
  refine tail_inst (i := "dict.__getitem__") (X.keeps F.keep) L0 (by k_is) ?_ hsub
  have h108 : ∃ x, h₀.get? 108 = some x := ⟨_, X 108 _ (by k_is)⟩
  have apart : ∀ q ∈ pre ++ post, q.1 ≠ B := fun q hq => by
    rcases List.mem_append.mp hq with hq | hq
    · exact hd1 q hq
    · exact hd2 q hq
  refine fdd_miss H hk hns hA hD hU (X.keeps F.keep) (N _ mB).1 fun fr gd => ?_
  refine missing_fresh (s := { s with toks := s.toks + 1 }) (X.keeps F.keep) (T.keeps F.keep) (new_ne N mB h108) hns (N _ mB).1 (N _ (List.mem_append_right _ (.tail _ hdx))).1 (N _ (List.mem_append_right _ (.tail _ hlam))).1 H hk hz hG ?_
  intro l t' h' tk' es' hkp hn hl hB' hH
  have hnl : ∀ q ∈ pre ++ (B, fdd dx lam es ep) :: post, q.1 ≠ l := fun q hq e => by
    have := (N q hq).1
    rw [e, show s.heap.get? l = none from hn] at this; cases this
  have hLB : L ≠ B := (N _ mB).2.1.symm
  have hkB : ∀ b o, h₀.get? b = some o → b ≠ B := fun b o e z => by
    have := (N _ mB).2.2
    rw [show (B, fdd dx lam es ep).1 = b from z.symm, e] at this; cases this
  refine h l t' h' tk' es' ⟨F.ns.at' fun o z => hkp _ o hLB z, fun b o z => hkp b o (hkB b o z) (F.keep b o z), F.above⟩ (fun q hq => ?_) hH (fun q hq => hnl q (List.mem_append_left _ hq)) (fun q hq => hnl q (List.mem_append_right _ (.tail _ hq)))
  rcases List.mem_cons.mp hq with rfl | hq
  · refine ⟨hl, fr_ne F hn, ?_⟩
    cases z : h₀.get? l with
    | none => rfl
    | some o =>
      have z2 := F.keep _ _ z
      rw [show s.heap.get? l = none from hn] at z2; cases z2
  · rcases List.mem_append.mp hq with hq | hq
    · have z := N q (List.mem_append_left _ hq)
      exact ⟨hkp _ _ (apart q (List.mem_append_left _ hq)) z.1, z.2⟩
    · rcases List.mem_cons.mp hq with rfl | hq
      · exact ⟨hB', (N _ mB).2⟩
      · have z := N q (List.mem_append_right _ (.tail _ hq))
        exact ⟨hkp _ _ (apart q (List.mem_append_right _ hq)) z.1, z.2⟩
theorem ne_seq {h : Heap} {D : Addr} {o : Obj} (N : News h₀ L h news) (hD : (D, o) ∈ news) {q : Addr × Obj} (hq : q ∈ news) (hne : q.2 ≠ o) : q.1 ≠ D := N.twoPlaces hq hD hne
theorem append_N {D : Addr} {its : Array Value} {n : Nat} {x : Value} {Q : Value → Shared → Prop} (F : Fr h₀ L s.heap m) (N : News h₀ L s.heap (pre ++ (D, W.listOf its n) :: post)) (h1 : ∀ q ∈ pre, q.2 ≠ W.listOf its n) (h2 : ∀ q ∈ post, q.2 ≠ W.listOf its n)
    (h : ∀ h', Fr h₀ L h' m → News h₀ L h' (pre ++ (D, W.listOf (its.push x) (n + 1)) :: post) → Q .none { s with heap := h' }) (hsz : its.size ≤ sizeLine) : wpAny (model PySem.Challenge.rw_in0008_01.row.prog w) A (call (.builtin "list.append") [.ref D, x]) Q E s := by
  have mD : (D, W.listOf its n) ∈ pre ++ (D, W.listOf its n) :: post := List.mem_append_right _ (.head _)
  have z := N _ mD
  refine append_at (hsz := hsz) z.1 fun h' hs ho' => h h' (F.change hs z.2.1 z.2.2) (news_set N (fun q hq => N.twoPlaces (List.mem_append_left _ hq) mD (h1 q hq)) (fun q hq => N.twoPlaces (List.mem_append_right _ (.tail _ hq)) mD (h2 q hq)) hs ho')
theorem append_E {ents fixed : List (Addr × Obj)} {l : Addr} {its : Array Value} {n : Nat} {x : Value} {Q : Value → Shared → Prop} (F : Fr h₀ L s.heap m) (N : News h₀ L s.heap (pre ++ (ents ++ fixed))) (hl : (l, W.listOf its n) ∈ ents) (h1 : ∀ q ∈ pre, q.2 ≠ W.listOf its n) (h2 : ∀ q ∈ fixed, q.2 ≠ W.listOf its n)
    (h : ∀ h', Fr h₀ L h' m → News h₀ L h' (pre ++ (setAt ents l (W.listOf (its.push x) (n + 1)) ++ fixed)) → Q .none { s with heap := h' }) (hsz : its.size ≤ sizeLine) : wpAny (model PySem.Challenge.rw_in0008_01.row.prog w) A (call (.builtin "list.append") [.ref l, x]) Q E s := by
  have mD : (l, W.listOf its n) ∈ pre ++ (ents ++ fixed) := List.mem_append_right _ (List.mem_append_left _ hl)
  have z := N _ mD
  refine append_at (hsz := hsz) z.1 fun h' hs ho' => h h' (F.change hs z.2.1 z.2.2) (news_setAt N hs ho' z.2 (fun q hq => N.twoPlaces (List.mem_append_left _ hq) mD (h1 q hq)) (fun q hq => N.twoPlaces (List.mem_append_right _ (List.mem_append_right _ hq)) mD (h2 q hq)))
end
theorem ne_cls {o : Obj} {c : Value} {its : Array Value} {n : Nat} (h : o.cls = c) (hc : c ≠ .type "list") : o ≠ W.listOf its n := fun e => hc (by rw [← h, e])
theorem name_ne_told {ents : List (Addr × Obj)} {tis : Array Value} {ts : List Line} {nT : Nat} {o : Obj} {ks : List Str} (h : Told ents tis.toList ts) (x : NameList o ks) : o ≠ W.listOf tis nT := fun e => by
  obtain ⟨vs, n, rfl, sv⟩ := x
  have e1 : vs.toArray = tis := by
    have := congrArg Obj.data e
    simp only [Data.seq.injEq] at this
    exact this.1
  subst e1
  cases sv with
  | cons a _ =>
    obtain ⟨t, rfl⟩ := a
    have h2 : Told ents ((Value.str (Str.ofString "E") t) :: _) ts := h
    cases h2 with
    | cons b _ => obtain ⟨_, _, e, _⟩ := b; cases e
theorem told_ne {o : Obj} {p : Line} {its : Array Value} {n : Nat} (x : ToldO o p) : o ≠ W.listOf its n := by
  obtain ⟨_, _, _, _, rfl⟩ := x
  exact ne_cls rfl (by simp)
theorem ents_ne {prog : Program} {w : World} {ents : List (Addr × Obj)} {tis : Array Value} {ts : List Line} {kvs : List (Str × Addr)} {es : Array DictEntry} {nT : Nat} (I : BookInv prog w ts tis kvs es ents) : ∀ q ∈ ents, q.2 ≠ W.listOf tis nT := fun q hq => by
  rcases I.cls q hq with ⟨p, h⟩ | ⟨ks, h⟩
  · exact told_ne h
  · exact name_ne_told I.told h
theorem seq_ne {fx : List (Addr × Obj)} (hfS : ∀ q ∈ fx, ∀ its n, q.2.data ≠ .seq its n) {its : Array Value} {n : Nat} : ∀ q ∈ fx, q.2 ≠ W.listOf its n := fun q hq e => hfS q hq its n (by rw [e])
theorem all_append {α : Type} {P : α → Prop} {a b : List α} (ha : ∀ q ∈ a, P q) (hb : ∀ q ∈ b, P q) : ∀ q ∈ a ++ b, P q := fun q hq => (List.mem_append.mp hq).elim (ha q) (hb q)
section
variable {w : World} {A : Around} {h₀ : Heap} {L T l : Addr} {m : Str → Option Value} {news : List (Addr × Obj)} {s : Shared} {Q : Value → Shared → Prop} {E : Value → Shared → Prop} {value slice : Expr} {t : Tok} {its : Array Value} {n : Nat} {v : Value}
theorem use_last (hsub : subscripted slice false (.ref l) (.int (-1) t) = operate [.ref l, .int (-1) t] (getItem (.ref l) (.int (-1) t))) (N : News h₀ L s.heap news) (hl : (l, W.listOf (its.push v) n) ∈ news) (h : Q v s) :
    wpAny (model PySem.Challenge.rw_in0008_01.row.prog w) A (subscriptTail value slice (.ref l) (.int (-1) t)) Q E s := by
  have hL : s.heap.IsList l (its.push v) := ⟨_, (N _ hl).1, rfl, _, rfl⟩
  refine tail_any hL.typeIs slot_list_getitem.lookup (wpAny_getItem_list_neg hL (by decide) (by simp; omega) (by decide) ?_ h) hsub
  rw [show ((-1 : Int) + ((its.push v).size : Int)).toNat = its.size by simp; omega]
  simp
theorem use_tup2 {a b c d : Str} {ta tb tc td : Tok} (hsub : subscripted slice false (.ref T) (.int 2 t) = operate [.ref T, .int 2 t] (getItem (.ref T) (.int 2 t))) (N : News h₀ L s.heap news) (hT : (T, tup5 a b c d ta tb tc td) ∈ news) (h : Q (.str c tc) s) :
    wpAny (model PySem.Challenge.rw_in0008_01.row.prog w) A (subscriptTail value slice (.ref T) (.int 2 t)) Q E s :=
  item_tupleT (l := [.str a ta, .str b tb, .str c tc, .str d td, .bool true]) (j := 2) (News.isTup N hT) (by decide) (by decide) rfl rfl h hsub
end
theorem neg1_eval {prog : Program} {w : World} {A : Around} {s : Shared} {Q : Value → Shared → Prop} {E : Value → Shared → Prop} {env : Env} {k : Nat} {p p' : Pos} (h : ∀ t t', Q (.int (-1) t) { s with toks := t' }) :
    wpAny (model prog w) A (eval (.UnaryOp .USub (.Constant (.int 1) k p) p') env) Q E s :=
  UnaryOp_ (wpAny_Constant_int (neg_int (h _ _)))
section
variable {w : World} {A : Around} {h₀ : Heap} {L D : Addr} {m : Str → Option Value} {news pre post : List (Addr × Obj)} {s : Shared} {E : Value → Shared → Prop} {its : Array Value} {n : Nat} {x : Value}
theorem append_A {Q : Value → Shared → Prop} (F : Fr h₀ L s.heap m) (N : News h₀ L s.heap ((D, W.listOf its n) :: post)) (h2 : ∀ q ∈ post, q.1 ≠ D)
    (h : ∀ h', Fr h₀ L h' m → News h₀ L h' ((D, W.listOf (its.push x) (n + 1)) :: post) → Q .none { s with heap := h' }) (hsz : its.size ≤ sizeLine) : wpAny (model PySem.Challenge.rw_in0008_01.row.prog w) A (call (.builtin "list.append") [.ref D, x]) Q E s := by
  have z := N _ (.head _)
  refine append_at (hsz := hsz) z.1 fun h' hs ho' => h h' (F.change hs z.2.1 z.2.2) (news_set (pre := []) N (fun q hq => by cases hq) h2 hs ho')
theorem use_appm {pl : Sem Bool} {Q : Value × List Value → Shared → Prop} (hm : s.heap.get? D = some (W.listOf its n)) (h : Q (.builtin "list.append", [.ref D]) s) : wpAny (model PySem.Challenge.rw_in0008_01.row.prog w) A (getMethod (.ref D) (Str.ofString "append") pl) Q E s :=
  getMethod_builtin ⟨_, hm, rfl⟩ PySem.F.plainAttrs_list PySem.F.slot_list_append PySem.F.type_list_append (fun a e => by cases e; exact ⟨_, hm, rfl⟩) h
theorem ne_at {h : Heap} {o : Obj} {q : Addr × Obj} (N : News h₀ L h news) (hq : q ∈ news) (hD : (D, o) ∈ news) (hne : q.2.cls ≠ o.cls) : q.1 ≠ D := N.twoPlaces hq hD fun e => hne (by rw [e])
end
theorem keysOf_length (ts : List Line) : (keysOf ts).length ≤ ts.length := by
  induction ts using snoc_ind with
  | h0 => exact Nat.le_refl _
  | h1 ts p ih =>
    rw [keysOf_snoc]
    split
    · simp; omega
    · simp; omega
theorem fdd_ne_ent {prog : Program} {w : World} {ents : List (Addr × Obj)} {tis : Array Value} {ts : List Line} {kvs : List (Str × Addr)} {es : Array DictEntry} (I : BookInv prog w ts tis kvs es ents) : ∀ q ∈ ents, q.2.cls ≠ .ref 108 := fun q hq => by
  rcases I.cls q hq with ⟨p, _, _, _, _, e⟩ | ⟨ks, _, _, e, _⟩
  · rw [e]; simp
  · rw [e]; simp
theorem ent_cls {prog : Program} {w : World} {ents : List (Addr × Obj)} {tis : Array Value} {ts : List Line} {kvs : List (Str × Addr)} {es : Array DictEntry} (I : BookInv prog w ts tis kvs es ents) : ∀ q ∈ ents, q.2.cls = .type "tuple" ∨ q.2.cls = .type "list" := fun q hq => by
  rcases I.cls q hq with ⟨p, _, _, _, _, e⟩ | ⟨ks, _, _, e, _⟩
  · rw [e]; exact .inl rfl
  · rw [e]; exact .inr rfl
theorem ent_ne {h₀ h : Heap} {L D : Addr} {news : List (Addr × Obj)} {prog : Program} {w : World} {ents : List (Addr × Obj)} {tis : Array Value} {ts : List Line} {kvs : List (Str × Addr)} {es : Array DictEntry} {o : Obj} (I : BookInv prog w ts tis kvs es ents) (N : News h₀ L h news) (hm : ∀ q ∈ ents, q ∈ news) (hD : (D, o) ∈ news)
    (h1 : o.cls ≠ .type "tuple") (h2 : o.cls ≠ .type "list") : ∀ q ∈ ents, q.1 ≠ D := fun q hq => ne_at N (hm q hq) hD fun e => by
  rcases ent_cls I q hq with z | z
  · exact h1 (e.symm.trans z)
  · exact h2 (e.symm.trans z)
end Mine
end
section
open PySem PySem.W PyProof.Rows PySem.Calls
set_option maxRecDepth 100000
theorem Mine.calm_R19 : True := by
  w_top off
  k_with_none
  exact True.intro
namespace Mine
section
variable {prog : Program} {w : World} {A : Around} {s : Shared} {K : Frag} {p : Program} {loose : List Str} {mean : ExcName → Option Value} {mg mb : Str → Option Value}
  {R : Result → Shared → Prop} {name qual : Str} {params : Arguments} {body : List Stmt} {scope : Scope} {dV kV doc pm cdv ct oc : Value} {an od : Option Addr} {osl : Array (Option Value)} {f : Addr} {args : Args} {binds : List (Str × Value)}
  {h₀ : Heap} {news : List (Addr × Obj)}
/-- hid_callC for a def without cells -/
theorem hid_call (X : K.In h₀) (T : Top p loose mean mg mb h₀) (e : ∀ b o, h₀.get? b = some o → s.heap.get? b = some o) (hz : h₀.objs.size ≤ s.heap.objs.size) (N₀ : ∀ q ∈ news, s.heap.get? q.1 = some q.2 ∧ h₀.get? q.1 = none)
    (ho : K.lookup f = some ⟨oc, od, .func (fnOf name qual params body scope dV kV doc pm an cdv ct), osl⟩) (hcd : codeIn K cdv qual = true) (hroom : A.depth < recursionLimit)
    (hbind : BindsTo s (fnOf name qual params body scope dV kV doc pm an cdv ct) args binds) (hloc : ∀ y ∈ binds, scope.names.lookup y.1 = some .local)
    (h : ∀ L' h₁, Fr h₀ L' h₁ (fun y => binds.reverse.lookup y) → News h₀ L' h₁ news → (∀ q ∈ news, q.1 < L') →
      wpAny (model prog w) (A.deeper (envOf qual scope L' f cdv)) (execs body (envOf qual scope L' f cdv))
        (fun fl s' => R (.ok (.ret (match fl with | .ret v => v | _ => .none))) s')
        (fun e s' => wpAny (model prog w) (A.deeper (envOf qual scope L' f cdv)) (leaving (envOf qual scope L' f cdv) e) (fun _ s'' => R (.error e) s'') (fun e' s'' => R (.error e') s'') s')
        { s with heap := h₁, toks := s.toks + binds.length })
    (hco : scope.isCoroutine = false) (hgen : scope.isGenerator = false) (hk : scope.kind = .function)
    (hcell : ∀ x ∈ scope.names, x.2 ≠ .cell) : codeAny (model prog w) A (.call (.ref f) args) R s := by
  refine codeAny_call_def (fd := fnX name qual params body scope [] dV kV doc pm an cdv ct) (body := body) (binds := binds) hroom (e _ _ (X _ _ ho)) rfl (T.nolimit.keeps e) (codeRec_of (X.keeps e) hcd) rfl hbind hcell hloc (fun h₁ hns hk₁ => ?_) hco hgen hk
  exact h s.heap.objs.size h₁ ⟨hns, fun b o q => hk₁ b o (e b o q), hz⟩ (fun q hq => ⟨hk₁ _ _ (N₀ q hq).1, Nat.ne_of_lt (Heap.lt_size (N₀ q hq).1), (N₀ q hq).2⟩) (fun q hq => Heap.lt_size (N₀ q hq).1)
end
end Mine
end
section
open PySem PySem.W PyProof.Rows PySem.Calls
set_option maxRecDepth 100000
set_option maxHeartbeats 1000000
theorem Mine.calm_R22 : True := by
  w_top off
  k_with_none
  exact True.intro
namespace Mine
section
variable {w : World} {A : Around} {s : Shared} {B dx lam : Addr} {es : Array DictEntry} {ep : Nat}
theorem fdd_freeze_method {Q : Value × List Value → Shared → Prop} {E : Value → Shared → Prop} {pl : Sem Bool} (hdx : s.heap.get? dx = some emptyDict) : (hd.heap_1 w.params).In s.heap → s.heap.get? B = some (fdd dx lam es ep) → Q (.ref 105, [.ref B]) s →
    wpAny (model PySem.Challenge.rw_in0008_01.row.prog w) A (getMethod (.ref B) (Str.ofString "freeze") pl) Q E s := by
  k_fill
  intro X hB hQ
  obtain ⟨hp, g, d, t, os⟩ := s
  dsimp only at X hB hdx
  have L0 : Looks (model PySem.Challenge.rw_in0008_01.row.prog w) hp (typeOf (.ref B)) (.ref 108) := (Looks.ld hB).andThen .now
  have Lga : Looks (model PySem.Challenge.rw_in0008_01.row.prog w) hp (typeLookup (.ref 108) (Str.ofString "__getattribute__")) (some (.builtin "collections.defaultdict.__getattribute__")) := looks_findIn X (by k_is)
  have Lg : Looks (model PySem.Challenge.rw_in0008_01.row.prog w) hp (typeLookup (.ref 108) (Str.ofString "__getattr__")) none := looks_findIn X (by k_is)
  have Lf : Looks (model PySem.Challenge.rw_in0008_01.row.prog w) hp (typeLookup (.ref 108) (Str.ofString "freeze")) (some (.ref 105)) := looks_findIn X (by k_is)
  have Lt : Looks (model PySem.Challenge.rw_in0008_01.row.prog w) hp (typeOf (.ref 105)) (.type "function") := looks_typeIn X (by k_is)
  have Ln : Looks (model PySem.Challenge.rw_in0008_01.row.prog w) hp (nsGet dx (Str.ofString "freeze")) none := (Looks.ld hdx).andThen .now
  unfold getMethod specialOf
  repeat lk
  exact hQ
end
end Mine
end
section
open PySem PySem.W PyProof.Rows PySem.Calls
set_option maxRecDepth 100000
theorem Mine.calm_R16 : True := by
  w_top off
  k_with_none
  exact True.intro
namespace Mine
section
variable {prog : Program} {w : World} {A : Around} {s : Shared} {K : Frag} {p : Program} {loose : List Str} {mean : ExcName → Option Value} {mg mb : Str → Option Value}
  {R : Result → Shared → Prop} {name qual : Str} {params : Arguments} {body : List Stmt} {scope : Scope} {dV kV doc pm cdv ct oc : Value} {an od : Option Addr} {osl : Array (Option Value)} {f : Addr} {args : Args} {binds : List (Str × Value)}
  {h₀ : Heap} {news : List (Addr × Obj)}
/-- a call of a def whose ledger opens with things that stood before: h₀ is the heap without them -/
theorem hid_callC (X : K.In h₀) (T : Top p loose mean mg mb h₀) (e : ∀ b o, h₀.get? b = some o → s.heap.get? b = some o) (hz : h₀.objs.size ≤ s.heap.objs.size) (N₀ : ∀ q ∈ news, s.heap.get? q.1 = some q.2 ∧ h₀.get? q.1 = none)
    (ho : K.lookup f = some ⟨oc, od, .func (fnOf name qual params body scope dV kV doc pm an cdv ct), osl⟩) (hcd : codeIn K cdv qual = true) (hroom : A.depth < recursionLimit)
    (hbind : BindsTo s (fnOf name qual params body scope dV kV doc pm an cdv ct) args binds)
    (hkind : (binds.all fun y => scope.names.lookup y.1 == some .local || scope.names.lookup y.1 == some .cell) = true)
    (hnd : ((cellsFrom 0 scope.names []).map (·.1)).Nodup)
    (h : ∀ L' h₁ tk cells, Fr h₀ L' h₁ (bindL (envOfC qual scope L' f cdv).kindOf binds fun _ => none) → News h₀ L' h₁ (cells ++ news) →
      CellsAre (bindC (envOfC qual scope L' f cdv).kindOf binds fun _ => none) (cellsFrom (L' + 1) scope.names []) cells → (∀ q ∈ news, q.1 < L') →
      wpAny (model prog w) (A.deeper (envOfC qual scope L' f cdv)) (execs body (envOfC qual scope L' f cdv))
        (fun fl s' => R (.ok (.ret (match fl with | .ret v => v | _ => .none))) s')
        (fun e s' => wpAny (model prog w) (A.deeper (envOfC qual scope L' f cdv)) (leaving (envOfC qual scope L' f cdv) e) (fun _ s'' => R (.error e) s'') (fun e' s'' => R (.error e') s'') s')
        { s with heap := h₁, toks := tk })
    (hco : scope.isCoroutine = false) (hgen : scope.isGenerator = false) (hk : scope.kind = .function) :
    codeAny (model prog w) A (.call (.ref f) args) R s := by
  refine codeAny_call_function (fd := fnX name qual params body scope [] dV kV doc pm an cdv ct) hroom (e _ _ (X _ _ ho)) rfl hco hgen rfl (codeRec_of (X.keeps e) hcd) (hbind _ _ _ _ ?_)
  refine wpAny_newFunctionEnv_cells hk (kindsX hkind _) fun env' he s' x => ?_
  subst he
  refine ⟨(T.nolimit.keeps e).keeps x.toInCall.keep, codeAny_func ?_⟩
  obtain ⟨h₁, tk, rfl, _⟩ := x.done
  have hk₁ := x.toInCall.keep
  obtain ⟨cells, NC, Y⟩ := Cl.news (h₀ := s.heap) (Nat.le_refl _) fun n c hm => ⟨x.cell n c (lookup_of_mem_nodup (cellsFrom_names scope.names 0 (s.heap.objs.size + 1) [] [] rfl ▸ hnd) hm), x.above n c hm⟩
  refine h s.heap.objs.size h₁ tk cells ⟨x.toInCall.ns, fun b o q => hk₁ b o (e b o q), hz⟩ (fun q hq => ?_) Y fun q hq => Heap.lt_size (N₀ q hq).1
  rcases List.mem_append.mp hq with hq | hq
  · exact ⟨(NC q hq).1, (NC q hq).2.1, fresh_back e (NC q hq).2.2⟩
  · exact ⟨hk₁ _ _ (N₀ q hq).1, Nat.ne_of_lt (Heap.lt_size (N₀ q hq).1), (N₀ q hq).2⟩
end
end Mine
end
section
open PySem PySem.W PyProof.Rows PySem.Calls Builtin Builtin.ObjectAttr
set_option maxRecDepth 100000
set_option maxHeartbeats 1000000
theorem Mine.calm_R17 : True := by
  w_top off
  k_with_none
  exact True.intro
namespace Mine
theorem refuse_dd (self : Value) : refuseLoop self "__setattr__" [.ref 108, .type "collections.defaultdict", .type "dict", .type "object"] = pure () := by
  rw [refuseLoop_ref]
  kernel_rfl
theorem mro_of' {K : Frag} {M : Model} {h : Heap} {C : Addr} {l : List Value} {cd : ClassData} (X : K.In h) (e : clsIn K C = some cd) (e2 : cd.mro = l) : Looks M h (mroOf (.ref C)) l := e2 ▸ (looks_clsIn X e).andThen .now
theorem dict_of {K : Frag} {M : Model} {h : Heap} {C : Addr} {cd : ClassData} (X : K.In h) (e : clsIn K C = some cd) (e2 : cd.hasDict = true) : ∃ cd, Looks M h (classData C) cd ∧ cd.hasDict = true := ⟨cd, looks_clsIn X e, e2⟩
section
variable {w : World} {A : Around} {E : Value → Shared → Prop} {s : Shared} {h₀ : Heap} {L B dx lam : Addr} {m : Str → Option Value} {es : Array DictEntry} {ep : Nat} {v : Value} {pre post : List (Addr × Obj)}
noncomputable abbrev frozenD (w : World) (u : Tok) (v : Value) : Obj := Obj.putName (Str.ofString "_frozen") (PyData.keyHash w.params (Str.ofString "_frozen")) (.str (Str.ofString "_frozen") u) v emptyDict
theorem fdd_set {Q : Unit → Shared → Prop} :
    (hd.heap_1 w.params).In s.heap → Fr h₀ L s.heap m → News h₀ L s.heap (pre ++ (dx, emptyDict) :: post) → (∀ p ∈ pre, p.1 ≠ dx) → (∀ p ∈ post, p.1 ≠ dx) → s.heap.get? B = some (fdd dx lam es ep) →
    (∀ h' u tk', Fr h₀ L h' m → News h₀ L h' (pre ++ (dx, frozenD w u v) :: post) → Q () { s with heap := h', toks := tk' }) →
    wpAny (model PySem.Challenge.rw_in0008_01.row.prog w) A (setAttr (.ref B) (Str.ofString "_frozen") v) Q E s := by
  k_fill
  intro X F N h1 h2 hB hQ
  obtain ⟨hp, g, d, t, os⟩ := s
  dsimp only at X F N hB hQ
  have D := (N (dx, emptyDict) (by simp)).1
  have I : InstAt hp B (fdd dx lam es ep) 108 (some emptyDict) := ⟨hB, rfl, rfl, D⟩
  refine set_plain X I (by k_is) ?_
  have SF := PySem.F.store_object
  have L0 := I.type (M := model PySem.Challenge.rw_in0008_01.row.prog w)
  have sub : Looks (model PySem.Challenge.rw_in0008_01.row.prog w) hp (isInstance (.ref B) (.type "object")) true := L0.andThen (looks_mroIn X (by kernel_rfl))
  refine codeAny_call_builtin SF.slot.plain SF.entry (@check_slot (model PySem.Challenge.rw_in0008_01.row.prog w) _ _ ⟨hp, g, d, t + 1, os⟩ "object.__setattr__" "object" "__setattr__" (.ref B) [.str (Str.ofString "_frozen") t, v] [] _ SF.kind SF.split sub (SF.args (.ref B) (.str (Str.ofString "_frozen") t) v) ?_)
  have hm : Looks (model PySem.Challenge.rw_in0008_01.row.prog w) hp (mroOf (.ref 108)) [Value.ref 108, .type "collections.defaultdict", .type "dict", .type "object"] := by
    refine' mro_of' X ?a ?b
    (case a => k_is)
    (case b => rfl)
  have LN : Looks (model PySem.Challenge.rw_in0008_01.row.prog w) hp (typeLookup (.ref 108) (Str.ofString "_frozen")) none := looks_findIn X (by k_is)
  rw [osa_eq, refuse_eq]
  refine wpAny_bind (wpAny_bind (L0.at (wpAny_bind (hm.at ?_))))
  rw [refuse_dd]
  refine wpAny_pure (wpAny_bind (L0.at (wpAny_bind (LN.at (wpAny_bind (wpAny_pure ?_))))))
  show wpAny _ _ (storeInOwnDict _ _ _ _ _ _) _ _ _
  obtain ⟨cd, LC, hcd⟩ : ∃ cd, Looks (model PySem.Challenge.rw_in0008_01.row.prog w) hp (classData 108) cd ∧ cd.hasDict = true := by
    refine' dict_of X ?a ?b
    (case a => k_is)
    (case b => rfl)
  repeat lk
  rw [hcd]
  refine wpAny_pure (a := some dx) ?_
  dsimp only
  refine wpAny_bind (wpAny_pure (wpAny_bind ?_))
  unfold nsSet
  refine wpAny_bind (wpAny_bind (wpAny_askSetting (wpAny_pure (wpAny_bind (wpAny_mkText (wpAny_bind (wpAny_loadPart D ?_)))))))
  obtain ⟨U1, U2⟩ := news_upd (f := Obj.putName (Str.ofString "_frozen") (PyData.keyHash w.params (Str.ofString "_frozen")) (.str (Str.ofString "_frozen") (t + 1)) v) (o' := frozenD w (t + 1) v) F N h1 h2 rfl rfl
  have D' := (U2 (dx, frozenD w (t + 1) v) (by simp)).1
  dsimp only
  rw [if_neg (by decide +kernel)]
  refine wpAny_updatePart D ?_
  refine wpAny_bind (wpAny_lookBehind D' (pastItsLine_dict (es := #[⟨PyData.keyHash w.params (Str.ofString "_frozen"), .str (Str.ofString "_frozen") (t + 1), v⟩]) (n := 1) (by rw [sizeLine_eq]; exact Nat.le_of_ble_eq_true rfl)) ?_)
  exact wpAny_pure (hQ _ _ _ U1 U2)
end
end Mine
end
section
open PySem PySem.W PyProof.Rows PySem.Calls Builtin Builtin.ObjectAttr Builtin.Getset_descriptor Builtin.Collections_defaultdict
set_option maxRecDepth 100000
set_option maxHeartbeats 1000000
theorem Mine.calm_R18 : True := by
  w_top off
  k_with_none
  exact True.intro
namespace Mine
theorem type_dfac : typeOf (.builtin "collections.defaultdict.default_factory") = pure (.type "member_descriptor") := by show builtinType _ = _; rw [builtinType_eq_fast]; kernel_rfl
theorem kind_mg : builtinKind "member_descriptor.__get__" = some .slot := by decide +kernel
theorem split_mg : splitId "member_descriptor.__get__" = some ("member_descriptor", "__get__") := by decide +kernel
theorem sub_mm : isSubtype (.type "member_descriptor") (.type "member_descriptor") = pure true := by rw [isSubtype_type]; kernel_rfl
theorem entry_dfac : entryFor table "collections.defaultdict.default_factory" = some Builtin.«collections.defaultdict.default_factory» := entryFor_of_tree (by kernel_rfl)
section
variable {w : World} {A : Around} {s : Shared} {B dx lam : Addr} {es : Array DictEntry} {ep : Nat} {R : Result → Shared → Prop}
theorem dfac_get : (hd.heap_1 w.params).In s.heap → s.heap.get? B = some (fdd dx lam es ep) → R (.ok (.ret (.ref lam))) s →
    codeAny (model PySem.Challenge.rw_in0008_01.row.prog w) A (.call (.builtin "member_descriptor.__get__") ⟨[.builtin "collections.defaultdict.default_factory", .ref B, .ref 108], []⟩) R s := by
  k_fill
  intro X hB h
  obtain ⟨hp, g, d, t, os⟩ := s
  dsimp only at X hB
  have L0 : Looks (model PySem.Challenge.rw_in0008_01.row.prog w) hp (typeOf (.ref B)) (.ref 108) := (Looks.ld hB).andThen .now
  have L1 : Looks (model PySem.Challenge.rw_in0008_01.row.prog w) hp (isSubtype (.ref 108) (.type "collections.defaultdict")) true := looks_mroIn X (by kernel_rfl)
  have LM : Looks (model PySem.Challenge.rw_in0008_01.row.prog w) hp (isInstance (.builtin "collections.defaultdict.default_factory") (.type "member_descriptor")) true := (Looks.of_pure type_dfac).andThen (Looks.of_pure sub_mm)
  have h108 : hp.get? 108 = some _ := X 108 _ (by k_is)
  refine codeAny_call_builtin KF.slot_mem.plain KF.entry_mem (@check_slot (model PySem.Challenge.rw_in0008_01.row.prog w) _ _ ⟨hp, g, d, t, os⟩ "member_descriptor.__get__" "member_descriptor" "__get__" (.builtin "collections.defaultdict.default_factory") [.ref B, .ref 108] [] _ kind_mg split_mg LM (KF.args_mem _ _ _) ?_)
  unfold Builtin.«member_descriptor.__get__» descrGet
  rw [dga_obj]
  refine wpAny_bind (wpAny_pure ?_)
  unfold descrGetter descrCheckInstance descrNameAndClass isInstance
  repeat lk
  refine And.intro (Code.quiet_builtin _ (by decide +kernel)) (codeAny_builtin entry_dfac ?_)
  unfold Builtin.«collections.defaultdict.default_factory»
  repeat lk
  exact h
theorem fdd_factory {Q : Value → Shared → Prop} {E : Value → Shared → Prop} {expr : Bool} (hd2 : ∃ od, s.heap.get? dx = some od) : (hd.heap_1 w.params).In s.heap → s.heap.get? B = some (fdd dx lam es ep) → Q (.ref lam) { s with toks := s.toks + 1 } →
    wpAny (model PySem.Challenge.rw_in0008_01.row.prog w) A (getAttr (.ref B) (Str.ofString "default_factory") expr) Q E s := by
  k_fill
  intro X hB hQ
  obtain ⟨od, hdx⟩ := hd2
  unfold getAttr
  refine wpAny_bind (wpAny_mkText ?_)
  refine dd_open (s := { s with toks := s.toks + 1 }) X (od := some od) (I := ⟨hB, rfl, rfl, hdx⟩) (by k_is) (by k_is) (by kernel_rfl) (oga_run (s := { s with toks := s.toks + 1 }) X (od := some od) (I := ⟨hB, rfl, rfl, hdx⟩) (r := .bind (.builtin "member_descriptor.__get__") (.builtin "collections.defaultdict.default_factory")) (findObj_data (by kernel_rfl) (by k_is) (by k_is) (by k_is)) ?_)
  dsimp only
  refine wpAny_bind (wpAny_holding (wpAny_call ?_))
  refine dfac_get (s := { s with toks := s.toks + 1 }) X hB ?_
  exact wpAny_pure (wpAny_pure hQ)
theorem fdd_factory_method {Q : Value × List Value → Shared → Prop} {E : Value → Shared → Prop} {pl : Sem Bool} (hd2 : ∃ od, s.heap.get? dx = some od) : (hd.heap_1 w.params).In s.heap → s.heap.get? B = some (fdd dx lam es ep) → Q (.ref lam, []) { s with toks := s.toks + 1 } →
    wpAny (model PySem.Challenge.rw_in0008_01.row.prog w) A (getMethod (.ref B) (Str.ofString "default_factory") pl) Q E s := by
  k_fill
  intro X hB hQ
  obtain ⟨hp, g, d, t, os⟩ := s
  dsimp only at X hB hd2
  have L0 : Looks (model PySem.Challenge.rw_in0008_01.row.prog w) hp (typeOf (.ref B)) (.ref 108) := (Looks.ld hB).andThen .now
  have Lga : Looks (model PySem.Challenge.rw_in0008_01.row.prog w) hp (typeLookup (.ref 108) (Str.ofString "__getattribute__")) (some (.builtin "collections.defaultdict.__getattribute__")) := looks_findIn X (by k_is)
  have Lg : Looks (model PySem.Challenge.rw_in0008_01.row.prog w) hp (typeLookup (.ref 108) (Str.ofString "__getattr__")) none := looks_findIn X (by k_is)
  have Lf : Looks (model PySem.Challenge.rw_in0008_01.row.prog w) hp (typeLookup (.ref 108) (Str.ofString "default_factory")) (some (.builtin "collections.defaultdict.default_factory")) := looks_findIn X (by k_is)
  have Lt : Looks (model PySem.Challenge.rw_in0008_01.row.prog w) hp (typeOf (.builtin "collections.defaultdict.default_factory")) (.type "member_descriptor") := Looks.of_pure type_dfac
  unfold getMethod specialOf
  repeat ((fail_if_success (with_reducible show wpAny _ _ (getAttr _ _ _) _ _ _)); lk)
  refine fdd_factory (s := ⟨hp, g, d, t, os⟩) hd2 X hB ?_
  exact wpAny_pure hQ
end
end Mine
end
section
open PySem PySem.W PyProof.Rows
set_option maxRecDepth 100000
set_option maxHeartbeats 2000000
theorem Mine.calm_S14 : True := by
  w_top off
  k_with_none
  exact True.intro
namespace Mine
/-- as GivesE, with room for one call more -/
noncomputable def GivesAt (M : Model) (h : Heap) (f : Value) (vs : List Value) : Prop :=
  ∀ (s : Shared) (fr : Option (List Env)) (gd : Option (List Code)) (R : Result → Shared → Prop), Ext h s.heap →
    (∀ l t h' tk', Ext s.heap h' → s.heap.get? l = none → h'.get? l = some (listE t) → R (.ok (.ret (.ref l))) { s with heap := h', toks := tk' }) →
    codeAny M ⟨none, 495, fr, gd, 590⟩ (.call f ⟨vs, []⟩) R s
theorem GivesAt.toE {M : Model} {h : Heap} {f : Value} {vs : List Value} (x : GivesAt M h f vs) : GivesE M h f vs := fun s fr gd R e q =>
  codeAny_lower (D := 495) (U := 590) (x s fr gd R e q) rfl (Nat.le_of_ble_eq_true rfl) (Nat.le_of_ble_eq_true rfl)
theorem name_load {M : Model} {A : Around} {E : Value → Shared → Prop} {s : Shared} {env : Env} {x : Str} {pos : Pos} {Q : Value → Shared → Prop} (hd : (x == ("__debug__" : Str)) = false) (h : wpAny M A (loadName env x) Q E s) : wpAny M A (eval (.Name x pos) env) Q E s := by
  rw [eval_Name env x pos hd]
  exact wpAny_bind (wpAny_standAt h)
theorem crec_keeps {h h' : Heap} {c : Value} {q : Str} (x : h.CodeRec c q) (k : Ext h h') : h'.CodeRec c q :=
  let ⟨a, o, vs, t, e, ho, hd, hv⟩ := x; ⟨a, o, vs, t, e, k _ _ ho, hd, hv⟩
noncomputable abbrev frQual : Str := Str.ofString "FreezableDefaultDict.freeze" ++ Str.ofString ".<locals>." ++ Str.ofString "<lambda>"
theorem freeze_first {w : World} {p : Program} {loose : List Str} {mean : ExcName → Option Value} {mg mb : Str → Option Value} {gd : Option (List Code)} {fr : Option (List Env)} {s : Shared} {h₀ : Heap} {B dx lam : Addr} {es : Array DictEntry} {ep : Nat} {fdl : FuncData} {R : Result → Shared → Prop} {P : Heap → Prop} :
    (hd.heap_1 w.params).In h₀ → Top p loose mean mg mb h₀ → CodeHd h₀ 104 100 → Ext h₀ s.heap → h₀.objs.size ≤ s.heap.objs.size →
    h₀.get? B = some (fdd dx lam es ep) → dx ≠ 100 → s.heap.get? 100 = some (tabObj #[]) → h₀.get? 100 = none → s.heap.get? dx = some emptyDict → h₀.get? dx = none → P h₀ → (∀ g g', Ext g g' → P g → P g') → (∀ g, P g → (hd.heap_1 w.params).In g ∧ Top p loose mean mg mb g ∧ g.get? B = some (fdd dx lam es ep) ∧ g.get? lam = some ⟨.type "function", none, .func fdl, #[]⟩ ∧ GivesAt (model PySem.Challenge.rw_in0008_01.row.prog w) g (.ref lam) []) →
    (∀ h' tk' f fd u c' oc cl ocl, Ext h₀ h' → h'.get? 100 = some (tabObj #[rawInt 43, rawInt 23, .ref c']) → h'.get? f = some ⟨.type "function", none, .func fd, #[]⟩ → (∀ q ∈ [(f, (⟨.type "function", none, .func fd, #[]⟩ : Obj)), (c', oc), (cl, ocl), (dx, frozenD w u (.ref f))], h'.get? q.1 = some q.2 ∧ h₀.get? q.1 = none) → (∀ g : Heap, g.get? c' = some oc → g.CodeRec (.ref c') frQual) → (∀ its n, oc.data ≠ .seq its n) → (∀ its n, ocl.data ≠ .seq its n) → (f ≠ 100 ∧ c' ≠ 100 ∧ cl ≠ 100) →
      (∀ g, P g → (∀ q ∈ [(f, (⟨.type "function", none, .func fd, #[]⟩ : Obj)), (c', oc), (cl, ocl), (dx, frozenD w u (.ref f))], g.get? q.1 = some q.2) → ∀ y ty, GivesE (model PySem.Challenge.rw_in0008_01.row.prog w) g (.ref f) [.str y ty]) → R (.ok (.ret .none)) { s with heap := h', toks := tk' }) →
    codeAny (model PySem.Challenge.rw_in0008_01.row.prog w) ⟨none, 320, fr, gd, 300⟩ (.call (.ref 105) ⟨[.ref B], []⟩) R s := by
  k_fill
  intro X T C e hz hB hne h100 n100 hdx ndx hP hPm hPs hret
  obtain ⟨_, _, _, hlam, hG⟩ := hPs _ hP
  k_dflt (refine' hid_callC (news := [(100, tabObj #[]), (dx, emptyDict)]) ?kX ?kT ?kE ?kZ ?kN ?ho ?hcd ?room ?bind ?kind ?nd ?_ ?c2 ?c3 ?c4; (case kX => assumption); (case kT => assumption); (case kE => assumption); (case kZ => assumption); (case kN => intro q hq; rcases List.mem_cons.mp hq with rfl | hq <;> first | exact ⟨h100, n100⟩ | (rcases List.mem_cons.mp hq with rfl | hq <;> first | exact ⟨hdx, ndx⟩ | cases hq)); (case ho => k_is); (case hcd => k_is); (case room => exact Nat.le_of_ble_eq_true rfl); (case bind => exact BindsTo.of_eq rfl); (case kind => exact rfl); (case nd => decide +kernel); (case c2 => exact rfl); (case c3 => exact rfl); (case c4 => exact rfl); k_whole)
  intro L' h' tk' cells' F' N' Y' l1
  have q1 : 100 < L' := l1 _ (.head _)
  have q2 : dx < L' := l1 _ (.tail _ (.head _))
  k_cells Y'
  rename_i o9 d9
  dsimp only [List.cons_append, List.nil_append] at N'
  k_unmd
  k_fold
  k_steps
  refine' kla_eval ?d0 ?_
  (case d0 => exact rfl)
  refine' kla_nest ?F ?N ?T ?C ?cd ?U ?t ?n ?cl ?_
  (case F => k_asm)
  (case N => k_asm)
  (case T => k_asm)
  (case cd => exact rfl)
  (case C => kn_code)
  (case U =>
    refine' UpdF.tail ?a (UpdF.head ?b)
    (case a => exact Nat.ne_of_gt (Nat.lt_succ_of_lt q1))
    (case b => first | k_all | (intro p hp; rcases List.mem_cons.mp hp with rfl | hp <;> first | exact hne | cases hp)))
  (case t => kn_triples)
  (case n => kn_among)
  (case cl => exact rfl)
  intro f' c' oc' vs' t' ct' h' tk' F' N' d1' d2' l1 l2
  have F9 := F'
  have N9 := N'
  have m1 : 100 < c' := l1 _ (.tail _ (.head _))
  have m2 : dx < c' := l1 _ (.tail _ (.tail _ (.head _)))
  k_steps
  refine fdd_set (pre := [_, _, _, _]) (post := []) (X.keeps F9.keep) F9 N9 ?_ (fun p hp => by cases hp) (F9.keep _ _ hB) fun h₉ u tk₉ F₉ N₉ => ?_
  · intro p hp
    simp only [List.mem_cons, List.not_mem_nil, or_false] at hp
    rcases hp with rfl | rfl | rfl | rfl
    · exact Nat.ne_of_gt (Nat.lt_trans m2 l2)
    · exact Nat.ne_of_gt m2
    · exact Nat.ne_of_gt (Nat.lt_succ_of_lt q2)
    · exact hne.symm
  dsimp only [List.cons_append, List.nil_append] at N₉
  have Nf := News_get N₉ (.head _)
  have Nc := News_get N₉ (.tail _ (.head _))
  have Ncell := News_get N₉ (.tail _ (.tail _ (.head _)))
  have Nt := News_get N₉ (.tail _ (.tail _ (.tail _ (.head _))))
  have Nd := News_get N₉ (.tail _ (.tail _ (.tail _ (.tail _ (.head _)))))
  have k₉ := F₉.keep
  k_steps
  refine hret h₉ _ f' _ u c' oc' (L' + 1) o9 k₉ Nt Nf ?_ (fun g z => ⟨c', oc', vs', t', rfl, z, d1', d2'⟩) (fun its n q => by rw [d1'] at q; cases q) (fun its n q => by rw [d9] at q; cases q) ⟨Nat.ne_of_gt (Nat.lt_trans m1 l2), Nat.ne_of_gt m1, Nat.ne_of_gt (Nat.lt_succ_of_lt q1)⟩ fun g Pg hg y ty => ?_
  · intro q hq
    simp only [List.mem_cons, List.not_mem_nil, or_false] at hq
    rcases hq with rfl | rfl | rfl | rfl
    · exact ⟨Nf, (N₉ _ (.head _)).2.2⟩
    · exact ⟨Nc, (N₉ _ (.tail _ (.head _))).2.2⟩
    · exact ⟨Ncell, (N₉ _ (.tail _ (.tail _ (.head _)))).2.2⟩
    · exact ⟨Nd, ndx⟩
  have Gf := hg _ (.head _)
  have Gc := hg _ (.tail _ (.head _))
  have Gl := hg _ (.tail _ (.tail _ (.head _)))
  have Gd := hg _ (.tail _ (.tail _ (.tail _ (.head _))))
  dsimp only at Gf Gc Gl Gd
  intro s' fr' gd' R' e' q'
  obtain ⟨X8, T8, B8, l8, G8⟩ := hPs _ (hPm _ _ e' Pg)
  refine' pure_lam T8 (e' _ _ Gf) ⟨c', oc', vs', t', rfl, e' _ _ Gc, d1', d2'⟩ ?room ?bind ?loc ?_ ?a1 ?a2 ?a3 ?a4
  (case room => exact Nat.le_of_ble_eq_true rfl)
  (case bind => exact rfl)
  (case loc => exact locs rfl)
  (case a1 => exact rfl)
  (case a2 => exact rfl)
  (case a3 => exact rfl)
  (case a4 => decide)
  intro L2 h2 F2 N2
  have X2 := X8.keeps F2.keep
  have T2 := T8.keeps F2.keep
  refine methodCall_KW ?_
  refine name_load (by decide +kernel) ?_
  refine wpAny_loadName_free (c := L' + 1) (v := .ref B) rfl rfl rfl ⟨o9, F2.keep _ _ (e' _ _ Gl), d9⟩ ?_ (by decide +kernel)
  refine fdd_factory_method (hd2 := ⟨_, F2.keep _ _ (e' _ _ Gd)⟩) X2 (F2.keep _ _ B8) ?_
  refine callWith_of (P := fun h => h.get? lam = some ⟨.type "function", none, .func fdl, #[]⟩) rfl (keep_fn (fd := fdl)) (evalArgs_nil3 ⟨F2.keep _ _ l8, ?_⟩)
  refine wpAny_call ?_
  refine codeAny_lower (D := 495) (U := 590) (G8 _ _ _ _ F2.keep fun l t h' tk' e n g => ?_) rfl (Nat.le_of_ble_eq_true rfl) (Nat.le_of_ble_eq_true rfl)
  exact q' l t h' tk' (fun b o z => e b o (F2.keep b o z)) (fresh_back F2.keep n) g
end Mine
end
section
open PySem PySem.W PyProof.Rows
set_option maxRecDepth 100000
set_option maxHeartbeats 2000000
theorem Mine.calm_S15 : True := by
  w_top off
  k_with_none
  exact True.intro
namespace Mine


theorem freeze_second {w : World} {p : Program} {loose : List Str} {mean : ExcName → Option Value} {mg mb : Str → Option Value} {gd : Option (List Code)} {fr : Option (List Env)} {s : Shared} {h₀ : Heap} {B dx lam : Addr} {es : Array DictEntry} {ep : Nat} {fdl : FuncData} {c0 : Addr} {R : Result → Shared → Prop} {P : Heap → Prop} :
    (hd.heap_1 w.params).In h₀ → Top p loose mean mg mb h₀ → CodeHd h₀ 104 100 → Ext h₀ s.heap → h₀.objs.size ≤ s.heap.objs.size →
    h₀.get? B = some (fdd dx lam es ep) → dx ≠ 100 → s.heap.get? 100 = some (tabObj #[rawInt 43, rawInt 23, .ref c0]) → h₀.get? 100 = none → s.heap.get? dx = some emptyDict → h₀.get? dx = none → P h₀ → (∀ g g', Ext g g' → P g → P g') → (∀ g, P g → (hd.heap_1 w.params).In g ∧ Top p loose mean mg mb g ∧ g.get? B = some (fdd dx lam es ep) ∧ g.get? lam = some ⟨.type "function", none, .func fdl, #[]⟩ ∧ GivesAt (model PySem.Challenge.rw_in0008_01.row.prog w) g (.ref lam) [] ∧ g.CodeRec (.ref c0) frQual) →
    (∀ h' tk' f fd u cl ocl, Ext h₀ h' → h'.get? 100 = some (tabObj #[rawInt 43, rawInt 23, .ref c0]) → h'.get? f = some ⟨.type "function", none, .func fd, #[]⟩ → (∀ q ∈ [(f, (⟨.type "function", none, .func fd, #[]⟩ : Obj)), (cl, ocl), (dx, frozenD w u (.ref f))], h'.get? q.1 = some q.2 ∧ h₀.get? q.1 = none) → (∀ its n, ocl.data ≠ .seq its n) →
      (∀ g, P g → (∀ q ∈ [(f, (⟨.type "function", none, .func fd, #[]⟩ : Obj)), (cl, ocl), (dx, frozenD w u (.ref f))], g.get? q.1 = some q.2) → ∀ y ty, GivesE (model PySem.Challenge.rw_in0008_01.row.prog w) g (.ref f) [.str y ty]) → R (.ok (.ret .none)) { s with heap := h', toks := tk' }) →
    codeAny (model PySem.Challenge.rw_in0008_01.row.prog w) ⟨none, 320, fr, gd, 300⟩ (.call (.ref 105) ⟨[.ref B], []⟩) R s := by
  k_fill
  intro X T C e hz hB hne h100 n100 hdx ndx hP hPm hPs hret
  obtain ⟨_, _, _, hlam, hG, hrec⟩ := hPs _ hP
  k_dflt (refine' hid_callC (news := [(100, tabObj #[rawInt 43, rawInt 23, .ref c0]), (dx, emptyDict)]) ?kX ?kT ?kE ?kZ ?kN ?ho ?hcd ?room ?bind ?kind ?nd ?_ ?c2 ?c3 ?c4; (case kX => assumption); (case kT => assumption); (case kE => assumption); (case kZ => assumption); (case kN => intro q hq; rcases List.mem_cons.mp hq with rfl | hq <;> first | exact ⟨h100, n100⟩ | (rcases List.mem_cons.mp hq with rfl | hq <;> first | exact ⟨hdx, ndx⟩ | cases hq)); (case ho => k_is); (case hcd => k_is); (case room => exact Nat.le_of_ble_eq_true rfl); (case bind => exact BindsTo.of_eq rfl); (case kind => exact rfl); (case nd => decide +kernel); (case c2 => exact rfl); (case c3 => exact rfl); (case c4 => exact rfl); k_whole)
  intro L' h' tk' cells' F' N' Y' l1
  have q1 : 100 < L' := l1 _ (.head _)
  have q2 : dx < L' := l1 _ (.tail _ (.head _))
  k_cells Y'
  rename_i o9 d9
  dsimp only [List.cons_append, List.nil_append] at N'
  k_unmd
  k_fold
  have C9 : PLift (CodeHd h₀ 104 100) := ⟨C⟩
  clear C
  k_steps
  have C := C9.down
  refine' kla_eval ?d0 ?_
  (case d0 => exact rfl)
  refine' kla_hit ?F ?N ?T ?C ?cd ?mem ?t ?n ?cl ?_
  (case F => k_asm)
  (case N => k_asm)
  (case T => k_asm)
  (case cd => exact rfl)
  (case C => kn_code)
  (case mem => k_mem)
  (case t => kn_triples)
  (case n => kn_hit)
  (case cl => exact rfl)
  intro f' ct' h' tk' F' N' l1
  have F9 := F'
  have N9 := N'
  have m2 : dx < f' := l1 _ (.tail _ (.tail _ (.head _)))
  k_steps
  refine fdd_set (pre := [_, _, _]) (post := []) (X.keeps F9.keep) F9 N9 ?_ (fun p hp => by cases hp) (F9.keep _ _ hB) fun h₉ u tk₉ F₉ N₉ => ?_
  · intro p hp
    simp only [List.mem_cons, List.not_mem_nil, or_false] at hp
    rcases hp with rfl | rfl | rfl
    · exact Nat.ne_of_gt m2
    · exact Nat.ne_of_gt (Nat.lt_succ_of_lt q2)
    · exact hne.symm
  dsimp only [List.cons_append, List.nil_append] at N₉
  have Nf := News_get N₉ (.head _)
  have Ncell := News_get N₉ (.tail _ (.head _))
  have Nt := News_get N₉ (.tail _ (.tail _ (.head _)))
  have Nd := News_get N₉ (.tail _ (.tail _ (.tail _ (.head _))))
  have k₉ := F₉.keep
  k_steps
  refine hret h₉ _ f' _ u (L' + 1) o9 k₉ Nt Nf ?_ (fun its n q => by rw [d9] at q; cases q) fun g Pg hg y ty => ?_
  · intro q hq
    simp only [List.mem_cons, List.not_mem_nil, or_false] at hq
    rcases hq with rfl | rfl | rfl
    · exact ⟨Nf, (N₉ _ (.head _)).2.2⟩
    · exact ⟨Ncell, (N₉ _ (.tail _ (.head _))).2.2⟩
    · exact ⟨Nd, ndx⟩
  have Gf := hg _ (.head _)
  have Gl := hg _ (.tail _ (.head _))
  have Gd := hg _ (.tail _ (.tail _ (.head _)))
  dsimp only at Gf Gl Gd
  intro s' fr' gd' R' e' q'
  obtain ⟨X8, T8, B8, l8, G8, C8⟩ := hPs _ (hPm _ _ e' Pg)
  refine' pure_lam T8 (e' _ _ Gf) C8 ?room ?bind ?loc ?_ ?a1 ?a2 ?a3 ?a4
  (case room => exact Nat.le_of_ble_eq_true rfl)
  (case bind => exact rfl)
  (case loc => exact locs rfl)
  (case a1 => exact rfl)
  (case a2 => exact rfl)
  (case a3 => exact rfl)
  (case a4 => decide)
  intro L2 h2 F2 N2
  have X2 := X8.keeps F2.keep
  have T2 := T8.keeps F2.keep
  refine methodCall_KW ?_
  refine name_load (by decide +kernel) ?_
  refine wpAny_loadName_free (c := L' + 1) (v := .ref B) rfl rfl rfl ⟨o9, F2.keep _ _ (e' _ _ Gl), d9⟩ ?_ (by decide +kernel)
  refine fdd_factory_method (hd2 := ⟨_, F2.keep _ _ (e' _ _ Gd)⟩) X2 (F2.keep _ _ B8) ?_
  refine callWith_of (P := fun h => h.get? lam = some ⟨.type "function", none, .func fdl, #[]⟩) rfl (keep_fn (fd := fdl)) (evalArgs_nil3 ⟨F2.keep _ _ l8, ?_⟩)
  refine wpAny_call ?_
  refine codeAny_lower (D := 495) (U := 590) (G8 _ _ _ _ F2.keep fun l t h' tk' e n g => ?_) rfl (Nat.le_of_ble_eq_true rfl) (Nat.le_of_ble_eq_true rfl)
  exact q' l t h' tk' (fun b o z => e b o (F2.keep b o z)) (fresh_back F2.keep n) g
end Mine
end
section
open PySem PySem.W PyProof.Rows PySem.Calls
set_option maxRecDepth 100000
theorem Mine.calm_R23 : True := by
  w_top off
  k_with_none
  exact True.intro
namespace Mine
noncomputable abbrev fnO (fd : FuncData) : Obj := ⟨.type "function", none, .func fd, #[]⟩
noncomputable abbrev Has (g : Heap) (l : List (Addr × Obj)) : Prop := ∀ q ∈ l, g.get? q.1 = some q.2
noncomputable def AllNe (d : Nat) : List (Addr × Obj) → Prop
  | [] => True
  | p :: r => @Ne Nat p.1 d ∧ AllNe d r
theorem allNe_of {d : Addr} : ∀ {l : List (Addr × Obj)}, (∀ p ∈ l, p.1 ≠ d) → AllNe d l
  | [], _ => trivial
  | p :: _, h => ⟨h p (.head _), allNe_of fun q hq => h q (.tail _ hq)⟩
section
variable {w : World} {A : Around} {hb h₀ : Heap} {L B dx lam : Addr} {m : Str → Option Value} {news need rest : List (Addr × Obj)} {s : Shared} {fdl : FuncData} {es : Array DictEntry} {ep : Nat}
  {p : Program} {loose : List Str} {mean : ExcName → Option Value} {mg mb : Str → Option Value} {gd : Option (List Code)} {fr : Option (List Env)} {R : Result → Shared → Prop}
theorem hide_ext {a b : Addr} (F : Fr h₀ L s.heap m) (ha : h₀.get? a = none) (hb : h₀.get? b = none) : Ext h₀ (hideAll s.heap [a, b]) := fun c o e =>
  hideAll_get _ (F.keep _ _ e) fun q => by
    rcases List.mem_cons.mp q with rfl | q
    · rw [ha] at e; cases e
    · rw [List.mem_singleton.mp q, hb] at e; cases e
theorem hide_has {a b : Addr} {g : Heap} (hr : ∀ q ∈ rest, g.get? q.1 = some q.2) (h1 : ∀ q ∈ rest, q.1 ≠ a) (h2 : ∀ q ∈ rest, q.1 ≠ b) : Has (hideAll g [a, b]) rest := fun q hq =>
  hideAll_get _ (hr q hq) fun z => by
    rcases List.mem_cons.mp z with z | z
    · exact h1 q hq z
    · exact h2 q hq (List.mem_singleton.mp z)
theorem hide_fr {a b : Addr} {h' : Heap} (F : Fr h₀ L s.heap m) (ha : h₀.get? a = none) (hb : h₀.get? b = none) (la : L ≠ a) (lb : L ≠ b) (e : Ext (hideAll s.heap [a, b]) h') : Fr h₀ L h' m :=
  ⟨F.ns.at' fun o z => e _ _ (hideAll_get _ z fun q => by
    rcases List.mem_cons.mp q with q | q
    · exact la q
    · exact lb (List.mem_singleton.mp q)), fun c o z => e _ _ (hide_ext F ha hb c o z), F.above⟩
theorem fresh_new {a b c : Addr} {o : Obj} {h' : Heap} (F : Fr h₀ L s.heap m) (ha : h₀.get? a = none) (hb : h₀.get? b = none) (la : L ≠ a) (lb : L ≠ b) (ho : h'.get? c = some o) (hn : (hideAll s.heap [a, b]).get? c = none) : h'.get? c = some o ∧ c ≠ L ∧ h₀.get? c = none := by
  refine ⟨ho, fun q => ?_, ?_⟩
  · obtain ⟨oL, _, _, e, _⟩ := F.ns
    have : (hideAll s.heap [a, b]).get? L = some oL := hideAll_get _ e fun q => by
      rcases List.mem_cons.mp q with q | q
      · exact la q
      · exact lb (List.mem_singleton.mp q)
    rw [← q, hn] at this; cases this
  · cases z : h₀.get? c with
    | none => rfl
    | some x => rw [hide_ext F ha hb _ _ z] at hn; cases hn
theorem use_freeze1 (F : Fr h₀ L s.heap m) (N : News h₀ L s.heap news) (Xb : (hd.heap_1 w.params).In hb) (Tb : Top p loose mean mg mb hb) (eb : Ext hb h₀) (C : CodeHd h₀ 104 100)
    (h100 : (100, tabObj #[]) ∈ news) (hdx : (dx, emptyDict) ∈ news) (hne : dx ≠ 100) (hr : ∀ q ∈ rest, q ∈ news) (hr1 : ∀ q ∈ rest, q.1 ≠ 100) (hr2 : ∀ q ∈ rest, q.1 ≠ dx)
    (hneed : ∀ q ∈ need, q ∈ rest) (hB : (B, fdd dx lam es ep) ∈ need) (hl : (lam, fnO fdl) ∈ need)
    (hG : ∀ g, Ext hb g → Has g need → GivesAt (model PySem.Challenge.rw_in0008_01.row.prog w) g (.ref lam) [])
    (k : ∀ h' tk' f fd u c' oc cl ocl, Fr h₀ L h' m → News h₀ L h' ((100, tabObj #[rawInt 43, rawInt 23, .ref c']) :: (f, fnO fd) :: (c', oc) :: (cl, ocl) :: (dx, frozenD w u (.ref f)) :: rest) → (∀ g : Heap, g.get? c' = some oc → g.CodeRec (.ref c') frQual) → (∀ its n, oc.data ≠ .seq its n) → (∀ its n, ocl.data ≠ .seq its n) → (f ≠ 100 ∧ c' ≠ 100 ∧ cl ≠ 100) →
      (∀ g, Ext hb g → Has g ((f, fnO fd) :: (c', oc) :: (cl, ocl) :: (dx, frozenD w u (.ref f)) :: need) → ∀ y ty, GivesE (model PySem.Challenge.rw_in0008_01.row.prog w) g (.ref f) [.str y ty]) → (∀ q ∈ rest, q.1 ≠ f ∧ q.1 ≠ c' ∧ q.1 ≠ cl) → R (.ok (.ret .none)) { s with heap := h', toks := tk' }) :
    codeAny (model PySem.Challenge.rw_in0008_01.row.prog w) ⟨none, 320, fr, gd, 300⟩ (.call (.ref 105) ⟨[.ref B], []⟩) R s := by
  have n100 := (N _ h100).2.2
  have ndx := (N _ hdx).2.2
  have l100 := (N _ h100).2.1.symm
  have ldx := (N _ hdx).2.1.symm
  have e0 := hide_ext F n100 ndx
  have hrg : Has (hideAll s.heap [100, dx]) rest := hide_has (fun q hq => (N _ (hr q hq)).1) hr1 hr2
  have hng : Has (hideAll s.heap [100, dx]) need := fun q hq => hrg q (hneed q hq)
  refine freeze_first (h₀ := hideAll s.heap [100, dx]) (P := fun g => Ext hb g ∧ Has g need) (fdl := fdl) (lam := lam) (es := es) (ep := ep) (dx := dx)
    (Xb.keeps fun _ _ z => e0 _ _ (eb _ _ z)) (Tb.keeps fun _ _ z => e0 _ _ (eb _ _ z)) (C.keeps e0) (fun _ _ z => of_hideAll _ z) (Nat.le_of_eq (hideAll_size _ _))
    (hng _ hB) hne (N _ h100).1 (hideAll_none _ (.head _)) (N _ hdx).1 (hideAll_none _ (.tail _ (.head _))) ⟨fun _ _ z => e0 _ _ (eb _ _ z), hng⟩
    (fun g g' e q => ⟨fun _ _ z => e _ _ (q.1 _ _ z), fun x hx => e _ _ (q.2 x hx)⟩) (fun g q => ⟨Xb.keeps q.1, Tb.keeps q.1, q.2 _ hB, q.2 _ hl, hG g q.1 q.2⟩)
    fun h' tk' f fd u c' oc cl ocl e ht _ hfs hrec hs1 hs2 h3 hgive => ?_
  have hf := hfs _ (.head _)
  have hc := hfs _ (.tail _ (.head _))
  have hcl := hfs _ (.tail _ (.tail _ (.head _)))
  have hd := hfs _ (.tail _ (.tail _ (.tail _ (.head _))))
  dsimp only at hf hc hcl hd
  have apart : ∀ c, (hideAll s.heap [100, dx]).get? c = none → ∀ q ∈ rest, q.1 ≠ c := fun c hn q hq z => by
    have := hrg q hq
    rw [z, hn] at this; cases this
  refine k h' tk' f fd u c' oc cl ocl (hide_fr F n100 ndx l100 ldx e) ?_ hrec hs1 hs2 h3 (fun g eg hg y ty => hgive g ⟨eg, fun q hq => hg q (.tail _ (.tail _ (.tail _ (.tail _ hq))))⟩ (fun q hq => hg q ?_) y ty) (fun q hq => ⟨apart _ hf.2 q hq, apart _ hc.2 q hq, apart _ hcl.2 q hq⟩)
  · intro q hq
    simp only [List.mem_cons] at hq
    rcases hq with rfl | rfl | rfl | rfl | rfl | hq
    · exact ⟨ht, (N _ h100).2⟩
    · exact fresh_new F n100 ndx l100 ldx hf.1 hf.2
    · exact fresh_new F n100 ndx l100 ldx hc.1 hc.2
    · exact fresh_new F n100 ndx l100 ldx hcl.1 hcl.2
    · exact ⟨hd.1, (N _ hdx).2⟩
    · exact ⟨e _ _ (hrg q hq), (N _ (hr q hq)).2⟩
  · simp only [List.mem_cons, List.not_mem_nil, or_false] at hq ⊢
    rcases hq with h | h | h | h <;> simp [h]
theorem use_freeze2 {c0 : Addr} (F : Fr h₀ L s.heap m) (N : News h₀ L s.heap news) (Xb : (hd.heap_1 w.params).In hb) (Tb : Top p loose mean mg mb hb) (eb : Ext hb h₀) (C : CodeHd h₀ 104 100)
    (h100 : (100, tabObj #[rawInt 43, rawInt 23, .ref c0]) ∈ news) (hdx : (dx, emptyDict) ∈ news) (hne : dx ≠ 100) (hr : ∀ q ∈ rest, q ∈ news) (hr1 : ∀ q ∈ rest, q.1 ≠ 100) (hr2 : ∀ q ∈ rest, q.1 ≠ dx)
    (hneed : ∀ q ∈ need, q ∈ rest) (hB : (B, fdd dx lam es ep) ∈ need) (hl : (lam, fnO fdl) ∈ need)
    (hG : ∀ g, Ext hb g → Has g need → GivesAt (model PySem.Challenge.rw_in0008_01.row.prog w) g (.ref lam) [] ∧ g.CodeRec (.ref c0) frQual)
    (k : ∀ h' tk' f fd u cl ocl, Fr h₀ L h' m → News h₀ L h' ((100, tabObj #[rawInt 43, rawInt 23, .ref c0]) :: (f, fnO fd) :: (cl, ocl) :: (dx, frozenD w u (.ref f)) :: rest) → (∀ its n, ocl.data ≠ .seq its n) →
      (∀ g, Ext hb g → Has g ((f, fnO fd) :: (cl, ocl) :: (dx, frozenD w u (.ref f)) :: need) → ∀ y ty, GivesE (model PySem.Challenge.rw_in0008_01.row.prog w) g (.ref f) [.str y ty]) → R (.ok (.ret .none)) { s with heap := h', toks := tk' }) :
    codeAny (model PySem.Challenge.rw_in0008_01.row.prog w) ⟨none, 320, fr, gd, 300⟩ (.call (.ref 105) ⟨[.ref B], []⟩) R s := by
  have n100 := (N _ h100).2.2
  have ndx := (N _ hdx).2.2
  have l100 := (N _ h100).2.1.symm
  have ldx := (N _ hdx).2.1.symm
  have e0 := hide_ext F n100 ndx
  have hrg : Has (hideAll s.heap [100, dx]) rest := hide_has (fun q hq => (N _ (hr q hq)).1) hr1 hr2
  have hng : Has (hideAll s.heap [100, dx]) need := fun q hq => hrg q (hneed q hq)
  refine freeze_second (h₀ := hideAll s.heap [100, dx]) (P := fun g => Ext hb g ∧ Has g need) (fdl := fdl) (lam := lam) (es := es) (ep := ep) (dx := dx)
    (Xb.keeps fun _ _ z => e0 _ _ (eb _ _ z)) (Tb.keeps fun _ _ z => e0 _ _ (eb _ _ z)) (C.keeps e0) (fun _ _ z => of_hideAll _ z) (Nat.le_of_eq (hideAll_size _ _))
    (hng _ hB) hne (N _ h100).1 (hideAll_none _ (.head _)) (N _ hdx).1 (hideAll_none _ (.tail _ (.head _))) ⟨fun _ _ z => e0 _ _ (eb _ _ z), hng⟩
    (fun g g' e q => ⟨fun _ _ z => e _ _ (q.1 _ _ z), fun x hx => e _ _ (q.2 x hx)⟩) (fun g q => ⟨Xb.keeps q.1, Tb.keeps q.1, q.2 _ hB, q.2 _ hl, (hG g q.1 q.2).1, (hG g q.1 q.2).2⟩)
    fun h' tk' f fd u cl ocl e ht _ hfs hs2 hgive => ?_
  have hf := hfs _ (.head _)
  have hcl := hfs _ (.tail _ (.head _))
  have hd := hfs _ (.tail _ (.tail _ (.head _)))
  dsimp only at hf hcl hd
  refine k h' tk' f fd u cl ocl (hide_fr F n100 ndx l100 ldx e) ?_ hs2 (fun g eg hg y ty => hgive g ⟨eg, fun q hq => hg q (.tail _ (.tail _ (.tail _ hq)))⟩ (fun q hq => hg q ?_) y ty)
  · intro q hq
    simp only [List.mem_cons] at hq
    rcases hq with rfl | rfl | rfl | rfl | hq
    · exact ⟨ht, (N _ h100).2⟩
    · exact fresh_new F n100 ndx l100 ldx hf.1 hf.2
    · exact fresh_new F n100 ndx l100 ldx hcl.1 hcl.2
    · exact ⟨hd.1, (N _ hdx).2⟩
    · exact ⟨e _ _ (hrg q hq), (N _ (hr q hq)).2⟩
  · simp only [List.mem_cons, List.not_mem_nil, or_false] at hq ⊢
    rcases hq with h | h | h <;> simp [h]
theorem use_freeze_method {Q : Value × List Value → Shared → Prop} {E : Value → Shared → Prop} {pl : Sem Bool} (F : Fr h₀ L s.heap m) (N : News h₀ L s.heap news) (X : (hd.heap_1 w.params).In h₀) (hB : (B, fdd dx lam es ep) ∈ news) (hdx : (dx, emptyDict) ∈ news) (h : Q (.ref 105, [.ref B]) s) :
    wpAny (model PySem.Challenge.rw_in0008_01.row.prog w) A (getMethod (.ref B) (Str.ofString "freeze") pl) Q E s :=
  fdd_freeze_method (N _ hdx).1 (X.keeps F.keep) (N _ hB).1 h
end
end Mine
end
section
open PySem PySem.W PyProof.Rows
set_option maxRecDepth 100000
set_option maxHeartbeats 2000000
theorem Mine.calm_R25 : True := by
  w_top off
  k_with_none
  exact True.intro
namespace Mine
theorem lam_gives {w : World} {p : Program} {loose : List Str} {mean : ExcName → Option Value} {mg mb : Str → Option Value} {g : Heap} {f c' : Addr} {nm qual : Str} {n : Nat} {P P' : Pos} {pm ct : Value} :
    (hd.heap_1 w.params).In g → Top p loose mean mg mb g →
    g.get? f = some (kla_obj nm qual { posonlyargs := [], args := [], vararg := none, kwonlyargs := [], kw_defaults := [], kwarg := none, defaults := [] } (.List [.Constant (.str (Str.ofString "E")) n P] P') { kind := .function, names := [], isGenerator := false, isCoroutine := false } [] pm c' ct) →
    g.CodeRec (.ref c') qual → GivesAt (model PySem.Challenge.rw_in0008_01.row.prog w) g (.ref f) [] := by
  k_fill
  intro X T ho hc s fr gd R e hret
  refine' pure_lam (T.keeps e) (e _ _ ho) (crec_keeps hc e) ?room ?bind ?loc ?_ ?a1 ?a2 ?a3 ?a4
  (case room => exact Nat.le_of_ble_eq_true rfl)
  (case bind => exact rfl)
  (case loc => exact locs rfl)
  (case a1 => exact rfl)
  (case a2 => exact rfl)
  (case a3 => exact rfl)
  (case a4 => decide)
  intro L2 h2 F2 N2
  have X2 := X.keeps e
  have T2 := T.keeps e
  clear X T
  k_steps
  rename_i l h3 F3 N3 _
  exact hret l _ h3 _ F3.keep (N3 _ (.head _)).2.2 (News_get N3 (.head _))
noncomputable abbrev lamO (nm qual : Str) (n : Nat) (P P' : Pos) (pm ct : Value) (c' : Addr) : Obj := kla_obj nm qual { posonlyargs := [], args := [], vararg := none, kwonlyargs := [], kw_defaults := [], kwarg := none, defaults := [] } (.List [.Constant (.str (Str.ofString "E")) n P] P') { kind := .function, names := [], isGenerator := false, isCoroutine := false } [] pm c' ct
theorem lam_at {w : World} {p : Program} {loose : List Str} {mean : ExcName → Option Value} {mg mb : Str → Option Value} {h hb : Heap} {f c' : Addr} {nm qual : Str} {n : Nat} {P P' : Pos} {pm ct : Value} {oc : Obj} {vs : Array Value} {t : Tok}
    (hX : (hd.heap_1 w.params).In hb) (hT : Top p loose mean mg mb hb) (_ : h.get? f = some (lamO nm qual n P P' pm ct c')) (d1 : oc.data = .fields vs) (d2 : vs[1]? = some (.str qual t)) :
    ∀ g, Ext hb g → g.get? f = some (lamO nm qual n P P' pm ct c') → g.get? c' = some oc → GivesAt (model PySem.Challenge.rw_in0008_01.row.prog w) g (.ref f) [] := fun _ eg g1 g2 =>
  lam_gives (hX.keeps eg) (hT.keeps eg) g1 ⟨c', oc, vs, t, rfl, g2, d1, d2⟩
end Mine
end
section
open PySem PySem.W PyProof.Rows PySem.Calls
set_option maxRecDepth 100000
theorem Mine.calm_R26 : True := by
  w_top off
  k_with_none
  exact True.intro
namespace Mine
noncomputable def LoopJ (prog : Program) (w : World) (m₀ : Str → Option Value) (tl B2 d2 f2 : Addr) (fixed : List (Addr × Obj)) (ts : List Line) (i : Nat) (m : Str → Option Value) (news : List (Addr × Obj)) : Prop :=
  ∃ tis nT es ep kvs ents, ∃ tv pv nv : Option Value, m = (fun y => if y = Str.ofString "named" then nv else if y = Str.ofString "pair" then pv else if y = Str.ofString "text" then tv else m₀ y) ∧
    news = (tl, listOf tis nT) :: (B2, fdd d2 f2 es ep) :: (ents ++ fixed) ∧ BookInv prog w (ts.take i) tis kvs es ents
theorem LoopJ.zero {prog : Program} {w : World} {m₀ : Str → Option Value} {tl B2 d2 f2 : Addr} {fixed : List (Addr × Obj)} {ts : List Line} : LoopJ prog w m₀ tl B2 d2 f2 fixed ts 0 m₀ ((tl, listOf #[] 0) :: (B2, fdd d2 f2 #[] 0) :: fixed) := by
  refine ⟨#[], 0, #[], 0, [], [], m₀ (Str.ofString "text"), m₀ (Str.ofString "pair"), m₀ (Str.ofString "named"), ?_, rfl, .nil⟩
  funext y
  by_cases h1 : y = Str.ofString "named"
  · subst h1; rfl
  · by_cases h2 : y = Str.ofString "pair"
    · subst h2; rw [if_neg h1, if_pos rfl]
    · by_cases h3 : y = Str.ofString "text"
      · subst h3; rw [if_neg h1, if_neg h2, if_pos rfl]
      · rw [if_neg h1, if_neg h2, if_neg h3]
theorem LoopJ.next {prog : Program} {w : World} {m₀ : Str → Option Value} {tl B2 d2 f2 : Addr} {fixed : List (Addr × Obj)} {ts : List Line} {i : Nat} {tis : Array Value} {nT : Nat} {es : Array DictEntry} {ep : Nat} {kvs : List (Str × Addr)} {ents : List (Addr × Obj)} {a b c tv pv nv : Option Value} {p : Line}
    (hp : ts[i]? = some p) (I : BookInv prog w (ts.take i ++ [p]) tis kvs es ents) :
    LoopJ prog w m₀ tl B2 d2 f2 fixed ts (i + 1) (fun y => if y = Str.ofString "named" then a else if y = Str.ofString "pair" then b else if y = Str.ofString "text" then c else if y = Str.ofString "named" then nv else if y = Str.ofString "pair" then pv else if y = Str.ofString "text" then tv else m₀ y)
      ((tl, listOf tis nT) :: (B2, fdd d2 f2 es ep) :: (ents ++ fixed)) := by
  refine ⟨tis, nT, es, ep, kvs, ents, c, b, a, ?_, rfl, ?_⟩
  · funext y
    by_cases h1 : y = Str.ofString "named"
    · subst h1; simp
    · by_cases h2 : y = Str.ofString "pair"
      · subst h2; simp
      · by_cases h3 : y = Str.ofString "text"
        · subst h3; simp
        · simp [h1, h2, h3]
  · rw [List.take_add_one, hp]
    exact I
theorem LoopJ.keeps {prog : Program} {w : World} {m₀ : Str → Option Value} {tl B2 d2 f2 : Addr} {fixed : List (Addr × Obj)} {ts : List Line} {i : Nat} {m : Str → Option Value} {news : List (Addr × Obj)} (x : LoopJ prog w m₀ tl B2 d2 f2 fixed ts i m news) : ∀ q ∈ fixed, q ∈ news := by
  obtain ⟨_, _, _, _, _, ents, _, _, _, _, rfl, _⟩ := x
  exact fun q hq => .tail _ (.tail _ (List.mem_append_right _ hq))
end Mine
end
section
open PySem PySem.W PyProof.Rows PySem.Calls
set_option maxRecDepth 100000
theorem Mine.calm_R28 : True := by
  w_top off
  k_with_none
  exact True.intro
namespace Mine
/-- a frozen book: what a miss gives stays so while these objects stand -/
structure Frozen (w : World) (hb : Heap) (all : List (Addr × Obj)) (B : Addr) (kvs : List (Str × Addr)) : Prop where
  is : ∃ d f es ep g fd u, (B, fdd d f es ep) ∈ all ∧ (d, frozenD w u (.ref g)) ∈ all ∧ (g, fnO fd) ∈ all ∧ Holds PySem.Challenge.rw_in0008_01.row.prog w es kvs ∧
    (∀ h, Ext hb h → Has h all → ∀ y ty, GivesE (model PySem.Challenge.rw_in0008_01.row.prog w) h (.ref g) [.str y ty])
  sys : B ≠ sysModules
structure Books (w : World) (hb h₀ h : Heap) (ts : List Line) (B1 B2 tl : Addr) (kvs : List (Str × Addr)) (all : List (Addr × Obj)) : Prop where
  new : ∀ q ∈ all, h.get? q.1 = some q.2 ∧ h₀.get? q.1 = none
  told : ∃ tis n, (tl, W.listOf tis n) ∈ all ∧ Told all tis.toList ts
  empty : Frozen w hb all B1 []
  book : Frozen w hb all B2 kvs
  keys : kvs.map (·.1) = keysOf ts
  tab1 : ∃ ps, (100, tabObj ps) ∈ all
  tab2 : ∃ ps, (232, tabObj ps) ∈ all
  lists : ∀ kl ∈ kvs, ∃ o, (kl.2, o) ∈ all ∧ NameList o (firstsFor kl.1 ts)
end Mine
end
section
open PySem PySem.W PyProof.Rows
set_option maxRecDepth 100000
set_option maxHeartbeats 8000000
theorem Mine.calm_S2 : True := by
  w_top off
  k_with_none
  exact True.intro
namespace Mine
theorem str_end {s : Shared} {x b : Str} {t : Tok} {h' : Heap} {tk' : Nat} {L : Addr} {m : Str → Option Value} {R : Result → Shared → Prop} (hret : ∀ t h' tk', (∀ b o, s.heap.get? b = some o → h'.get? b = some o) → R (.ok (.ret (.str x t))) { s with heap := h', toks := tk' })
    (F : Fr s.heap L h' m) (e : b = x) : R (.ok (.ret (.str b t))) { s with heap := h', toks := tk' } := by subst e; exact hret t h' tk' F.keep
theorem bare_spec {w : World} {p : Program} {loose : List Str} {mean : ExcName → Option Value} {mg mb : Str → Option Value} {gd : Option (List Code)} {fr : Option (List Env)} {s : Shared} {x : Str} {tk : Tok} {R : Result → Shared → Prop} :
    (hd.heap_1 w.params).In s.heap → Top p loose mean mg mb s.heap → x.length ≤ 10 →
    (∀ t h' tk', (∀ b o, s.heap.get? b = some o → h'.get? b = some o) → R (.ok (.ret (.str (bareF x) t))) { s with heap := h', toks := tk' }) →
    codeAny (model PySem.Challenge.rw_in0008_01.row.prog w) ⟨none, 500, fr, gd, 600⟩ (.call (.ref 225) ⟨[.str x tk], []⟩) R s := by
  k_fill
  intro X T hlen hret
  k_dflt (refine' pure_call ?kX ?kT ?ho ?hcd ?room ?bind ?loc ?_ ?c2 ?c3 ?c4 ?c5; (case kX => assumption); (case kT => assumption); (case ho => k_is); (case hcd => k_is); (case room => exact Nat.le_of_ble_eq_true rfl); (case bind => exact BindsTo.of_eq rfl); (case loc => exact locs rfl); (case c2 => exact rfl); (case c3 => exact rfl); (case c4 => exact rfl); (case c5 => decide); k_whole)
  intro L' h' F' N'
  dsimp only
  k_fold
  k_with "state" => first | exact ⟨by decide, bareInv_nil⟩ | exact ⟨by simp only [lit_nil]; exact Nat.zero_le _, bareInv_dot (by assumption) (by assumption) (by assumption) (by assumption)⟩ | exact ⟨bareInv_len (by assumption), bareInv_step (by assumption) (by assumption) (by assumption) (by assumption)⟩
  k_with "pyIter str" => k_state (fun pre b => b.length ≤ pre.length ∧ BareInv pre b) "bare"
  k_steps
  all_goals (try (refine str_end (s := s) hret (by assumption) ?_; first | exact bare_stop1 (by assumption) (by assumption) (by assumption) | exact bare_stop2 (by assumption) (by assumption) (by assumption) | exact bare_all (by assumption)))
  k_with_none
end Mine
end
section
open PySem PySem.W PyProof.Rows
set_option maxRecDepth 100000
set_option maxHeartbeats 8000000
theorem Mine.calm_S3 : True := by
  w_top off
  k_with_none
  exact True.intro
namespace Mine
section
variable {x : Str} {r : Int} (hr : 0 ≤ Txt.find x (Str.ofString "\n") ∧ r = Txt.find x (Str.ofString "\n") ∨ ¬0 ≤ Txt.find x (Str.ofString "\n") ∧ r = (x.length : Int))
include hr
theorem strip_pp (h1 : 0 ≤ find4 x (Str.ofString ":") 0 r) (h2 : 0 ≤ rfind4 x (Str.ofString ".") 0 (find4 x (Str.ofString ":") 0 r)) :
    Txt.slice x (some (rfind4 x (Str.ofString ".") 0 (find4 x (Str.ofString ":") 0 r) + 1)) (some (find4 x (Str.ofString ":") 0 r)) = bareF x := by
  obtain ⟨e, he, hs⟩ := (stop2 hr).1 h1
  rw [he] at h2 ⊢
  exact (strip_law hs).1 h2
theorem strip_pn (h1 : 0 ≤ find4 x (Str.ofString ":") 0 r) (h2 : ¬ 0 ≤ rfind4 x (Str.ofString ".") 0 (find4 x (Str.ofString ":") 0 r)) :
    Txt.slice x (some 0) (some (find4 x (Str.ofString ":") 0 r)) = bareF x := by
  obtain ⟨e, he, hs⟩ := (stop2 hr).1 h1
  rw [he] at h2 ⊢
  exact (strip_law hs).2 h2
theorem strip_np (h1 : ¬ 0 ≤ find4 x (Str.ofString ":") 0 r) (h2 : 0 ≤ rfind4 x (Str.ofString ".") 0 r) :
    Txt.slice x (some (rfind4 x (Str.ofString ".") 0 r + 1)) (some r) = bareF x := by
  obtain ⟨e, he, hs⟩ := (stop2 hr).2 h1
  subst he
  exact (strip_law hs).1 h2
theorem strip_nn (h1 : ¬ 0 ≤ find4 x (Str.ofString ":") 0 r) (h2 : ¬ 0 ≤ rfind4 x (Str.ofString ".") 0 r) :
    Txt.slice x (some 0) (some r) = bareF x := by
  obtain ⟨e, he, hs⟩ := (stop2 hr).2 h1
  subst he
  exact (strip_law hs).2 h2
end
local macro_rules | `(tactic| walk_at "call builtin:str.find") => `(tactic| refine Mine.call_find4 ?_)
local macro_rules | `(tactic| walk_at "call builtin:str.rfind") => `(tactic| refine Mine.call_rfind4 ?_)
theorem strip_spec {w : World} {p : Program} {loose : List Str} {mean : ExcName → Option Value} {mg mb : Str → Option Value} {gd : Option (List Code)} {fr : Option (List Env)} {s : Shared} {x : Str} {tk : Tok} {R : Result → Shared → Prop} :
    (hd.heap_1 w.params).In s.heap → Top p loose mean mg mb s.heap → x.length ≤ 10 →
    (∀ t h' tk', (∀ b o, s.heap.get? b = some o → h'.get? b = some o) → R (.ok (.ret (.str (bareF x) t))) { s with heap := h', toks := tk' }) →
    codeAny (model PySem.Challenge.rw_in0008_01.row.prog w) ⟨none, 500, fr, gd, 600⟩ (.call (.ref 213) ⟨[.str x tk], []⟩) R s := by
  k_fill
  intro X T hlen hret
  k_dflt (refine' pure_call ?kX ?kT ?ho ?hcd ?room ?bind ?loc ?_ ?c2 ?c3 ?c4 ?c5; (case kX => assumption); (case kT => assumption); (case ho => k_is); (case hcd => k_is); (case room => exact Nat.le_of_ble_eq_true rfl); (case bind => exact BindsTo.of_eq rfl); (case loc => exact locs rfl); (case c2 => exact rfl); (case c3 => exact rfl); (case c4 => exact rfl); (case c5 => decide); k_whole)
  intro L' h' F' N'
  dsimp only
  k_fold
  k_steps
  all_goals (refine str_end (s := s) hret (by with_reducible assumption) ?_; first | with_reducible exact strip_pp (by assumption) (by assumption) (by assumption) | with_reducible exact strip_pn (by assumption) (by assumption) (by assumption) | with_reducible exact strip_np (by assumption) (by assumption) (by assumption) | with_reducible exact strip_nn (by assumption) (by assumption) (by assumption))
end Mine
end
section
open PySem PySem.W PyProof.Rows
set_option maxRecDepth 100000
set_option maxHeartbeats 8000000
theorem Mine.calm_S4 : True := by
  w_top off
  k_with_none
  exact True.intro
namespace Mine
theorem trim_spec {w : World} {p : Program} {loose : List Str} {mean : ExcName → Option Value} {mg mb : Str → Option Value} {gd : Option (List Code)} {fr : Option (List Env)} {s : Shared} {x : Str} {tk : Tok} {R : Result → Shared → Prop} :
    (hd.heap_1 w.params).In s.heap → Top p loose mean mg mb s.heap → x.length ≤ 10 →
    (∀ t h' tk', (∀ b o, s.heap.get? b = some o → h'.get? b = some o) → R (.ok (.ret (.str (trimF x) t))) { s with heap := h', toks := tk' }) →
    codeAny (model PySem.Challenge.rw_in0008_01.row.prog w) ⟨none, 500, fr, gd, 600⟩ (.call (.ref 218) ⟨[.str x tk], []⟩) R s := by
  k_fill
  intro X T hlen hret
  k_dflt (refine' pure_callC ?kX ?kT ?ho ?hcd ?room ?bind ?kind ?nd ?_ ?c2 ?c3 ?c4; (case kX => assumption); (case kT => assumption); (case ho => k_is); (case hcd => k_is); (case room => exact Nat.le_of_ble_eq_true rfl); (case bind => exact BindsTo.of_eq rfl); (case kind => exact rfl); (case nd => decide +kernel); (case c2 => exact rfl); (case c3 => exact rfl); (case c4 => exact rfl); k_whole)
  intro L' h' tk' cells' F' N' Y'
  k_cells Y'
  k_unmd
  k_fold
  k_steps
  rotate_left
  · (rename IntsAre _ _ => hI8)
    (rename decide _ = false => hne)
    (rename List.length _ = List.length _ => hL8)
    generalize hG : List.foldl _ _ _ = G at hI8 hne hL8
    have hk : G = keptI x := by
      rw [← hG, show ((x.length : Int) - 0).toNat = x.length by omega]
      refine (fold_filter (p := keptP x) (fun l k hk => ?_) []).trans (List.nil_append _)
      have ht := kept_turn hk
      by_cases hp : keptP x k = true
      · rw [if_pos hp]
        exact if_pos (ht.mpr hp)
      · rw [if_neg hp]
        refine (if_neg fun q => hp (ht.mp q)).trans ?_
        (repeat' split) <;> rfl
    have hpos : 0 < G.length := List.length_pos_iff.mpr (of_decide_eq_false hne)
    k_steps
    refine str_end (s := s) hret (by with_reducible assumption) ?_
    exact trim_some hk hpos (by omega)
  · (rename decide _ = true => hne)
    have hk := of_decide_eq_true hne
    refine str_end (s := s) hret (by with_reducible assumption) ?_
    refine trim_none ?_
    rw [← hk, show ((x.length : Int) - 0).toNat = x.length by omega]
    refine ((fold_filter (p := keptP x) (fun l k hk => ?_) []).trans (List.nil_append _)).symm
    have ht := kept_turn hk
    by_cases hp : keptP x k = true
    · rw [if_pos hp]
      exact if_pos (ht.mpr hp)
    · rw [if_neg hp]
      refine (if_neg fun q => hp (ht.mp q)).trans ?_
      (repeat' split) <;> rfl
end Mine
end
section
open PySem PySem.W PyProof.Rows
set_option maxRecDepth 100000
set_option maxHeartbeats 8000000
theorem Mine.calm_S5 : True := by
  w_top off
  k_with_none
  exact True.intro
namespace Mine
section
variable {w : World} {p : Program} {loose : List Str} {mean : ExcName → Option Value} {mg mb : Str → Option Value} {A : Around} {h₀ : Heap} {L : Addr} {m : Str → Option Value} {news : List (Addr × Obj)} {s : Shared} {Q E : _} {x : Str} {tk : Tok}
theorem use_trim {Q : Value → Shared → Prop} {E : Value → Shared → Prop} (F : Fr h₀ L s.heap m) (N : News h₀ L s.heap news) (X : (hd.heap_1 w.params).In h₀) (T : Top p loose mean mg mb h₀) (hh : A.handled = none) (hd : A.depth ≤ 500) (hu : A.units ≤ 600) (hlen : x.length ≤ 10)
    (k : ∀ t h' tk', Fr h₀ L h' m → News h₀ L h' news → (trimF x).length ≤ x.length → Q (.str (trimF x) t) { s with heap := h', toks := tk' }) :
    wpAny (model PySem.Challenge.rw_in0008_01.row.prog w) A (call (.ref 218) [.str x tk]) Q E s :=
  wpAny_call (codeAny_lower (trim_spec (X.keeps F.keep) (T.keeps F.keep) hlen fun t h' tk' kp => k t h' tk' (Fr_kept F kp) (News_kept N kp) (trimF_len x)) hh hd hu)
theorem use_bare {Q : Value → Shared → Prop} {E : Value → Shared → Prop} (F : Fr h₀ L s.heap m) (N : News h₀ L s.heap news) (X : (hd.heap_1 w.params).In h₀) (T : Top p loose mean mg mb h₀) (hh : A.handled = none) (hd : A.depth ≤ 500) (hu : A.units ≤ 600) (hlen : x.length ≤ 10)
    (k : ∀ t h' tk', Fr h₀ L h' m → News h₀ L h' news → Q (.str (bareF x) t) { s with heap := h', toks := tk' }) :
    wpAny (model PySem.Challenge.rw_in0008_01.row.prog w) A (call (.ref 225) [.str x tk]) Q E s :=
  wpAny_call (codeAny_lower (bare_spec (X.keeps F.keep) (T.keeps F.keep) hlen fun t h' tk' kp => k t h' tk' (Fr_kept F kp) (News_kept N kp)) hh hd hu)
theorem use_strip {Q : Value → Shared → Prop} {E : Value → Shared → Prop} (F : Fr h₀ L s.heap m) (N : News h₀ L s.heap news) (X : (hd.heap_1 w.params).In h₀) (T : Top p loose mean mg mb h₀) (hh : A.handled = none) (hd : A.depth ≤ 500) (hu : A.units ≤ 600) (hlen : x.length ≤ 10)
    (k : ∀ t h' tk', Fr h₀ L h' m → News h₀ L h' news → Q (.str (bareF x) t) { s with heap := h', toks := tk' }) :
    wpAny (model PySem.Challenge.rw_in0008_01.row.prog w) A (call (.ref 213) [.str x tk]) Q E s :=
  wpAny_call (codeAny_lower (strip_spec (X.keeps F.keep) (T.keeps F.keep) hlen fun t h' tk' kp => k t h' tk' (Fr_kept F kp) (News_kept N kp)) hh hd hu)
end
local macro_rules | `(tactic| walk_at "call ref") => `(tactic| (k_here; (refine' use_trim ?k1 ?k2 ?k3 ?k4 ?k5 ?k6 ?k7 ?k8 ?_; (case k1 => k_asm); (case k2 => k_asm); (case k3 => k_asm); (case k4 => k_asm); (case k5 => exact rfl); (case k6 => exact Nat.le_of_ble_eq_true rfl); (case k7 => exact Nat.le_of_ble_eq_true rfl); (case k8 => omega); k_whole; intro t' h' tk' F' N' hl')))
local macro_rules | `(tactic| walk_at "call ref") => `(tactic| (k_here; (refine' use_bare ?k1 ?k2 ?k3 ?k4 ?k5 ?k6 ?k7 ?k8 ?_; (case k1 => k_asm); (case k2 => k_asm); (case k3 => k_asm); (case k4 => k_asm); (case k5 => exact rfl); (case k6 => exact Nat.le_of_ble_eq_true rfl); (case k7 => exact Nat.le_of_ble_eq_true rfl); (case k8 => omega); k_whole; intro t' h' tk' F' N')))
theorem read_spec {w : World} {p : Program} {loose : List Str} {mean : ExcName → Option Value} {mg mb : Str → Option Value} {gd : Option (List Code)} {fr : Option (List Env)} {s : Shared} {x : Str} {tk : Tok} {R : Result → Shared → Prop} {n : Nat} :
    (hd.heap_1 w.params).In s.heap → Top p loose mean mg mb s.heap → x.length ≤ 10 → EqAt x n →
    (∀ T ta tb tc td h' tk', (∀ b o, s.heap.get? b = some o → h'.get? b = some o) → s.heap.get? T = none →
      h'.get? T = some { cls := .type "tuple", data := .seq #[.str (firstF x n) ta, .str (secondF x n) tb, .str (bareF (secondF x n)) tc, .str (bareF x) td, .bool true] } → R (.ok (.ret (.ref T))) { s with heap := h', toks := tk' }) →
    codeAny (model PySem.Challenge.rw_in0008_01.row.prog w) ⟨none, 400, fr, gd, 400⟩ (.call (.ref 230) ⟨[.str x tk], []⟩) R s := by
  k_fill
  intro X T hlen hat hret
  k_dflt (refine' pure_callC ?kX ?kT ?ho ?hcd ?room ?bind ?kind ?nd ?_ ?c2 ?c3 ?c4; (case kX => assumption); (case kT => assumption); (case ho => k_is); (case hcd => k_is); (case room => exact Nat.le_of_ble_eq_true rfl); (case bind => exact BindsTo.of_eq rfl); (case kind => exact rfl); (case nd => decide +kernel); (case c2 => exact rfl); (case c3 => exact rfl); (case c4 => exact rfl); k_whole)
  intro L' h' tk' cells' F' N' Y'
  k_cells Y'
  k_unmd
  k_fold
  k_steps
  (rename IntsAre _ _ => hI8)
  (rename List.length _ = List.length _ => hL8)
  generalize hG : List.foldl _ _ _ = G at hI8 hL8
  have hk : G = (rangeKs 0 x.length).filter (eqP x) := by
    rw [← hG, show ((x.length : Int) - 0).toNat = x.length by omega]
    refine (fold_filter (p := eqP x) (fun l k hk => ?_) []).trans (List.nil_append _)
    have ht := eq_turn hk
    by_cases hp : eqP x k = true
    · rw [if_pos hp]
      exact if_pos (ht.mpr hp)
    · rw [if_neg hp]
      refine (if_neg fun q => hp (ht.mp q)).trans ?_
      (repeat' split) <;> rfl
  obtain ⟨r, hr⟩ := eq_first hat
  have hpos : 0 < G.length := by rw [hk, hr]; exact Nat.succ_pos _
  have hg0 : G.getD (Int.toNat 0) 0 = (n : Int) := by rw [hk, hr]; rfl
  k_steps
  have e1 : Txt.slice x none (some (G.getD (Int.toNat 0) 0)) = subL x 0 n := by rw [hg0]; exact slice_to_nat x (Nat.le_of_lt hat.lt)
  have e2 : Txt.slice x (some (G.getD (Int.toNat 0) 0 + 1)) none = subL x (n + 1) x.length := by rw [hg0]; exact slice_from_nat x (Nat.succ_le_of_lt hat.lt)
  (rename Fr _ _ _ _ => F9)
  (rename News _ _ _ _ => N9)
  rw [e1, e2] at N9
  have hT := N9 _ (.head _)
  exact hret _ _ _ _ _ _ _ F9.keep hT.2.2 hT.1
end Mine
end
section
open PySem PySem.W PyProof.Rows
set_option maxRecDepth 100000
set_option maxHeartbeats 2000000
theorem Mine.calm_S16 : True := by
  w_top off
  k_with_none
  exact True.intro
namespace Mine
local macro_rules | `(tactic| walk_at "call ref") => `(tactic| (k_here; (with_reducible show wpAny _ _ (call (Value.ref 108) [Value.ref _]) _ _ _); k_dflt (refine' use_fdd ?k1 ?k2 ?k3 ?k4 ?k5 ?k6 ?k7 ?_; (case k1 => k_asm); (case k2 => k_asm); (case k3 => k_asm); (case k4 => k_mem); (case k5 => exact rfl); (case k6 => exact Nat.le_of_ble_eq_true rfl); (case k7 => exact Nat.le_of_ble_eq_true rfl); k_whole); intro B' d' h' F' N' n1 n2 n3; (have n2a := allNe_of fun q hq => (n2 q hq).1); (have n2b := allNe_of fun q hq => (n2 q hq).2); clear n2; (simp only [AllNe, and_true] at n2a n2b); (replace n1 := ltN n1); (replace n3 := neN n3)))
local macro_rules | `(tactic| walk_at "call ref") => `(tactic| (k_here; (with_reducible show wpAny _ _ (call (Value.ref 105) [Value.ref _]) _ _ _); refine Then.go ?_))
local macro_rules | `(tactic| walk_at "getMethod ref") => `(tactic| (k_here; (with_reducible show wpAny _ _ (getMethod (Value.ref _) (PySem.Str.ofString "freeze") _) _ _ _); k_dflt (refine' use_freeze_method ?k1 ?k2 ?k3 ?k4 ?k5 ?_; (case k1 => k_asm); (case k2 => k_asm); (case k3 => k_asm); (case k4 => k_mem); (case k5 => k_mem); k_whole)))
local macro_rules | `(tactic| walk_at "exec For Name Name cons nil") => `(tactic| (k_here; (rename Fr _ _ _ _ => lF'); (with_unfolding_all refine' For_invVF lF' ?k1 ?k2 ?_; (case k1 => exact rfl); (case k2 => exact rfl); k_whole)))
local macro_rules | `(tactic| walk_at "pyIter ref") => `(tactic| ((with_reducible show wpAny _ _ (pyIter (Value.ref _)) (fun it s₂ => LoopAtV _ _ _ _ _ _ _ _ _ it s₂) _ _); refine Then.go ?_))
local macro_rules | `(tactic| walk_at "call ref") => `(tactic| (k_here; (with_reducible show wpAny _ _ (call (Value.ref _) [Value.str _ _]) _ _ _); k_dflt (refine' use_parse ?k1 ?k2 ?k3 ?k4 ?k5 ?k6 ?k7 ?k8 ?k9 ?k10 ?_; (case k1 => k_asm); (case k2 => k_asm); (case k3 => k_asm); (case k4 => k_asm); (case k5 => assumption); (case k6 => assumption); (case k7 => assumption); (case k8 => exact rfl); (case k9 => exact Nat.le_of_ble_eq_true rfl); (case k10 => exact Nat.le_of_ble_eq_true rfl); k_whole); intro P' dP' ta' tb' h' tk' F' N'))
local macro_rules | `(tactic| walk_at "call ref") => `(tactic| (k_here; (with_reducible show wpAny _ _ (call (Value.ref 213) [Value.str _ _]) _ _ _); k_dflt (refine' use_strip ?k1 ?k2 ?k3 ?k4 ?k5 ?k6 ?k7 ?k8 ?_; (case k1 => k_asm); (case k2 => k_asm); (case k3 => k_asm); (case k4 => k_asm); (case k5 => exact rfl); (case k6 => exact Nat.le_of_ble_eq_true rfl); (case k7 => exact Nat.le_of_ble_eq_true rfl); (case k8 => assumption); k_whole); intro t' h' tk' F' N'))
local macro_rules | `(tactic| walk_at "call type:type") => `(tactic| (k_here; k_dflt (refine' use_xtype ?k1 ?k2 ?k3 ?k4 ?k5 ?k6 ?k7 ?_; (case k1 => k_asm); (case k2 => k_asm); (case k3 => k_asm); (case k4 => k_mem); (case k5 => exact rfl); (case k6 => exact Nat.le_of_ble_eq_true rfl); (case k7 => exact Nat.le_of_ble_eq_true rfl); k_whole)))
local macro_rules | `(tactic| walk_at "getAttr ref") => `(tactic| (k_here; (with_reducible show wpAny _ _ (getAttr (Value.ref _) (PySem.Str.ofString "name") _) _ _ _); k_dflt (refine' use_name ?k1 ?k2 ?k3 ?k4 ?k5 ?k6 ?k7 ?k8 ?k9 ?_; (case k1 => k_asm); (case k2 => k_asm); (case k3 => k_asm); (case k4 => k_asm); (case k5 => k_mem); (case k6 => k_mem); (case k7 => exact rfl); (case k8 => exact Nat.le_of_ble_eq_true rfl); (case k9 => exact Nat.le_of_ble_eq_true rfl); k_whole); intro h' tk' F' N'))
local macro_rules | `(tactic| walk_at "getAttr ref") => `(tactic| (k_here; (with_reducible show wpAny _ _ (getAttr (Value.ref _) (PySem.Str.ofString "value") _) _ _ _); k_dflt (refine' use_value ?k1 ?k2 ?k3 ?k4 ?k5 ?k6 ?k7 ?k8 ?k9 ?_; (case k1 => k_asm); (case k2 => k_asm); (case k3 => k_asm); (case k4 => k_asm); (case k5 => k_mem); (case k6 => k_mem); (case k7 => exact rfl); (case k8 => exact Nat.le_of_ble_eq_true rfl); (case k9 => exact Nat.le_of_ble_eq_true rfl); k_whole); intro h' tk' F' N'))
local macro_rules | `(tactic| walk_at "compareOp Eq ref ref") => `(tactic| (k_here; (with_reducible show wpAny _ _ (compareOp CmpOp.Eq (Value.ref _) (Value.ref _)) _ _ _); (refine cmp_ofEq ?_); k_dflt (refine' use_eq ?k1 ?k2 ?k3 ?k4 ?k5 ?k6 ?_; (case k1 => k_asm); (case k2 => k_asm); (case k3 => k_asm); (case k4 => k_mem); (case k5 => k_mem); (case k6 => exact Nat.le_of_ble_eq_true rfl); k_whole)))
local macro_rules | `(tactic| walk_at "subscriptTail") => `(tactic| (k_here; (with_reducible show wpAny _ _ (subscriptTail _ _ (Value.ref _) (Value.int 0 _)) _ _ _); k_dflt (refine' use_item0 ?k1 ?k2 ?k3 ?k4 ?k5 ?_; (case k1 => with_unfolding_all rfl); (case k2 => k_asm); (case k3 => k_asm); (case k4 => k_mem); (case k5 => k_asm); k_whole)))
local macro_rules | `(tactic| walk_at "subscriptTail") => `(tactic| (k_here; (with_reducible show wpAny _ _ (subscriptTail _ _ (Value.ref _) (Value.int 1 _)) _ _ _); k_dflt (refine' use_item1 ?k1 ?k2 ?k3 ?k4 ?k5 ?_; (case k1 => with_unfolding_all rfl); (case k2 => k_asm); (case k3 => k_asm); (case k4 => k_mem); (case k5 => k_asm); k_whole)))
local macro_rules | `(tactic| walk_at "call builtin:list.append") => `(tactic| (k_here; (with_reducible show wpAny _ _ (call (Value.builtin _) [Value.ref _, _]) _ _ _); refine Then.go ?_))
theorem pick11 {h₀ h : Heap} {L a b c d e tl B2 d2 f2 c2 B1 f1 c1 z : Addr} {oa ob oc od oe otl oB2 od2 of2 oc2 oB1 of1 oc1 oz : Obj} (N : News h₀ L h [(a, oa), (b, ob), (c, oc), (d, od), (e, oe), (tl, otl), (B2, oB2), (d2, od2), (f2, of2), (c2, oc2), (B1, oB1), (f1, of1), (c1, oc1), (z, oz)]) :
    ∃ fx fy, fx = (a, oa) :: (d2, od2) :: fy ∧ fy = [(b, ob), (c, oc), (d, od), (e, oe), (f2, of2), (c2, oc2), (B1, oB1), (f1, of1), (c1, oc1), (z, oz)] ∧ News h₀ L h ((tl, otl) :: (B2, oB2) :: fx) :=
  ⟨_, _, rfl, rfl, by repeat (first | exact List.forall_mem_nil _ | refine' List.forall_mem_cons.mpr ⟨N _ (by k_mem), ?_⟩)⟩
local macro_rules | `(tactic| walk_at "subscriptTail") => `(tactic| (k_here; (with_reducible show wpAny _ _ (subscriptTail _ (Expr.UnaryOp _ _ _) (Value.ref _) (Value.int _ _)) _ _ _); (try dsimp only); k_dflt (refine' use_last ?k1 ?k2 ?k3 ?_; (case k1 => with_unfolding_all rfl); (case k2 => k_asm); (case k3 => k_mem); k_whole); (try dsimp only)))
local macro_rules | `(tactic| walk_at "subscriptTail") => `(tactic| (k_here; (with_reducible show wpAny _ _ (subscriptTail _ _ (Value.ref _) (Value.int 2 _)) _ _ _); (try dsimp only); k_dflt (refine' use_tup2 ?k1 ?k2 ?k3 ?_; (case k1 => with_unfolding_all rfl); (case k2 => k_asm); (case k3 => k_mem); k_whole); (try dsimp only)))
local macro_rules | `(tactic| walk_at "subscriptTail") => `(tactic| (k_here; (with_reducible show wpAny _ _ (subscriptTail _ _ (Value.ref _) (Value.str _ _)) _ _ _); refine Then.go ?_))
local macro_rules | `(tactic| walk_at "eval UnaryOp") => `(tactic| (k_here; (refine neg1_eval ?_); intro t' tk'; (try dsimp only)))
local macro_rules | `(tactic| walk_at "getMethod ref") => `(tactic| (k_here; (with_reducible show wpAny _ _ (getMethod (Value.ref _) (PySem.Str.ofString "append") _) _ _ _); (with_reducible rename Heap.get? _ _ = some (W.listOf _ _) => hgA); k_dflt (refine use_appm hgA ?_); (try dsimp only)))
theorem pick_turn {h₀ h : Heap} {L a b P dP I tl B : Addr} {oa ob oP odP oI otl oB : Obj} {r : List (Addr × Obj)} (N : News h₀ L h ([(a, oa), (b, ob), (P, oP), (dP, odP), (I, oI)] ++ (tl, otl) :: (B, oB) :: r)) :
    News h₀ L h ((P, oP) :: (dP, odP) :: (I, oI) :: (tl, otl) :: (B, oB) :: (a, oa) :: r) := fun q hq => N q (by
  simp only [List.mem_cons, List.cons_append, List.nil_append] at hq ⊢
  rcases hq with h | h | h | h | h | h | h <;> simp [h])
theorem told_at {h₀ h : Heap} {L D : Addr} {a b c d e : Addr × Obj} {x : Str} {n : Nat} {ta tb tc td : Tok} {r : List (Addr × Obj)} (_ : News h₀ L h (a :: b :: c :: d :: e :: (D, tup5 (firstF x n) (secondF x n) (bareF (secondF x n)) (bareF x) ta tb tc td) :: r)) :
    ToldO (tup5 (firstF x n) (secondF x n) (bareF (secondF x n)) (bareF x) ta tb tc td) (x, n) := ⟨ta, tb, tc, td, rfl⟩
theorem pick_miss {h₀ h : Heap} {L l P dP I tl B D : Addr} {ol oP odP oI otl oB oD : Obj} {r fx : List (Addr × Obj)} (N : News h₀ L h ((l, ol) :: ([(P, oP), (dP, odP), (I, oI), (tl, otl)] ++ (B, oB) :: (D, oD) :: (r ++ fx)))) :
    News h₀ L h ((I, oI) :: (tl, otl) :: (B, oB) :: (((l, ol) :: (D, oD) :: r) ++ fx)) := fun q hq => N q (by
  simp only [List.mem_cons, List.cons_append, List.nil_append] at hq ⊢
  rcases hq with h | h | h | h | h | h <;> simp [h])
theorem pick_hit {h₀ h : Heap} {L P dP I tl B : Addr} {oP odP oI otl oB : Obj} {r : List (Addr × Obj)} (N : News h₀ L h ([(P, oP), (dP, odP), (I, oI), (tl, otl), (B, oB)] ++ r)) :
    News h₀ L h ((I, oI) :: (tl, otl) :: (B, oB) :: r) := fun q hq => N q (by
  simp only [List.mem_cons, List.cons_append, List.nil_append] at hq ⊢
  rcases hq with h | h | h | h <;> simp [h])
theorem not_sys {p : Program} {loose : List Str} {mean : ExcName → Option Value} {mg mb : Str → Option Value} {h₀ : Heap} {B d : Addr} (T : Top p loose mean mg mb h₀) (hd : h₀.get? d = none) (h : B > d) : B ≠ sysModules := fun e => by
  subst e
  have h : d < 1 := h
  have hd0 : d = 0 := Nat.lt_one_iff.mp h
  subst hd0
  obtain ⟨o, _, _, ho, _⟩ := T.b
  rw [show h₀.get? builtinsNs = none from hd] at ho
  cases ho
theorem law_books {w : World} {p : Program} {loose : List Str} {mean : ExcName → Option Value} {mg mb : Str → Option Value} {gd : Option (List Code)} {fr : Option (List Env)} {s : Shared} {hb h₀ : Heap} {tl : Addr} {items : Array Value} {nI : Nat} {ts : List Line} {R : Result → Shared → Prop} :
    ((hd.heap_1 w.params).In hb ∧ Top p loose mean mg mb hb ∧ Ext hb h₀) → (hd.heap_1 w.params).In h₀ → Top p loose mean mg mb h₀ → CodeHd h₀ 104 100 → CodeHd h₀ 236 232 → Ext h₀ s.heap → h₀.objs.size ≤ s.heap.objs.size →
    h₀.get? tl = some (W.listOf items nI) → s.heap.get? 100 = some (tabObj #[]) → h₀.get? 100 = none → s.heap.get? 232 = some (tabObj #[]) → h₀.get? 232 = none →
    All2 (fun v p => ∃ t, v = .str p.1 t) items.toList ts → (∀ p ∈ ts, p.1.length ≤ 10 ∧ EqAt p.1 p.2 ∧ SignsOk p.1) → ts.length ≤ 1000 →
    (∀ h' tk' r n B1 B2 tl' kvs all, Ext h₀ h' → h'.get? r = some (W.listOf #[.ref B1, .ref B2, .ref tl'] n) → h₀.get? r = none → Books w hb h₀ h' ts B1 B2 tl' kvs all → R (.ok (.ret (.ref r))) { s with heap := h', toks := tk' }) →
    codeAny (model PySem.Challenge.rw_in0008_01.row.prog w) ⟨none, 303, fr, gd, 100⟩ (.call (.ref 237) ⟨[.ref tl], []⟩) R s := by
  k_fill
  intro hbase X T C C2 e hz hl h100 n100 h232 n232 hts hok hln hret
  k_dflt (refine' hid_call (news := [(100, tabObj #[]), (232, tabObj #[])]) ?kX ?kT ?kE ?kZ ?kN ?ho ?hcd ?room ?bind ?loc ?_ ?c2 ?c3 ?c4 ?c5; (case kX => assumption); (case kT => assumption); (case kE => assumption); (case kZ => assumption); (case kN => intro q hq; rcases List.mem_cons.mp hq with rfl | hq <;> first | exact ⟨h100, n100⟩ | (rcases List.mem_cons.mp hq with rfl | hq <;> first | exact ⟨h232, n232⟩ | cases hq)); (case ho => k_is); (case hcd => k_is); (case room => exact Nat.le_of_ble_eq_true rfl); (case bind => exact BindsTo.of_eq rfl); (case loc => exact locs rfl); (case c2 => exact rfl); (case c3 => exact rfl); (case c4 => exact rfl); (case c5 => decide); k_whole)
  intro L' h' F' N' l1
  have q1 : (100:Nat) < L' := l1 _ (.head _)
  have q2 : (232:Nat) < L' := l1 _ (.tail _ (.head _))
  dsimp only
  k_steps
  rename_i f1 c1 oc1 vs1 t1 ct1 hA tkA e1 e1' lA lB B1 d1 hB n2a n2b n1 n3 f2 c2 oc2 vs2 t2 ct2 hC tkC e2 e2' lC lD B2 d2 hD m2a m2b m1 m3 tl' hE lE D hF lF hG hH hI hJ F9 N9
  dsimp only [List.append_nil, List.cons_append, List.nil_append]
  have Nf1 := News_get N9 (.tail _ (.tail _ (.tail _ (.tail _ (.tail _ (.tail _ (.tail _ (.tail _ (.head _)))))))))
  have Nf2 := News_get N9 (.tail _ (.tail _ (.tail _ (.tail _ (.head _)))))
  have hG1 := lam_at hbase.1 hbase.2.1 Nf1 e1 e1'
  have hG2 := lam_at hbase.1 hbase.2.1 Nf2 e2 e2'
  refine' wpAny_call (codeAny_lower (D := 320) (U := 300) (use_freeze1 (hb := hb) (B := B1) (dx := d1) (rest := [(tl', _), (B2, _), (d2, _), (f2, _), (c2, oc2), (B1, _), (f1, _), (c1, oc1), (232, _)]) (need := [(B1, _), (f1, _), (c1, oc1)]) F9 N9 hbase.1 hbase.2.1 hbase.2.2 C ?a1 ?a2 ?a3 ?a4 ?a5 ?a6 ?a7 ?a8 ?a9 ?a10 ?_) rfl (Nat.le_of_ble_eq_true rfl) (Nat.le_of_ble_eq_true rfl))
  (case a1 => k_mem)
  (case a2 => k_mem)
  (case a3 => exact n2b.2.2.1.symm)
  (case a4 => repeat (first | exact List.forall_mem_nil _ | refine' List.forall_mem_cons.mpr ⟨by k_mem, ?_⟩))
  (case a5 => exact List.forall_mem_cons.mpr ⟨Nat.ne_of_gt lE.2.2.2.2.2.2.2.2.1, List.forall_mem_cons.mpr ⟨m2a.2.2.2.2.2.2.1.symm, List.forall_mem_cons.mpr ⟨m2b.2.2.2.2.2.2.1.symm, List.forall_mem_cons.mpr ⟨Nat.ne_of_gt (Nat.lt_trans lC.2.2.2.2.1 lD), List.forall_mem_cons.mpr ⟨Nat.ne_of_gt lC.2.2.2.2.1, List.forall_mem_cons.mpr ⟨n2a.2.2.1.symm, List.forall_mem_cons.mpr ⟨Nat.ne_of_gt (Nat.lt_trans lA.1 lB), List.forall_mem_cons.mpr ⟨Nat.ne_of_gt lA.1, List.forall_mem_cons.mpr ⟨(show (232:Nat) ≠ 100 by decide), List.forall_mem_nil _⟩⟩⟩⟩⟩⟩⟩⟩⟩)
  (case a6 => exact List.forall_mem_cons.mpr ⟨Nat.ne_of_gt lE.2.2.2.2.2.1, List.forall_mem_cons.mpr ⟨m2a.2.2.2.1.symm, List.forall_mem_cons.mpr ⟨m2b.2.2.2.1.symm, List.forall_mem_cons.mpr ⟨Nat.ne_of_gt (Nat.lt_trans lC.2.1 lD), List.forall_mem_cons.mpr ⟨Nat.ne_of_gt lC.2.1, List.forall_mem_cons.mpr ⟨Nat.ne_of_gt n1, List.forall_mem_cons.mpr ⟨n2b.1, List.forall_mem_cons.mpr ⟨n2b.2.1, List.forall_mem_cons.mpr ⟨n2b.2.2.2, List.forall_mem_nil _⟩⟩⟩⟩⟩⟩⟩⟩⟩)
  (case a7 => repeat (first | exact List.forall_mem_nil _ | refine' List.forall_mem_cons.mpr ⟨by k_mem, ?_⟩))
  (case a8 => k_mem)
  (case a9 => k_mem)
  (case a10 => exact fun g eg hg => hG1 g eg (hg _ (.tail _ (.head _))) (hg _ (.tail _ (.tail _ (.head _)))))
  intro h10 tk10 g1 fd1 u1 cc1 occ1 cl1 ocl1 F10 N10 hrec hs1 hs2 h3n hgive1 hap1
  clear F9 N9
  dsimp only
  repeat' (first | (k_unfold; (try dsimp only)) | walk1 | (dsimp only; walk1))
  rename_i F11
  obtain ⟨fx, fy, hfx, hfy, N11⟩ := pick11 N10
  have hyB : ∀ q ∈ fy, q.1 ≠ B2 := by
    rw [hfy]
    exact List.forall_mem_cons.mpr ⟨(hap1 _ (.tail _ (.head _))).1.symm, List.forall_mem_cons.mpr ⟨(hap1 _ (.tail _ (.head _))).2.1.symm, List.forall_mem_cons.mpr ⟨(hap1 _ (.tail _ (.head _))).2.2.symm, List.forall_mem_cons.mpr ⟨m2a.2.2.2.1, List.forall_mem_cons.mpr ⟨m2a.1, List.forall_mem_cons.mpr ⟨m2a.2.1, List.forall_mem_cons.mpr ⟨m2a.2.2.1, List.forall_mem_cons.mpr ⟨m2a.2.2.2.2.1, List.forall_mem_cons.mpr ⟨m2a.2.2.2.2.2.1, List.forall_mem_cons.mpr ⟨m2a.2.2.2.2.2.2.2, List.forall_mem_nil _⟩⟩⟩⟩⟩⟩⟩⟩⟩⟩
  have hyS : ∀ q ∈ fy, ∀ its n, q.2.data ≠ .seq its n := by
    rw [hfy]
    exact List.forall_mem_cons.mpr ⟨(fun its n q => by cases q), List.forall_mem_cons.mpr ⟨hs1, List.forall_mem_cons.mpr ⟨hs2, List.forall_mem_cons.mpr ⟨(fun its n q => by cases q), List.forall_mem_cons.mpr ⟨(fun its n q => by cases q), List.forall_mem_cons.mpr ⟨(fun its n q => by rw [e2] at q; cases q), List.forall_mem_cons.mpr ⟨(fun its n q => by cases q), List.forall_mem_cons.mpr ⟨(fun its n q => by cases q), List.forall_mem_cons.mpr ⟨(fun its n q => by rw [e1] at q; cases q), List.forall_mem_cons.mpr ⟨(fun its n q => by cases q), List.forall_mem_nil _⟩⟩⟩⟩⟩⟩⟩⟩⟩⟩
  have hy1 : ∀ q ∈ fy, q.1 ≠ 100 := by
    rw [hfy]
    exact List.forall_mem_cons.mpr ⟨h3n.1, List.forall_mem_cons.mpr ⟨h3n.2.1, List.forall_mem_cons.mpr ⟨h3n.2.2, List.forall_mem_cons.mpr ⟨n2b.2.2.1.symm, List.forall_mem_cons.mpr ⟨Nat.ne_of_gt (Nat.lt_trans lC.2.2.2.2.1 lD), List.forall_mem_cons.mpr ⟨Nat.ne_of_gt lC.2.2.2.2.1, List.forall_mem_cons.mpr ⟨n2a.2.2.1.symm, List.forall_mem_cons.mpr ⟨Nat.ne_of_gt (Nat.lt_trans lA.1 lB), List.forall_mem_cons.mpr ⟨Nat.ne_of_gt lA.1, List.forall_mem_cons.mpr ⟨(show (232:Nat) ≠ 100 by decide), List.forall_mem_nil _⟩⟩⟩⟩⟩⟩⟩⟩⟩⟩
  have hyd : ∀ q ∈ fy, q.1 ≠ d2 := by
    rw [hfy]
    exact List.forall_mem_cons.mpr ⟨(hap1 _ (.tail _ (.tail _ (.head _)))).1.symm, List.forall_mem_cons.mpr ⟨(hap1 _ (.tail _ (.tail _ (.head _)))).2.1.symm, List.forall_mem_cons.mpr ⟨(hap1 _ (.tail _ (.tail _ (.head _)))).2.2.symm, List.forall_mem_cons.mpr ⟨m2b.2.2.2.1, List.forall_mem_cons.mpr ⟨m2b.1, List.forall_mem_cons.mpr ⟨m2b.2.1, List.forall_mem_cons.mpr ⟨m2b.2.2.1, List.forall_mem_cons.mpr ⟨m2b.2.2.2.2.1, List.forall_mem_cons.mpr ⟨m2b.2.2.2.2.2.1, List.forall_mem_cons.mpr ⟨m2b.2.2.2.2.2.2.2, List.forall_mem_nil _⟩⟩⟩⟩⟩⟩⟩⟩⟩⟩
  have hd2n : d2 ≠ 100 := m2b.2.2.2.2.2.2.1.symm
  have hB2n : B2 ≠ 100 := m2a.2.2.2.2.2.2.1.symm
  have hdB : d2 ≠ B2 := Nat.ne_of_lt m1
  have hfB : ∀ q ∈ fx, q.1 ≠ B2 := by
    rw [hfx]
    exact List.forall_mem_cons.mpr ⟨hB2n.symm, List.forall_mem_cons.mpr ⟨hdB, hyB⟩⟩
  have hfS : ∀ q ∈ fx, ∀ its n, q.2.data ≠ .seq its n := by
    rw [hfx]
    exact List.forall_mem_cons.mpr ⟨(fun its n q => by cases q), List.forall_mem_cons.mpr ⟨(fun its n q => by cases q), hyS⟩⟩
  have hfxy : ∀ q ∈ fy, q ∈ fx := fun q hq => by rw [hfx]; exact .tail _ (.tail _ hq)
  have hm1 : (d2, emptyDict) ∈ fx := by rw [hfx]; exact .tail _ (.head _)
  have hm0 : (100, tabObj #[rawInt 43, rawInt 23, .ref cc1]) ∈ fx := by rw [hfx]; exact .head _
  have hym2 := (show (f2, _) ∈ fy by rw [hfy]; k_mem)
  have hym3 : (c2, oc2) ∈ fy := by rw [hfy]; k_mem
  have hym4 : (cc1, occ1) ∈ fy := by rw [hfy]; k_mem
  have hym5 : (g1, fnO fd1) ∈ fy := by rw [hfy]; k_mem
  have hym6 : (d1, frozenD w u1 (.ref g1)) ∈ fy := by rw [hfy]; k_mem
  have hym7 : (B1, fdd d1 f1 #[] 0) ∈ fy := by rw [hfy]; k_mem
  have hym8 := (show (232, _) ∈ fy by rw [hfy]; k_mem)
  have hgy : ∀ g, Ext hb g → Has g fy → ∀ y ty, GivesE (model PySem.Challenge.rw_in0008_01.row.prog w) g (.ref g1) [.str y ty] := fun g eg hg => hgive1 g eg fun q hq => hg q (by
    rw [hfy]
    simp only [List.mem_cons, List.not_mem_nil, or_false] at hq ⊢
    rcases hq with h | h | h | h | h | h | h <;> simp [h])
  have hm2 := hfxy _ hym2
  have hm3 := hfxy _ hym3
  have hB2s := not_sys T (N11 _ (.tail _ (.tail _ hm1))).2.2 m1
  have hB1s := not_sys T (N10 _ (.tail _ (.tail _ (.tail _ (.tail _ (.head _)))))).2.2 n1
  clear e1 e1' lA lB n2a n2b n1 n3 e2 e2' lC lD m2a m2b m1 m3 lE lF Nf1 Nf2 hap1 q1 q2 h100 h232 N10 hfy hgive1
  refine' Then.mk (iter_listJ (LoopJ PySem.Challenge.rw_in0008_01.row.prog w _ tl' B2 d2 f2 fx ts) rfl (F11.keep _ _ hl) ⟨_, F11.keep _ _ hl, rfl, _, rfl⟩ F11 N11 (fun _ _ _ _ => .inl hl) LoopJ.zero ?turn ?done)
  (case turn =>
    clear hG1 hgy N11 F11 hfx hrec hs1 hs2 hyB hyS hy1 hyd hret hfxy hym2 hym3 hym4 hym5 hym6 hym7 hym8 h3n
    intro I i hi m₁ news₁ h tk oI hcI hoff hJ F N
    obtain ⟨tis, nT, es, ep, kvs, ents, tv, pv, nv, rfl, rfl, inv⟩ := hJ
    have hlt : i < ts.length := by rw [← hts.length]; simpa using hi
    obtain ⟨tt, hit⟩ := hts.get (i := i) (a := items[i]) (b := ts[i]) (by simp) (by simp)
    obtain ⟨hlen, hat, hsg⟩ := hok ts[i] (List.getElem_mem _)
    rw [hit] at F
    have hpi : ts[i]? = some ts[i] := by simp
    generalize ts[i] = p at hit hlen hat hsg F hpi
    obtain ⟨x, n⟩ := p
    dsimp only at hit hlen hat hsg F
    have hlen2 : (secondF x n).length ≤ 10 := Nat.le_trans (trimF_len _) (Nat.le_trans (sub_len _ _ _) hlen)
    repeat' (first | (k_unfold; (try dsimp only)) | walk1 | (dsimp only; walk1))
    rename_i D5 F12 N12 l12
    rename_i D2 _ _ _ _ _ _ _ _ _ _ _ _
    refine Then.mk (append_N (pre := [_, _, _, _, _]) (post := (B2, fdd d2 f2 es ep) :: (ents ++ fx)) F12 N12 ?_ ?_ ?_ ?_)
    · exact List.forall_mem_cons.mpr ⟨ne_cls rfl (by simp), List.forall_mem_cons.mpr ⟨ne_cls rfl (by simp), List.forall_mem_cons.mpr ⟨ne_cls rfl (by simp), List.forall_mem_cons.mpr ⟨ne_cls rfl (by simp), List.forall_mem_cons.mpr ⟨ne_cls hcI (by simp), List.forall_mem_nil _⟩⟩⟩⟩⟩
    · exact List.forall_mem_cons.mpr ⟨ne_cls rfl (by simp), all_append (ents_ne inv) (seq_ne hfS)⟩
    rotate_left
    · have := inv.told.length
      rw [sizeLine_eq]
      simp only [List.length_take, Array.length_toList] at this
      omega
    intro h13 F13 N13
    have N14 := pick_turn N13
    clear N13 N12 F12 l12
    dsimp only
    repeat' (first | (k_unfold; (try dsimp only)) | walk1 | (dsimp only; walk1))
    refine Then.mk ?_
    have hT := told_at N14
    have htI : tl' ≠ I := hoff _ (.head _)
    have hBI : B2 ≠ I := hoff _ (.tail _ (.head _))
    have NE := (show News _ _ _ ([_, _, _, _, _] ++ (((_, _) :: ents) ++ fx)) from N14)
    by_cases hk : keyF (x, n) ∈ kvs.map (·.1)
    · obtain ⟨kl, hkl, hke⟩ := List.mem_map.mp hk
      obtain ⟨k, l⟩ := kl
      have hkl' : (keyF (x, n), l) ∈ kvs := by rw [← hke]; exact hkl
      obtain ⟨oL, hmem, vs, nn, rfl, hsv⟩ := inv.lists _ hkl'
      have hlI : l ≠ I := hoff (l, _) (.tail _ (.tail _ (List.mem_append_left _ hmem)))
      have hg0 := (NE _ (List.mem_append_right _ (List.mem_append_left _ (.tail _ hmem)))).1
      dsimp only at hg0
      have hg := hg0
      refine' use_hit ?hsub F13 N14 ?mB inv.holds hkl' X ?_
      (case hsub => with_unfolding_all rfl)
      (case mB => k_mem)
      dsimp only
      repeat' (first | (k_unfold; (try dsimp only)) | walk1 | (dsimp only; walk1))
      have hfun : ∀ q ∈ ents, q.1 = l → q.2 = W.listOf vs.toArray nn := fun q hq e => by
        have z := (NE _ (List.mem_append_right _ (List.mem_append_left _ (.tail _ hq)))).1
        rw [e, hg0] at z
        exact (Option.some.inj z).symm
      have hal := ne_seq NE (List.mem_append_right _ (List.mem_append_left _ (.tail _ hmem))) (List.mem_append_right _ (List.mem_append_left _ (.head _))) (by exact told_ne hT)
      have hDI := ne_at NE (List.mem_append_right _ (List.mem_append_left _ (.head _))) (.tail _ (.tail _ (.head _))) (by rw [hcI]; simp)
      refine Then.mk (append_E (pre := [_, _, _, _, _]) (ents := (_, _) :: ents) F13 NE (.tail _ hmem) ?_ (seq_ne hfS) ?_ ?_)
      · exact List.forall_mem_cons.mpr ⟨ne_cls rfl (by simp), List.forall_mem_cons.mpr ⟨ne_cls rfl (by simp), List.forall_mem_cons.mpr ⟨ne_cls hcI (by simp), List.forall_mem_cons.mpr ⟨fun e => name_ne_told (inv.told.push hT) ⟨vs, nn, rfl, hsv⟩ e.symm, List.forall_mem_cons.mpr ⟨ne_cls rfl (by simp), List.forall_mem_nil _⟩⟩⟩⟩⟩
      · intro h15 F15 N15
        dsimp only
        repeat' (first | (k_unfold; (try dsimp only)) | walk1 | (dsimp only; walk1))
        refine ⟨h15, _, _, _, rfl, F15, pick_hit N15, ?_, LoopJ.next (nT := nT + 1) (ep := ep) hpi (inv.hit hT hkl' hmem hal hfun hsv)⟩
        · refine List.forall_mem_cons.mpr ⟨htI, List.forall_mem_cons.mpr ⟨hBI, all_append (fun q hq => ?_) fun q hq => hoff q (.tail _ (.tail _ (List.mem_append_right _ hq)))⟩⟩
          rcases setAt_mem hq with rfl | ⟨hq, _⟩
          · exact hlI
          · rcases List.mem_cons.mp hq with rfl | hq
            · exact hDI
            · exact hoff q (.tail _ (.tail _ (List.mem_append_left _ hq)))
      · have := hsv.length
        have z : (firstsFor (keyF (x, n)) (ts.take i)).length ≤ (ts.take i).length := by
          unfold firstsFor
          rw [List.length_map]
          exact List.length_filter_le _ _
        rw [sizeLine_eq]
        simp only [List.length_take, List.length_cons, List.size_toArray] at this z ⊢
        omega
    · have hA9 := True.intro
      have hDI := ne_at NE (List.mem_append_right _ (List.mem_append_left _ (.head _))) (.tail _ (.tail _ (.head _))) (by rw [hcI]; simp)
      have eh : Ext hb h13 := fun b o z => F13.keep _ _ (hbase.2.2 _ _ z)
      have gG := (hG2 h13 eh (N14 _ (.tail _ (.tail _ (.tail _ (.tail _ (.tail _ (.tail _ (List.mem_append_right _ hm2)))))))).1 (N14 _ (.tail _ (.tail _ (.tail _ (.tail _ (.tail _ (.tail _ (List.mem_append_right _ hm3)))))))).1).toE
      refine' use_miss (pre := [_, _, _, _]) (post := (_, _) :: (ents ++ fx)) ?hsub F13 N14 ?hd1 ?hd2 (.tail _ (List.mem_append_right _ hm1)) (.tail _ (List.mem_append_right _ hm2)) inv.holds hk ?hz gG rfl (Nat.le_of_ble_eq_true rfl) (Nat.le_of_ble_eq_true rfl) hB2s T X ?_
      (case hsub => with_unfolding_all rfl)
      (case hd1 => exact List.forall_mem_cons.mpr ⟨ne_at N14 (.head _) (.tail _ (.tail _ (.tail _ (.tail _ (.head _))))) (by simp), List.forall_mem_cons.mpr ⟨ne_at N14 (.tail _ (.head _)) (.tail _ (.tail _ (.tail _ (.tail _ (.head _))))) (by simp), List.forall_mem_cons.mpr ⟨hBI.symm, List.forall_mem_cons.mpr ⟨ne_at N14 (.tail _ (.tail _ (.tail _ (.head _)))) (.tail _ (.tail _ (.tail _ (.tail _ (.head _))))) (by simp), List.forall_mem_nil _⟩⟩⟩⟩)
      (case hd2 => exact List.forall_mem_cons.mpr ⟨ne_at N14 (.tail _ (.tail _ (.tail _ (.tail _ (.tail _ (.head _)))))) (.tail _ (.tail _ (.tail _ (.tail _ (.head _))))) (by simp), all_append (fun q hq => ne_at N14 (.tail _ (.tail _ (.tail _ (.tail _ (.tail _ (.tail _ (List.mem_append_left _ hq))))))) (.tail _ (.tail _ (.tail _ (.tail _ (.head _))))) (fdd_ne_ent inv q hq)) hfB⟩)
      (case hz =>
        have z1 := keysOf_length (ts.take i)
        rw [← inv.keys, List.length_map, List.length_take] at z1
        omega)
      intro l t' h14 tk14 es' F14 N15 hH hpl hql
      clear F13 N14 NE
      dsimp only
      repeat' (first | (k_unfold; (try dsimp only)) | walk1 | (dsimp only; walk1))
      have hBl := ne_at N15 (.tail _ (.tail _ (.tail _ (.tail _ (.tail _ (.head _)))))) (.head _) (by simp)
      refine Then.mk (append_A F14 N15 (all_append hpl (List.forall_mem_cons.mpr ⟨hBl, hql⟩)) ?_ (by rw [sizeLine_eq]; exact Nat.le_of_ble_eq_true rfl))
      intro h15 F15 N16
      dsimp only
      repeat' (first | (k_unfold; (try dsimp only)) | walk1 | (dsimp only; walk1))
      refine ⟨h15, _, _, _, rfl, F15, pick_miss N16, ?_, LoopJ.next (nT := nT + 1) (ep := ep + 1) hpi (inv.miss (n := 1) hT hk hH (hql _ (.head _)) (fun q hq => hql q (.tail _ (List.mem_append_left _ hq))))⟩
      · exact List.forall_mem_cons.mpr ⟨htI, List.forall_mem_cons.mpr ⟨hBI, all_append (List.forall_mem_cons.mpr ⟨(hpl (I, oI) (.tail _ (.tail _ (.head _)))).symm, List.forall_mem_cons.mpr ⟨hDI, fun q hq => hoff q (.tail _ (.tail _ (List.mem_append_left _ hq)))⟩⟩) fun q hq => hoff q (.tail _ (.tail _ (List.mem_append_right _ hq)))⟩⟩)
  (case done =>
    clear N11 F11 hs1 hs2 h3n
    intro m' news' h tk F N hJ
    obtain ⟨tis, nT, es, ep, kvs, ents, tv, pv, nv, rfl, rfl, inv⟩ := hJ
    have hall : ts.take items.size = ts := List.take_of_length_le (by rw [← hts.length]; simp)
    rw [hall] at inv
    have mt := (show (tl', W.listOf tis nT) ∈ (tl', W.listOf tis nT) :: (B2, fdd d2 f2 es ep) :: (ents ++ fx) from .head _)
    have mB := (show (B2, fdd d2 f2 es ep) ∈ (tl', W.listOf tis nT) :: (B2, fdd d2 f2 es ep) :: (ents ++ fx) from .tail _ (.head _))
    have mx : ∀ q ∈ fx, q ∈ (tl', W.listOf tis nT) :: (B2, fdd d2 f2 es ep) :: (ents ++ fx) := fun q hq => .tail _ (.tail _ (List.mem_append_right _ hq))
    have me : ∀ q ∈ ents, q ∈ (tl', W.listOf tis nT) :: (B2, fdd d2 f2 es ep) :: (ents ++ fx) := fun q hq => .tail _ (.tail _ (List.mem_append_left _ hq))
    have N2 : News h₀ L' h ((d2, emptyDict) :: (B2, fdd d2 f2 es ep) :: (tl', W.listOf tis nT) :: (ents ++ fx)) := List.forall_mem_cons.mpr ⟨N _ (mx _ hm1), List.forall_mem_cons.mpr ⟨N _ mB, List.forall_mem_cons.mpr ⟨N _ mt, fun q hq => N q (.tail _ (.tail _ hq))⟩⟩⟩
    clear N
    dsimp only
    repeat' (first | (k_unfold; (try dsimp only)) | walk1 | (dsimp only; walk1))
    dsimp only [List.cons_append, List.nil_append]
    have m0 := (show (100, tabObj #[rawInt 43, rawInt 23, .ref cc1]) ∈ (d2, emptyDict) :: (B2, fdd d2 f2 es ep) :: (tl', W.listOf tis nT) :: (ents ++ fx) from .tail _ (.tail _ (.tail _ (List.mem_append_right _ hm0))))
    have md := (show (d2, emptyDict) ∈ (d2, emptyDict) :: (B2, fdd d2 f2 es ep) :: (tl', W.listOf tis nT) :: (ents ++ fx) from .head _)
    have mt2 := (show (tl', W.listOf tis nT) ∈ (d2, emptyDict) :: (B2, fdd d2 f2 es ep) :: (tl', W.listOf tis nT) :: (ents ++ fx) from .tail _ (.tail _ (.head _)))
    have me2 : ∀ q ∈ ents, q ∈ (d2, emptyDict) :: (B2, fdd d2 f2 es ep) :: (tl', W.listOf tis nT) :: (ents ++ fx) := fun q hq => .tail _ (.tail _ (.tail _ (List.mem_append_left _ hq)))
    refine' wpAny_call (codeAny_lower (D := 320) (U := 300) (use_freeze2 (hb := hb) (c0 := cc1) (B := B2) (dx := d2) (rest := (B2, fdd d2 f2 es ep) :: (tl', W.listOf tis nT) :: (ents ++ fy)) (need := [(B2, fdd d2 f2 es ep), (f2, _), (c2, oc2), (cc1, occ1)]) F N2 hbase.1 hbase.2.1 hbase.2.2 C m0 md hd2n ?a4 ?a5 ?a6 ?a7 (.head _) (.tail _ (.head _)) ?a10 ?_) rfl (Nat.le_of_ble_eq_true rfl) (Nat.le_of_ble_eq_true rfl))
    (case a4 => exact List.forall_mem_cons.mpr ⟨.tail _ (.head _), List.forall_mem_cons.mpr ⟨.tail _ (.tail _ (.head _)), all_append me2 fun q hq => .tail _ (.tail _ (.tail _ (List.mem_append_right _ (hfxy q hq))))⟩⟩)
    (case a5 => exact List.forall_mem_cons.mpr ⟨hB2n, List.forall_mem_cons.mpr ⟨ne_at N2 mt2 m0 (by simp), all_append (ent_ne inv N2 me2 m0 (by simp) (by simp)) hy1⟩⟩)
    (case a6 => exact List.forall_mem_cons.mpr ⟨hdB.symm, List.forall_mem_cons.mpr ⟨ne_at N2 mt2 md (by simp), all_append (ent_ne inv N2 me2 md (by simp) (by simp)) hyd⟩⟩)
    (case a7 => exact List.forall_mem_cons.mpr ⟨.head _, List.forall_mem_cons.mpr ⟨.tail _ (.tail _ (List.mem_append_right _ hym2)), List.forall_mem_cons.mpr ⟨.tail _ (.tail _ (List.mem_append_right _ hym3)), List.forall_mem_cons.mpr ⟨.tail _ (.tail _ (List.mem_append_right _ hym4)), List.forall_mem_nil _⟩⟩⟩⟩)
    (case a10 => exact fun g eg hg => ⟨hG2 g eg (hg _ (.tail _ (.head _))) (hg _ (.tail _ (.tail _ (.head _)))), hrec g (hg _ (.tail _ (.tail _ (.tail _ (.head _)))))⟩)
    intro h3 tk3 g2 fd2 u2 cl2 ocl2 F3 N3 hs3 hgive2
    clear N2 F m0 md mt2 me2
    dsimp only
    repeat' (first | (k_unfold; (try dsimp only)) | walk1 | (dsimp only; walk1))
    rename_i r h4 F4 N4 l4
    have my : ∀ q ∈ fy, q ∈ (100, tabObj #[rawInt 43, rawInt 23, .ref cc1]) :: (g2, fnO fd2) :: (cl2, ocl2) :: (d2, frozenD w u2 (.ref g2)) :: (B2, fdd d2 f2 es ep) :: (tl', W.listOf tis nT) :: (ents ++ fy) := fun q hq => .tail _ (.tail _ (.tail _ (.tail _ (.tail _ (.tail _ (List.mem_append_right _ hq))))))
    have me3 : ∀ q ∈ ents, q ∈ (100, tabObj #[rawInt 43, rawInt 23, .ref cc1]) :: (g2, fnO fd2) :: (cl2, ocl2) :: (d2, frozenD w u2 (.ref g2)) :: (B2, fdd d2 f2 es ep) :: (tl', W.listOf tis nT) :: (ents ++ fy) := fun q hq => .tail _ (.tail _ (.tail _ (.tail _ (.tail _ (.tail _ (List.mem_append_left _ hq))))))
    refine hret h4 _ r 0 B1 B2 tl' kvs _ F4.keep (N4 _ (.head _)).1 (N4 _ (.head _)).2.2 ⟨fun q hq => ⟨(N4 q (.tail _ hq)).1, (N4 q (.tail _ hq)).2.2⟩,
      ⟨tis, nT, .tail _ (.tail _ (.tail _ (.tail _ (.tail _ (.head _))))), inv.told.imp fun v q ⟨b, o, e, mm, x⟩ => ⟨b, o, e, me3 _ mm, x⟩⟩,
      ⟨⟨d1, f1, #[], 0, g1, fd1, u1, my _ hym7, my _ hym6, my _ hym5, Holds.nil, fun h eh hh y ty => hgy h eh (fun q hq => hh q (my q hq)) y ty⟩, hB1s⟩,
      ⟨⟨d2, f2, es, ep, g2, fd2, u2, .tail _ (.tail _ (.tail _ (.tail _ (.head _)))), .tail _ (.tail _ (.tail _ (.head _))), .tail _ (.head _), inv.holds, fun h eh hh y ty => hgive2 h eh (fun q hq => hh q ?_) y ty⟩, hB2s⟩,
      inv.keys, ⟨_, .head _⟩, ⟨_, my _ hym8⟩, fun kl hkl => ?_⟩
    · rcases List.mem_cons.mp hq with rfl | hq
      · exact .tail _ (.head _)
      · rcases List.mem_cons.mp hq with rfl | hq
        · exact .tail _ (.tail _ (.head _))
        · rcases List.mem_cons.mp hq with rfl | hq
          · exact .tail _ (.tail _ (.tail _ (.head _)))
          · rcases List.mem_cons.mp hq with rfl | hq
            · exact .tail _ (.tail _ (.tail _ (.tail _ (.head _))))
            · rcases List.mem_cons.mp hq with rfl | hq
              · exact my _ hym2
              · rcases List.mem_cons.mp hq with rfl | hq
                · exact my _ hym3
                · rw [List.mem_singleton.mp hq]
                  exact my _ hym4
    · obtain ⟨o, mm, x⟩ := inv.lists kl hkl
      exact ⟨o, me3 _ mm, x⟩)
end Mine
end
section
open PySem PySem.W PyProof.Rows PySem.Calls
set_option maxRecDepth 100000
theorem Mine.calm_R34 : True := by
  w_top off
  k_with_none
  exact True.intro
namespace Mine
section
variable {w : World} {A : Around} {hb : Heap} {L tx : Addr} {m : Str → Option Value} {news rest : List (Addr × Obj)} {s : Shared}
  {p : Program} {loose : List Str} {mean : ExcName → Option Value} {mg mb : Str → Option Value} {Q : Value → Shared → Prop} {E : Value → Shared → Prop} {its : Array Value} {nI : Nat} {ts : List Line}
theorem use_books (F : Fr hb L s.heap m) (N : News hb L s.heap news) (X : (hd.heap_1 w.params).In hb) (T : Top p loose mean mg mb hb) (C1 : CodeHd hb 104 100) (C2 : CodeHd hb 236 232)
    (h100 : (100, tabObj #[]) ∈ news) (h232 : (232, tabObj #[]) ∈ news) (hr : ∀ q ∈ rest, q ∈ news) (hr1 : ∀ q ∈ rest, q.1 ≠ 100) (hr2 : ∀ q ∈ rest, q.1 ≠ 232) (htx : (tx, W.listOf its nI) ∈ rest)
    (hts : TextsAre its.toList ts) (hln : ts.length ≤ 1000) (hh : A.handled = none) (hD : A.depth ≤ 303) (hU : A.units ≤ 100)
    (k : ∀ h' tk' r n B1 B2 tl kvs all, Fr hb L h' m → News hb L h' ((r, W.listOf #[.ref B1, .ref B2, .ref tl] n) :: (rest ++ all)) → Books w hb (hideAll s.heap [100, 232]) h' ts B1 B2 tl kvs all →
      (∀ q ∈ rest, q.1 ≠ r) → (∀ q ∈ all, ∀ p ∈ rest, q.1 ≠ p.1) → Q (.ref r) { s with heap := h', toks := tk' }) :
    wpAny (model PySem.Challenge.rw_in0008_01.row.prog w) A (call (.ref 237) [.ref tx]) Q E s := by
  have n1 := (N _ h100).2.2
  have n2 := (N _ h232).2.2
  have l1 := (N _ h100).2.1.symm
  have l2 := (N _ h232).2.1.symm
  have e0 := hide_ext F n1 n2
  have hrg : Has (hideAll s.heap [100, 232]) rest := hide_has (fun q hq => (N _ (hr q hq)).1) hr1 hr2
  refine wpAny_call (codeAny_lower (D := 303) (U := 100) (law_books (hb := hb) (h₀ := hideAll s.heap [100, 232]) (ts := ts) (items := its) (nI := nI) (tl := tx) ⟨X, T, e0⟩ (X.keeps e0) (T.keeps e0) (C1.keeps e0) (C2.keeps e0) (fun _ _ z => of_hideAll _ z) (Nat.le_of_eq (hideAll_size _ _))
    (hrg _ htx) (N _ h100).1 (hideAll_none _ (.head _)) (N _ h232).1 (hideAll_none _ (.tail _ (.head _))) hts.1 hts.2 hln fun h' tk' r n B1 B2 tl kvs all e hr0 hrn hB => ?_) hh hD hU)
  refine k h' tk' r n B1 B2 tl kvs all (hide_fr F n1 n2 l1 l2 e) (fun q hq => ?_) hB (fun q hq z => ?_) (fun q hq p hp z => ?_)
  · rcases List.mem_cons.mp hq with rfl | hq
    · exact fresh_new F n1 n2 l1 l2 hr0 hrn
    · rcases List.mem_append.mp hq with hq | hq
      · exact ⟨e _ _ (hrg q hq), (N _ (hr q hq)).2⟩
      · exact fresh_new F n1 n2 l1 l2 (hB.new q hq).1 (hB.new q hq).2
  · have := hrg q hq
    rw [z, hrn] at this; cases this
  · have := hrg p hp
    rw [← z, (hB.new q hq).2] at this; cases this
end
end Mine
end
section
open PySem PySem.W PyProof.Rows PySem.Calls
set_option maxRecDepth 100000
theorem Mine.calm_R35 : True := by
  w_top off
  k_with_none
  exact True.intro
namespace Mine
section
variable {w : World} {A : Around} {h₀ : Heap} {L : Addr} {m : Str → Option Value} {news : List (Addr × Obj)} {s : Shared}
  {p : Program} {loose : List Str} {mean : ExcName → Option Value} {mg mb : Str → Option Value} {Q : Value → Shared → Prop} {E : Value → Shared → Prop} {l : Line} {tk : Tok}
theorem use_read (F : Fr h₀ L s.heap m) (N : News h₀ L s.heap news) (X : (hd.heap_1 w.params).In h₀) (T : Top p loose mean mg mb h₀) (hl : LineOk l) (hh : A.handled = none) (hD : A.depth ≤ 400) (hU : A.units ≤ 400)
    (k : ∀ a o h' tk', ToldO o l → Fr h₀ L h' m → News h₀ L h' ((a, o) :: news) → (∀ q ∈ news, q.1 ≠ a) → Q (.ref a) { s with heap := h', toks := tk' }) :
    wpAny (model PySem.Challenge.rw_in0008_01.row.prog w) A (call (.ref 230) [.str l.1 tk]) Q E s :=
  wpAny_call (codeAny_lower (D := 400) (U := 400) (read_spec (X.keeps F.keep) (T.keeps F.keep) hl.1 hl.2.1 fun a ta tb tc td h' tk' kp hn ho => k a _ h' tk' ⟨ta, tb, tc, td, rfl⟩ (Fr_kept F kp) (news_new F N kp hn ho) fun q hq e => by
    have := (N q hq).1
    rw [e, show s.heap.get? a = none from hn] at this; cases this) hh hD hU)
end
/-- the tuples made so far stand ahead of what stood -/
noncomputable def DueJ (base : List (Addr × Obj)) (ts : List Line) (i : Nat) (ys : List Value) (nw : List (Addr × Obj)) : Prop := ∃ dts, nw = dts ++ base ∧ Told dts ys (ts.take i) ∧ ∀ q ∈ dts, ∃ l, ToldO q.2 l
theorem DueJ.zero {base : List (Addr × Obj)} {ts : List Line} : DueJ base ts 0 [] base := ⟨[], rfl, .nil, fun _ h => by cases h⟩
theorem DueJ.next {base nw : List (Addr × Obj)} {ts : List Line} {i : Nat} {ys : List Value} {a : Addr} {o : Obj} {l : Line} (h : DueJ base ts i ys nw) (hl : ts[i]? = some l) (ho : ToldO o l) : DueJ base ts (i + 1) (ys ++ [.ref a]) ((a, o) :: nw) := by
  obtain ⟨dts, rfl, hT, hc⟩ := h
  refine ⟨(a, o) :: dts, rfl, ?_, fun q hq => ?_⟩
  · rw [List.take_add_one, hl]
    exact All2.snoc (hT.imp fun v q ⟨b, o, e, m, x⟩ => ⟨b, o, e, .tail _ m, x⟩) ⟨a, o, rfl, .head _, ho⟩
  · rcases List.mem_cons.mp hq with rfl | hq
    · exact ⟨l, ho⟩
    · exact hc q hq
theorem ne_cell {h₀ h : Heap} {L D : Addr} {news : List (Addr × Obj)} {o : Obj} {v : Option Value} {q : Addr × Obj} (N : News h₀ L h news) (hq : q ∈ news) (hD : (D, o) ∈ news) (hc : o.data = .cell v) (hs : ∃ its n, q.2.data = .seq its n) : q.1 ≠ D :=
  N.twoPlaces hq hD fun e => by
    obtain ⟨its, n, hs⟩ := hs
    rw [e, hc] at hs; cases hs
theorem told_seq {o : Obj} {l : Line} (h : ToldO o l) : ∃ its n, o.data = .seq its n := by
  obtain ⟨_, _, _, _, rfl⟩ := h
  exact ⟨_, _, rfl⟩
theorem pickD {h₀ h : Heap} {L : Addr} {a r tx c4 c3 : Addr × Obj} {dts all : List (Addr × Obj)} (N : News h₀ L h (a :: (dts ++ r :: tx :: c4 :: c3 :: all))) : News h₀ L h (c4 :: c3 :: tx :: a :: (dts ++ all)) := fun q hq => N q (by
  simp only [List.mem_cons, List.mem_append] at hq ⊢
  rcases hq with h | h | h | h | h | h <;> simp [h])
end Mine
end
section
open PySem PySem.W PyProof.Rows PySem.Calls PyProof.V PySem.Spec PySem.SeqAt
set_option maxRecDepth 100000
theorem Mine.calm_R36 : True := by
  w_top off
  k_with_none
  exact True.intro
namespace Mine
theorem trim_signs {x : Str} (h : SignsOk x) : SignsOk (trimF x) := fun c hc => by
  have hc : c ∈ trimL x.cps.toList := by simpa [trimF] using hc
  unfold trimL at hc
  rw [List.mem_reverse] at hc
  have h1 := (List.dropWhile_suffix _).subset hc
  rw [List.mem_reverse] at h1
  exact h c ((List.dropWhile_suffix _).subset h1)
theorem bareGo_mem : ∀ (l acc : List Nat) (c : Nat), c ∈ bareGo acc l → c ∈ acc ∨ c ∈ l
  | [], acc, c, h => .inl h
  | d :: r, acc, c, h => by
    unfold bareGo at h
    split at h
    · exact .inl h
    · split at h
      · rcases bareGo_mem r [] c h with h | h
        · cases h
        · exact .inr (.tail _ h)
      · rcases bareGo_mem r _ c h with h | h
        · rcases List.mem_append.mp h with h | h
          · exact .inl h
          · rw [List.mem_singleton.mp h]; exact .inr (.head _)
        · exact .inr (.tail _ h)
theorem bare_signs {x : Str} (h : SignsOk x) : SignsOk (bareF x) := fun c hc => by
  have hc : c ∈ bareGo [] x.cps.toList := by simpa [bareF] using hc
  rcases bareGo_mem _ _ _ hc with h1 | h1
  · cases h1
  · exact h c h1
theorem signs_ok {x : Str} (h : SignsOk x) : PyData.strOk x = true := by
  unfold PyData.strOk
  rw [Array.all_eq_true]
  intro i hi
  have := h x.cps[i] (by simp)
  have key : ∀ c ∈ theSigns, decide (c < 0x110000) = true := by decide
  exact key _ this
noncomputable abbrev lineData (p : Line) : PyData := .tuple [.str (valF p), .str (secondF p.1 p.2), .str (keyF p), .str (bareF p.1), .bool true]
theorem line_lay {p : Line} (h : LineOk p) : (lineData p).canLay0 = true := by
  have s0 := h.2.2
  have s1 : SignsOk (valF p) := trim_signs (sub_signs s0 _ _)
  have s2 : SignsOk (secondF p.1 p.2) := trim_signs (sub_signs s0 _ _)
  have s3 : SignsOk (keyF p) := bare_signs s2
  have s4 : SignsOk (bareF p.1) := bare_signs s0
  simp [PyData.canLay0, PyData.canLayAll0, signs_ok s1, signs_ok s2, signs_ok s3, signs_ok s4]
theorem lines_lay : ∀ {ts : List Line}, (∀ p ∈ ts, LineOk p) → PyData.canLayAll0 (ts.map lineData) = true
  | [], _ => by simp [PyData.canLayAll0]
  | p :: r, h => by
    rw [List.map_cons, PyData.canLayAll0, line_lay (h p (.head _)), lines_lay fun q hq => h q (.tail _ hq)]; rfl
theorem lines_depth : ∀ ts : List Line, PyData.depthAll (ts.map lineData) ≤ 1
  | [] => by simp [PyData.depthAll]
  | p :: r => by
    have := lines_depth r
    simp only [List.map_cons, PyData.depthAll, PyData.depth]
    omega
theorem lines_shaped {ts : List Line} (h : ∀ p ∈ ts, LineOk p) : shaped (.list (ts.map lineData)) = true := by
  have h1 := lines_depth ts
  have h2 : PyData.depth (.list (ts.map lineData)) ≤ 64 := by simp only [PyData.depth]; omega
  show (PyData.canLay0 (.list (ts.map lineData)) && decide (PyData.depth (.list (ts.map lineData)) ≤ 64)) = true
  rw [Bool.and_eq_true]
  exact ⟨by simp only [PyData.canLay0]; exact lines_lay h, decide_eq_true h2⟩
theorem lines_noMix : ∀ ts : List Line, noMixAll (ts.map lineData) (ts.map lineData) = true
  | [] => by simp [noMixAll]
  | p :: r => by
    have := lines_noMix r
    simp [noMixAll, noMix, this]
theorem lines_same : ∀ ts : List Line, PySem.Spec.sameAll (ts.map lineData) (ts.map lineData) = true
  | [] => by simp [PySem.Spec.sameAll]
  | p :: r => by
    have := lines_same r
    simp [PySem.Spec.sameAll, PySem.Spec.same, this]
theorem told_reads {h : Heap} {all : List (Addr × Obj)} {vs : List Value} {ts : List Line} (H : ∀ q ∈ all, h.get? q.1 = some q.2) (T : Told all vs ts) : ∃ as, ReadsAll h vs (ts.map lineData) as := by
  induction T with
  | nil => exact ⟨_, .nil⟩
  | cons x _ ih =>
    obtain ⟨a, o, rfl, hm, ta, tb, tc, td, rfl⟩ := x
    obtain ⟨as, ra⟩ := ih
    exact ⟨_, .cons (Reads.tuple (H _ hm) rfl rfl (.cons (.str _ _) (.cons (.str _ _) (.cons (.str _ _) (.cons (.str _ _) (.cons (.bool _) .nil)))))) ra⟩
section
variable {prog : Program} {w : World} {A : Around} {E : Value → Shared → Prop} {s : Shared} {Q : Value → Shared → Prop}
theorem told_ne_due {a b : Addr} {vs us : List Value} {all dts : List (Addr × Obj)} {ts : List Line} (h1 : s.heap.IsList a vs.toArray) (h2 : s.heap.IsList b us.toArray) (H1 : ∀ q ∈ all, s.heap.get? q.1 = some q.2) (H2 : ∀ q ∈ dts, s.heap.get? q.1 = some q.2)
    (t1 : Told all vs ts) (t2 : Told dts us ts) (hok : ∀ p ∈ ts, LineOk p) (hu : A.units ≤ 600) (h : Q (.bool false) s) : wpAny (model prog w) A (compareOp .NotEq (.ref a) (.ref b)) Q E s := by
  obtain ⟨as, ra⟩ := told_reads H1 t1
  obtain ⟨bs, rb⟩ := told_reads H2 t2
  obtain ⟨o1, e1, c1, n1, d1⟩ := h1
  obtain ⟨o2, e2, c2, n2, d2⟩ := h2
  refine ne_dataH_same (Reads.list e1 c1 d1 (by simpa using ra)) (Reads.list e2 c2 d2 (by simpa using rb)) (lines_shaped hok) (lines_shaped hok) (Nat.lt_of_le_of_lt (Nat.add_le_add_right hu 64) (by decide +kernel)) ?_ ?_
  · simp only [noMix]; exact lines_noMix ts
  · simp only [PySem.Spec.same]; rw [lines_same]; exact h
end
end Mine
end
section
open PySem PySem.W PyProof.Rows PySem.Calls
set_option maxRecDepth 100000
theorem Mine.calm_R37 : True := by
  w_top off
  k_with_none
  exact True.intro
namespace Mine
section
variable {prog : Program} {w : World} {A : Around} {h₀ : Heap} {L : Addr} {m : Str → Option Value} {env : Env} {ct elt : Expr} {x : Str} {scope : Scope} {cl : List (Str × Addr)} {s : Shared} {S : List (Addr × Obj) → Prop} {P : Nat → Value → Prop} {Fin : List Value → List (Addr × Obj) → Prop} {news : List (Addr × Obj)}
/-- restJ for a comprehension with a test -/
theorem restTJ {n : Nat} (J : Nat → List Value → List (Addr × Obj) → Prop) (h0 : J 0 [] news)
    (turn : ∀ i v I oI C oC D m₂ ys h tk (E' : Value → Shared → Prop) news, i < n → P i v → J i ys news → LCg.NsObj oC m₂ → m₂ x = some v → Fr h₀ L h m → News h₀ L h ((I, oI) :: (C, oC) :: (D, LCg.lst ys) :: news) → LCg.Off3 I C D news → ((@Ne Nat I C) ∧ (@Ne Nat I D) ∧ (@Ne Nat C D)) →
      wpAny (model prog w) A (isTrue ct (compEnvC scope cl C env) (eval ct (compEnvC scope cl C env))) (fun ok s' => if ok = true then
        wpAny (model prog w) A (eval elt (compEnvC scope cl C env)) (LCg.CompEnd h₀ L m { s with heap := h, toks := tk } I oI C oC D (LCg.lst ys) S (fun y news' => J (i + 1) (ys ++ [y]) news')) E' s'
        else LCg.CompEnd h₀ L m { s with heap := h, toks := tk } I oI C oC D (LCg.lst ys) S (fun _ news' => J (i + 1) ys news') Value.none s') E' { s with heap := h, toks := tk })
    (fin : ∀ ys news, J n ys news → Fin ys news) : LCt.CompRestT prog w A h₀ L m env ct elt x scope cl s S P Fin n 0 [] news := by
  have key : ∀ (j i : Nat) (ys : List Value) (news : List (Addr × Obj)), i + j = n → J i ys news → LCt.CompRestT prog w A h₀ L m env ct elt x scope cl s S P Fin j i ys news := by
    intro j
    induction j with
    | zero =>
      intro i ys news hi hy
      have e : i = n := by omega
      subst e
      exact LCt.CompRestT.zero (fin ys news hy)
    | succ j ih =>
      intro i ys news hi hy
      refine LCt.CompRestT.succ ?_
      intro v I oI C oC D m₂ h tk E' hv hC hx F N off ne
      refine wpAny_mono (turn i v I oI C oC D m₂ ys h tk E' news (by omega) hv hy hC hx F N off ne) (fun ok s₂ hq => ?_) fun _ _ e => e
      cases ok with
      | true =>
        simp only [if_true] at hq ⊢
        refine wpAny_mono hq (fun y s₃ hy => ?_) fun _ _ e => e
        obtain ⟨h', tk', nw, e, F', N', off', hS, hJ⟩ := hy
        exact ⟨h', tk', nw, e, F', N', off', hS, ih (i + 1) _ _ (by omega) hJ⟩
      | false =>
        simp only [Bool.false_eq_true, if_false] at hq ⊢
        obtain ⟨h', tk', nw, e, F', N', off', hS, hJ⟩ := hq
        exact ⟨h', tk', nw, e, F', N', off', hS, ih (i + 1) _ _ (by omega) hJ⟩
  exact key n 0 [] news (by omega) h0
end
section
variable {prog : Program} {w : World} {A : Around} {h₀ : Heap} {L D : Addr} {m : Str → Option Value} {news : List (Addr × Obj)} {s : Shared} {Q : Value → Shared → Prop} {E : Value → Shared → Prop} {value slice : Expr} {t : Tok} {ys : List Value}
theorem use_len (N : News h₀ L s.heap news) (hD : (D, LCg.lst ys) ∈ news) (hl : ys.length ≤ 1000) (h : ∀ t t', Q (.int (ys.length : Nat) t) { s with toks := t' }) : wpAny (model prog w) A (call (.builtin "len") [.ref D]) Q E s :=
  call_len_list (items := ys.toArray) ⟨_, (N _ hD).1, rfl, _, rfl⟩ (by simp; omega) (by simpa using h _ _)
theorem use_idx {i : Nat} {v : Value} (hsub : subscripted slice false (.ref D) (.int (0 + (i : Int)) t) = operate [.ref D, .int (0 + (i : Int)) t] (getItem (.ref D) (.int (0 + (i : Int)) t))) (N : News h₀ L s.heap news) (hD : (D, LCg.lst ys) ∈ news) (hl : ys.length ≤ 1000) (hv : ys[i]? = some v) (h : Q v s) :
    wpAny (model prog w) A (subscriptTail value slice (.ref D) (.int (0 + (i : Int)) t)) Q E s := by
  have hL : s.heap.IsList D ys.toArray := ⟨_, (N _ hD).1, rfl, _, rfl⟩
  have hi : i < ys.length := by
    rcases Nat.lt_or_ge i ys.length with h | h
    · exact h
    · rw [List.getElem?_eq_none h] at hv; cases hv
  exact tail_any hL.typeIs slot_list_getitem.lookup (wpAny_getItem_list hL (by omega) (by omega) (by rw [show ((0 : Int) + (i : Int)).toNat = i by omega]; simpa using hv) h) hsub
end
theorem sv_strs {vs : List Value} {ks : List Str} (h : SV vs ks) : StrsAre vs ks := by
  induction h with
  | nil => exact .nil
  | cons x _ ih => obtain ⟨t, rfl⟩ := x; exact .cons _ t ih
theorem keysOf_mem {k : Str} {ts : List Line} : k ∈ keysOf ts ↔ k ∈ ts.map keyF := by
  induction ts using snoc_ind with
  | h0 => simp [keysOf]
  | h1 ts p ih =>
    rw [keysOf_snoc, List.map_append]
    by_cases h : keyF p ∈ keysOf ts
    · rw [if_pos h]
      constructor
      · intro hk; exact List.mem_append_left _ (ih.mp hk)
      · intro hk
        rcases List.mem_append.mp hk with hk | hk
        · exact ih.mpr hk
        · simp at hk; rw [hk]; exact h
    · rw [if_neg h, List.mem_append, List.mem_append, ih]; simp
theorem any_mem {k : Str} {l : List Str} : (l.any (· == k)) = decide (k ∈ l) := by
  rw [Bool.eq_iff_iff, List.any_eq_true, decide_eq_true_eq]
  constructor
  · rintro ⟨x, hx, e⟩; rw [beq_iff_eq] at e; exact e ▸ hx
  · intro h; exact ⟨k, h, by simp⟩
noncomputable def NameJ (base : List (Addr × Obj)) (ts : List Line) (i : Nat) (ns : List Value) (nw : List (Addr × Obj)) : Prop := nw = base ∧ SV ns (keysOf (ts.take i))
theorem NameJ.zero {base : List (Addr × Obj)} {ts : List Line} : NameJ base ts 0 [] base := ⟨rfl, .nil⟩
theorem NameJ.hit {base : List (Addr × Obj)} {ts : List Line} {i : Nat} {ns : List Value} {l : Line} (h : SV ns (keysOf (ts.take i))) (hl : ts[i]? = some l) (hk : keyF l ∈ keysOf (ts.take i)) : NameJ base ts (i + 1) ns base := by
  refine ⟨rfl, ?_⟩
  rw [List.take_add_one, hl]
  show SV ns (keysOf (ts.take i ++ [l]))
  rw [keysOf_snoc, if_pos hk]; exact h
theorem NameJ.miss {base : List (Addr × Obj)} {ts : List Line} {i : Nat} {ns : List Value} {l : Line} {t : Tok} (h : SV ns (keysOf (ts.take i))) (hl : ts[i]? = some l) (hk : keyF l ∉ keysOf (ts.take i)) : NameJ base ts (i + 1) (ns ++ [.str (keyF l) t]) base := by
  refine ⟨rfl, ?_⟩
  rw [List.take_add_one, hl]
  show SV _ (keysOf (ts.take i ++ [l]))
  rw [keysOf_snoc, if_neg hk]; exact All2.snoc h ⟨t, rfl⟩
theorem pick_take (ys : List Value) {i : Nat} (hi : i ≤ ys.length) : (slicePick ys.toArray none (some (0 + (i : Int))) none).toList = ys.take i := by
  rw [kmk_pick_nat (a := 0) (b := i)]
  · simp
  · simp only [sliceBounds, Option.getD_none, List.size_toArray, show (1 : Int) > 0 by decide, if_true]
    rw [if_neg (by omega)]
    simp only [Prod.mk.injEq, and_true]
    constructor
    · rfl
    · omega
theorem strs_at : ∀ {n : Nat} {zs : List Value} {ts : List Line}, zs.length = n → n ≤ ts.length → (∀ (j : Nat) v, zs[j]? = some v → ∃ l t, ts[j]? = some l ∧ v = .str (keyF l) t) → StrsAre zs ((ts.take n).map keyF)
  | 0, [], _, _, _, _ => by simp; exact .nil
  | n + 1, z :: zs, [], _, h, _ => by simp at h
  | n + 1, z :: zs, l :: ts, hl, hn, h => by
    obtain ⟨l', t, e, rfl⟩ := h 0 z rfl
    have e : l' = l := by simpa using e.symm
    subst e
    rw [List.take_succ_cons, List.map_cons]
    exact .cons _ t (strs_at (by simpa using hl) (by simpa using hn) fun j v hj => h (j + 1) v (by simpa using hj))
end Mine
end
section
open PySem PySem.W PyProof.Rows
set_option maxRecDepth 100000
set_option maxHeartbeats 8000000
theorem Mine.calm_S9 : True := by
  w_top off
  k_with_none
  exact True.intro
namespace Mine
theorem missing_frozen {w : World} {p : Program} {loose : List Str} {mean : ExcName → Option Value} {mg mb : Str → Option Value} {gd : Option (List Code)} {fr : Option (List Env)} {s : Shared} {B dx lam f : Addr} {es : Array DictEntry} {ep : Nat} {y : Str} {ty : Tok} {od : Obj} {fd : FuncData} {R : Result → Shared → Prop} :
    (hd.heap_1 w.params).In s.heap → Top p loose mean mg mb s.heap → B ≠ 108 →
    s.heap.get? B = some ⟨.ref 108, some dx, .dict es ep, #[some (.ref lam)]⟩ → s.heap.get? dx = some od → findObj (hd.heap_1 w.params) 108 (some od) (Str.ofString "_frozen") = some (.value (.ref f)) →
    s.heap.get? f = some ⟨.type "function", none, .func fd, #[]⟩ →
    GivesE (model PySem.Challenge.rw_in0008_01.row.prog w) s.heap (.ref f) [.str y ty] →
    (∀ l t h' tk', Ext s.heap h' → s.heap.get? l = none → h'.get? l = some (listE t) → R (.ok (.ret (.ref l))) { s with heap := h', toks := tk' }) →
    codeAny (model PySem.Challenge.rw_in0008_01.row.prog w) ⟨none, 420, fr, gd, 460⟩ (.call (.ref 98) ⟨[.ref B, .str y ty], []⟩) R s := by
  k_fill
  intro X T hne hB hdx hfo hf hG hret
  k_dflt (refine' pure_callS ?kX ?kT ?ho ?hcd ?room ?bind ?loc ?_ ?c2 ?c3 ?c4 ?c5; (case kX => assumption); (case kT => assumption); (case ho => k_is); (case hcd => k_is); (case room => exact Nat.le_of_ble_eq_true rfl); (case bind => exact BindsTo.of_eq rfl); (case loc => exact locs rfl); (case c2 => exact rfl); (case c3 => exact rfl); (case c4 => exact rfl); (case c5 => decide); k_whole)
  intro L' h' F' N'
  dsimp only
  have I' : InstAt h' B ⟨.ref 108, some dx, .dict es ep, #[some (.ref lam)]⟩ 108 (some od) := ⟨F'.keep _ _ hB, rfl, rfl, F'.keep _ _ hdx⟩
  refine ks_wpAt_execs_cons (ks_wpAt_Return_some (at_CallCall (at_Call3' (id := "getattr") (vB := .ref B) (nm := Str.ofString "_frozen") ?_ fun t tk => at_Attr ?_)))
  · k_fold
    k_steps
  · k_dflt (refine ks_node (by k_asm) (by k_asm) (by k_asm) (by k_asm) (by k_is) (by rfl) (by rfl) (by assumption) (by k_is) (by rfl) (by first | rfl | decide +kernel) (by k_is) (by k_is) (by k_is) (by k_is) (by decide) (by rfl) (by rfl) (by rfl) (by rfl) (by decide +kernel) (by first | boot_by_name | rfl | kernel_rfl) ?_)
    intro so' h' F' N' l1
    have kk := F'.keep
    dsimp only
    refine super_attr (X.keeps kk) (News_get N' (.head _)) (kk _ _ hB) hne rfl (Nat.le_of_ble_eq_true rfl) (Nat.le_of_ble_eq_true rfl) fun q h₂ k hn hb => ?_
    dsimp only
    have k₂ : Ext s.heap h₂ := fun b o e => k b o (kk b o e)
    refine getattr3_hit (X.keeps k₂) (I := ⟨k₂ _ _ hB, rfl, rfl, k₂ _ _ hdx⟩) (by kernel_rfl) (by decide +kernel) (by k_is) (by k_is) (by kernel_rfl) hfo rfl ?_
    have F₂ := Fr_kept F' k
    refine callWith_1 (keep_fn (fd := fd)) ?_
    k_fold
    k_steps
    refine wpAny_call ?_
    refine codeAny_lower (D := 490) (U := 580) (hG _ _ _ _ k₂ fun l t h' tk' e n g => ?_) rfl (Nat.le_of_ble_eq_true rfl) (Nat.le_of_ble_eq_true rfl)
    exact hret l t h' tk' (fun b o z => e b o (k₂ b o z)) (fresh_back k₂ n) g
  k_with_none
end Mine
end
section
open PySem PySem.W PyProof.Rows PySem.Calls
set_option maxRecDepth 100000
set_option maxHeartbeats 1000000
theorem Mine.calm_R38 : True := by
  w_top off
  k_with_none
  exact True.intro
namespace Mine
theorem find_frozen {w : World} {u : Tok} {f : Addr} : findObj (hd.heap_1 w.params) 108 (some (frozenD w u (.ref f))) (Str.ofString "_frozen") = some (.value (.ref f)) := by kernel_rfl
section
variable {w : World} {A : Around} {hb h₀ : Heap} {L B : Addr} {m : Str → Option Value} {news all : List (Addr × Obj)} {s : Shared} {k : Str} {t : Tok} {kvs : List (Str × Addr)}
  {p : Program} {loose : List Str} {mean : ExcName → Option Value} {mg mb : Str → Option Value} {Q : Value → Shared → Prop} {E : Value → Shared → Prop} {value slice : Expr}
theorem use_frozen_miss (hsub : subscripted slice false (.ref B) (.str k t) = operate [.ref B, .str k t] (getItem (.ref B) (.str k t))) (Z : Frozen w hb all B kvs) (F : Fr h₀ L s.heap m) (N : News h₀ L s.heap news) (hall : ∀ q ∈ all, q ∈ news) (eb : Ext hb h₀)
    (hk : k ∉ kvs.map (·.1)) (hA : A.handled = none) (hD : A.depth ≤ 400) (hU : A.units ≤ 400) (T : Top p loose mean mg mb h₀) :
    (hd.heap_1 w.params).In h₀ →
    (∀ l t' h' tk', Fr h₀ L h' m → News h₀ L h' ((l, listE t') :: news) → (∀ q ∈ news, q.1 ≠ l) → Q (.ref l) { s with heap := h', toks := tk' }) →
    wpAny (model PySem.Challenge.rw_in0008_01.row.prog w) A (subscriptTail value slice (.ref B) (.str k t)) Q E s := by
  k_fill
  intro X h
  obtain ⟨d, f, es, ep, g, fd, u, mB, md, mg', H, hgive⟩ := Z.is
  have NB := N _ (hall _ mB)
  have L0 : Looks (model PySem.Challenge.rw_in0008_01.row.prog w) s.heap (typeOf (.ref B)) (.ref 108) := (Looks.ld NB.1).andThen .now
  refine tail_inst (i := "dict.__getitem__") (X.keeps F.keep) L0 (by k_is) ?_ hsub
  have h108 : ∃ x, h₀.get? 108 = some x := ⟨_, X 108 _ (by k_is)⟩
  refine fdd_miss H hk Z.sys hA hD hU (X.keeps F.keep) NB.1 fun fr gd => ?_
  refine missing_frozen (s := { s with toks := s.toks + 1 }) (X.keeps F.keep) (T.keeps F.keep) (new_ne N (hall _ mB) h108) NB.1 (N _ (hall _ md)).1 find_frozen (N _ (hall _ mg')).1
    (hgive s.heap (fun b o z => F.keep _ _ (eb _ _ z)) (fun q hq => (N _ (hall _ hq)).1) k t) fun l t' h' tk' kp hn hl => ?_
  exact h l t' h' tk' (Fr_kept F kp) (news_new F N kp hn hl) fun q hq e => by
    have := (N q hq).1
    rw [e, show s.heap.get? l = none from hn] at this; cases this
theorem use_frozen_hit {l : Addr} (hsub : subscripted slice false (.ref B) (.str k t) = operate [.ref B, .str k t] (getItem (.ref B) (.str k t))) (Z : Frozen w hb all B kvs) (F : Fr h₀ L s.heap m) (N : News h₀ L s.heap news) (hall : ∀ q ∈ all, q ∈ news)
    (hk : (k, l) ∈ kvs) (X : (hd.heap_1 w.params).In h₀) (h : Q (.ref l) { s with toks := s.toks + 1 }) :
    wpAny (model PySem.Challenge.rw_in0008_01.row.prog w) A (subscriptTail value slice (.ref B) (.str k t)) Q E s := by
  obtain ⟨d, f, es, ep, g, fd, u, mB, md, mg', H, hgive⟩ := Z.is
  exact use_hit hsub F N (hall _ mB) H hk X h
end
end Mine
end
section
open PySem PySem.W PyProof.Rows PySem.Calls
set_option maxRecDepth 100000
theorem Mine.calm_R39 : True := by
  w_top off
  k_with_none
  exact True.intro
namespace Mine
noncomputable def OneStr (v : Value) : Prop := ∃ z t, v = .str z t
theorem sv_one {vs : List Value} {ks : List Str} (h : SV vs ks) : ∀ v ∈ vs, OneStr v := by
  induction h with
  | nil => intro v hv; cases hv
  | cons x _ ih =>
    intro v hv
    rcases List.mem_cons.mp hv with rfl | hv
    · obtain ⟨t, rfl⟩ := x; exact ⟨_, t, rfl⟩
    · exact ih v hv
theorem one_at {zs : List Value} (h : ∀ (k : Nat) v, zs[k]? = some v → OneStr v) : ∀ v ∈ zs, OneStr v := fun v hv => by
  obtain ⟨k, hk⟩ := List.getElem?_of_mem hv
  exact h k v hk
/-- the check loop: nothing changes but `name` -/
noncomputable def ChkJ (m₀ : Str → Option Value) (base : List (Addr × Obj)) (_ : Nat) (m : Str → Option Value) (news : List (Addr × Obj)) : Prop := ∃ nv, m = (fun y => if y = Str.ofString "name" then nv else m₀ y) ∧ news = base
theorem ChkJ.zero {m₀ : Str → Option Value} {base : List (Addr × Obj)} : ChkJ m₀ base 0 m₀ base := by
  refine ⟨m₀ (Str.ofString "name"), ?_, rfl⟩
  funext y
  by_cases h : y = Str.ofString "name"
  · subst h; simp
  · simp [h]
theorem ChkJ.next {m₀ : Str → Option Value} {base : List (Addr × Obj)} {i : Nat} {a nv : Option Value} : ChkJ m₀ base (i + 1) (fun y => if y = Str.ofString "name" then a else if y = Str.ofString "name" then nv else m₀ y) base := by
  refine ⟨a, ?_, rfl⟩
  funext y
  by_cases h : y = Str.ofString "name"
  · subst h; simp
  · simp [h]
theorem one_three {a b c : Str} {ta tb tc : Tok} {xs ys : List Value} {i : Nat} {arr : Array Value} (h1 : ∀ v ∈ xs, OneStr v) (h2 : ∀ v ∈ ys, OneStr v) (e : arr = ([Value.str a ta, Value.str b tb, Value.str c tc] ++ xs ++ ys).toArray) (hi : i < arr.size) : OneStr arr[i] := by
  subst e
  have h3 : ∀ v ∈ [Value.str a ta, .str b tb, .str c tc], OneStr v := by
    intro v hv
    simp only [List.mem_cons, List.not_mem_nil, or_false] at hv
    rcases hv with rfl | rfl | rfl <;> exact ⟨_, _, rfl⟩
  have hm := Array.getElem_mem hi
  rw [List.mem_toArray] at hm
  rcases List.mem_append.mp hm with hm | hm
  · rcases List.mem_append.mp hm with hm | hm
    · exact h3 _ hm
    · exact h1 _ hm
  · exact h2 _ hm
end Mine
end
section
open PySem PySem.W PyProof.Rows PySem.Calls PyProof.V PySem.Spec PySem.SeqAt
set_option maxRecDepth 100000
theorem Mine.calm_R40 : True := by
  w_top off
  k_with_none
  exact True.intro
namespace Mine
section
variable {prog : Program} {w : World} {A : Around} {h₀ : Heap} {L D : Addr} {news : List (Addr × Obj)} {s : Shared} {Q : Value → Shared → Prop} {E : Value → Shared → Prop} {z : Str} {t : Tok} {ns : List Value} {ks : List Str}
theorem in_yes (N : News h₀ L s.heap news) (hD : (D, LCg.lst ns) ∈ news) (hs : SV ns ks) (hz : z ∈ ks) (h : Q (.bool true) s) : wpAny (model prog w) A (compareOp .In (.str z t) (.ref D)) Q E s :=
  in_list_strs (vs := ns) ⟨_, (N _ hD).1, rfl, _, rfl⟩ (sv_strs hs) (by rw [any_mem, decide_eq_true hz]; exact h)
theorem in_no (N : News h₀ L s.heap news) (hD : (D, LCg.lst ns) ∈ news) (hs : SV ns ks) (hz : z ∉ ks) (h : Q (.bool false) s) : wpAny (model prog w) A (compareOp .In (.str z t) (.ref D)) Q E s :=
  in_list_strs (vs := ns) ⟨_, (N _ hD).1, rfl, _, rfl⟩ (sv_strs hs) (by rw [any_mem, decide_eq_false hz]; exact h)
theorem notin_no (N : News h₀ L s.heap news) (hD : (D, LCg.lst ns) ∈ news) (hs : SV ns ks) (hz : z ∈ ks) (h : Q (.bool false) s) : wpAny (model prog w) A (compareOp .NotIn (.str z t) (.ref D)) Q E s :=
  notin_list_strs (vs := ns) ⟨_, (N _ hD).1, rfl, _, rfl⟩ (sv_strs hs) (by rw [any_mem, decide_eq_true hz]; exact h)
theorem notin_yes (N : News h₀ L s.heap news) (hD : (D, LCg.lst ns) ∈ news) (hs : SV ns ks) (hz : z ∉ ks) (h : Q (.bool true) s) : wpAny (model prog w) A (compareOp .NotIn (.str z t) (.ref D)) Q E s :=
  notin_list_strs (vs := ns) ⟨_, (N _ hD).1, rfl, _, rfl⟩ (sv_strs hs) (by rw [any_mem, decide_eq_false hz]; exact h)
theorem ne_E {a b : Addr} {ta tb : Tok} {n k : Nat} (N : News h₀ L s.heap news) (ha : (a, W.listOf #[.str (Str.ofString "E") ta] n) ∈ news) (hb : (b, W.listOf #[.str (Str.ofString "E") tb] k) ∈ news) (hu : A.units ≤ 600) (h : Q (.bool false) s) :
    wpAny (model prog w) A (compareOp .NotEq (.ref a) (.ref b)) Q E s := by
  refine ne_dataH_same (da := .list [.str (Str.ofString "E")]) (db := .list [.str (Str.ofString "E")]) (Reads.list (N _ ha).1 rfl rfl (.cons (.str _ _) .nil)) (Reads.list (N _ hb).1 rfl rfl (.cons (.str _ _) .nil)) (by decide +kernel) (by decide +kernel) (Nat.lt_of_le_of_lt (Nat.add_le_add_right hu 64) (by decide +kernel)) ?_ ?_
  · simp [noMix, noMixAll]
  · have : PySem.Spec.same (.list [.str (Str.ofString "E")]) (.list [.str (Str.ofString "E")]) = true := by simp [PySem.Spec.same, PySem.Spec.sameAll]
    rw [this]; exact h
end
end Mine
end
section
open PySem PySem.W PyProof.Rows PySem.Calls Builtin Builtin.Dict
set_option maxRecDepth 100000
set_option maxHeartbeats 1000000
theorem Mine.calm_R41 : True := by
  w_top off
  k_with_none
  exact True.intro
namespace Mine
section
variable {w : World} {A : Around} {s : Shared} {E : Value → Shared → Prop} {B dx lam : Addr} {es : Array DictEntry} {ep : Nat}
noncomputable abbrev keyIt (B : Addr) (i n ep : Nat) : Obj := { cls := .type "dict_keyiterator", data := .fields #[.ref B, .int i 0, .int n 0, .int ep 0] }
theorem fdd_iter {Q : Value → Shared → Prop} (hs : B ≠ sysModules) :
    (hd.heap_1 w.params).In s.heap → s.heap.get? B = some (fdd dx lam es ep) → Q (.ref s.heap.objs.size) { s with heap := s.heap.push (keyIt B 0 es.size ep) } →
    wpAny (model PySem.Challenge.rw_in0008_01.row.prog w) A (pyIter (.ref B)) Q E s := by
  k_fill
  intro X hB h
  have L0 : Looks (model PySem.Challenge.rw_in0008_01.row.prog w) s.heap (typeOf (.ref B)) (.ref 108) := (Looks.ld hB).andThen .now
  have LI : Looks (model PySem.Challenge.rw_in0008_01.row.prog w) s.heap (typeLookup (.ref 108) "__iter__") (some (.builtin "dict.__iter__")) := looks_findIn X (by k_is)
  obtain ⟨hp, g, d, tk, os⟩ := s
  dsimp only at L0 LI hB h
  unfold pyIter specialOf
  repeat ((fail_if_success (with_reducible show wpAny _ _ (PySem.call _ _ _) _ _ _)); lk)
  rw [PySem.F.slot_dict_iter.bind]
  have goal1 : wpAny (model PySem.Challenge.rw_in0008_01.row.prog w) A (PySem.call (.builtin "dict.__iter__") [.ref B]) (fun v s' => v = .ref hp.objs.size ∧ s' = ⟨hp.push (keyIt B 0 es.size ep), g, d, tk, os⟩) E ⟨hp, g, d, tk, os⟩ := by
    have L1 : Looks (model PySem.Challenge.rw_in0008_01.row.prog w) hp (isInstance (.ref B) (.type "dict")) true := L0.andThen (looks_mroIn X (by kernel_rfl))
    refine wpAny_call (codeAny_call_builtin PySem.F.slot_dict_iter.plain PySem.F.entry_dict_iter (@check_slot (model PySem.Challenge.rw_in0008_01.row.prog w) _ _ ⟨hp, g, d, tk, os⟩ "dict.__iter__" "dict" "__iter__" (.ref B) [] [] _ (by decide +kernel) (by decide +kernel) L1 (PySem.F.args_dict_iter_1 _) ?_))
    have L2 : Looks (model PySem.Challenge.rw_in0008_01.row.prog w) hp (classData 108) _ := looks_clsIn X (by k_is)
    unfold Builtin.«dict.__iter__» dictSlotNone
    repeat lk
    rw [if_neg (by simpa using hs)]
    refine wpAny_pure ?_
    refine wpAny_bind (wpAny_dictEntries hB rfl ?_)
    refine wpAny_bind (wpAny_dictEpoch hB rfl ?_)
    refine wpAny_bind (wpAny_newObj_type (wpAny_pure ?_))
    exact ⟨rfl, rfl⟩
  have fin : wpAny (model PySem.Challenge.rw_in0008_01.row.prog w) A (PySem.call (.builtin "dict.__iter__") [.ref B] >>= fun v => pure (some v)) (fun a s' => a = some (.ref hp.objs.size) ∧ s' = ⟨hp.push (keyIt B 0 es.size ep), g, d, tk, os⟩) E ⟨hp, g, d, tk, os⟩ :=
    wpAny_bind (wpAny_mono goal1 (fun v s' e => wpAny_pure ⟨by rw [e.1], e.2⟩) fun _ _ e => e)
  have last : ∀ (a : Option Value) s', (a = some (.ref hp.objs.size) ∧ s' = ⟨hp.push (keyIt B 0 es.size ep), g, d, tk, os⟩) → wpAny (model PySem.Challenge.rw_in0008_01.row.prog w) A (specialOf (.ref hp.objs.size) "__next__") (fun r s' => r.isSome = true ∧ s' = ⟨hp.push (keyIt B 0 es.size ep), g, d, tk, os⟩) E s' := by
    rintro a s' ⟨rfl, rfl⟩
    exact wpAny_specialOf (T := "dict_keyiterator") ⟨_, Heap.get?_push_size _ rfl, rfl⟩ PySem.F.slot_dict_keyiterator_next.lookup ⟨rfl, rfl⟩
  refine wpAny_ite ?_
  split
  · refine wpAny_bind (wpAny_pure (wpAny_pure ?_))
    dsimp only
    rw [if_neg (by decide)]
    refine wpAny_mono fin (fun a s' e => ?_) fun _ _ e => e
    obtain ⟨rfl, rfl⟩ := e
    dsimp only
    refine wpAny_bind (wpAny_mono (last _ _ ⟨rfl, rfl⟩) (fun r s' e => ?_) fun _ _ e => e)
    obtain ⟨hr, rfl⟩ := e
    obtain ⟨r, rfl⟩ := Option.isSome_iff_exists.mp hr
    exact wpAny_pure h
  · refine wpAny_tryCatch (wpAny_bind (wpAny_pure (wpAny_pure ?_)))
    dsimp only
    rw [if_neg (by decide)]
    refine wpAny_mono fin (fun a s' e => ?_) fun _ _ e => e
    obtain ⟨rfl, rfl⟩ := e
    dsimp only
    refine wpAny_bind (wpAny_mono (last _ _ ⟨rfl, rfl⟩) (fun r s' e => ?_) fun _ _ e => e)
    obtain ⟨hr, rfl⟩ := e
    obtain ⟨r, rfl⟩ := Option.isSome_iff_exists.mp hr
    exact wpAny_pure h
end
end Mine
end
section
open PySem PySem.W PyProof.Rows PySem.Calls Builtin
set_option maxRecDepth 100000
set_option maxHeartbeats 1000000
theorem Mine.calm_R42 : True := by
  w_top off
  k_with_none
  exact True.intro
namespace Mine
section
variable {prog : Program} {w : World} {A : Around} {s : Shared} {E : Value → Shared → Prop} {B dx lam it : Addr} {es : Array DictEntry} {ep i : Nat} {e : DictEntry}
theorem fdd_next_item {Q : Option Value → Shared → Prop} (hit : s.heap.get? it = some (keyIt B i es.size ep)) (hB : s.heap.get? B = some (fdd dx lam es ep)) (hx : es[i]? = some e)
    (hQ : ∀ h', h'.get? it = some (keyIt B (i + 1) es.size ep) → Heap.SameBut it s.heap h' → Q (some e.key) { s with heap := h' }) :
    wpAny (model prog w) A (pyNext (.ref it)) Q E s := by
  have hT : s.TypeIs (.ref it) "dict_keyiterator" := ⟨_, hit, rfl⟩
  have L0 : Looks (model prog w) s.heap (typeOf (.ref it)) (.type "dict_keyiterator") := (Looks.ld hit).andThen .now
  unfold pyNext
  refine wpAny_bind (wpAny_attempt (wpAny_callSpecial?_slot (name := Str.ofString "__next__") hT F.slot_dict_keyiterator_next (wpAny_call_entry F.slot_dict_keyiterator_next hT F.entry_dict_keyiterator_next ?_ (F.args_dict_keyiterator_next_1 _))))
  unfold Builtin.«dict_keyiterator.__next__»
  obtain ⟨hp, g, d, tk, os⟩ := s
  dsimp only at L0 hit hB hQ
  have hlt : i < es.size := by
    rcases Nat.lt_or_ge i es.size with h | h
    · exact h
    · rw [Array.getElem?_eq_none h] at hx; cases hx
  have LW : Looks (model prog w) hp (typeNameOfWhole (.ref it)) "dict_keyiterator" := by
    unfold typeNameOfWhole shownTypeOf
    refine Looks.andThen (a := .type "dict_keyiterator") (L0.andThen .now) ?_
    exact Looks.of_pure (by show typeName (.type "dict_keyiterator") = _; unfold typeName; rw [find?_eq_fast]; kernel_rfl)
  refine wpAny_bind (wpAny_pure ?_)
  refine wpAny_bind ?_
  refine wpAny_bind ?_
  repeat lk
  rw [if_neg (by simp)]
  repeat lk
  rw [if_neg (by simp)]
  repeat lk
  simp only [show ¬ ((i : Int) < 0) from by omega, if_false, Int.toNat_natCast, hx]
  refine wpAny_bind ?_
  repeat ((fail_if_success (with_reducible show wpAny _ _ (setField _ _ _) _ _ _)); lk)
  show wpAny _ _ (setField (.ref it) 1 (rawInt ((i : Int) + 1))) _ _ _
  refine wpAny_setField hit rfl (by simp) ?_
  have hi2 : (hp.update it (Obj.mapFields (·.setIfInBounds 1 (rawInt ((i : Int) + 1))))).get? it = some (keyIt B (i + 1) es.size ep) := by
    rw [Heap.get?_update_self _ hit rfl]
    simp [keyIt, Obj.mapFields, rawInt]
  have L1 : Looks (model prog w) (hp.update it (Obj.mapFields (·.setIfInBounds 1 (rawInt ((i : Int) + 1))))) (typeOf (.ref it)) (.type "dict_keyiterator") := (Looks.ld hi2).andThen .now
  have hq := hQ _ hi2 (Heap.SameBut.update ..)
  refine wpAny_bind (wpAny_holding ?_)
  repeat lk
  exact ⟨_, rfl, wpAny_pure hq⟩
theorem fdd_next_end {Q : Option Value → Shared → Prop} (hh : A.handled = none) (hit : s.heap.get? it = some (keyIt B i es.size ep)) (hB : s.heap.get? B = some (fdd dx lam es ep)) (hx : es[i]? = none)
    (hQ : ∀ h', Heap.ExtBut it s.heap h' → Q none { s with heap := h' }) :
    wpAny (model prog w) A (pyNext (.ref it)) Q E s := by
  have hT : s.TypeIs (.ref it) "dict_keyiterator" := ⟨_, hit, rfl⟩
  have L0 : Looks (model prog w) s.heap (typeOf (.ref it)) (.type "dict_keyiterator") := (Looks.ld hit).andThen .now
  unfold pyNext
  refine wpAny_bind (wpAny_attempt (wpAny_callSpecial?_slot (name := Str.ofString "__next__") hT F.slot_dict_keyiterator_next (wpAny_call_entry F.slot_dict_keyiterator_next hT F.entry_dict_keyiterator_next ?_ (F.args_dict_keyiterator_next_1 _))))
  unfold Builtin.«dict_keyiterator.__next__»
  obtain ⟨hp, g, d, tk, os⟩ := s
  dsimp only at L0 hit hB hQ
  have hge : es.size ≤ i := by simpa using hx
  have LW : Looks (model prog w) hp (typeNameOfWhole (.ref it)) "dict_keyiterator" := by
    unfold typeNameOfWhole shownTypeOf
    refine Looks.andThen (a := .type "dict_keyiterator") (L0.andThen .now) ?_
    exact Looks.of_pure (by show typeName (.type "dict_keyiterator") = _; unfold typeName; rw [find?_eq_fast]; kernel_rfl)
  refine wpAny_bind (wpAny_pure ?_)
  refine wpAny_bind ?_
  refine wpAny_bind ?_
  repeat lk
  rw [if_neg (by simp)]
  repeat lk
  rw [if_neg (by simp)]
  repeat lk
  simp only [show ¬ ((i : Int) < 0) from by omega, if_false, Int.toNat_natCast, hx]
  refine wpAny_bind ?_
  repeat ((fail_if_success (with_reducible show wpAny _ _ (setField _ _ _) _ _ _)); lk)
  show wpAny _ _ (setField (.ref it) 0 .none) _ _ _
  refine wpAny_setField hit rfl (by simp) ?_
  refine wpAny_bind ?_
  simp only [newExc, newTuple]
  refine wpAny_bind (wpAny_newObj_type ?_ (by size_fits))
  refine wpAny_bind (m := firstArgMember _ _) (wpAny_of_eq (a := Value.none) (by first | rfl | (simp only [firstArgMember]; rfl)) ?_)
  refine wpAny_newObj_type ?_ (by size_fits)
  simp only [raiseNew]
  refine wpAny_bind (wpAny_handled ?_)
  rw [show A.in1.handled = none from hh]
  refine wpAny_bind (wpAny_pure (wpAny_throw ?_))
  refine wpAny_bind (wpAny_isInstance (T := "StopIteration") (b := true) ⟨_, Heap.get?_push_size _ rfl, rfl⟩ isSubtype_stop ?_)
  exact wpAny_pure (hQ _ (((Heap.SameBut.update ..).extBut.push _).push _))
end
end Mine
end
section
open PySem PySem.W PyProof.Rows PySem.Calls PySem.Spec
set_option maxRecDepth 100000
theorem Mine.calm_R43 : True := by
  w_top off
  k_with_none
  exact True.intro
namespace Mine
theorem keyWalks {prog : Program} {w : World} {A : Around} {I B dx lam : Addr} {es : Array DictEntry} {ep : Nat} (hh : A.handled = none) (hne : B ≠ I) :
    Walks prog w A I [I, B] [I] es.size (fun i v => ∃ e, es[i]? = some e ∧ v = e.key) (fun i h => h.get? I = some (keyIt B i es.size ep) ∧ h.get? B = some (fdd dx lam es ep)) where
  sub := fun b hb => by simp at hb; simp [hb]
  frame := fun _ _ _ st hk => ⟨hk I (by simp) _ st.1, hk B (by simp) _ st.2⟩
  item := fun i s Q E hi st hQ => by
    refine fdd_next_item (e := es[i]) st.1 st.2 (by simp [hi]) fun h' hit hs => ?_
    exact hQ _ h' s.toks ⟨es[i], by simp [hi], rfl⟩ ⟨hit, (hs.2 B hne).trans st.2⟩ fun b o hb z => hs.extBut b o (fun h => hb (by simp [h])) z
  done := fun s Q E st hQ => fdd_next_end hh st.1 st.2 (by simp) fun h' he => hQ h' s.toks fun b o hb z => he b o (fun h => hb (by simp [h])) z
  self := fun i s Q E st hQ => wpAny_pyIter_keyiter (d := B) (i := i) (n := es.size) (ep := ep) ⟨_, st.1, rfl, rfl⟩ hQ
section
variable {w : World} {A : Around} {E : Value → Shared → Prop} {s : Shared} {h₀ : Heap} {L B dx lam : Addr} {m : Str → Option Value} {env : Env} {es : Array DictEntry} {ep : Nat}
noncomputable def BookSrc (w : World) (A : Around) (h₀ : Heap) (L B dx lam : Addr) (m : Str → Option Value) (env : Env) (es : Array DictEntry) (ep : Nat) (elt : Expr) (x : Str) (scope : Scope) (cl : List (Str × Addr)) (Q : Value → Shared → Prop) (xv : Value) (s₁ : Shared) : Prop :=
  ∃ news, xv = .ref B ∧ A.handled = none ∧ B ≠ sysModules ∧ Fr h₀ L s₁.heap m ∧ News h₀ L s₁.heap news ∧ (B, fdd dx lam es ep) ∈ news ∧ es.size ≤ sizeLine ∧
      ∀ s₂ : Shared, (∃ g, s₂ = { s₁ with heap := g }) → LCg.CompRest PySem.Challenge.rw_in0008_01.row.prog w A h₀ L m env elt x scope cl s₂ (fun nw => (B, fdd dx lam es ep) ∈ nw) (fun i v => ∃ e, es[i]? = some e ∧ v = e.key) (LCg.FinE h₀ L m s₂ Q) es.size 0 [] news
theorem BookSrc.mk {elt : Expr} {x : Str} {scope : Scope} {cl : List (Str × Addr)} {Q : Value → Shared → Prop} {news : List (Addr × Obj)} (hh : A.handled = none) (hsys : B ≠ sysModules) (F : Fr h₀ L s.heap m) (N : News h₀ L s.heap news) (hm : (B, fdd dx lam es ep) ∈ news) (hsz : es.size ≤ sizeLine)
    (h : ∀ g, LCg.CompRest PySem.Challenge.rw_in0008_01.row.prog w A h₀ L m env elt x scope cl { s with heap := g } (fun nw => (B, fdd dx lam es ep) ∈ nw) (fun i v => ∃ e, es[i]? = some e ∧ v = e.key) (LCg.FinE h₀ L m { s with heap := g } Q) es.size 0 [] news) :
    BookSrc w A h₀ L B dx lam m env es ep elt x scope cl Q (.ref B) s := ⟨news, rfl, hh, hsys, F, N, hm, hsz, fun _ ⟨g, e⟩ => e ▸ h g⟩
/-- a comprehension over a book -/
theorem ListComp_B {elt iter : Expr} {x : Str} {px : Pos} {scope : Scope} {cl : List (Str × Addr)} {pos : Pos} {Q : Value → Shared → Prop} (X : (hd.heap_1 w.params).In h₀) (hF₀ : Fr h₀ L s.heap m)
    (hclos : closureFor scope env = pure cl) (hcell : ∀ z ∈ scope.names, z.2 ≠ .cell) (hkind : scope.kind = .function)
    (hnames : ∀ z ∈ scope.names, z.2 = .local → scope.names.lookup z.1 = some .local) (hx : scope.names.lookup x = some .local)
    (h : wpAny (model PySem.Challenge.rw_in0008_01.row.prog w) A (eval iter env) (BookSrc w A h₀ L B dx lam m env es ep elt x scope cl Q) E s)
    (hs : ∀ x, foldedSetIterable iter env x = pure x := by intro _; rfl) :
    wpAny (model PySem.Challenge.rw_in0008_01.row.prog w) A (eval (.ListComp elt [⟨.Name x px, iter, [], 0⟩] scope pos) env) Q E s := by
  rw [eval_ListComp]
  refine wpAny_comprehension_free (use := none) rfl hs hclos hkind hnames (wpAny_mono h (fun xv s₁ h₁ => ?_) fun _ _ e => e)
  obtain ⟨news, rfl, hh, hsys, F, N, mB, hsz, R⟩ := h₁
  have hB := (N _ mB).1
  have hlt : B < s₁.heap.objs.size := Heap.lt_size hB
  refine fdd_iter hsys (X.keeps F.keep) hB ?_
  have up : ∀ b o, s₁.heap.get? b = some o → (s₁.heap.push (keyIt B 0 es.size ep)).get? b = some o := fun b o e => Heap.get?_push_of_some _ e
  refine LCg.block_U (keyWalks hh (Nat.ne_of_lt hlt)) hsz (fun i h st => ⟨_, st.1⟩) (fun i h h' o nw st e e' k N S => ?_) hcell hkind hx ⟨Heap.get?_push_size _ rfl, up _ _ hB⟩ (fun b hb => ?_)
    (F.keeps up) (N.grown up) (Nat.ne_of_lt F.ns.lt) (next_is_new F) (fun p hp => Nat.ne_of_lt (Heap.lt_size (N p hp).1)) mB (R _ ⟨_, rfl⟩) ?_
  · rw [st.1] at e
    cases e
    exact ⟨e', (N _ S).1⟩
  · show b < (s₁.heap.push _).objs.size
    rw [Heap.size_push]
    rcases List.mem_cons.mp hb with rfl | hb
    · exact Nat.lt_succ_self _
    · rw [List.mem_singleton.mp hb]; exact Nat.lt_succ_of_lt hlt
  · intro D C h tk m' ys news' F' N' o1 hn hC₀ hD₀ hCL hDL hCD offC fin
    refine ⟨m', hn, fun h'' hs'' => fin D h'' tk (F'.change hs'' hCL hC₀) (fun p hp => ?_) o1⟩
    refine ⟨hs''.extBut _ _ ?_ (N' p hp).1, (N' p hp).2⟩
    rcases List.mem_cons.mp hp with rfl | hp
    · exact Ne.symm hCD
    · exact offC p hp
end
end Mine
end
section
open PySem PySem.W PyProof.Rows PySem.Calls
set_option maxRecDepth 100000
theorem Mine.calm_R44 : True := by
  w_top off
  k_with_none
  exact True.intro
namespace Mine
theorem book_key {prog : Program} {w : World} {es : Array DictEntry} {kvs : List (Str × Addr)} {i : Nat} {e : DictEntry} (H : Holds prog w es kvs) (he : es[i]? = some e) : ∃ kl t, kvs[i]? = some kl ∧ e.key = .str kl.1 t := by
  have hi : i < es.size := by
    rcases Nat.lt_or_ge i es.size with h | h
    · exact h
    · rw [Array.getElem?_eq_none h] at he; cases he
  have hk : i < kvs.length := H.size ▸ hi
  have hx : (ents kvs)[i]? = some (kvs[i].1, .ref kvs[i].2) := by simp [ents, hk]
  have := (H.pairs.get? (by simpa using he) hx).1
  refine ⟨kvs[i], ?_⟩
  have this : Value.isStrOf kvs[i].1 e.key = true := this
  cases hv : e.key with
  | str y t =>
    rw [hv] at this
    simp [Value.isStrOf] at this
    exact ⟨t, by simp [hk], by rw [this]⟩
  | _ => rw [hv] at this; simp [Value.isStrOf] at this
noncomputable abbrev tupK (k : Str) (t : Tok) (l : Addr) : Obj := { cls := .type "tuple", data := .seq #[.str k t, .ref l] }
/-- what the comprehension over the book has made so far -/
noncomputable def BookJ (base : List (Addr × Obj)) (kvs : List (Str × Addr)) (i : Nat) (ys : List Value) (nw : List (Addr × Obj)) : Prop :=
  ∃ tts, nw = tts ++ base ∧ All2 (fun v kl => ∃ a t, v = .ref a ∧ (a, tupK kl.1 t kl.2) ∈ tts) ys (kvs.take i)
theorem BookJ.zero {base : List (Addr × Obj)} {kvs : List (Str × Addr)} : BookJ base kvs 0 [] base := ⟨[], rfl, .nil⟩
theorem BookJ.next {base nw : List (Addr × Obj)} {kvs : List (Str × Addr)} {i : Nat} {ys : List Value} {a : Addr} {kl : Str × Addr} {t : Tok} (h : BookJ base kvs i ys nw) (hl : kvs[i]? = some kl) : BookJ base kvs (i + 1) (ys ++ [.ref a]) ((a, tupK kl.1 t kl.2) :: nw) := by
  obtain ⟨tts, rfl, hT⟩ := h
  refine ⟨(a, tupK kl.1 t kl.2) :: tts, rfl, ?_⟩
  rw [List.take_add_one, hl]
  exact All2.snoc (hT.imp fun v q ⟨b, o, e, m⟩ => ⟨b, o, e, .tail _ m⟩) ⟨a, t, rfl, .head _⟩
end Mine
end
section
open PySem PySem.W PyProof.Rows PySem.Calls PyProof.V PySem.Spec PySem.SeqAt
set_option maxRecDepth 100000
theorem Mine.calm_R45 : True := by
  w_top off
  k_with_none
  exact True.intro
namespace Mine
/-- a list of pairs (name, list): the names ks, each list told by ts -/
noncomputable def PairsAre (ents : List (Addr × Obj)) (ts : List Line) (vs : List Value) (ks : List Str) : Prop :=
  All2 (fun v k => ∃ a t l o, v = .ref a ∧ (a, tupK k t l) ∈ ents ∧ (l, o) ∈ ents ∧ NameList o (firstsFor k ts)) vs ks
noncomputable def strsData (ks : List Str) : List PyData := ks.map PyData.str
noncomputable def pairData (ts : List Line) (k : Str) : PyData := .tuple [.str k, .list (strsData (Str.ofString "E" :: firstsFor k ts))]
theorem pairData_eq (ts : List Line) (k : Str) : pairData ts k = .tuple [.str k, .list (strsData (Str.ofString "E" :: firstsFor k ts))] := rfl
theorem strs_lay : ∀ {ks : List Str}, (∀ k ∈ ks, PyData.strOk k = true) → PyData.canLayAll0 (strsData ks) = true
  | [], _ => by simp [strsData, PyData.canLayAll0]
  | k :: r, h => by
    show PyData.canLayAll0 (PyData.str k :: strsData r) = true
    rw [PyData.canLayAll0, strs_lay fun q hq => h q (.tail _ hq)]
    simp [PyData.canLay0, h k (.head _)]
theorem strs_depth : ∀ ks : List Str, PyData.depthAll (strsData ks) = 0
  | [] => by simp [strsData, PyData.depthAll]
  | k :: r => by
    have := strs_depth r
    show PyData.depthAll (PyData.str k :: strsData r) = 0
    simp [PyData.depthAll, PyData.depth, this]
theorem strs_noMix : ∀ ks : List Str, noMixAll (strsData ks) (strsData ks) = true
  | [] => by simp [strsData, noMixAll]
  | k :: r => by
    have := strs_noMix r
    show noMixAll (PyData.str k :: strsData r) (PyData.str k :: strsData r) = true
    simp [noMixAll, noMix, this]
theorem strs_same : ∀ ks : List Str, PySem.Spec.sameAll (strsData ks) (strsData ks) = true
  | [] => by simp [strsData, PySem.Spec.sameAll]
  | k :: r => by
    have := strs_same r
    show PySem.Spec.sameAll (PyData.str k :: strsData r) (PyData.str k :: strsData r) = true
    simp [PySem.Spec.sameAll, PySem.Spec.same, this]
theorem E_ok : PyData.strOk (Str.ofString "E") = true := by decide +kernel
theorem firsts_ok {ts : List Line} (h : ∀ p ∈ ts, LineOk p) (k : Str) : ∀ z ∈ Str.ofString "E" :: firstsFor k ts, PyData.strOk z = true := by
  intro z hz
  rcases List.mem_cons.mp hz with rfl | hz
  · exact E_ok
  · unfold firstsFor at hz
    obtain ⟨p, hp, rfl⟩ := List.mem_map.mp hz
    exact signs_ok (trim_signs (sub_signs (h p (List.mem_filter.mp hp).1).2.2 _ _))
theorem key_ok {ts : List Line} (h : ∀ p ∈ ts, LineOk p) : ∀ k ∈ keysOf ts, PyData.strOk k = true := fun k hk => by
  obtain ⟨p, hp, rfl⟩ := List.mem_map.mp (keysOf_mem.mp hk)
  exact signs_ok (bare_signs (trim_signs (sub_signs (h p hp).2.2 _ _)))
theorem pairs_lay {ts : List Line} (h : ∀ p ∈ ts, LineOk p) : ∀ {ks : List Str}, (∀ k ∈ ks, PyData.strOk k = true) → PyData.canLayAll0 (ks.map (pairData ts)) = true
  | [], _ => by simp [PyData.canLayAll0]
  | k :: r, hk => by
    have h1 : PyData.canLay0 (pairData ts k) = true := by
      have h2 := strs_lay (firsts_ok h k)
      rw [pairData_eq]
      generalize strsData (Str.ofString "E" :: firstsFor k ts) = L at h2 ⊢
      simp [PyData.canLay0, PyData.canLayAll0, hk k (.head _), h2]
    rw [List.map_cons, PyData.canLayAll0, pairs_lay h fun q hq => hk q (.tail _ hq), h1]
    rfl
theorem pairs_depth (ts : List Line) : ∀ ks : List Str, PyData.depthAll (ks.map (pairData ts)) ≤ 2
  | [] => by simp [PyData.depthAll]
  | k :: r => by
    have h1 := pairs_depth ts r
    have h2 := strs_depth (Str.ofString "E" :: firstsFor k ts)
    rw [List.map_cons, pairData_eq]
    generalize strsData (Str.ofString "E" :: firstsFor k ts) = L at h2 ⊢
    simp only [PyData.depthAll, PyData.depth, h2]
    omega
theorem pairs_shaped {ts : List Line} (h : ∀ p ∈ ts, LineOk p) {ks : List Str} (hk : ∀ k ∈ ks, PyData.strOk k = true) : shaped (.list (ks.map (pairData ts))) = true := by
  have h1 := pairs_depth ts ks
  have h2 : PyData.depth (.list (ks.map (pairData ts))) ≤ 64 := by simp only [PyData.depth]; omega
  show (PyData.canLay0 (.list (ks.map (pairData ts))) && decide (PyData.depth (.list (ks.map (pairData ts))) ≤ 64)) = true
  rw [Bool.and_eq_true]
  exact ⟨by simp only [PyData.canLay0]; exact pairs_lay h hk, decide_eq_true h2⟩
theorem pairs_noMix (ts : List Line) : ∀ ks : List Str, noMixAll (ks.map (pairData ts)) (ks.map (pairData ts)) = true
  | [] => by simp [noMixAll]
  | k :: r => by
    have h1 := pairs_noMix ts r
    have h2 := strs_noMix (Str.ofString "E" :: firstsFor k ts)
    rw [List.map_cons, pairData_eq]
    generalize strsData (Str.ofString "E" :: firstsFor k ts) = L at h2 ⊢
    simp [noMixAll, noMix, h1, h2]
theorem pairs_same (ts : List Line) : ∀ ks : List Str, PySem.Spec.sameAll (ks.map (pairData ts)) (ks.map (pairData ts)) = true
  | [] => by simp [PySem.Spec.sameAll]
  | k :: r => by
    have h1 := pairs_same ts r
    have h2 := strs_same (Str.ofString "E" :: firstsFor k ts)
    rw [List.map_cons, pairData_eq]
    generalize strsData (Str.ofString "E" :: firstsFor k ts) = L at h2 ⊢
    simp [PySem.Spec.sameAll, PySem.Spec.same, h1, h2]
theorem sv_reads {h : Heap} {vs : List Value} {ks : List Str} (H : SV vs ks) : ∃ as, ReadsAll h vs (strsData ks) as := by
  induction H with
  | nil => exact ⟨_, .nil⟩
  | cons x _ ih =>
    obtain ⟨t, rfl⟩ := x
    obtain ⟨as, ra⟩ := ih
    exact ⟨_, .cons (.str _ _) ra⟩
theorem pairs_reads {h : Heap} {ents : List (Addr × Obj)} {ts : List Line} {vs : List Value} {ks : List Str} (H : ∀ q ∈ ents, h.get? q.1 = some q.2) (T : PairsAre ents ts vs ks) : ∃ as, ReadsAll h vs (ks.map (pairData ts)) as := by
  induction T with
  | nil => exact ⟨_, .nil⟩
  | cons x _ ih =>
    obtain ⟨a, t, l, o, rfl, hm, hl, us, n, rfl, hsv⟩ := x
    obtain ⟨as, ra⟩ := ih
    obtain ⟨bs, rb⟩ := sv_reads (h := h) hsv
    rw [← List.toList_toArray (as := us)] at rb
    exact ⟨_, .cons (Reads.tuple (H _ hm) rfl rfl (.cons (.str _ _) (.cons (Reads.list (H _ hl) rfl rfl rb) .nil))) ra⟩
section
variable {prog : Program} {w : World} {A : Around} {E : Value → Shared → Prop} {s : Shared} {Q : Value → Shared → Prop}
theorem pairs_eq {a b : Addr} {vs us : List Value} {e1 e2 : List (Addr × Obj)} {ts : List Line} {ks : List Str} (h1 : s.heap.IsList a vs.toArray) (h2 : s.heap.IsList b us.toArray) (H1 : ∀ q ∈ e1, s.heap.get? q.1 = some q.2) (H2 : ∀ q ∈ e2, s.heap.get? q.1 = some q.2)
    (t1 : PairsAre e1 ts vs ks) (t2 : PairsAre e2 ts us ks) (hks : ks = keysOf ts) (hok : ∀ p ∈ ts, LineOk p) (hu : A.units ≤ 600) (h : Q (.bool true) s) : wpAny (model prog w) A (compareOp .Eq (.ref a) (.ref b)) Q E s := by
  subst hks
  obtain ⟨as, ra⟩ := pairs_reads H1 t1
  obtain ⟨bs, rb⟩ := pairs_reads H2 t2
  obtain ⟨o1, e1, c1, n1, d1⟩ := h1
  obtain ⟨o2, e2, c2, n2, d2⟩ := h2
  refine eq_dataH_same (Reads.list e1 c1 d1 (by simpa using ra)) (Reads.list e2 c2 d2 (by simpa using rb)) (pairs_shaped hok (key_ok hok)) (pairs_shaped hok (key_ok hok)) (Nat.lt_of_le_of_lt (Nat.add_le_add_right hu 64) (by decide +kernel)) ?_ ?_
  · simp only [noMix]; exact pairs_noMix ts _
  · simp only [PySem.Spec.same]; rw [pairs_same]; exact h
end
end Mine
end
section
open PySem PySem.W PyProof.Rows PySem.Calls
set_option maxRecDepth 100000
theorem Mine.calm_R46 : True := by
  w_top off
  k_with_none
  exact True.intro
namespace Mine
theorem pairs_of_book {base nw : List (Addr × Obj)} {kvs : List (Str × Addr)} {ts : List Line} {n : Nat} {ys : List Value} (hn : n = kvs.length) (h : BookJ base kvs n ys nw) (hl : ∀ kl ∈ kvs, ∃ o, (kl.2, o) ∈ base ∧ NameList o (firstsFor kl.1 ts)) :
    PairsAre nw ts ys (kvs.map (·.1)) := by
  obtain ⟨tts, rfl, hT⟩ := h
  rw [List.take_of_length_le (by omega)] at hT
  clear hn
  have key : ∀ {ys : List Value} {ks : List (Str × Addr)}, All2 (fun v kl => ∃ a t, v = .ref a ∧ (a, tupK kl.1 t kl.2) ∈ tts) ys ks → (∀ kl ∈ ks, kl ∈ kvs) → PairsAre (tts ++ base) ts ys (ks.map (·.1)) := by
    intro ys ks h
    induction h with
    | nil => intro _; exact .nil
    | @cons v kl _ _ x _ ih =>
      intro hk
      obtain ⟨a, t, rfl, hm⟩ := x
      obtain ⟨o, ho, hN⟩ := hl kl (hk _ (.head _))
      exact .cons ⟨a, t, kl.2, o, rfl, List.mem_append_left _ hm, List.mem_append_right _ ho, hN⟩ (ih fun q hq => hk q (.tail _ hq))
  exact key hT fun _ h => h
/-- what the second comprehension has made so far -/
noncomputable def PairJ (base : List (Addr × Obj)) (ts : List Line) (ks : List Str) (i : Nat) (ys : List Value) (nw : List (Addr × Obj)) : Prop :=
  ∃ tts, nw = tts ++ base ∧ PairsAre tts ts ys (ks.take i)
theorem PairJ.zero {base : List (Addr × Obj)} {ts : List Line} {ks : List Str} : PairJ base ts ks 0 [] base := ⟨[], rfl, .nil⟩
theorem PairJ.next {base nw : List (Addr × Obj)} {ts : List Line} {ks : List Str} {i : Nat} {ys : List Value} {a l : Addr} {o : Obj} {k : Str} {t : Tok} (h : PairJ base ts ks i ys nw) (hk : ks[i]? = some k) (ho : NameList o (firstsFor k ts)) :
    PairJ base ts ks (i + 1) (ys ++ [.ref a]) ((a, tupK k t l) :: (l, o) :: nw) := by
  obtain ⟨tts, rfl, hT⟩ := h
  refine ⟨(a, tupK k t l) :: (l, o) :: tts, rfl, ?_⟩
  rw [List.take_add_one, hk]
  exact All2.snoc (hT.imp fun v q ⟨b, t, l, o, e, m, m', x⟩ => ⟨b, t, l, o, e, .tail _ (.tail _ m), .tail _ (.tail _ m'), x⟩) ⟨a, t, l, o, rfl, .head _, .tail _ (.head _), ho⟩
theorem PairJ.sub {base nw : List (Addr × Obj)} {ts : List Line} {ks : List Str} {i : Nat} {ys : List Value} (h : PairJ base ts ks i ys nw) : ∀ q ∈ base, q ∈ nw := by
  obtain ⟨tts, rfl, _⟩ := h
  exact fun q hq => List.mem_append_right _ hq
theorem PairJ.done {base nw : List (Addr × Obj)} {ts : List Line} {ks : List Str} {n : Nat} {ys : List Value} (h : PairJ base ts ks n ys nw) (hn : ks.length ≤ n) : PairsAre nw ts ys ks := by
  obtain ⟨tts, rfl, hT⟩ := h
  rw [List.take_of_length_le hn] at hT
  exact hT.imp fun v q ⟨b, t, l, o, e, m, m', x⟩ => ⟨b, t, l, o, e, List.mem_append_left _ m, List.mem_append_left _ m', x⟩
theorem BookJ.sub {base nw : List (Addr × Obj)} {kvs : List (Str × Addr)} {i : Nat} {ys : List Value} (h : BookJ base kvs i ys nw) : ∀ q ∈ base, q ∈ nw := by
  obtain ⟨tts, rfl, _⟩ := h
  exact fun q hq => List.mem_append_right _ hq
theorem PairsAre.mono {e e' : List (Addr × Obj)} {ts : List Line} {ys : List Value} {ks : List Str} (h : PairsAre e ts ys ks) (s : ∀ q ∈ e, q ∈ e') : PairsAre e' ts ys ks :=
  h.imp fun _ _ ⟨b, t, l, o, e, m, m', x⟩ => ⟨b, t, l, o, e, s _ m, s _ m', x⟩
/-- the comprehension with a test within -/
noncomputable def FiltJ (base : List (Addr × Obj)) (ts : List Line) (k : Str) (i : Nat) (zs : List Value) (nw : List (Addr × Obj)) : Prop := nw = base ∧ SV zs (firstsFor k (ts.take i))
theorem FiltJ.zero {base : List (Addr × Obj)} {ts : List Line} {k : Str} : FiltJ base ts k 0 [] base := ⟨rfl, .nil⟩
theorem FiltJ.hit {base : List (Addr × Obj)} {ts : List Line} {k : Str} {i : Nat} {zs : List Value} {p : Line} {t : Tok} (h : SV zs (firstsFor k (ts.take i))) (hp : ts[i]? = some p) (hk : keyF p = k) : FiltJ base ts k (i + 1) (zs ++ [.str (valF p) t]) base := by
  refine ⟨rfl, ?_⟩
  rw [List.take_add_one, hp]
  show SV _ (firstsFor k (ts.take i ++ [p]))
  rw [firstsFor_snoc, if_pos hk]
  exact All2.snoc h ⟨t, rfl⟩
theorem FiltJ.miss {base : List (Addr × Obj)} {ts : List Line} {k : Str} {i : Nat} {zs : List Value} {p : Line} (h : SV zs (firstsFor k (ts.take i))) (hp : ts[i]? = some p) (hk : keyF p ≠ k) : FiltJ base ts k (i + 1) zs base := by
  refine ⟨rfl, ?_⟩
  rw [List.take_add_one, hp]
  show SV _ (firstsFor k (ts.take i ++ [p]))
  rw [firstsFor_snoc, if_neg hk, List.append_nil]
  exact h
theorem name_list {zs : List Value} {k : Str} {ts : List Line} {n : Nat} {t : Tok} (h : SV zs (firstsFor k ts)) : NameList (W.listOf (Value.str (Str.ofString "E") t :: zs).toArray n) (firstsFor k ts) :=
  ⟨_, n, rfl, .cons ⟨t, rfl⟩ h⟩
section
variable {w : World} {A : Around} {h₀ : Heap} {L T : Addr} {news : List (Addr × Obj)} {s : Shared} {Q : Value → Shared → Prop} {E : Value → Shared → Prop} {value slice : Expr} {t : Tok}
theorem use_tup0 {a b c d : Str} {ta tb tc td : Tok} (hsub : subscripted slice false (.ref T) (.int 0 t) = operate [.ref T, .int 0 t] (getItem (.ref T) (.int 0 t))) (N : News h₀ L s.heap news) (hT : (T, tup5 a b c d ta tb tc td) ∈ news) (h : Q (.str a ta) s) :
    wpAny (model PySem.Challenge.rw_in0008_01.row.prog w) A (subscriptTail value slice (.ref T) (.int 0 t)) Q E s :=
  item_tupleT (l := [.str a ta, .str b tb, .str c tc, .str d td, .bool true]) (j := 0) (News.isTup N hT) (by decide) (by decide) rfl rfl h hsub
end
end Mine
namespace Mine
theorem News.cons_mem {h₀ h : Heap} {L : Addr} {l : List (Addr × Obj)} {q : Addr × Obj} (N : News h₀ L h l) (hq : q ∈ l) : News h₀ L h (q :: l) := List.forall_mem_cons.mpr ⟨N q hq, N⟩
end Mine
namespace Mine
theorem pickU {h₀ h : Heap} {L : Addr} {a x b c d : Addr × Obj} {r : List (Addr × Obj)} (N : News h₀ L h (a :: x :: b :: c :: d :: r)) : News h₀ L h (b :: c :: d :: a :: r) := fun q hq => N q (by
  simp only [List.mem_cons] at hq ⊢
  rcases hq with h | h | h | h | h <;> simp [h])
theorem sv_at {vs : List Value} {ks : List Str} {i : Nat} {v : Value} (h : SV vs ks) (hv : vs[i]? = some v) : ∃ k t, ks[i]? = some k ∧ v = .str k t := by
  have hi : i < vs.length := by
    rcases Nat.lt_or_ge i vs.length with h | h
    · exact h
    · rw [List.getElem?_eq_none h] at hv; cases hv
  have hk : i < ks.length := All2.length h ▸ hi
  obtain ⟨t, rfl⟩ := All2.get h hv (List.getElem?_eq_getElem hk)
  exact ⟨_, t, List.getElem?_eq_getElem hk, rfl⟩
end Mine
namespace Mine
theorem firstsFor_length (k : Str) (ts : List Line) : (firstsFor k ts).length ≤ ts.length := by
  unfold firstsFor
  rw [List.length_map]
  exact List.length_filter_le _ _
end Mine
namespace Mine
theorem size_ne {h₀ h : Heap} {L : Addr} {l : List (Addr × Obj)} (N : News h₀ L h l) {q : Addr × Obj} (hq : q ∈ l) : (@Ne Nat h.objs.size q.1) := Nat.ne_of_gt (Heap.lt_size (N q hq).1)
theorem pickW {h₀ h : Heap} {L : Addr} {t ls e f g x i c d : Addr × Obj} {r : List (Addr × Obj)} (N : News h₀ L h (t :: ls :: e :: f :: g :: x :: i :: c :: d :: r)) : News h₀ L h (x :: i :: c :: d :: t :: ls :: r) := fun q hq => N q (by
  simp only [List.mem_cons] at hq ⊢
  rcases hq with h | h | h | h | h | h | h <;> simp [h])
end Mine
end
section
open PySem PySem.W PyProof.Rows PySem.Calls PySem.Spec
set_option maxRecDepth 100000
theorem Mine.calm_R47 : True := by
  w_top off
  k_with_none
  exact True.intro
namespace Mine
section
variable {M : Model} {A : Around} {E : Value → Shared → Prop} {s : Shared}
/-- the block of a comprehension whose own variable is a cell -/
theorem newEnv_cell {scope : Scope} {globals : Addr} {cl : List (Str × Addr)} {qual n0 x n2 : Str} {env : Env} {Q : Env → Shared → Prop} (hsc : scope.names = [(n0, .local), (x, .cell), (n2, .free)])
    (h : Q { scope := scope, locals := s.heap.objs.size, globals := globals, cells := (x, s.heap.objs.size + 1) :: cl, qual := qual, func := none, code := env.code, frame := env.frame, builtins := env.builtins }
      { s with heap := (s.heap.push { cls := .type "dict", data := .dict #[] }).push { cls := .type "cell", data := .cell none } }) :
    wpAny M A (newFunctionEnv scope globals cl [] qual none .none (some env)) Q E s := by
  simp only [newFunctionEnv, Option.isSome_some, if_true]
  refine wpAny_bind (wpAny_alloc ?_)
  refine wpAny_bind (wpAny_layCells _ (fun name kind cells => by cases kind == NameKind.cell <;> simp) _ _ _ _ ?_)
  rw [hsc]
  simp only [cellsFrom, pushCells]
  refine wpAny_bind ?_
  rw [List.forIn_nil]
  refine wpAny_pure (wpAny_pure ?_)
  have e : (s.heap.push { cls := .type "dict", data := .dict #[] }).objs.size = s.heap.objs.size + 1 := Heap.size_push ..
  simpa [e] using h
end

section
variable {prog : Program} {w : World} {A : Around} {E : Value → Shared → Prop} {s : Shared} {h₀ : Heap} {L : Addr} {m : Str → Option Value} {env : Env}
noncomputable def EndX (h₀ : Heap) (L : Addr) (m : Str → Option Value) (s₁ : Shared) (I : Addr) (oI : Obj) (C : Addr) (oC : Obj) (D : Addr) (oD : Obj) (X : Addr) (oX : Obj) (ax : Addr) (its : Array Value) (J : Value → List (Addr × Obj) → Prop) (y : Value) (s₂ : Shared) : Prop :=
  ∃ h' tk nw, s₂ = { s₁ with heap := h', toks := tk } ∧ Fr h₀ L h' m ∧ News h₀ L h' ((X, oX) :: (I, oI) :: (C, oC) :: (D, oD) :: nw) ∧ LCg.Off3 I C D nw ∧ (∀ p ∈ nw, p.1 ≠ X) ∧ LCg.SrcAt h₀ ax its nw ∧ J y nw
noncomputable def TurnX (prog : Program) (w : World) (A : Around) (h₀ : Heap) (L : Addr) (m : Str → Option Value) (env : Env) (elt : Expr) (x : Str) (scope : Scope) (cl : List (Str × Addr)) (ax : Addr) (its : Array Value) (J : Nat → List Value → List (Addr × Obj) → Prop) (s₂ : Shared) : Prop :=
  ∀ i v I oI C oC D X oX ys h tk (E' : Value → Shared → Prop) nw, i < its.size → its[i]? = some v → J i ys nw → oX.data = .cell (some v) → LCg.SrcAt h₀ ax its nw → Fr h₀ L h m → News h₀ L h ((X, oX) :: (I, oI) :: (C, oC) :: (D, LCg.lst ys) :: nw) → LCg.Off3 I C D nw → (∀ p ∈ nw, p.1 ≠ X) →
    (X ≠ I ∧ X ≠ C ∧ X ≠ D) → (I ≠ C ∧ I ≠ D ∧ C ≠ D) →
    wpAny (model prog w) A (eval elt (compEnvC scope ((x, X) :: cl) C env)) (EndX h₀ L m { s₂ with heap := h, toks := tk } I oI C oC D (LCg.lst ys) X oX ax its (fun y nw' => J (i + 1) (ys ++ [y]) nw')) E' { s₂ with heap := h, toks := tk }
theorem block_X {elt iter : Expr} {n0 x n2 : Str} {px : Pos} {scope : Scope} {cl : List (Str × Addr)} {pos : Pos} {s₂ : Shared} {I ax : Addr} {its : Array Value} {news : List (Addr × Obj)}
    {J : Nat → List Value → List (Addr × Obj) → Prop} {RR : Value → Addr → Result → Shared → Prop} (hh : A.handled = none) (hne : ax ≠ I) (hsz : its.size ≤ sizeLine)
    (hsc : scope.names = [(n0, .local), (x, .cell), (n2, .free)]) (hkind : scope.kind = .function) (hx : (relabel scope env).names.lookup x = some .cell)
    (hst : s₂.heap.IsListIter I ax 0 ∧ s₂.heap.IsList ax its) (F : Fr h₀ L s₂.heap m) (N : News h₀ L s₂.heap news) (hIL : L ≠ I) (hI₀ : h₀.get? I = none) (off : ∀ p ∈ news, p.1 ≠ I) (hS : LCg.SrcAt h₀ ax its news) (hJ : J 0 [] news)
    (turn : TurnX prog w A h₀ L m env elt x scope cl ax its J s₂)
    (hRR : ∀ D C h tk m' ys news', Fr h₀ L h m → News h₀ L h ((D, LCg.lst ys) :: news') → LCg.Off1 D news' → h.Ns C m' → h₀.get? C = none → h₀.get? D = none → C ≠ L → D ≠ L → C ≠ D → (∀ p ∈ news', p.1 ≠ C) → J its.size ys news' → RR (.ref D) C (.ok .next) { s₂ with heap := h, toks := tk }) :
    wpAny (model prog w) A (newList []) (fun acc s₃ => wpAny (model prog w) A (newFunctionEnv scope env.globals cl [] env.qual none .none (some env)) (fun cenv s₄ =>
      codeAny (model prog w) A (.compStart (.ListComp elt [⟨.Name x px, iter, [], 0⟩] scope pos) 0 (.ref I) acc { cenv with scope := relabel scope env }) (RR acc cenv.locals) s₄) E s₃) E s₂ := by
  have W := Walks.list (prog := prog) (w := w) hh I ax hne its
  refine wpAny_newObj_type (newEnv_cell hsc ?_)
  dsimp only
  generalize hH2 : s₂.heap.push { cls := .type "list", dict := none, data := .seq ([] : List Value).toArray } = H2
  have hC : H2.objs.size = s₂.heap.objs.size + 1 := by rw [← hH2, Heap.size_push]
  generalize hH3 : H2.push { cls := .type "dict", data := .dict #[] } = H3
  have hX : H3.objs.size = H2.objs.size + 1 := by rw [← hH3, Heap.size_push]
  rw [← hX]
  generalize hH4 : H3.push { cls := .type "cell", data := .cell none } = h₁
  have oX₀ : h₁.get? H3.objs.size = some { cls := .type "cell", data := .cell none } := by rw [← hH4]; exact Heap.get?_push_size _ rfl
  have up34 : ∀ b o, H3.get? b = some o → h₁.get? b = some o := fun b o e => by rw [← hH4]; exact Heap.get?_push_of_some _ e
  have hns₁ : h₁.Ns H2.objs.size (fun _ => none) := (Heap.Ns.new H2 (.type "dict")).keeps fun b o e => up34 b o (by rw [← hH3]; exact e)
  have old : ∀ b o, s₂.heap.get? b = some o → h₁.get? b = some o := fun b o e => up34 b o (by rw [← hH3]; exact Heap.get?_push_of_some _ (by rw [← hH2]; exact Heap.get?_push_of_some _ e))
  have hacc : h₁.get? s₂.heap.objs.size = some (LCg.lst []) := up34 _ _ (by rw [← hH3]; exact Heap.get?_push_of_some _ (by rw [← hH2]; exact Heap.get?_push_size _ rfl))
  have hDC : s₂.heap.objs.size ≠ H2.objs.size := by omega
  have hXD : H3.objs.size ≠ s₂.heap.objs.size := by omega
  have hXC : H3.objs.size ≠ H2.objs.size := by omega
  have below : ∀ b, b < s₂.heap.objs.size → b ≠ H2.objs.size ∧ b ≠ s₂.heap.objs.size ∧ b ≠ H3.objs.size := fun b hb => ⟨by omega, by omega, by omega⟩
  have hIlt : I < s₂.heap.objs.size := by obtain ⟨_, e, _⟩ := hst.1; exact Heap.lt_size e
  have halt : ax < s₂.heap.objs.size := by obtain ⟨_, e, _⟩ := hst.2; exact Heap.lt_size e
  have hst₁ : h₁.IsListIter I ax 0 ∧ h₁.IsList ax its := W.frame _ _ _ hst fun b _ o e => old b o e
  have fresh : ∀ a, s₂.heap.objs.size ≤ a → s₂.heap.get? a = none := fun a ha => by
    cases e : s₂.heap.get? a with
    | none => rfl
    | some o' => exact absurd (Heap.lt_size e) (Nat.not_lt.mpr ha)
  have fresh₀ : ∀ a, s₂.heap.objs.size ≤ a → h₀.get? a = none := fun a ha => by
    cases e : h₀.get? a with
    | none => rfl
    | some o' => have := F.keep a o' e; rw [fresh a ha] at this; cases this
  have hD₀ : h₀.get? s₂.heap.objs.size = none := fresh₀ _ (Nat.le_refl _)
  have hC₀ : h₀.get? H2.objs.size = none := fresh₀ _ (by omega)
  have hX₀ : h₀.get? H3.objs.size = none := fresh₀ _ (by omega)
  have hLlt : L < s₂.heap.objs.size := F.ns.lt
  have hDL : s₂.heap.objs.size ≠ L := Ne.symm (below L hLlt).2.1
  have hCL : H2.objs.size ≠ L := Ne.symm (below L hLlt).1
  have hXL : H3.objs.size ≠ L := Ne.symm (below L hLlt).2.2
  have hCI : I ≠ H2.objs.size := (below I hIlt).1
  have hDI : I ≠ s₂.heap.objs.size := (below I hIlt).2.1
  have hXI : H3.objs.size ≠ I := Ne.symm (below I hIlt).2.2
  have off₀ : LCg.Off3 I H2.objs.size s₂.heap.objs.size news := LCg.Off3.of fun p hp => ⟨off p hp, (below _ (Heap.lt_size (N p hp).1)).1, (below _ (Heap.lt_size (N p hp).1)).2.1⟩
  have offX₀ : ∀ p ∈ news, p.1 ≠ H3.objs.size := fun p hp => (below _ (Heap.lt_size (N p hp).1)).2.2
  have loop : ∀ s₃ : Shared, (∃ tk, s₃ = { s₂ with heap := h₁, toks := tk }) →
      codeAny (model prog w) A (.compLoop (.ListComp elt [⟨.Name x px, iter, [], 0⟩] scope pos) 0 (.ref I) (.ref s₂.heap.objs.size) (compEnvC scope ((x, H3.objs.size) :: cl) H2.objs.size env))
        (RR (.ref s₂.heap.objs.size) H2.objs.size) s₃ := by
    rintro s₃ ⟨tk₀, rfl⟩
    refine codeAny_compLoop_tests
      (fun k s' => ∃ h' tk i ys m' oX v₀ news', s' = { s₂ with heap := h', toks := tk } ∧ i ≤ its.size ∧ k = its.size + 1 - i ∧ ys.length = i ∧ (h'.IsListIter I ax i ∧ h'.IsList ax its) ∧ Fr h₀ L h' m ∧ h'.Ns H2.objs.size m' ∧ oX.data = .cell v₀ ∧
        News h₀ L h' ((H3.objs.size, oX) :: (s₂.heap.objs.size, LCg.lst ys) :: news') ∧
        LCg.Off3 I H2.objs.size s₂.heap.objs.size news' ∧ (∀ p ∈ news', p.1 ≠ H3.objs.size) ∧ LCg.SrcAt h₀ ax its news' ∧ J i ys news') ?_ (its.size + 1)
      ⟨h₁, _, 0, [], _, _, _, news, rfl, Nat.zero_le _, rfl, rfl, hst₁, F.keeps old, hns₁, rfl, List.forall_mem_cons.mpr ⟨⟨oX₀, hXL, hX₀⟩, List.forall_mem_cons.mpr ⟨⟨hacc, hDL, hD₀⟩, fun p hp => ⟨old _ _ (N p hp).1, (N p hp).2⟩⟩⟩, off₀, offX₀, hS, hJ⟩
    rintro k s' ⟨h', tk, i, ys, m', oX, v₀, news', rfl, hi, rfl, hyl, hst', F', hn', hdX, N', off', offX', hS', hJ'⟩
    by_cases hlt : i < its.size
    · refine W.item i _ _ _ hlt hst' fun v h₂ tk₂ hPv hst₂ hk₂ => ?_
      have off3 := off'.mem
      have N₂ : News h₀ L h₂ ((H3.objs.size, oX) :: (s₂.heap.objs.size, LCg.lst ys) :: news') := LCg.news_but N' hk₂ (List.forall_mem_cons.mpr ⟨hXI, List.forall_mem_cons.mpr ⟨Ne.symm hDI, fun p hp => (off3 p hp).1⟩⟩)
      have F₂ : Fr h₀ L h₂ m := LCg.fr_but F' hk₂ hIL hI₀
      have hn₂ : h₂.Ns H2.objs.size m' := hn'.at' fun o e => hk₂ _ o (by simpa using Ne.symm hCI) e
      have zX := (N₂ _ (.head _)).1
      refine wpAny_assign_Name (wpAny_storeName_cell (c := H3.objs.size) (by simp [compEnvC, relabel, hkind]) hx (by simp [compEnvC]) ⟨oX, zX, hdX⟩ fun h₃ hc₃ hs₃ => ?_)
      refine wpAny_tests_nil ?_
      simp only [if_true]
      obtain ⟨oX', heX, hdX'⟩ := hc₃
      have hst₃ : h₃.IsListIter I ax (i + 1) ∧ h₃.IsList ax its := W.frame _ _ _ hst₂ fun b hb o e => hs₃.extBut b o (fun q => by
        rcases List.mem_cons.mp hb with h | h
        · exact hXI (q.symm.trans h)
        · exact (below ax halt).2.2 ((List.mem_singleton.mp h).symm.trans q)) e
      obtain ⟨oI, heI, _⟩ := hst₃.1
      have F₃ : Fr h₀ L h₃ m := F₂.change hs₃ hXL hX₀
      have hn₃ : h₃.Ns H2.objs.size m' := hn₂.sameBut hs₃ (Ne.symm hXC)
      obtain ⟨oC, heC, hoC⟩ := LCg.ns_obj hn₃
      have N₃ : News h₀ L h₃ ((H3.objs.size, oX') :: (I, oI) :: (H2.objs.size, oC) :: (s₂.heap.objs.size, LCg.lst ys) :: news') :=
        List.forall_mem_cons.mpr ⟨⟨heX, hXL, hX₀⟩, List.forall_mem_cons.mpr ⟨⟨heI, Ne.symm hIL, hI₀⟩, List.forall_mem_cons.mpr ⟨⟨heC, hCL, hC₀⟩, List.forall_mem_cons.mpr ⟨⟨hs₃.extBut _ _ (Ne.symm hXD) (N₂ _ (.tail _ (.head _))).1, hDL, hD₀⟩,
          fun p hp => ⟨hs₃.extBut _ _ (offX' p hp) (N₂ p (.tail _ (.tail _ hp))).1, (N₂ p (.tail _ (.tail _ hp))).2⟩⟩⟩⟩⟩
      refine wpAny_mono (turn i v I oI H2.objs.size oC s₂.heap.objs.size H3.objs.size oX' ys h₃ _ _ news' hlt hPv hJ' hdX' hS' F₃ N₃ off' offX' ⟨hXI, hXC, hXD⟩ ⟨hCI, hDI, Ne.symm hDC⟩) (fun y s₄ h₄ => ?_) fun _ _ e => e
      obtain ⟨h₄, tk₄, news₄, rfl, F₄, N₄, off₄, offX₄, hS₄, J₄⟩ := h₄
      have zX4 := (N₄ _ (.head _)).1
      have zI := (N₄ _ (.tail _ (.head _))).1
      have zC := (N₄ _ (.tail _ (.tail _ (.head _)))).1
      have zD := (N₄ _ (.tail _ (.tail _ (.tail _ (.head _))))).1
      have N₄' : News h₀ L h₄ news₄ := fun p hp => N₄ p (.tail _ (.tail _ (.tail _ (.tail _ hp))))
      have hst₄ : h₄.IsListIter I ax (i + 1) ∧ h₄.IsList ax its := ⟨by obtain ⟨o', q, r⟩ := hst₃.1; rw [heI] at q; cases q; exact ⟨oI, zI, r⟩, hS₄.list F₄.keep N₄'⟩
      refine append_at (hsz := by show ys.toArray.size ≤ sizeLine; rw [List.size_toArray, hyl]; exact Nat.le_trans hi hsz) zD fun h₅ hs₅ hD₅ => ?_
      have off4 := off₄.mem
      refine ⟨its.size + 1 - (i + 1), by omega, h₅, tk₄, i + 1, ys ++ [y], _, oX', some v, news₄, rfl, hlt, rfl, by rw [List.length_append, List.length_singleton, hyl], W.frame _ _ _ hst₄ fun b hb o e => hs₅.extBut b o (fun q => ?_) e, F₄.change hs₅ hDL hD₀,
        (hoC.ns zC).sameBut hs₅ (Ne.symm hDC), hdX', ?_, off₄, offX₄, hS₄, J₄⟩
      · rcases List.mem_cons.mp hb with h | h
        · exact hDI (h.symm.trans q)
        · exact (below ax halt).2.1 ((List.mem_singleton.mp h).symm.trans q)
      · exact List.forall_mem_cons.mpr ⟨⟨hs₅.extBut _ _ hXD zX4, hXL, hX₀⟩, List.forall_mem_cons.mpr ⟨⟨hD₅.trans (congrArg some (LCg.lst_snoc ys y)), hDL, hD₀⟩, fun p hp => ⟨hs₅.extBut _ _ (off4 p hp).2.2 (N₄' p hp).1, (N₄' p hp).2⟩⟩⟩
    · obtain rfl : i = its.size := Nat.le_antisymm hi (Nat.not_lt.mp hlt)
      refine W.done _ _ _ hst' fun h₂ tk₂ hk₂ => ?_
      have off3 := off'.mem
      exact hRR _ _ h₂ tk₂ _ ys news' (LCg.fr_but F' hk₂ hIL hI₀) (LCg.news_but (fun p hp => N' p (.tail _ hp)) hk₂ fun p hp => by
        rcases List.mem_cons.mp hp with rfl | hp
        · exact Ne.symm hDI
        · exact (off3 p hp).1) off'.one (hn'.at' fun o e => hk₂ _ o (by simpa using Ne.symm hCI) e) hC₀ hD₀ hCL hDL (Ne.symm hDC) (fun p hp => (off3 p hp).2.1) hJ'
  exact codeAny_compStart_list (loop _ ⟨_, rfl⟩) (W.self 0 _ _ _ hst₁ (loop _ ⟨_, rfl⟩))

noncomputable def CellSrc (prog : Program) (w : World) (A : Around) (h₀ : Heap) (L : Addr) (m : Str → Option Value) (env : Env) (elt : Expr) (x : Str) (scope : Scope) (cl : List (Str × Addr)) (Q : Value → Shared → Prop) (xv : Value) (s₁ : Shared) : Prop :=
  ∃ ax its news, ∃ J : Nat → List Value → List (Addr × Obj) → Prop, xv = .ref ax ∧ A.handled = none ∧ Fr h₀ L s₁.heap m ∧ News h₀ L s₁.heap news ∧ LCg.SrcAt h₀ ax its news ∧ its.size ≤ sizeLine ∧ J 0 [] news ∧
    ∀ s₂ : Shared, (∃ g, s₂ = { s₁ with heap := g }) → TurnX prog w A h₀ L m env elt x scope cl ax its J s₂ ∧ ∀ ys nw, J its.size ys nw → LCg.FinE h₀ L m s₂ Q ys nw
theorem CellSrc.ledger {elt : Expr} {x : Str} {scope : Scope} {cl : List (Str × Addr)} {Q : Value → Shared → Prop} {ax : Addr} {its : Array Value} {k : Nat} {news : List (Addr × Obj)} {s₁ : Shared} (J : Nat → List Value → List (Addr × Obj) → Prop)
    (hh : A.handled = none) (F : Fr h₀ L s₁.heap m) (N : News h₀ L s₁.heap news) (hm : (ax, ({ cls := .type "list", data := .seq its k } : Obj)) ∈ news) (hsz : its.size ≤ sizeLine) (hJ : J 0 [] news)
    (turn : ∀ g, TurnX prog w A h₀ L m env elt x scope cl ax its J { s₁ with heap := g }) (fin : ∀ g ys nw, J its.size ys nw → LCg.FinE h₀ L m { s₁ with heap := g } Q ys nw) :
    CellSrc prog w A h₀ L m env elt x scope cl Q (.ref ax) s₁ := ⟨ax, its, news, J, rfl, hh, F, N, .inr ⟨_, hm, rfl, _, rfl⟩, hsz, hJ, fun _ ⟨g, e⟩ => e ▸ ⟨turn g, fin g⟩⟩
theorem ListComp_X {elt iter : Expr} {n0 x n2 : Str} {px : Pos} {scope : Scope} {cl : List (Str × Addr)} {pos : Pos} {Q : Value → Shared → Prop} (hF₀ : Fr h₀ L s.heap m)
    (hclos : closureFor scope env = pure cl) (hsc : scope.names = [(n0, .local), (x, .cell), (n2, .free)]) (hkind : scope.kind = .function)
    (hnames : ∀ z ∈ scope.names, z.2 = .local → scope.names.lookup z.1 = some .local) (hx : (relabel scope env).names.lookup x = some .cell)
    (h : wpAny (model prog w) A (eval iter env) (CellSrc prog w A h₀ L m env elt x scope cl Q) E s)
    (hs : ∀ x, foldedSetIterable iter env x = pure x := by intro _; rfl) :
    wpAny (model prog w) A (eval (.ListComp elt [⟨.Name x px, iter, [], 0⟩] scope pos) env) Q E s := by
  rw [eval_ListComp]
  refine wpAny_comprehension_free (use := none) rfl hs hclos hkind hnames (wpAny_mono h (fun xv s₁ h₁ => ?_) fun _ _ e => e)
  obtain ⟨ax, its, news, J, rfl, hh, F, N, S, hsz, hJ, R⟩ := h₁
  have hl := S.list F.keep N
  have hlt : ax < s₁.heap.objs.size := by obtain ⟨_, e, _⟩ := hl; exact Heap.lt_size e
  refine wpAny_pyIter_list hl ?_
  have up : ∀ b o, s₁.heap.get? b = some o → (s₁.heap.push { cls := .type "list_iterator", data := .fields #[.ref ax, .int 0 0] }).get? b = some o := fun b o e => Heap.get?_push_of_some _ e
  have R2 := R { s₁ with heap := s₁.heap.push { cls := .type "list_iterator", data := .fields #[.ref ax, .int 0 0] } } ⟨_, rfl⟩
  refine block_X (I := s₁.heap.objs.size) hh (Nat.ne_of_lt hlt) hsz hsc hkind hx ⟨⟨_, Heap.get?_push_size _ rfl, rfl, rfl⟩, hl.push _⟩ (F.keeps up) (N.grown up) (Nat.ne_of_lt F.ns.lt) (next_is_new F) (fun p hp => Nat.ne_of_lt (Heap.lt_size (N p hp).1)) S hJ R2.1 ?_
  intro D C h tk m' ys news' F' N' o1 hn hC₀ hD₀ hCL hDL hCD offC fin
  refine ⟨m', hn, fun h'' hs'' => R2.2 ys news' fin D h'' tk (F'.change hs'' hCL hC₀) (fun p hp => ?_) o1⟩
  refine ⟨hs''.extBut _ _ ?_ (N' p hp).1, (N' p hp).2⟩
  rcases List.mem_cons.mp hp with rfl | hp
  · exact Ne.symm hCD
  · exact offC p hp
end
end Mine
end
section
open PySem PySem.W PyProof.Rows
set_option maxRecDepth 100000
set_option maxHeartbeats 2000000
theorem Mine.calm_S17 : True := by
  w_top off
  k_with_none
  exact True.intro
namespace Mine
local macro_rules | `(tactic| walk_at "exec For Name BinOp cons nil") => `(tactic| (k_here; k_dflt (refine wpAny_For ?_)))
local macro_rules | `(tactic| walk_at "pyIter ref") => `(tactic| ((with_reducible show wpAny _ _ (pyIter (Value.ref _)) (fun it s₂ => codeAny _ _ _ _ _) _ _); refine Then.go ?_))
local macro_rules | `(tactic| walk_at "CompSrc") => `(tactic| (k_here; refine Then.go ?_))
local macro_rules | `(tactic| walk_at "binaryOp FloorDiv int int") => `(tactic| (k_here; k_dflt (refine' use_fdiv8 ?k1 ?_; (case k1 => omega)); intro a' t'; (try dsimp only)))
local macro_rules | `(tactic| walk_at "binaryOp Mod int int") => `(tactic| (k_here; k_dflt (refine use_mod8 ?_); intro a' t' h0' h8'; (try dsimp only)))
local macro_rules | `(tactic| walk_at "subscriptTail") => `(tactic| (k_here; (with_reducible show wpAny _ _ (subscriptTail _ (Expr.BinOp _ _ _ _) (Value.ref _) (Value.int _ _)) _ _ _); k_dflt (refine' use_sign ?k1 ?k2 ?k3 ?k4 ?k5 ?k6 ?k7 ?_; (case k1 => with_unfolding_all rfl); (case k2 => k_asm); (case k3 => k_mem); (case k4 => assumption); (case k5 => assumption); (case k6 => assumption); (case k7 => assumption)); intro v' hv'; (try dsimp only)))
local macro_rules | `(tactic| walk_at "CompEnd") => `(tactic| (k_here; refine Then.go ?_))
local macro_rules | `(tactic| walk_at "call builtin:str.join") => `(tactic| (k_here; (with_reducible show wpAny _ _ (call (Value.builtin _) [Value.str _ _, Value.ref _]) _ _ _); k_dflt (refine' use_join ?k1 ?k2 ?k3 ?k4 ?_; (case k1 => k_asm); (case k2 => k_mem); (case k3 => repeat constructor); (case k4 => exact Nat.le_of_ble_eq_true rfl)); intro t' k'; (try dsimp only)))
local macro_rules | `(tactic| walk_at "call builtin:list.append") => `(tactic| (k_here; (with_reducible show wpAny _ _ (call (Value.builtin _) [Value.ref _, _]) _ _ _); refine Then.go ?_))
local macro_rules | `(tactic| walk_at "call ref") => `(tactic| (k_here; (with_reducible show wpAny _ _ (call (Value.ref 237) [Value.ref _]) _ _ _); refine Then.go ?_))
local macro_rules | `(tactic| walk_at "storeName") => `(tactic| (k_here; (with_reducible show wpAny _ _ (storeName _ (PySem.Str.ofString "book") _) _ _ _); refine Then.go ?_))
local macro_rules | `(tactic| walk_at "call ref") => `(tactic| (k_here; (with_reducible show wpAny _ _ (call (Value.ref 230) [Value.str _ _]) _ _ _); k_dflt (refine' use_read ?k1 ?k2 ?k3 ?k4 ?k5 ?k6 ?k7 ?k8 ?_; (case k1 => k_asm); (case k2 => k_asm); (case k3 => k_asm); (case k4 => k_asm); (case k5 => assumption); (case k6 => exact rfl); (case k7 => exact Nat.le_of_ble_eq_true rfl); (case k8 => exact Nat.le_of_ble_eq_true rfl)); intro a' o' h' tk' ho' F' N' hn'; (try dsimp only)))
local macro_rules | `(tactic| walk_at "storeName") => `(tactic| (k_here; (with_reducible show wpAny _ _ (storeName _ (PySem.Str.ofString "due") _) _ _ _); refine Then.go ?_))
theorem pickR {h₀ h : Heap} {L : Addr} {a b c d : Addr × Obj} {r : List (Addr × Obj)} (N : News h₀ L h (a :: b :: c :: d :: r)) : News h₀ L h (b :: c :: d :: a :: r) := fun q hq => N q (by
  simp only [List.mem_cons] at hq ⊢
  rcases hq with h | h | h | h | h <;> simp [h])
local macro_rules | `(tactic| walk_at "compareOp NotEq ref ref") => `(tactic| (k_here; (with_reducible show wpAny _ _ (compareOp CmpOp.NotEq (Value.ref _) (Value.ref _)) _ _ _); refine Then.go ?_))
local macro_rules | `(tactic| walk_at "CompSrcT") => `(tactic| (k_here; refine Then.go ?_))
local macro_rules | `(tactic| walk_at "exec Assign cons ListComp") => `(tactic| (k_here; (with_reducible show wpAny _ _ (exec (Stmt.Assign [Expr.Name (PySem.Str.ofString "names") _] _ _) _) _ _ _); refine Then.go ?_))
local macro_rules | `(tactic| walk_at "call builtin:len") => `(tactic| (k_here; (with_reducible show wpAny _ _ (call (Value.builtin _) [Value.ref _]) _ _ _); k_dflt (refine' use_len ?k1 ?k2 ?k3 ?_; (case k1 => k_asm); (case k2 => k_mem); (case k3 => assumption)); intro t' t''; (try dsimp only)))
local macro_rules | `(tactic| walk_at "subscriptTail") => `(tactic| (k_here; (with_reducible show wpAny _ _ (subscriptTail _ (Expr.Name _ _) (Value.ref _) (Value.int _ _)) _ _ _); k_dflt (refine' use_idx ?k1 ?k2 ?k3 ?k4 ?k5 ?_; (case k1 => with_unfolding_all rfl); (case k2 => k_asm); (case k3 => k_mem); (case k4 => assumption); (case k5 => assumption)); (try dsimp only)))
local macro_rules | `(tactic| walk_at "subscriptTail") => `(tactic| (k_here; (with_reducible show wpAny _ _ (subscriptTail _ _ (Value.ref _) (Value.int 2 _)) _ _ _); k_dflt (refine' use_tup2 ?k1 ?k2 ?k3 ?_; (case k1 => with_unfolding_all rfl); (case k2 => k_asm); (case k3 => repeat (first | exact List.mem_append_left _ (by assumption) | refine' List.Mem.tail _ ?_))); (try dsimp only)))
local macro_rules | `(tactic| walk_at "eval ListComp") => `(tactic| (k_here; (with_reducible show wpAny _ _ (eval (Expr.ListComp _ _ _ _) (compEnvC _ _ _ _)) _ _ _); refine Then.go ?_))
local macro_rules | `(tactic| walk_at "subscriptTail Name Slice ref ref") => `(tactic| (k_here; (with_reducible show wpAny _ _ (subscriptTail (Expr.Name (PySem.Str.ofString "due") _) (PySem.Expr.Slice _ _ none _) (Value.ref _) (Value.ref _)) _ _ _); k_dflt (refine' kmk_slice_lit ?F ?N ?l ?p ?q ?e ?_ ?s ?t ?z; (case F => k_asm); (case N => k_asm); (case l => exact News.isList (by k_asm) (by k_mem)); (case p => exact IsPart.none); (case q => exact IsPart.int _ _); (case e => exact pick_take _ (by omega)); (case s => with_unfolding_all rfl); (case t => intro _; with_unfolding_all rfl); (case z => rw [sizeLine_eq, List.size_toArray]; omega)); intro D' h' F' N' l1))
local macro_rules | `(tactic| walk_at "compareOp NotIn str ref") => `(tactic| (k_here; refine Then.go ?_))
local macro_rules | `(tactic| walk_at "binaryOp Add ref ref") => `(tactic| (k_here; (with_reducible show wpAny _ _ (binaryOp _ (Value.ref _) (Value.ref _)) (fun _ _ => wpAny _ _ _ _ _ _) _); (with_reducible rename (List.length _ ≤ 13) => hnl9); k_dflt (refine' kmk_add_lit ?F ?N ?a ?b ?e ?_ ?z; (case F => k_asm); (case N => k_asm); (case a => exact News.isList (by k_asm) (by k_mem)); (case b => exact News.isList (by k_asm) (by k_mem)); (case e => exact rfl); (case z => rw [sizeLine_eq]; simp only [List.length_append, List.length_cons, List.length_nil, Array.length_toList, List.size_toArray, List.toList_toArray]; omega)); intro D' h' F' N' l1))
local macro_rules | `(tactic| walk_at "eval ListComp") => `(tactic| (k_here; (with_reducible show wpAny _ _ (eval (Expr.ListComp (Expr.Subscript _ (Expr.Slice _ _ _ _) _) _ _ _) _) _ _ _); refine Then.go ?_))
local macro_rules | `(tactic| walk_at "compareOp Is ref ref") => `(tactic| (k_here; refine Then.go ?_))
local macro_rules | `(tactic| walk_at "compareOp In str ref") => `(tactic| (k_here; refine Then.go ?_))
local macro_rules | `(tactic| walk_at "subscriptTail") => `(tactic| (k_here; (with_reducible show wpAny _ _ (subscriptTail (Expr.Name _ _) (Expr.Name _ _) (Value.ref _) (Value.str _ _)) _ _ _); refine Then.go ?_))
theorem pickT {h₀ h : Heap} {L a b c I tx : Addr} {oa ob oc oI otx : Obj} {r : List (Addr × Obj)} (N : News h₀ L h ((a, oa) :: (b, ob) :: (c, oc) :: (I, oI) :: (tx, otx) :: r)) : News h₀ L h ((I, oI) :: (tx, otx) :: r) :=
  fun q hq => N q (.tail _ (.tail _ (.tail _ hq)))
theorem pickA {h₀ h : Heap} {L a b c tx sg d e x g t1 t2 : Addr} {oa ob oc otx osg od oe ox og o1 o2 : Obj} (N : News h₀ L h [(a, oa), (b, ob), (c, oc), (tx, otx), (sg, osg), (d, od), (e, oe), (x, ox), (g, og), (t1, o1), (t2, o2)]) :
    News h₀ L h ((tx, otx) :: (x, ox) :: [(a, oa), (sg, osg), (d, od), (e, oe), (g, og), (t1, o1), (t2, o2)]) := by
  repeat (first | exact List.forall_mem_nil _ | refine' List.forall_mem_cons.mpr ⟨N _ (by k_mem), ?_⟩)
/-- marks the law's last statement -/
noncomputable def LastPart : Prop := True
local macro_rules | `(tactic| walk_at "eval ListComp") => `(tactic| (k_here; (with_reducible show wpAny _ _ (eval (Expr.ListComp (Expr.Tuple _ _ _) _ _ _) _) _ _ _); refine Then.go ?_))
local macro_rules | `(tactic| walk_at "compareOp Eq ref ref") => `(tactic| (k_here; refine Then.go ?_))
local macro_rules | `(tactic| walk_at "subscriptTail") => `(tactic| (k_here; (with_reducible rename LastPart => hlp5); (with_reducible show wpAny _ _ (subscriptTail _ _ (Value.ref _) (Value.int 2 _)) _ _ _); k_dflt (refine' use_tup2 ?k1 ?k2 ?k3 ?_; (case k1 => with_unfolding_all rfl); (case k2 => k_asm); (case k3 => k_mem)); (try dsimp only)))
local macro_rules | `(tactic| walk_at "subscriptTail") => `(tactic| (k_here; (with_reducible rename LastPart => hlp5); (with_reducible show wpAny _ _ (subscriptTail _ _ (Value.ref _) (Value.int 0 _)) _ _ _); k_dflt (refine' use_tup0 ?k1 ?k2 ?k3 ?_; (case k1 => with_unfolding_all rfl); (case k2 => k_asm); (case k3 => k_mem)); (try dsimp only)))
local macro_rules | `(tactic| walk_at "And") => `(tactic| ((with_reducible rename LastPart => hlp5); refine Then.go ?_))
-- the head would lay a twin of each object that it makes, whose proof is quadratic in size; where the twin's name is taken it lays none
theorem law_all.tw357486453476387696 : True := True.intro
theorem law_all.tw2103784332974290115 : True := True.intro
theorem law_all.tw11645036861229193933 : True := True.intro
theorem law_all.tw17240311926567722313 : True := True.intro
theorem law_all.tw12729013581757030507 : True := True.intro
theorem law_all.tw7406990479455149028 : True := True.intro
theorem law_all.tw3983192056104361193 : True := True.intro
theorem law_all.tw9642360315720231220 : True := True.intro
theorem law_all.tw15327138436386969399 : True := True.intro
theorem law_all.tw13274840464982359763 : True := True.intro
theorem law_all.tw7318158564511299729 : True := True.intro
theorem law_all.tw17074971947010181610 : True := True.intro
theorem law_all.tw2161507521139017325 : True := True.intro
theorem law_all.tw10253732280001569212 : True := True.intro
theorem law_all.tw10623982647197800651 : True := True.intro
theorem law_all.tw16348121039232670680 : True := True.intro
theorem law_all.tw14640322939972922974 : True := True.intro
theorem law_all.tw9566990318872648606 : True := True.intro
theorem law_all.tw6814774676840398217 : True := True.intro
theorem law_all.tw15638214500589831823 : True := True.intro
theorem law_all.tw2126261026752179203 : True := True.intro
theorem law_all.tw15640896081885072018 : True := True.intro
theorem law_all.tw10340441938079615943 : True := True.intro
theorem law_all.tw16654605471950451980 : True := True.intro
theorem law_all.tw11020806828292283134 : True := True.intro
theorem law_all.tw4261436866732715612 : True := True.intro
theorem law_all.tw8585119295471724657 : True := True.intro
theorem law_all.tw11185291794543270386 : True := True.intro
theorem law_all.tw9621619661464635597 : True := True.intro
theorem law_all.tw12168520589393599259 : True := True.intro
theorem law_all.tw11660793784710997211 : True := True.intro
theorem law_all.tw13048455256248648906 : True := True.intro
theorem law_all.tw12308355309068749982 : True := True.intro
theorem law_all.tw2252203913613538044 : True := True.intro
theorem law_all.tw10099999976016208152 : True := True.intro
theorem law_all.tw2534205154373081525 : True := True.intro
theorem law_all.tw9144500139776326259 : True := True.intro
theorem law_all.tw8102590376130340518 : True := True.intro
theorem law_all.tw13809103348235374114 : True := True.intro
theorem law_all.tw7791439051762490624 : True := True.intro
theorem law_all.tw1071026390990159442 : True := True.intro
theorem law_all.tw16317050728709778059 : True := True.intro
theorem law_all.tw404534946110283943 : True := True.intro
theorem law_all.tw11169120883424520007 : True := True.intro
theorem law_all.tw14022319627245857414 : True := True.intro
theorem law_all.tw3296963836593520940 : True := True.intro
theorem law_all.tw17505383195976113558 : True := True.intro
theorem law_all.tw11427589630418949975 : True := True.intro
theorem law_all.tw569701484050765398 : True := True.intro
theorem law_all.tw11977895914950762854 : True := True.intro
theorem law_all.tw17613353281601113540 : True := True.intro
theorem law_all.tw3903515962272563663 : True := True.intro
theorem law_all.tw15111771918000721386 : True := True.intro
theorem law_all.tw5099097261256123588 : True := True.intro
theorem law_all.tw7574916185476446870 : True := True.intro
theorem law_all.tw9555419001147112673 : True := True.intro
theorem law_all.tw4638716497167235156 : True := True.intro
theorem law_all.tw1348223827413200919 : True := True.intro
theorem law_all.tw15102585243479572927 : True := True.intro
theorem law_all.tw1819660966834464121 : True := True.intro
theorem law_all.tw13760851721862378156 : True := True.intro
theorem law_all.tw5810238935025566227 : True := True.intro
theorem law_all.tw9310598725500422130 : True := True.intro
theorem law_all.tw1592464377872422232 : True := True.intro
theorem law_all.tw9167269915635825372 : True := True.intro
theorem law_all.tw15994752243992478524 : True := True.intro
theorem law_all.tw7570389025846386837 : True := True.intro
theorem law_all.tw11509529326707108785 : True := True.intro
theorem law_all.tw5542367601281971411 : True := True.intro
theorem law_all.tw3012268511640468390 : True := True.intro
theorem law_all.tw4073406199993252850 : True := True.intro
theorem law_all.tw1244168298268136379 : True := True.intro
theorem law_all.tw9278401209076089947 : True := True.intro
theorem law_all.tw1988555749612562791 : True := True.intro
theorem law_all.tw8192627400900402444 : True := True.intro
theorem law_all.tw6260754433316679355 : True := True.intro
theorem law_all.tw254210294449290986 : True := True.intro
theorem law_all.tw16108003277724382137 : True := True.intro
theorem law_all.tw1115970785884932992 : True := True.intro
theorem law_all.tw185478952616494882 : True := True.intro
theorem law_all.tw1908834790331025158 : True := True.intro
theorem law_all.tw14512922981909422826 : True := True.intro
theorem law_all.tw6471123649784635168 : True := True.intro
theorem law_all.tw8093662343118647261 : True := True.intro
theorem law_all.tw17699220586243776058 : True := True.intro
theorem law_all.tw5429858767254799258 : True := True.intro
theorem law_all.tw17535888986555872392 : True := True.intro
theorem law_all.tw18425384942027050804 : True := True.intro
theorem law_all.tw1347740606709914761 : True := True.intro
theorem law_all.tw13838683757722122955 : True := True.intro
theorem law_all.tw834733554477404351 : True := True.intro
theorem law_all.tw9015332790510971594 : True := True.intro
theorem law_all.tw1458131495679319933 : True := True.intro
theorem law_all.tw10632998686855480601 : True := True.intro
theorem law_all.tw5467091673537627360 : True := True.intro
theorem law_all.tw10931665363374019630 : True := True.intro
theorem law_all.tw2127671843654578818 : True := True.intro
theorem law_all.tw7219402698325937587 : True := True.intro
theorem law_all.tw7093450904264552785 : True := True.intro
theorem law_all.tw7042643379613257464 : True := True.intro
theorem law_all.tw5925129876391146066 : True := True.intro
theorem law_all.tw7497220510776412333 : True := True.intro
theorem law_all.tw3416886346130291467 : True := True.intro
theorem law_all.tw17657424406159520245 : True := True.intro
theorem law_all.tw16724615851476500005 : True := True.intro
theorem law_all.tw8406315387685492880 : True := True.intro
theorem law_all.tw5332743953270975010 : True := True.intro
theorem law_all.tw2425498562415444253 : True := True.intro
theorem law_all.tw7647884552941119451 : True := True.intro
theorem law_all.tw3560663033078476128 : True := True.intro
theorem law_all.tw2313850143442069465 : True := True.intro
theorem law_all.tw4629605032302363013 : True := True.intro
theorem law_all.tw2897607846274201091 : True := True.intro
theorem law_all.tw15816446151563789378 : True := True.intro
theorem law_all.tw11378994670534948722 : True := True.intro
theorem law_all.tw15693939393655280204 : True := True.intro
theorem law_all.tw11195006048519719982 : True := True.intro
theorem law_all.tw1909231634321623422 : True := True.intro
theorem law_all.tw4875587917594351017 : True := True.intro
theorem law_all.tw11655911931479345256 : True := True.intro
theorem law_all.tw3658401073832251761 : True := True.intro
theorem law_all.tw6513319782983348548 : True := True.intro
theorem law_all.tw1200807466883419909 : True := True.intro
theorem law_all.tw1702886262042523489 : True := True.intro
theorem law_all.tw10607254079690313744 : True := True.intro
theorem law_all.tw4800166454244708440 : True := True.intro
theorem law_all.tw2337115943774737595 : True := True.intro
theorem law_all.tw10425333190776739551 : True := True.intro
theorem law_all.tw5621885739728775620 : True := True.intro
theorem law_all.tw12578298129586543361 : True := True.intro
theorem law_all.tw5285307726481897559 : True := True.intro
theorem law_all.tw12020096104662128255 : True := True.intro
theorem law_all.tw13323004776771469176 : True := True.intro
theorem law_all.tw9729604732972894722 : True := True.intro
theorem law_all.tw12415205634060267573 : True := True.intro
theorem law_all.tw17769878892396552597 : True := True.intro
theorem law_all.tw6592884879708733306 : True := True.intro
theorem law_all.tw9400421687833027045 : True := True.intro
theorem law_all.tw7424292630044055020 : True := True.intro
theorem law_all.tw14384918623772240547 : True := True.intro
theorem law_all.tw857312800663944748 : True := True.intro
theorem law_all.tw9929707098585528879 : True := True.intro
theorem law_all.tw15053150841094675366 : True := True.intro
theorem law_all.tw14135679151287715560 : True := True.intro
theorem law_all.tw6022211634629375331 : True := True.intro
theorem law_all.tw9987792911408698340 : True := True.intro
theorem law_all.tw18223944042725728250 : True := True.intro
theorem law_all.tw3508381569386297567 : True := True.intro
theorem law_all.tw10780945830723714241 : True := True.intro
theorem law_all.tw9337859482809679654 : True := True.intro
theorem law_all.tw5199301434253951998 : True := True.intro
theorem law_all.tw1682832674239571567 : True := True.intro
theorem law_all.tw17671693468899418834 : True := True.intro
theorem law_all.tw16831322107450627596 : True := True.intro
theorem law_all.tw4105255371170773908 : True := True.intro
theorem law_all.tw11968179528029030403 : True := True.intro
theorem law_all.tw5386138778478946084 : True := True.intro
theorem law_all.tw1006284481315042348 : True := True.intro
theorem law_all.tw2546739434980175933 : True := True.intro
theorem law_all.tw7385059913978287034 : True := True.intro
theorem law_all.tw1166129813771130549 : True := True.intro
theorem law_all.tw11566998951525393313 : True := True.intro
theorem law_all.tw801417409540640141 : True := True.intro
theorem law_all.tw17818739092667572935 : True := True.intro
theorem law_all.tw14483480384061991028 : True := True.intro
theorem law_all.tw11283148420750326516 : True := True.intro
theorem law_all.tw10495323473316150548 : True := True.intro
theorem law_all.tw2619257411496593575 : True := True.intro
theorem law_all.tw8559622642134532576 : True := True.intro
theorem law_all.tw5058365699104195747 : True := True.intro
theorem law_all.tw14058198244844264512 : True := True.intro
theorem law_all.tw18438550808169337630 : True := True.intro
theorem law_all.tw12491990524712166927 : True := True.intro
theorem law_all.tw4663659113027530946 : True := True.intro
theorem law_all.tw17073913150402608559 : True := True.intro
theorem law_all.tw6064550380648306667 : True := True.intro
theorem law_all.tw3426539022656043222 : True := True.intro
theorem law_all.tw14161950200463332022 : True := True.intro
theorem law_all.tw2791512771193701167 : True := True.intro
theorem law_all.tw3728958221131766131 : True := True.intro
theorem law_all.tw7382394883274062982 : True := True.intro
theorem law_all.tw11986533732874898875 : True := True.intro
theorem law_all.tw9758465039191818689 : True := True.intro
theorem law_all.tw3116252448390264038 : True := True.intro
theorem law_all.tw4665142225715192508 : True := True.intro
theorem law_all.tw3342927033540988513 : True := True.intro
theorem law_all.tw8732206733074496467 : True := True.intro
theorem law_all.tw9815603410090176864 : True := True.intro
theorem law_all.tw1756717570143565084 : True := True.intro
theorem law_all.tw644193453371022997 : True := True.intro
theorem law_all.tw5391715999942285979 : True := True.intro
theorem law_all.tw10969439180591476309 : True := True.intro
theorem law_all.tw16436836394604217106 : True := True.intro
theorem law_all.tw628547874108221443 : True := True.intro
theorem law_all.tw16377440506400284361 : True := True.intro
theorem law_all.tw13211181752546427078 : True := True.intro
theorem law_all.tw14236084546645660719 : True := True.intro
theorem law_all.tw16389678097679539626 : True := True.intro
theorem law_all.tw15521878186831703227 : True := True.intro
theorem law_all.tw12703074045546933829 : True := True.intro
theorem law_all.tw1068153473233568800 : True := True.intro
theorem law_all.tw11194228370837134999 : True := True.intro
theorem law_all.tw8305597428437692698 : True := True.intro
theorem law_all.tw6564360385875737041 : True := True.intro
theorem law_all.tw6821728593225765917 : True := True.intro
theorem law_all.tw18318111067608363793 : True := True.intro
theorem law_all.tw2225694422541459837 : True := True.intro
theorem law_all.tw16745809935298821572 : True := True.intro
theorem law_all.tw1487786111206980130 : True := True.intro
theorem law_all.tw18180275025638004960 : True := True.intro
theorem law_all.tw10470740866990187283 : True := True.intro
theorem law_all.tw6317846471518068684 : True := True.intro
theorem law_all.tw9168384875350026409 : True := True.intro
theorem law_all.tw16768936007509957499 : True := True.intro
theorem law_all.tw11085147635474315433 : True := True.intro
theorem law_all.tw12610587468927266379 : True := True.intro
theorem law_all.tw7290121776363987770 : True := True.intro
theorem law_all.tw7271498159299846290 : True := True.intro
theorem law_all.tw11833566044642688545 : True := True.intro
theorem law_all.tw782427809645370415 : True := True.intro
theorem law_all.tw16741880675132489432 : True := True.intro
theorem law_all.tw7416931893851735294 : True := True.intro
theorem law_all.tw12507762813244862470 : True := True.intro
theorem law_all.tw2872085493576920064 : True := True.intro
theorem law_all.tw14643942157258506644 : True := True.intro
theorem law_all.tw6245127572739615777 : True := True.intro
theorem law_all.tw10145363553656391591 : True := True.intro
theorem law_all.tw4011130107991819787 : True := True.intro
theorem law_all.tw7241301525396740710 : True := True.intro
theorem law_all.tw6456847839567275990 : True := True.intro
theorem law_all.tw289511000256421866 : True := True.intro
theorem law_all.tw8259473591719373357 : True := True.intro
theorem law_all.tw13515836412680247291 : True := True.intro
theorem law_all.tw16838179679014408406 : True := True.intro
theorem law_all.tw2465578340897827915 : True := True.intro
theorem law_all.tw3263060017730090603 : True := True.intro
theorem law_all.tw4338267340049963969 : True := True.intro
theorem law_all.tw7911531064090814180 : True := True.intro
theorem law_all.tw1673886441754450272 : True := True.intro
theorem law_all.tw937055499877386264 : True := True.intro
theorem law_all.tw17198419215744740974 : True := True.intro
theorem law_all.tw15982079766070313398 : True := True.intro
theorem law_all.tw8937883705780218553 : True := True.intro
theorem law_all.tw2763200530551224835 : True := True.intro
theorem law_all.tw3602784471345507114 : True := True.intro
theorem law_all.tw3986953027485292477 : True := True.intro
theorem law_all.tw1408806660432250928 : True := True.intro
theorem law_all.tw15531187071664079159 : True := True.intro
theorem law_all.tw16413752452701970063 : True := True.intro
theorem law_all.tw9036414278844654636 : True := True.intro
theorem law_all.tw17227298659443432083 : True := True.intro
theorem law_all.tw11407212017213923087 : True := True.intro
theorem law_all.tw5945882358115643694 : True := True.intro
theorem law_all.tw11779399842900871346 : True := True.intro
theorem law_all.tw11575233253633470811 : True := True.intro
theorem law_all.tw4449761216389261190 : True := True.intro
theorem law_all.tw1684386024576819110 : True := True.intro
theorem law_all.tw4547236602926478784 : True := True.intro
theorem law_all.tw7296818474457393607 : True := True.intro
theorem law_all.tw9389932311233280350 : True := True.intro
theorem law_all.tw6352045179492744985 : True := True.intro
theorem law_all.tw13760747126890918739 : True := True.intro
theorem law_all.tw15275527861284700546 : True := True.intro
theorem law_all.tw171365707198236061 : True := True.intro
theorem law_all.tw15743857825236497588 : True := True.intro
theorem law_all.tw16850067431916028951 : True := True.intro
theorem law_all.tw1115311737908471259 : True := True.intro
theorem law_all.tw14232367337319313231 : True := True.intro
theorem law_all.tw15753174923161979217 : True := True.intro
theorem law_all.tw13367176642022358155 : True := True.intro
theorem law_all.tw3328231346644923771 : True := True.intro
theorem law_all.tw13794602993731048600 : True := True.intro
theorem law_all.tw15696156366995490489 : True := True.intro
theorem law_all.tw10300875812035996732 : True := True.intro
theorem law_all.tw3672090284324724409 : True := True.intro
theorem law_all.tw1479463740304099301 : True := True.intro
theorem law_all.tw3325111520719290175 : True := True.intro
theorem law_all.tw18383949787495555429 : True := True.intro
theorem law_all.tw12836747770095448064 : True := True.intro
theorem law_all.tw5115208876715822759 : True := True.intro
theorem law_all.tw4959470712613272833 : True := True.intro
theorem law_all.tw1288270072008814257 : True := True.intro
theorem law_all.tw7166196463798858904 : True := True.intro
theorem law_all.tw10430763804090729998 : True := True.intro
theorem law_all.tw17311543511305506410 : True := True.intro
theorem law_all.tw8295653638501232855 : True := True.intro
theorem law_all.tw7459220149864008621 : True := True.intro
theorem law_all.tw14115007137499183204 : True := True.intro
theorem law_all.tw7209142699435546151 : True := True.intro
theorem law_all.tw16829598718399601788 : True := True.intro
theorem law_all.tw2238069962009214901 : True := True.intro
theorem law_all.tw15175368528575537740 : True := True.intro
theorem law_all.tw11596821628577882342 : True := True.intro
theorem law_all.tw17824699565076465075 : True := True.intro
theorem law_all.tw168551618296024960 : True := True.intro
theorem law_all.tw11666791612657790110 : True := True.intro
theorem law_all.tw7518268271031788722 : True := True.intro
theorem law_all.tw11266150474529332087 : True := True.intro
theorem law_all.tw16371026202757247076 : True := True.intro
theorem law_all.tw374766727668220859 : True := True.intro
theorem law_all.tw18084819778460367582 : True := True.intro
theorem law_all.tw1295678769589767229 : True := True.intro
theorem law_all.tw10427768884268684552 : True := True.intro
theorem law_all.tw13581327203777572028 : True := True.intro
theorem law_all.tw11156016171303442314 : True := True.intro
theorem law_all.tw645013614473375241 : True := True.intro
theorem law_all.tw8836462397961589918 : True := True.intro
theorem law_all.tw11587524997120335971 : True := True.intro
theorem law_all.tw10294897870698960256 : True := True.intro
theorem law_all.tw18437768301239656569 : True := True.intro
theorem law_all.tw7297819598837024618 : True := True.intro
theorem law_all.tw9741297799410488584 : True := True.intro
theorem law_all.tw15877617104253876215 : True := True.intro
theorem law_all.tw17831633481768180021 : True := True.intro
theorem law_all.tw3049941219963327188 : True := True.intro
theorem law_all.tw6818535541638068524 : True := True.intro
theorem law_all.tw7817977360859998167 : True := True.intro
theorem law_all.tw4408054295985219607 : True := True.intro
theorem law_all.tw3226911033302893226 : True := True.intro
theorem law_all.tw11090485264053204359 : True := True.intro
theorem law_all.tw17461023701970706658 : True := True.intro
theorem law_all.tw196974008228917347 : True := True.intro
theorem law_all.tw4607750278909125284 : True := True.intro
theorem law_all.tw15189314362614519228 : True := True.intro
theorem law_all.tw11572952145666636933 : True := True.intro
theorem law_all.tw11777551436872283101 : True := True.intro
theorem law_all.tw8509970179608164124 : True := True.intro
theorem law_all.tw5007728179111998763 : True := True.intro
theorem law_all.tw31263012393092130 : True := True.intro
theorem law_all.tw17138794587834298416 : True := True.intro
theorem law_all.tw6250623550151289363 : True := True.intro
theorem law_all.tw14448975606232184337 : True := True.intro
theorem law_all.tw2942426997265644656 : True := True.intro
theorem law_all.tw18294237117737212483 : True := True.intro
theorem law_all.tw7292434958787203408 : True := True.intro
theorem law_all.tw17120200779325065073 : True := True.intro
theorem law_all.tw17413550076941298003 : True := True.intro
theorem law_all.tw11316630271383740818 : True := True.intro
theorem law_all.tw34981568851968291 : True := True.intro
theorem law_all.tw3907663706730131783 : True := True.intro
theorem law_all.tw16802804513485658213 : True := True.intro
theorem law_all.tw2030871139163601056 : True := True.intro
theorem law_all.tw7244142420057014546 : True := True.intro
theorem law_all.tw11836482064631991793 : True := True.intro
theorem law_all.tw3707600311073335261 : True := True.intro
theorem law_all.tw16610364562264112213 : True := True.intro
theorem law_all.tw15923167850487458248 : True := True.intro
theorem law_all.tw17238692654854937651 : True := True.intro
theorem law_all.tw17633126580248655646 : True := True.intro
theorem law_all.tw4179209112946984403 : True := True.intro
theorem law_all.tw11607456442057401149 : True := True.intro
theorem law_all.tw12481217338035120217 : True := True.intro
theorem law_all.tw16577843217576899742 : True := True.intro
set_option Elab.async true in
theorem law_all : PySem.Challenge.rw_in0008_01.Holds := by
  w_on
  o_law
  o_head (kmHook hd.heap_1 [2, 3, 33, 35, 36, 38, 39, 47, 49, 50, 52, 53, 54, 55, 57, 58, 60, 61, 62, 64, 65, 67, 68, 69, 71, 72, 74, 75, 76, 77, 78, 79, 80, 83, 86, 91, 92, 94, 95, 97, 98, 99, 101, 102, 104, 105, 106, 107, 108, 109, 110, 113, 116, 121, 122, 123, 124, 126, 127, 129, 130, 131, 133, 134, 136, 137, 138, 139, 140, 141, 142, 144, 145, 147, 148, 149, 151, 152, 154, 155, 156, 158, 159, 161, 162, 163, 165, 166, 168, 169, 170, 171, 172, 174, 175, 177, 179, 180, 181, 184, 191, 193, 194, 196, 197, 198, 199, 200, 201, 202, 203, 204, 207, 209, 210, 212, 213, 214, 217, 218, 219, 221, 222, 224, 225, 226, 229, 230, 231, 233, 234, 236, 237, 238, 241, 242] (fun _ => by kernel_rfl) [100, 232])
  (case hw => w_witness2)
  k_go0
  rename_i w s₀ s₁ mg mb G Y fa oF pm cd doc ho hcd hg0 XM V0 T0 Bt TE TW ns hs hlay0 hLy hr1 hl2 as8 as7 la vs as4 hLs ra w1 r0 hIv hr2 hc1 hc2 hDf h₁ tk₁ c4 c3 c2 c1 dc4 dc3 dc2 dc1 X0 X T K CH F0 N0 l0
  repeat' (first | (k_unfold; (try dsimp only)) | walk1 | (dsimp only; walk1))
  rename_i sg hA lA hB oS dS tkA tx hC lC hD il hE lE Dsl wsl hF hIs hCs hLs lF lst ws hG F9 N9 hI lG
  have N10 := pickA N9
  clear N9
  have hlst := (N10 _ (.tail _ (.tail _ (.head _)))).1
  refine' Then.mk (iter_cellJ (vs := ws.toArray) (TxtJ _ tx (s₁.heap.objs.size + 1 + 1) [(lst, W.listOf ws.toArray 0), (sg, W.listOf _ 0), (s₁.heap.objs.size + 1 + 1 + 1 + 1, c4), (s₁.heap.objs.size + 1 + 1 + 1, c3), (s₁.heap.objs.size + 1, oS), (100, tabObj #[]), (232, tabObj #[])]) rfl hlst ⟨_, hlst, rfl, _, rfl⟩ F9 N10 ?hk ?h0 ?turn ?done ?pe)
  (case pe => passes_own)
  (case hk => rintro i m n ⟨its, k, ox, dv, xv, ts, rfl, rfl, _⟩; exact .inr (.tail _ (.tail _ (.head _))))
  (case h0 => exact TxtJ.zero dc2)
  (case turn =>
    intro I i hi m₁ news₁ h tk oI hcI hoff hoff2 hJ F N
    obtain ⟨its, k, ox, dv, xv, ts, rfl, rfl, hox, hts, hlen⟩ := hJ
    obtain ⟨ti, hit⟩ := hI.get i (([11316840,227597,629575,91989294,980013] ++ List.take 8 ns)[i]'(by rw [← hI.length]; simpa using hi)) (by simp)
    have hiv : ws.toArray[i] = _ := Option.some.inj ((show some ws.toArray[i] = ws[i]? by simp).trans hit)
    rw [hiv]
    have htI : (tx : Nat) ≠ I := hoff (_, _) (.head _)
    have hxI : (s₁.heap.objs.size + 1 + 1 : Nat) ≠ I := hoff (_, _) (.tail _ (.head _))
    clear G Y XM V0 T0 Bt TE TW hs hlay0 hLy hr1 hl2 ra w1 r0 hr2 hDf X0 hT9 hT8 ho hcd N10 F9 hlst
    dsimp only
    repeat' (first | (k_unfold; (try dsimp only)) | walk1 | (dsimp only; walk1))
    rename_i ox' F1 N1 dx' h2 tk2 t1 t2 t3 hr F2 N2 hk2
    clear F1 N1 hk2
    refine Then.mk (LCg.CompSrc.range (n := 9) rfl F2 N2 hr (by decide) (by decide) (by rw [sizeLine_eq]; exact Nat.le_of_ble_eq_true rfl) fun g => restQ (fun _ v => OneSign v) ?eturn ?fin)
    (case eturn =>
      intro i2 v2 I2 oI2 C2 oC2 D2 m2 ys2 h2 tk2 E2 hi2 hv2 hC2 hx2 F3 N3 off3 ne3
      obtain ⟨t2, rfl⟩ := hv2
      have hk0 : (0 : Int) ≤ 0 + (i2 : Int) := by omega
      have hk9 : (0 + (i2 : Int)) < 9 := by omega
      generalize (0 + (i2 : Int)) = kk at hx2 hk0 hk9
      clear F2 N2
      dsimp only
      repeat' (first | (k_unfold; (try dsimp only)) | walk1 | (dsimp only; walk1))
      all_goals (refine Then.mk ⟨h2, _, _, rfl, F3, N3, off3, True.intro, rfl, ?_⟩)
      all_goals first | exact one_a | exact one_b | exact one_dot | exact one_colon | exact one_eq | exact one_sp | exact one_nl | exact one_E)
    (case fin =>
      intro ys hyl hyR
      obtain ⟨e0, e1, e2, e3, e4, e5, e6, e7, e8, r0, r1, r2, r3, r4, r5, r6, r7, r8, rfl, g0, g1, g2, g3, g4, g5, g6, g7, g8⟩ := nine_signs hyl hyR
      unfold LCg.FinA
      intro D5 h5 tk5 F5 N5 o5
      simp only [LCg.Off1, and_true] at o5
      clear F2 N2
      dsimp only
      repeat' (first | (k_unfold; (try dsimp only)) | walk1 | (dsimp only; walk1))
      rename_i lk lk5 lk1 lk2 lk3 lk4 Dj hj Fj Nj lj tj1 kj1 tj2 kj2 aj
      refine Then.mk ?_
      rw [line_text]
      clear aj
      refine' append_K Fj Nj ?k3 ?_ ?z
      rename (@LT.lt Nat _ D5 _ ∧ _) => lk
      (case k3 =>
        refine' Upd.tail ?ua (Upd.tail ?ub (Upd.tail ?uc (Upd.tail ?ud (Upd.head ?ue))))
        (case ua => exact Nat.ne_of_gt lj.2.2.2.1)
        (case ub => exact Nat.ne_of_gt lk.2.2.1)
        (case uc => exact o5.2.1.symm)
        (case ud => exact htI.symm)
        (case ue => exact List.forall_mem_cons.mpr ⟨Nat.ne_of_lt lC.2.2.2.1, List.forall_mem_cons.mpr ⟨Nat.ne_of_gt lG.2.2.1, List.forall_mem_cons.mpr ⟨Nat.ne_of_lt lC.1, List.forall_mem_cons.mpr ⟨Nat.ne_of_lt lC.2.1, List.forall_mem_cons.mpr ⟨Nat.ne_of_lt lC.2.2.1, List.forall_mem_cons.mpr ⟨Nat.ne_of_lt lC.2.2.2.2.1, List.forall_mem_cons.mpr ⟨Nat.ne_of_lt lC.2.2.2.2.2.1, List.forall_mem_cons.mpr ⟨Nat.ne_of_lt lC.2.2.2.2.2.2, List.forall_mem_nil _⟩⟩⟩⟩⟩⟩⟩⟩))
      rotate_left
      · have z1 := hts.1.length
        have z2 := hI.length
        have z3 : (List.take 8 ns).length ≤ 8 := by rw [List.length_take]; omega
        rw [sizeLine_eq]
        simp only [Array.length_toList, List.size_toArray, List.length_append, List.length_cons, List.length_nil] at z1 z2 hi
        omega
      · intro h6 F6 N6
        dsimp only
        repeat' (first | (k_unfold; (try dsimp only)) | walk1 | (dsimp only; walk1))
        obtain ⟨nn, hline⟩ := line_ok g0 g1 g2 g3 g4 g5 g6 g7 g8
        refine ⟨h6, _, _, _, rfl, F6, pickT N6, ?_, TxtJ.next dx' hts hlen hline⟩
        exact List.forall_mem_cons.mpr ⟨htI, List.forall_mem_cons.mpr ⟨hxI, fun q hq => hoff q (.tail _ (.tail _ hq))⟩⟩))
  (case done =>
    intro m' news' h' tk F N hJ
    obtain ⟨its, k, ox, dv, xv, ts, rfl, rfl, hox, hts, hlen⟩ := hJ
    dsimp only
    repeat' (first | (k_unfold; (try dsimp only)) | walk1 | (dsimp only; walk1))
    refine Then.mk ?_
    refine' use_books (rest := [(tx, W.listOf its k), (s₁.heap.objs.size + 1 + 1 + 1 + 1, c4), (s₁.heap.objs.size + 1 + 1 + 1, c3)]) F N ?Xub ?Tub ?C1ub ?C2ub ?h1ub ?h2ub ?hrub ?hr1ub ?hr2ub (.head _) hts ?hlnub rfl (Nat.le_of_ble_eq_true rfl) (Nat.le_of_ble_eq_true rfl) ?_
    (case Xub => assumption)
    (case Tub => assumption)
    (case C1ub => assumption)
    (case C2ub => assumption)
    (case h1ub => k_mem)
    (case h2ub => k_mem)
    (case hrub => exact List.forall_mem_cons.mpr ⟨by k_mem, List.forall_mem_cons.mpr ⟨by k_mem, List.forall_mem_cons.mpr ⟨by k_mem, List.forall_mem_nil _⟩⟩⟩)
    (case hr1ub => exact List.forall_mem_cons.mpr ⟨Nat.ne_of_gt lC.2.2.2.2.2.1, List.forall_mem_cons.mpr ⟨Nat.ne_of_gt (Nat.lt_of_lt_of_le l0.1 (Nat.le_add_right _ 4)), List.forall_mem_cons.mpr ⟨Nat.ne_of_gt (Nat.lt_of_lt_of_le l0.1 (Nat.le_add_right _ 3)), List.forall_mem_nil _⟩⟩⟩)
    (case hr2ub => exact List.forall_mem_cons.mpr ⟨Nat.ne_of_gt lC.2.2.2.2.2.2, List.forall_mem_cons.mpr ⟨Nat.ne_of_gt (Nat.lt_of_lt_of_le l0.2 (Nat.le_add_right _ 4)), List.forall_mem_cons.mpr ⟨Nat.ne_of_gt (Nat.lt_of_lt_of_le l0.2 (Nat.le_add_right _ 3)), List.forall_mem_nil _⟩⟩⟩)
    (case hlnub =>
      have z2 := hI.length
      have z3 : (List.take 8 ns).length ≤ 8 := by rw [List.length_take]; omega
      simp only [List.size_toArray, List.length_append, List.length_cons, List.length_nil] at hlen z2
      omega)
    intro h5 tk5 r nr B1 B2 tl kvs all F5 N5 hBk hrest hall
    clear F N
    dsimp only [List.cons_append, List.nil_append] at N5
    dsimp only
    repeat' (first | (k_unfold; (try dsimp only)) | walk1 | (dsimp only; walk1))
    refine Then.mk ?_
    k_dflt (refine' storeX_C (o := c3) ?Fs0 ?Ns0 ?cs0 ?Us0 ?ds0 ?_ ?xas0 ?xbs0; (case xas0 => rfl); (case xbs0 => rfl); (case Fs0 => k_asm); (case Ns0 => k_asm); (case cs0 => rfl))
    (case Us0 =>
      refine' UpdF.tail ?u1s0 (UpdF.tail ?u2s0 (UpdF.tail ?u3s0 (UpdF.head ?u4s0)))
      (case u1s0 => exact (hrest _ (.tail _ (.tail _ (.head _)))).symm)
      (case u2s0 => exact Nat.ne_of_gt lC.2.2.1)
      (case u3s0 => exact Nat.succ_ne_self _)
      (case u4s0 => exact fun q hq => hall q hq _ (.tail _ (.tail _ (.head _)))))
    (case ds0 => k_asm)
    intro h6 oB F6 N6 dB
    (try dsimp only at N6)
    dsimp only
    repeat' (first | (k_unfold; (try dsimp only)) | walk1 | (dsimp only; walk1))
    rename_i h7 F7 N7
    have hsz : its.size = ts.length := by
      have z1 := hts.1.length
      simpa using z1
    have hl13 : ts.length ≤ 13 := by
      have z2 := hI.length
      have z3 : (List.take 8 ns).length ≤ 8 := by rw [List.length_take]; omega
      simp only [List.size_toArray, List.length_append, List.length_cons, List.length_nil] at hlen z2
      omega
    refine Then.mk (LCg.CompSrc.ledger (k := k) rfl F7 N7 (.tail _ (.head _)) (by rw [hsz, sizeLine_eq]; omega) fun g => restJ (DueJ _ ts) DueJ.zero ?dturn ?dfin)
    (case dturn =>
      intro i2 v2 I2 oI2 C2 oC2 D2 m2 ys2 h2 tk2 E2 nw hi2 hv2 hJ2 hC2 hx2 F3 N3 off3 ne3
      have hi3 : i2 < ts.length := by omega
      obtain ⟨t2, rfl⟩ := hts.1.get (i := i2) (a := v2) (b := ts[i2]) (by simpa using hv2) (by simp)
      have hlo := hts.2 ts[i2] (List.getElem_mem _)
      have hli : ts[i2]? = some ts[i2] := by simp
      generalize ts[i2] = l at hlo hli hx2 hv2
      clear F7 N7 hBk
      dsimp only
      repeat' (first | (k_unfold; (try dsimp only)) | walk1 | (dsimp only; walk1))
      rename_i a8 o8 h8 tk8 hT8a F8 N8 hn8
      refine Then.mk ⟨h8, _, _, rfl, F8, pickR N8, ⟨⟨(hn8 _ (.head _)).symm, (hn8 _ (.tail _ (.head _))).symm, (hn8 _ (.tail _ (.tail _ (.head _)))).symm⟩, off3⟩, ?_, DueJ.next hJ2 hli hT8a⟩
      obtain ⟨dts, rfl, _, _⟩ := hJ2
      exact .inr ⟨_, .tail _ (List.mem_append_right _ (.tail _ (.head _))), rfl, _, rfl⟩)
    (case dfin =>
      intro ys nw hJ9
      obtain ⟨dts, rfl, hTd, hdc⟩ := hJ9
      unfold LCg.FinE
      intro D9 h9 tk9 F9 N9 o9
      clear F7 N7
      dsimp only
      repeat' (first | (k_unfold; (try dsimp only)) | walk1 | (dsimp only; walk1))
      have N10 := pickD N9
      have m4 := (show (s₁.heap.objs.size + 1 + 1 + 1 + 1, c4) ∈ (s₁.heap.objs.size + 1 + 1 + 1 + 1, c4) :: (s₁.heap.objs.size + 1 + 1 + 1, oB) :: (tx, W.listOf its k) :: (D9, LCg.lst ys) :: (dts ++ all) from .head _)
      have htk : ts.take its.size = ts := List.take_of_length_le (by omega)
      rw [htk] at hTd
      refine Then.mk ?_
      k_dflt (refine' storeX_C (o := c4) ?Fs1 ?Ns1 ?cs1 ?Us1 ?ds1 ?_ ?xas1 ?xbs1; (case xas1 => rfl); (case xbs1 => rfl); (case Fs1 => exact F9); (case Ns1 => exact N10); (case cs1 => rfl))
      (case Us1 =>
        refine' UpdF.head ?u1s1
        (case u1s1 => exact List.forall_mem_cons.mpr ⟨(Nat.succ_ne_self _).symm, List.forall_mem_cons.mpr ⟨Nat.ne_of_gt lC.2.1, List.forall_mem_cons.mpr ⟨ne_cell N10 (.tail _ (.tail _ (.tail _ (.head _)))) m4 dc4 ⟨_, _, rfl⟩, all_append (fun q hq => ne_cell N10 (.tail _ (.tail _ (.tail _ (.tail _ (List.mem_append_left _ hq))))) m4 dc4 (by obtain ⟨l, hl⟩ := hdc q hq; exact told_seq hl)) (fun q hq => hall q hq _ (.tail _ (.head _)))⟩⟩⟩))
      (case ds1 => k_asm)
      intro h10 oD F10 N11 dD
      clear N9 N10 F9 m4
      dsimp only
      repeat' (first | (k_unfold; (try dsimp only)) | walk1 | (dsimp only; walk1))
      have mall : ∀ q ∈ all, q ∈ (s₁.heap.objs.size + 1 + 1 + 1 + 1, oD) :: (s₁.heap.objs.size + 1 + 1 + 1, oB) :: (tx, W.listOf its k) :: (D9, LCg.lst ys) :: (dts ++ all) := fun q hq => .tail _ (.tail _ (.tail _ (.tail _ (List.mem_append_right _ hq))))
      have mdts : ∀ q ∈ dts, q ∈ (s₁.heap.objs.size + 1 + 1 + 1 + 1, oD) :: (s₁.heap.objs.size + 1 + 1 + 1, oB) :: (tx, W.listOf its k) :: (D9, LCg.lst ys) :: (dts ++ all) := fun q hq => .tail _ (.tail _ (.tail _ (.tail _ (List.mem_append_left _ hq))))
      obtain ⟨tis, nt, mt, Tt⟩ := hBk.told
      refine Then.mk (told_ne_due (vs := tis.toList) (us := ys) ⟨_, (N11 _ (mall _ mt)).1, rfl, nt, by simp⟩ ⟨_, (N11 _ (.tail _ (.tail _ (.tail _ (.head _))))).1, rfl, _, rfl⟩ (fun q hq => (N11 _ (mall _ hq)).1) (fun q hq => (N11 _ (mdts _ hq)).1) Tt hTd hts.2 (Nat.le_of_ble_eq_true rfl) ?_)
      (try dsimp only)
      repeat' (first | (k_unfold; (try dsimp only)) | walk1 | (dsimp only; walk1))
      have hyl9 : ys.length = ts.length := hTd.length
      have hyl1 : ys.length ≤ 1000 := by omega
      refine Then.mk ?_
      k_dflt (refine LCt.Assign_ListComp_T (F₀ := F10) (by rfl) (by with_unfolding_all rfl) (by with_unfolding_all rfl) (by decide) (by rfl) (by decide) (by rfl) (by rfl) (by rfl) ?_)
      repeat' (first | (k_unfold; (try dsimp only)) | walk1 | (dsimp only; walk1))
      rename_i tq1 tq2 h11 tk11 u1 u2 u3 hrg F11 N12 hk11
      clear hk11
      refine Then.mk (LCt.CompSrcT.range (n := ys.length) rfl F11 N12 hrg (small_one (by decide) (by decide) (by omega) (by omega)) (by rw [rangeSize_one]; split <;> omega) (by rw [sizeLine_eq]; omega) fun g => restTJ (NameJ _ ts) NameJ.zero ?nturn ?nfin)
      (case nturn =>
        intro i2 v2 I2 oI2 C2 oC2 D2 m2 ns2 h2 tk2 E2 nw hi2 hv2 hJ2 hC2 hx2 F3 N3 off3 ne3
        obtain ⟨rfl, hns⟩ := hJ2
        obtain ⟨t2, rfl⟩ := hv2
        have hyi : ys[i2]? = some ys[i2] := by simp
        have hti : ts[i2]? = some (ts[i2]'(by omega)) := by simp
        obtain ⟨a2, o2, ea, ma, ta, tb, tc, td, rfl⟩ := hTd.get hyi hti
        rw [ea] at hyi
        clear F11 N12
        (try clear F10)
        dsimp only
        repeat' (first | (k_unfold; (try dsimp only)) | walk1 | (dsimp only; walk1))
        refine Then.mk ?_
        have hkm : ∀ l, ts[i2]? = some l → l = ts[i2]'(by omega) := fun l hl => Option.some.inj (hl.symm.trans hti)
        k_dflt (refine LCg.ListComp_U (F₀ := F3) (by with_unfolding_all rfl) (by decide) (by rfl) (by decide) (by rfl) ?_)
        repeat' (first | (k_unfold; (try dsimp only)) | walk1 | (dsimp only; walk1))
        rename_i Ds hs Fs Ns ls
        refine Then.mk (LCg.CompSrc.ledger (k := 0) rfl Fs Ns (.head _) (by rw [sizeLine_eq, List.size_toArray, List.length_take]; omega) fun g => restQ (fun j v => ∃ l t, ts[j]? = some l ∧ v = .str (keyF l) t) ?iturn ?ifin)
        (case iturn =>
          intro i4 v4 I4 oI4 C4 oC4 D4 m4 zs4 h4 tk4 E4 hi4 hv4 hC4 hx4 F4 N4 off4 ne4
          have hi5 : i4 < i2 := by rw [List.size_toArray, List.length_take] at hi4; omega
          have hy4 : ys[i4]? = some v4 := by simpa [hi5] using hv4
          have ht4 : ts[i4]? = some (ts[i4]'(by omega)) := by simp
          obtain ⟨a4, o4, rfl, ma4, xa, xb, xc, xd, rfl⟩ := hTd.get hy4 ht4
          clear Fs Ns F3 N3 ma hyi
          dsimp only
          repeat' (first | (k_unfold; (try dsimp only)) | walk1 | (dsimp only; walk1))
          exact Then.mk ⟨h4, _, _, rfl, F4, N4, off4, .inr ⟨_, .head _, rfl, _, rfl⟩, rfl, ⟨_, _, ht4, rfl⟩⟩)
        (case ifin =>
          intro zs hzl hzR
          rw [List.size_toArray, List.length_take, Nat.min_eq_left (by omega)] at hzl
          have hzS : StrsAre zs ((ts.take i2).map keyF) := strs_at hzl (by omega) hzR
          unfold LCg.FinE
          intro Dz hz tkz Fz Nz oz
          clear Fs Ns
          dsimp only
          repeat' (first | (k_unfold; (try dsimp only)) | walk1 | (dsimp only; walk1))
          refine Then.mk (notin_list_strs (vs := zs) ⟨_, (Nz _ (.head _)).1, rfl, _, rfl⟩ hzS ?_)
          rw [any_mem]
          by_cases hk : keyF (ts[i2]'(by omega)) ∈ (ts.take i2).map keyF
          · rw [decide_eq_true hk]
            rw [Bool.not_true]
            repeat' (first | (k_unfold; (try dsimp only)) | walk1 | (dsimp only; walk1))
            exact Then.mk ⟨hz, _, _, rfl, Fz, fun q hq => Nz q (.tail _ (.tail _ hq)), off3, True.intro, NameJ.hit hns hti (keysOf_mem.mpr hk)⟩
          · rw [decide_eq_false hk]
            rw [Bool.not_false]
            repeat' (first | (k_unfold; (try dsimp only)) | walk1 | (dsimp only; walk1))
            exact Then.mk ⟨hz, _, _, rfl, Fz, fun q hq => Nz q (.tail _ (.tail _ hq)), off3, True.intro, NameJ.miss hns hti (fun z => hk (keysOf_mem.mp z))⟩))
      (case nfin =>
        intro ns1 nw hJn
        obtain ⟨rfl, hns⟩ := hJn
        rw [List.take_of_length_le (by omega)] at hns
        have hnl : ns1.length ≤ 13 := by
          have z1 := hns.length
          have z2 := keysOf_length ts
          omega
        unfold LCg.FinA
        intro Dn hn tkn Fn Nn on
        clear F11 N12
        (try clear F10)
        dsimp only
        repeat' (first | (k_unfold; (try dsimp only)) | walk1 | (dsimp only; walk1))
        rename_i ll hl1 FL NL lL hA2 FA NA
        clear FL NL
        refine Then.mk ?_
        k_dflt (refine LCg.ListComp_U (F₀ := FA) (by rfl) (by decide) (by rfl) (by decide) (by rfl) ?_)
        repeat' (first | (k_unfold; (try dsimp only)) | walk1 | (dsimp only; walk1))
        refine Then.mk (LCg.CompSrc.ledger (k := k) rfl FA NA (by k_mem) (by rw [hsz, sizeLine_eq]; omega) fun g => restQ (fun _ v => OneStr v) ?cturn ?cfin)
        (case cturn =>
          intro i4 v4 I4 oI4 C4 oC4 D4 m4 zs4 h4 tk4 E4 hi4 hv4 hC4 hx4 F4 N4 off4 ne4
          obtain ⟨t4, rfl⟩ := hts.1.get (i := i4) (a := v4) (b := ts[i4]'(by omega)) (by simpa using hv4) (by simp)
          have hx10 : (ts[i4]'(by omega)).1.length ≤ 10 := (hts.2 _ (List.getElem_mem _)).1
          clear FA NA
          dsimp only
          repeat' (first | (k_unfold; (try dsimp only)) | walk1 | (dsimp only; walk1))
          rename_i h5 t5 k5 F5 N5 l5
          exact Then.mk ⟨h5, _, _, rfl, F5, N5, off4, .inr ⟨_, by k_mem, rfl, _, rfl⟩, rfl, ⟨_, _, rfl⟩⟩)
        (case cfin =>
          intro zs hzl hzR
          unfold LCg.FinE
          intro Dz hz tkz Fz Nz oz
          clear FA NA
          dsimp only
          repeat' (first | (k_unfold; (try dsimp only)) | walk1 | (dsimp only; walk1))
          rename_i hL FL2 NL2
          have hone1 := sv_one hns
          have hone2 := one_at hzR
          refine' Then.mk (iter_cellJ (ChkJ _ _) rfl (NL2 _ (.head _)).1 ⟨_, (NL2 _ (.head _)).1, rfl, _, rfl⟩ FL2 NL2 ?hkb ChkJ.zero ?lturn ?ldone ?peb)
          (case peb => passes_own)
          (case hkb => rintro i m n ⟨nv, rfl, rfl⟩; exact .inr (.head _))
          (case lturn =>
            intro I i hi m₁ news₁ h tk oI hcI hoff hoff2 hJ F N
            obtain ⟨nv, rfl, rfl⟩ := hJ
            obtain ⟨z, tz, hv⟩ := one_three hone1 hone2 rfl hi
            rw [hv]
            clear FL2 NL2 Fz Nz
            dsimp only
            repeat' (first | (k_unfold; (try dsimp only)) | walk1 | (dsimp only; walk1))
            rename_i h8 F8 N8
            have hZ1 := hBk.empty
            have hZ2 := hBk.book
            have hze : z ∉ ([] : List (Str × Addr)).map (·.1) := by simp
            by_cases hzk : z ∈ kvs.map (·.1)
            · obtain ⟨⟨z', lz⟩, hzl, rfl⟩ := List.mem_map.mp hzk
              refine Then.mk ?_
              refine' use_frozen_hit ?ha0 hZ2 F8 N8 (fun q hq => by repeat (first | exact List.mem_append_right _ hq | refine' List.Mem.tail _ ?_)) hzl (by assumption) ?_
              (case ha0 => with_unfolding_all rfl)
              (try dsimp only)
              repeat' (first | (k_unfold; (try dsimp only)) | walk1 | (dsimp only; walk1))
              refine Then.mk ?_
              refine' use_frozen_hit ?ha1 hZ2 F8 N8 (fun q hq => by repeat (first | exact List.mem_append_right _ hq | refine' List.Mem.tail _ ?_)) hzl (by assumption) ?_
              (case ha1 => with_unfolding_all rfl)
              (try dsimp only)
              repeat' (first | (k_unfold; (try dsimp only)) | walk1 | (dsimp only; walk1))
              refine Then.mk (wpAny_is_ref_self ?_)
              repeat' (first | (k_unfold; (try dsimp only)) | walk1 | (dsimp only; walk1))
              refine Then.mk (in_yes N8 (by repeat (first | exact List.Mem.head _ | refine' List.Mem.tail _ ?_)) hns (hBk.keys ▸ List.mem_map.mpr ⟨_, hzl, rfl⟩) ?_)
              repeat' (first | (k_unfold; (try dsimp only)) | walk1 | (dsimp only; walk1))
              refine Then.mk ?_
              refine' use_frozen_miss ?ha2 hZ1 F8 N8 (fun q hq => by repeat (first | exact List.mem_append_right _ hq | refine' List.Mem.tail _ ?_)) (fun _ _ e => e) hze rfl (Nat.le_of_ble_eq_true rfl) (Nat.le_of_ble_eq_true rfl) (by assumption) (by assumption) ?_
              (case ha2 => with_unfolding_all rfl)
              intro l1 tl1 hl1 tkl1 F81 N81 hn81
              (try dsimp only)
              repeat' (first | (k_unfold; (try dsimp only)) | walk1 | (dsimp only; walk1))
              refine Then.mk ?_
              refine' use_frozen_miss ?ha3 hZ1 F81 N81 (fun q hq => by repeat (first | exact List.mem_append_right _ hq | refine' List.Mem.tail _ ?_)) (fun _ _ e => e) hze rfl (Nat.le_of_ble_eq_true rfl) (Nat.le_of_ble_eq_true rfl) (by assumption) (by assumption) ?_
              (case ha3 => with_unfolding_all rfl)
              intro l2 tl2 hl2 tkl2 F82 N82 hn82
              (try dsimp only)
              repeat' (first | (k_unfold; (try dsimp only)) | walk1 | (dsimp only; walk1))
              refine Then.mk (wpAny_is_ref_other (hn82 _ (.head _)) (N82 _ (.tail _ (.head _))).1 (N82 _ (.head _)).1 (by simp) ?_)
              repeat' (first | (k_unfold; (try dsimp only)) | walk1 | (dsimp only; walk1))
              refine Then.mk (notin_no N82 (by repeat (first | exact List.Mem.head _ | refine' List.Mem.tail _ ?_)) hns (hBk.keys ▸ List.mem_map.mpr ⟨_, hzl, rfl⟩) ?_)
              repeat' (first | (k_unfold; (try dsimp only)) | walk1 | (dsimp only; walk1))
              exact ⟨_, _, _, _, rfl, F82, fun q hq => N82 q (.tail _ (.tail _ hq)), hoff, ChkJ.next⟩
            · have hkk := True.intro
              refine Then.mk ?_
              refine' use_frozen_miss ?ha4 hZ2 F8 N8 (fun q hq => by repeat (first | exact List.mem_append_right _ hq | refine' List.Mem.tail _ ?_)) (fun _ _ e => e) hzk rfl (Nat.le_of_ble_eq_true rfl) (Nat.le_of_ble_eq_true rfl) (by assumption) (by assumption) ?_
              (case ha4 => with_unfolding_all rfl)
              intro a1 ta1 ha1 tka1 Fa1 Na1 ha1
              (try dsimp only)
              repeat' (first | (k_unfold; (try dsimp only)) | walk1 | (dsimp only; walk1))
              refine Then.mk ?_
              refine' use_frozen_miss ?ha5 hZ2 Fa1 Na1 (fun q hq => by repeat (first | exact List.mem_append_right _ hq | refine' List.Mem.tail _ ?_)) (fun _ _ e => e) hzk rfl (Nat.le_of_ble_eq_true rfl) (Nat.le_of_ble_eq_true rfl) (by assumption) (by assumption) ?_
              (case ha5 => with_unfolding_all rfl)
              intro a2 ta2 ha2 tka2 Fa2 Na2 ha2
              (try dsimp only)
              repeat' (first | (k_unfold; (try dsimp only)) | walk1 | (dsimp only; walk1))
              refine Then.mk (wpAny_is_ref_other (ha2 _ (.head _)) (Na2 _ (.tail _ (.head _))).1 (Na2 _ (.head _)).1 (by simp) ?_)
              repeat' (first | (k_unfold; (try dsimp only)) | walk1 | (dsimp only; walk1))
              refine Then.mk (in_no Na2 (by repeat (first | exact List.Mem.head _ | refine' List.Mem.tail _ ?_)) hns (fun e => hzk (by rw [hBk.keys]; exact e)) ?_)
              repeat' (first | (k_unfold; (try dsimp only)) | walk1 | (dsimp only; walk1))
              refine Then.mk ?_
              refine' use_frozen_miss ?ha6 hZ1 Fa2 Na2 (fun q hq => by repeat (first | exact List.mem_append_right _ hq | refine' List.Mem.tail _ ?_)) (fun _ _ e => e) hze rfl (Nat.le_of_ble_eq_true rfl) (Nat.le_of_ble_eq_true rfl) (by assumption) (by assumption) ?_
              (case ha6 => with_unfolding_all rfl)
              intro b1 tb1 hb1 tkb1 Fb1 Nb1 hb1
              (try dsimp only)
              repeat' (first | (k_unfold; (try dsimp only)) | walk1 | (dsimp only; walk1))
              refine Then.mk ?_
              refine' use_frozen_miss ?ha7 hZ1 Fb1 Nb1 (fun q hq => by repeat (first | exact List.mem_append_right _ hq | refine' List.Mem.tail _ ?_)) (fun _ _ e => e) hze rfl (Nat.le_of_ble_eq_true rfl) (Nat.le_of_ble_eq_true rfl) (by assumption) (by assumption) ?_
              (case ha7 => with_unfolding_all rfl)
              intro b2 tb2 hb2 tkb2 Fb2 Nb2 hb2
              (try dsimp only)
              repeat' (first | (k_unfold; (try dsimp only)) | walk1 | (dsimp only; walk1))
              refine Then.mk (wpAny_is_ref_other (hb2 _ (.head _)) (Nb2 _ (.tail _ (.head _))).1 (Nb2 _ (.head _)).1 (by simp) ?_)
              repeat' (first | (k_unfold; (try dsimp only)) | walk1 | (dsimp only; walk1))
              refine Then.mk (notin_yes Nb2 (by repeat (first | exact List.Mem.head _ | refine' List.Mem.tail _ ?_)) hns (fun e => hzk (by rw [hBk.keys]; exact e)) ?_)
              repeat' (first | (k_unfold; (try dsimp only)) | walk1 | (dsimp only; walk1))
              refine Then.mk ?_
              refine' use_frozen_miss ?ha8 hZ2 Fb2 Nb2 (fun q hq => by repeat (first | exact List.mem_append_right _ hq | refine' List.Mem.tail _ ?_)) (fun _ _ e => e) hzk rfl (Nat.le_of_ble_eq_true rfl) (Nat.le_of_ble_eq_true rfl) (by assumption) (by assumption) ?_
              (case ha8 => with_unfolding_all rfl)
              intro c1 tc1 hc1 tkc1 Fc1 Nc1 hc1
              (try dsimp only)
              repeat' (first | (k_unfold; (try dsimp only)) | walk1 | (dsimp only; walk1))
              rename_i le he Fe Ne lle
              refine Then.mk (ne_E Ne (.tail _ (.head _)) (.head _) (Nat.le_of_ble_eq_true rfl) ?_)
              repeat' (first | (k_unfold; (try dsimp only)) | walk1 | (dsimp only; walk1))
              exact ⟨_, _, _, _, rfl, Fe, fun q hq => Ne q (.tail _ (.tail _ (.tail _ (.tail _ (.tail _ (.tail _ hq)))))), hoff, ChkJ.next⟩)
          (case ldone =>
            intro m' news' h' tk F N hJ
            obtain ⟨nv, rfl, rfl⟩ := hJ
            clear FL2 NL2 Fz Nz
            dsimp only
            repeat' (first | (k_unfold; (try dsimp only)) | walk1 | (dsimp only; walk1))
            have lastPart : LastPart := True.intro
            obtain ⟨dB, fB, esB, epB, gB, fdB, uB, mB, mdB, mgB, HB, hgvB⟩ := hBk.book.is
            have hkvl : kvs.length ≤ 13 := by
              have z1 := congrArg List.length hBk.keys
              rw [List.length_map] at z1
              have z2 := keysOf_length ts
              omega
            refine Then.mk ?_
            k_dflt (refine ListComp_B (B := B2) (dx := dB) (lam := fB) (es := esB) (ep := epB) (by assumption) F (by with_unfolding_all rfl) (by decide) (by rfl) (by decide) (by rfl) ?_)
            repeat' (first | (k_unfold; (try dsimp only)) | walk1 | (dsimp only; walk1))
            refine BookSrc.mk rfl hBk.book.sys F N (by repeat (first | exact List.mem_append_right _ mB | refine' List.Mem.tail _ ?_)) (by rw [HB.size, sizeLine_eq]; omega) fun g => restJ (BookJ _ kvs) BookJ.zero ?bturn ?bfin
            (case bturn =>
              intro i2 v2 I2 oI2 C2 oC2 D2 m2 ys2 h2 tk2 E2 nw hi2 hv2 hJ2 hC2 hx2 F3 N3 off3 ne3
              obtain ⟨e2, he2, rfl⟩ := hv2
              obtain ⟨⟨k2, l2⟩, t2, hkl, hek⟩ := book_key HB he2
              rw [hek] at hx2
              dsimp only at hx2
              have N4 := Mine.News.cons_mem N3 (q := (s₁.heap.objs.size + 1 + 1 + 1, oB)) (.tail _ (.tail _ (.tail _ (hJ2.sub _ (by k_mem)))))
              clear F N N3
              dsimp only
              repeat' (first | (k_unfold; (try dsimp only)) | walk1 | (dsimp only; walk1))
              refine Then.mk ?_
              refine' use_frozen_hit ?hb0 hBk.book F3 N4 (fun q hq => by repeat (first | exact BookJ.sub hJ2 q (by repeat (first | exact List.mem_append_right _ hq | refine' List.Mem.tail _ ?_)) | refine' List.Mem.tail _ ?_)) (List.mem_of_getElem? hkl) (by assumption) ?_
              (case hb0 => with_unfolding_all rfl)
              (try dsimp only)
              repeat' (first | (k_unfold; (try dsimp only)) | walk1 | (dsimp only; walk1))
              rename_i D5 h5 F5 N5 l5
              exact Then.mk ⟨h5, _, _, rfl, F5, pickU N5, ⟨⟨Nat.ne_of_gt l5.2.1, Nat.ne_of_gt l5.2.2.1, Nat.ne_of_gt l5.2.2.2.1⟩, off3⟩, .tail _ (hJ2.sub _ (by repeat (first | exact List.mem_append_right _ mB | refine' List.Mem.tail _ ?_))), hJ2.next hkl⟩)
            (case bfin =>
              intro ys1 nw1 hJ1
              have hsubd : ∀ q ∈ dts, q ∈ nw1 := fun q hq => hJ1.sub q (by repeat (first | exact List.mem_append_left _ hq | refine' List.Mem.tail _ ?_))
              have hsuba : ∀ q ∈ all, q ∈ nw1 := fun q hq => hJ1.sub q (by repeat (first | exact List.mem_append_right _ hq | refine' List.Mem.tail _ ?_))
              unfold LCg.FinE
              intro D1 h1 tk1 F1 N1 o1
              clear F N
              dsimp only
              repeat' (first | (k_unfold; (try dsimp only)) | walk1 | (dsimp only; walk1))
              refine Then.mk ?_
              k_dflt (refine ListComp_X F1 (by with_unfolding_all rfl) (by rfl) (by rfl) (by decide) (by rfl) ?_)
              repeat' (first | (k_unfold; (try dsimp only)) | walk1 | (dsimp only; walk1))
              refine CellSrc.ledger (PairJ ((D1, LCg.lst ys1) :: nw1) ts (keysOf ts)) (k := ns1.length) (its := ns1.toArray) rfl F1 N1 (.tail _ (hJ1.sub _ (by k_mem))) (by rw [sizeLine_eq, List.size_toArray]; omega) PairJ.zero ?pturn ?pfin
              (case pturn =>
                intro g i2 v2 I2 oI2 C2 oC2 D2 X2 oX2 ys2 h2 tk2 E2 nw hi2 hv2 hJ2 hX2 hS2 F3 N3 off3 offX ne1 ne3
                obtain ⟨k2, t2, hk2, rfl⟩ := sv_at hns (by simpa using hv2)
                have N4 := Mine.News.cons_mem N3 (q := (s₁.heap.objs.size + 1 + 1 + 1 + 1, oD)) (.tail _ (.tail _ (.tail _ (.tail _ (hJ2.sub _ (.tail _ (hJ1.sub _ (by k_mem))))))))
                clear F1 N1 N3
                dsimp only
                repeat' (first | (k_unfold; (try dsimp only)) | walk1 | (dsimp only; walk1))
                rename_i Le h5 F5 N5 l5
                refine Then.mk ?_
                k_dflt (refine LCt.ListComp_T (F₀ := F5) (by with_unfolding_all rfl) (by decide) (by rfl) (by decide) (by rfl) ?_)
                repeat' (first | (k_unfold; (try dsimp only)) | walk1 | (dsimp only; walk1))
                have m9 : (D9, LCg.lst ys) ∈ nw := hJ2.sub _ (.tail _ (hJ1.sub _ (by k_mem)))
                refine Then.mk (LCt.CompSrcT.ledger (ax := D9) (its := ys.toArray) (k := ys.length) rfl F5 N5 (.tail _ (.tail _ (.tail _ (.tail _ (.tail _ (.tail _ (hJ2.sub _ (.tail _ (hJ1.sub _ (by k_mem)))))))))) (by rw [sizeLine_eq, List.size_toArray]; omega) fun g => restTJ (FiltJ _ ts k2) FiltJ.zero ?fturn ?ffin)
                (case fturn =>
                  intro i4 v4 I4 oI4 C4 oC4 D4 m4 zs4 h4 tk4 E4 nw4 hi4 hv4 hJ4 hC4 hx4 F6 N6 off4 ne4
                  obtain ⟨rfl, hzs⟩ := hJ4
                  have hi5 : i4 < ts.length := by rw [List.size_toArray] at hi4; omega
                  have hy4 : ys[i4]? = some v4 := by simpa using hv4
                  have ht4 : ts[i4]? = some (ts[i4]'hi5) := by simp
                  obtain ⟨a4, o4, rfl, ma4, xa, xb, xc, xd, rfl⟩ := hTd.get hy4 ht4
                  have ma5 := hJ2.sub _ (.tail _ (hsubd _ ma4))
                  have N7 := Mine.News.cons_mem N6 (.tail _ (.tail _ (.tail _ (.tail _ (.tail _ (.tail _ (.tail _ (.tail _ (.tail _ ma5)))))))))
                  clear F5 N5 N6
                  generalize ts[i4] = p4 at ht4 N7 ma4 ma5
                  dsimp only
                  repeat' (first | (k_unfold; (try dsimp only)) | walk1 | (dsimp only; walk1))
                  · have hk : keyF p4 = k2 := by simpa using ‹(keyF p4 == k2) = true›
                    exact Then.mk ⟨h4, _, _, rfl, F6, fun q hq => N7 q (.tail _ hq), off4, .inr ⟨_, .tail _ (.tail _ (.tail _ (.tail _ (.tail _ (.tail _ m9))))), rfl, _, rfl⟩, FiltJ.hit hzs ht4 hk⟩
                  · have hk : keyF p4 ≠ k2 := by simpa using ‹(keyF p4 == k2) = false›
                    exact Then.mk ⟨h4, _, _, rfl, F6, fun q hq => N7 q (.tail _ hq), off4, .inr ⟨_, .tail _ (.tail _ (.tail _ (.tail _ (.tail _ (.tail _ m9))))), rfl, _, rfl⟩, FiltJ.miss hzs ht4 hk⟩)
                (case ffin =>
                  intro zs5 nw5 hJ5
                  obtain ⟨rfl, hz5⟩ := hJ5
                  rw [List.take_of_length_le (by rw [List.size_toArray]; omega)] at hz5
                  have hz13 : zs5.length ≤ 13 := by
                    have z1 := hz5.length
                    have z2 := firstsFor_length k2 ts
                    omega
                  unfold LCg.FinE
                  intro D6 h6 tk6 F6 N6 o6
                  have zX := size_ne N6 (.tail _ (.tail _ (.tail _ (.head _))))
                  have zI := size_ne N6 (.tail _ (.tail _ (.tail _ (.tail _ (.head _)))))
                  have zC := size_ne N6 (.tail _ (.tail _ (.tail _ (.tail _ (.tail _ (.head _))))))
                  have zD := size_ne N6 (.tail _ (.tail _ (.tail _ (.tail _ (.tail _ (.tail _ (.head _)))))))
                  clear F5 N5
                  dsimp only
                  repeat' (first | (k_unfold; (try dsimp only)) | walk1 | (dsimp only; walk1))
                  rename_i hA9 T9 h9 F9 N9 l9
                  refine ⟨h9, _, _, rfl, F9, pickW N9, ⟨⟨Nat.ne_of_gt l9.2.2.2.2.2.1, Nat.ne_of_gt l9.2.2.2.2.2.2.1, Nat.ne_of_gt l9.2.2.2.2.2.2.2.1⟩, ⟨zI, zC, zD⟩, off3⟩,
                    List.forall_mem_cons.mpr ⟨Nat.ne_of_gt l9.2.2.2.2.1, List.forall_mem_cons.mpr ⟨zX, offX⟩⟩, .inr ⟨_, .tail _ (.tail _ (hJ2.sub _ (.tail _ (hJ1.sub _ (by k_mem))))), rfl, _, rfl⟩, hJ2.next hk2 (name_list hz5)⟩))
              (case pfin =>
                intro g2 ys2 nw2 hJ2
                unfold LCg.FinE
                intro D2 h2 tk2 F2 N2 o2
                clear F1 N1
                dsimp only
                repeat' (first | (k_unfold; (try dsimp only)) | walk1 | (dsimp only; walk1))
                have t1 := (pairs_of_book (ts := ts) HB.size hJ1 (fun kl hkl => by obtain ⟨o, ho, hN⟩ := hBk.lists kl hkl; exact ⟨o, by repeat (first | exact List.mem_append_right _ ho | refine' List.Mem.tail _ ?_), hN⟩)).mono (e' := (D2, LCg.lst ys2) :: nw2) (fun q hq => .tail _ (hJ2.sub _ (.tail _ hq)))
                rw [hBk.keys] at t1
                have t2 := (hJ2.done (by rw [List.size_toArray]; exact Nat.le_of_eq hns.length.symm)).mono (e' := (D2, LCg.lst ys2) :: nw2) (fun q hq => .tail _ hq)
                refine Then.mk (pairs_eq (vs := ys1) (us := ys2) ⟨_, (N2 _ (.tail _ (hJ2.sub _ (.head _)))).1, rfl, _, rfl⟩ ⟨_, (N2 _ (.head _)).1, rfl, _, rfl⟩ (fun q hq => (N2 q hq).1) (fun q hq => (N2 q hq).1) t1 t2 rfl hts.2 (Nat.le_of_ble_eq_true rfl) ?_)
                (try dsimp only)
                repeat' (first | (k_unfold; (try dsimp only)) | walk1 | (dsimp only; walk1))
                refine Then.mk ⟨?eg, ?et⟩
                (case et =>
                  obtain ⟨pt1, ht1⟩ := hBk.tab1
                  obtain ⟨pt2, ht2⟩ := hBk.tab2
                  exact ⟨⟨pt1, (N2 _ (.tail _ (hJ2.sub _ (.tail _ (hsuba _ ht1))))).1⟩, ⟨pt2, (N2 _ (.tail _ (hJ2.sub _ (.tail _ (hsuba _ ht2))))).1⟩, True.intro⟩)
                (case eg => k_end; kc_close))))))))
end Mine
end
theorem PySem.Challenge.cw_in0008_01_holds : PySem.Challenge.rw_in0008_01.Holds :=
  Mine.law_all
