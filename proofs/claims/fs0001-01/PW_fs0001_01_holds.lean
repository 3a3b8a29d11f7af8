import PyProof.Rows.All
import Wide.All
import OpenK.AllK
import Wide.FinOn
import PySem.Challenge.RW_fs0001_01
set_option Elab.async false
set_option maxRecDepth 100000

/-! part H1 -/
section
open PySem PySem.W PyProof.Rows
namespace Mine
set_option maxHeartbeats 8000000 in
open_top hd for PySem.Challenge.rw_fs0001_01
end Mine
end
theorem Mine.calm9a1 : True ∧ True := by
  w_top off
  (try walk1) <;> (first | exact True.intro | exact ⟨True.intro, True.intro⟩)

/-! part P1 -/
section
open PySem PySem.W PySem.Calls PySem.Spec PyProof.Rows
namespace Mine

/-- where a caller stands -/
structure Cl (w : World) (p : Program) (loose : List Str) (mean : ExcName → Option Value) (mg mb : Str → Option Value) (A : Around) (env : Env) (outer : List Env) (A₀ : Around) (base h₀ : Heap) (L : Addr) (h : Heap) (m : Str → Option Value) : Prop where
  B : Below A₀ base outer h₀
  F : Fr h₀ L h m
  X : (hd.heap_39 w.params).In base
  T : Top p loose mean mg mb base
  hA : A.frames = some (env :: outer)
  hf : env.frame = some L
  hk : env.scope.kind = .function
  hh : A.handled = none

/-- all objects but those of ch are as they were -/
def Kp (ch : List Addr) (h h' : Heap) : Prop := ∀ b o, b ∉ ch → h.get? b = some o → h'.get? b = some o

section
variable {prog : Program} {w : World} {p : Program} {loose : List Str} {mean : ExcName → Option Value} {mg mb : Str → Option Value} {A A₀ : Around} {env : Env} {outer : List Env} {base h₀ : Heap} {L : Addr} {m : Str → Option Value} {s : Shared} {sub : List (Addr × Obj)}
  {R : Result → Shared → Prop} {name qual : Str} {params : Arguments} {body : List Stmt} {scope : Scope} {dV kV doc pm cdv ct oc : Value} {an od : Option Addr} {osl : Array (Option Value)} {f : Addr} {args : Args} {binds : List (Str × Value)}

theorem ground9 (c : Cl w p loose mean mg mb A env outer A₀ base h₀ L s.heap m) (N : News h₀ L s.heap sub) :
    Below A base (env :: outer) (hideAll s.heap (sub.map (·.1))) ∧ base.StaysIn (hideAll s.heap (sub.map (·.1))) := by
  have nm : ∀ b o, h₀.get? b = some o → b ∉ sub.map (·.1) := fun b o e q => by
    obtain ⟨p, hp, rfl⟩ := List.mem_map.mp q
    rw [(N p hp).2.2] at e; cases e
  have st : h₀.StaysIn (hideAll s.heap (sub.map (·.1))) := fun b o e => hideAll_get _ (c.F.keep b o e) (nm b o e)
  have nL : L ∉ sub.map (·.1) := fun q => by
    obtain ⟨p, hp, e⟩ := List.mem_map.mp q
    exact (N p hp).2.1 e
  have B₁ := pushX c.B c.F c.hf c.hk
  have sb : base.StaysIn (hideAll s.heap (sub.map (·.1))) := fun b o e => st b o (c.B.stays b o e)
  refine ⟨⟨c.hA, sb, funFrames_hideAll B₁.frames fun env' he b hb hf' => ?_⟩, sb⟩
  cases he with
  | head => exact nL ((Option.some.inj (c.hf.symm.trans hf') : L = b) ▸ hb)
  | tail _ he =>
    obtain ⟨L₁, o₁, hf₁, ho₁⟩ := funFrames_in c.B.frames env' he
    rw [hf₁] at hf'
    exact nm L₁ o₁ ho₁ ((Option.some.inj hf' : L₁ = b) ▸ hb)

theorem enter9 (c : Cl w p loose mean mg mb A env outer A₀ base h₀ L s.heap m) (N : News h₀ L s.heap sub)
    (ho : (hd.heap_39 w.params).lookup f = some ⟨oc, od, .func (fnOf name qual params body scope dV kV doc pm an cdv ct), osl⟩) (hcd : codeIn (hd.heap_39 w.params) cdv qual = true) (hroom : A.depth < recursionLimit)
    (hbind : BindsTo s (fnOf name qual params body scope dV kV doc pm an cdv ct) args binds) (hloc : ∀ y ∈ binds, scope.names.lookup y.1 = some .local)
    (h : ∀ g L' h₁, Fr g L' h₁ (fun y => binds.reverse.lookup y) → News g L' h₁ sub → Below A base (env :: outer) g → (hd.heap_39 w.params).In g → Top p loose mean mg mb g →
      (∀ b o, s.heap.get? b = some o → b ∉ sub.map (·.1) → g.get? b = some o) → s.heap.objs.size ≤ L' →
      wpAny (model prog w) (A.deeper (envOf qual scope L' f cdv)) (execs body (envOf qual scope L' f cdv))
        (fun fl s' => R (.ok (.ret (match fl with | .ret v => v | _ => .none))) s')
        (fun e s' => wpAny (model prog w) (A.deeper (envOf qual scope L' f cdv)) (leaving (envOf qual scope L' f cdv) e) (fun _ s'' => R (.error e) s'') (fun e' s'' => R (.error e') s'') s')
        { s with heap := h₁, toks := s.toks + binds.length })
    (hcell : ∀ x ∈ scope.names, x.2 ≠ .cell) (hco : scope.isCoroutine = false) (hgen : scope.isGenerator = false) (hk : scope.kind = .function) : codeAny (model prog w) A (.call (.ref f) args) R s := by
  obtain ⟨BG, st⟩ := ground9 c N
  have X := c.X.keeps fun b o e => c.F.keep b o (c.B.stays b o e)
  refine codeAny_call_def (fd := fnOf name qual params body scope dV kV doc pm an cdv ct) (body := body) (binds := binds) hroom (X _ _ ho) rfl ((c.T.keeps c.B.stays).nolimit.keeps c.F.keep) (codeRec_of X hcd) rfl hbind hcell hloc (fun h₁ hns hk₁ => ?_) hco hgen hk
  exact h _ s.heap.objs.size h₁ ⟨hns, fun b o e => hk₁ b o (of_hideAll _ e), Nat.le_of_eq (hideAll_size _ _)⟩
    (fun p hp => ⟨hk₁ _ _ (N p hp).1, Nat.ne_of_lt (Heap.lt_size (N p hp).1), hideAll_none _ (List.mem_map_of_mem hp)⟩) BG (c.X.keeps st) (c.T.keeps st) (fun b o e q => hideAll_get _ e q) (Nat.le_refl _)
end

theorem fill9 : PySem.Challenge.rw_fs0001_01 = PySem.Challenge.rw_fs0001_01 ∧ ∀ (w : World) h, (hd.heap_39 w.params).In h → True := by
  k_fill
  exact ⟨rfl, fun _ _ _ => trivial⟩
end Mine
end
theorem Mine.calm9a2 : True ∧ True := by
  w_top off
  (try walk1) <;> (first | exact True.intro | exact ⟨True.intro, True.intro⟩)

/-! part P2 -/
section
open PySem PySem.W PySem.Calls PySem.Spec PyProof.Rows
namespace Mine
theorem fill9a : PySem.Challenge.rw_fs0001_01 = PySem.Challenge.rw_fs0001_01 ∧ ∀ (w : World) h, (hd.heap_39 w.params).In h → True := by
  k_fill
  exact ⟨rfl, fun _ _ _ => trivial⟩

theorem kp_of {h₀ h h' g : Heap} {L L' : Addr} {m' : Str → Option Value} {sub sub' : List (Addr × Obj)} {ch : List Addr} (keep : ∀ b o, h.get? b = some o → b ∉ sub.map (·.1) → g.get? b = some o) (F : Fr g L' h' m') (N₀ : News h₀ L h sub) (N : News g L' h' sub')
    (hsub : ∀ p ∈ sub, p.1 ∈ ch ∨ p ∈ sub') : Kp ch h h' := by
  intro b o hb e
  by_cases q : b ∈ sub.map (·.1)
  · obtain ⟨p, hp, rfl⟩ := List.mem_map.mp q
    have e' := (N₀ p hp).1
    rw [e] at e'
    cases e'
    rcases hsub p hp with z | z
    · exact absurd z hb
    · exact (N p z).1
  · exact F.keep b o (keep b o e q)

section
variable {prog : Program} {w : World} {p : Program} {loose : List Str} {mean : ExcName → Option Value} {mg mb : Str → Option Value} {A A₀ : Around} {env : Env} {outer : List Env} {base h₀ : Heap} {L : Addr} {m : Str → Option Value} {s : Shared} {sub : List (Addr × Obj)} {Q E : Value → Shared → Prop}

/-- the three objects of an ordered set lie apart -/
theorem apart_x {h₀ h : Heap} {L x dx d : Addr} {C : Addr} {o : Obj} {kvs : List (Int × Value)} {news : List (Addr × Obj)} (N : News h₀ L h news) (hx : (x, instObj C dx) ∈ news) (hd : (d, o) ∈ news) (ho : o.IsDictOf (intKind prog w) kvs) : x ≠ d := by
  rintro rfl
  have a := (N _ hx).1; have b := (N _ hd).1
  simp only at a b
  rw [a] at b; cases b
  obtain ⟨es, ep, hc, hdat, _⟩ := ho
  cases hdat
theorem apart_d {h₀ h : Heap} {L dx d : Addr} {hs : Int} {x : Str} {tk n : Nat} {v : Value} {o : Obj} {kvs : List (Int × Value)} {news : List (Addr × Obj)} (N : News h₀ L h news) (hx : (dx, dictOf [⟨hs, .str x tk, v⟩] n) ∈ news) (hd : (d, o) ∈ news) (ho : o.IsDictOf (intKind prog w) kvs) : dx ≠ d := by
  rintro rfl
  have a := (N _ hx).1; have b := (N _ hd).1
  simp only at a b
  rw [a] at b; cases b
  obtain ⟨es, ep, hc, hdat, hk, _⟩ := ho
  cases hdat
  obtain ⟨k, hk', _⟩ := hk ⟨hs, .str x tk, v⟩ (by simp)
  cases hk'

local macro_rules | `(tactic| walk_at "setItem ref int") => `(tactic| (k_here; k_dflt (refine' kda_set (knd := PySem.intKind _ _) ?F ?N ?U ?d (intKind_is _ _ _ _) ?z ?_; (case F => k_asm); (case N => k_asm); (case U => k_updF); (case d => k_asm); (case z => rw [sizeLine_eq]; omega)); intro h' o' F' N' hd'; (try dsimp only at N')))
set_option maxHeartbeats 4000000 in
theorem add_spec {x dx d : Addr} {hs : Int} {tk n : Nat} {o : Obj} {kvs : List (Int × Value)} {i : Int} {t : Tok} (c : Cl w p loose mean mg mb A env outer A₀ base h₀ L s.heap m)
    (N : News h₀ L s.heap [(x, instObj 217 dx), (dx, dictOf [⟨hs, .str (Str.ofString "_data") tk, .ref d⟩] n), (d, o)]) (ho : o.IsDictOf (intKind prog w) kvs) (hsz : kvs.length ≤ 100)
    (hdep : A.depth + 4 < recursionLimit) (hu : A.units + 40 < cLine)
    (k : ∀ h' tk' o', Kp [d] s.heap h' → h'.get? d = some o' → o'.IsDictOf (intKind prog w) (stored kvs i .none) → Q .none { s with heap := h', toks := tk' }) :
    wpAny (model prog w) A (call (.ref 99) [.ref x, .int i t]) Q E s := by
  have a1 : x ≠ d := apart_x N (.head _) (.tail _ (.tail _ (.head _))) ho
  have a2 : dx ≠ d := apart_d N (.tail _ (.head _)) (.tail _ (.tail _ (.head _))) ho
  refine wpAny_call ?_
  k_dflt (refine' enter9 (binds := [(Str.ofString "self", .ref x), (Str.ofString "item", .int i t)]) c N ?k6 ?k7 ?k8 ?k9 ?kB ?_ ?c5 ?c2 ?c3 ?c4; (case k6 => k_is); (case k7 => k_is); (case k8 => omega); (case k9 => exact BindsTo.of_eq rfl); (case c5 => decide); (case kB => exact locs rfl); (case c2 => exact rfl); (case c3 => exact rfl); (case c4 => exact rfl); k_whole; intro g' L' h' F' N' B' X' T' keep' above'; (try dsimp only); (try k_fold))
  k_steps
  exact k _ _ _ (kp_of keep' (by assumption) N (by assumption) (by simp)) ((by assumption : News _ _ _ [_, _, _]) _ (.tail _ (.tail _ (.head _)))).1 (by assumption)
end
end Mine
end
theorem Mine.calm9a3 : True ∧ True := by
  w_top off
  (try walk1) <;> (first | exact True.intro | exact ⟨True.intro, True.intro⟩)

/-! part P3 -/
section
open PySem PySem.W PySem.Calls PySem.Spec PyProof.Rows
namespace Mine

abbrev kv (ks : List Int) : List (Int × Value) := ks.map fun k => (k, Value.none)

section
variable {prog : Program} {w : World} {A : Around} {E : Value → Shared → Prop} {s : Shared} {K : Frag} {h₀ : Heap} {L : Addr} {m : Str → Option Value} {news : List (Addr × Obj)} {Q : Value → Shared → Prop}

/-- `C.__new__(C)` -/
theorem new9 {C fI : Addr} (F : Fr h₀ L s.heap m) (X : K.In h₀) (N : News h₀ L s.heap news) (hm : makesIn K C = true) (hi : findIn K (.ref C) "__init__" = some (some (.ref fI)))
    (k : ∀ x dx h', Fr h₀ L h' m → News h₀ L h' ((x, instObj C dx) :: (dx, dictOf [] 0) :: news) → (∀ p ∈ news, p.1 < dx) → dx < x → L < dx → Q (.ref x) { s with heap := h' }) :
    wpAny (model prog w) A (call (.builtin "object.__new__") [.ref C]) Q E s := by
  obtain ⟨hh, g, d, t, os⟩ := s
  refine wpAny_call (new_K (makes_of (X.keeps F.keep) hm) (looks_findIn (X.keeps F.keep) hi) (.inr ⟨rfl, rfl⟩) ?_)
  have N' := (N.push F emptyDict).push (F.push _) (instObj C hh.objs.size)
  rw [Heap.size_push] at N'
  exact k _ hh.objs.size _ ((F.push _).push _) N' (fun p hp => Heap.lt_size (N p hp).1) (Nat.lt_succ_self _) F.ns.lt

/-- `dict.copy` -/
theorem dcopy9 {d : Addr} {o : Obj} {kvs : List (Int × Value)} (F : Fr h₀ L s.heap m) (N : News h₀ L s.heap news) (hlim : h₀.NoLimit) (hp : (d, o) ∈ news) (ho : o.IsDictOf (intKind prog w) kvs) (lo : (d == sysModules) = false) (hsz : kvs.length ≤ 100)
    (k : ∀ c h' o', Fr h₀ L h' m → News h₀ L h' ((c, o') :: news) → (∀ p ∈ news, p.1 < c) → L < c → (c == sysModules) = false → o'.IsDictOf (intKind prog w) kvs → Q (.ref c) { s with heap := h' }) :
    wpAny (model prog w) A (call (.builtin "dict.copy") [.ref d]) Q E s := by
  have hD : s.heap.DictOf (intKind prog w) d kvs := Heap.dictOf_iff.mpr ⟨o, (N _ hp).1, ho⟩
  refine call_meetsIn PySem.F.slot_dict_copy hD.typeIs PySem.F.entry_dict_copy (PySem.F.args_dict_copy_1 _) (meets_dict_copy (intKind prog w) d lo) ⟨kvs, hD, by rw [sizeLine_eq]; omega, fun h' h1 _ hk => ?_⟩
  obtain ⟨o', ho', hd'⟩ := Heap.dictOf_iff.mp h1
  refine k _ h' o' ⟨F.ns.keeps hk, fun b o e => hk b o (F.keep b o e), F.above⟩ (fun p hp => ?_) (fun p hp => Heap.lt_size (N p hp).1) F.ns.lt (F.notModules (modules_low hlim)) hd'
  rcases List.mem_cons.mp hp with rfl | hp
  · refine ⟨ho', Nat.ne_of_gt F.ns.lt, ?_⟩
    cases hq : h₀.get? s.heap.objs.size with
    | none => rfl
    | some o' => exact absurd (Heap.lt_size (F.keep _ _ hq)) (Nat.lt_irrefl _)
  · exact ⟨hk _ _ (N p hp).1, (N p hp).2⟩

/-- `dict.__contains__` -/
theorem dhas9 {d : Addr} {o : Obj} {kvs : List (Int × Value)} {i : Int} {t : Tok} (N : News h₀ L s.heap news) (hp : (d, o) ∈ news) (ho : o.IsDictOf (intKind prog w) kvs) (lo : (d == sysModules) = false)
    (k : Q (.bool (valueAt kvs i).isSome) { s with toks := s.toks + 1 }) :
    wpAny (model prog w) A (call (.builtin "dict.__contains__") [.ref d, .int i t]) Q E s := by
  have hD : s.heap.DictOf (intKind prog w) d kvs := Heap.dictOf_iff.mpr ⟨o, (N _ hp).1, ho⟩
  exact call_meetsIn PySem.F.slot_dict_contains hD.typeIs PySem.F.entry_dict_contains (PySem.F.args_dict_contains_2 _ _) (meets_dict_contains (intKind prog w) d (intKind_is _ _ _ _) lo) ⟨_, hD.mapOf, k⟩
end
end Mine
end
theorem Mine.calm9a4 : True ∧ True := by
  w_top off
  (try walk1) <;> (first | exact True.intro | exact ⟨True.intro, True.intro⟩)

/-! part P4 -/
section
open PySem PySem.W PySem.Calls PySem.Spec PyProof.Rows
namespace Mine
section
variable {prog : Program} {w : World} {K : Type} [DecidableEq K] {knd : KeyKind prog w K}

theorem pairs_snoc_inv : ∀ {es : List DictEntry} {kvs : List (K × Value)} {k : K} {v : Value}, Pairs knd es (kvs ++ [(k, v)]) → ∃ es' e, es = es' ++ [e] ∧ Pairs knd es' kvs ∧ knd.is k e.key = true ∧ e.val = v
  | _, [], _, _, .cons h1 h2 .nil => ⟨[], _, rfl, .nil, h1, h2⟩
  | _, (_, _) :: r, _, _, .cons h1 h2 h3 => by
    obtain ⟨es', e, rfl, a, b, c⟩ := pairs_snoc_inv h3
    exact ⟨_ :: es', e, rfl, .cons h1 h2 a, b, c⟩
end

section
variable {prog : Program} {w : World} {A : Around} {E : Value → Shared → Prop} {s : Shared} {Q : Value → Shared → Prop}

/-- `dict.popitem` of a dict that holds something -/
theorem popitem9 {d : Addr} {kvs : List (Int × Value)} {i : Int} {v : Value} (lo : (d == sysModules) = false) (hm : s.heap.DictOf (intKind prog w) d (kvs ++ [(i, v)])) (hsz : kvs.length ≤ 100)
    (k : ∀ t T h', h'.DictOf (intKind prog w) d kvs → h'.get? T = some { cls := .type "tuple", data := .seq #[.int i t, v] } → s.heap.objs.size ≤ T → (∀ b o, b ≠ d → s.heap.get? b = some o → h'.get? b = some o) → Q (.ref T) { s with heap := h' }) :
    wpAny (model prog w) A (call (.builtin "dict.popitem") [.ref d]) Q E s := by
  have hT := hm.typeIs
  obtain ⟨o, es, ep, ho, hc, hdat, hk, hp, hn⟩ := hm
  obtain ⟨es', e, hes, hp', hk', hv'⟩ := pairs_snoc_inv hp
  obtain ⟨t, ht⟩ := Value.isInt_shape hk'
  refine wpAny_call_entry PySem.F.slot_dict_popitem hT PySem.F.entry_dict_popitem ?_ (PySem.F.args_dict_popitem_1 _)
  unfold Builtin.«dict.popitem»
  refine wpAny_bind ?_
  unfold Builtin.Dict.noArgs
  refine wpAny_bind (wpAny_notOrdered_dict hT ?_)
  show wpAny _ _ (pure d) _ _ s
  refine wpAny_pure ?_
  unfold Builtin.Dict.showsAll
  rw [if_neg (by rw [lo]; exact Bool.false_ne_true)]
  refine wpAny_bind (wpAny_pure ?_)
  refine wpAny_bind (wpAny_dictEntries ho hdat ?_)
  have hback : es.back? = some e := by
    have : es = (es' ++ [e]).toArray := by rw [← hes]
    rw [this]; simp
  rw [hback]
  dsimp only
  have hz : es.size ≤ sizeLine := by
    have e1 := hp.length
    rw [List.length_append] at e1
    simp only [Array.length_toList, List.length_cons, List.length_nil] at e1
    rw [sizeLine_eq]; omega
  refine wpAny_bind (wpAny_updateDictKeys ho hdat ?_ hz (by simp; omega))
  have hpop : es.pop.toList = es' := by rw [Array.toList_pop, hes]; simp
  refine wpAny_bind (wpAny_newObj_type (wpAny_pure ⟨_, rfl, ?_⟩) (by show 2 ≤ sizeLine; rw [sizeLine_eq]; decide))
  have hd' : (s.heap.update d (Obj.mapDictKeys (·.pop))).DictOf (intKind prog w) d kvs := by
    refine ⟨_, es.pop, ep + 1, Heap.get?_update_self _ ho (Obj.isFreed_of_dict (Obj.data_mapDictKeys hdat _)), hc.mapDictKeys _, Obj.data_mapDictKeys hdat _, fun x hx => hk x ?_, hpop ▸ hp', ?_⟩
    · exact Array.mem_toList_iff.mp (hes ▸ List.mem_append_left _ (hpop ▸ Array.mem_toList_iff.mpr hx))
    · rw [List.map_append] at hn; exact (List.nodup_append.mp hn).1
  rw [ht, hv']
  have hsz' : (s.heap.update d (Obj.mapDictKeys (·.pop))).objs.size = s.heap.objs.size := Heap.size_update ..
  refine k t _ _ (hd'.push _) (Heap.get?_push_size _ rfl) (Nat.le_of_eq hsz'.symm) fun b o' hb e => Heap.get?_push_of_some _ ((Heap.get?_update_ne _ _ _ _ hb).trans e)
end
end Mine
end
theorem Mine.calm9a5 : True ∧ True := by
  w_top off
  (try walk1) <;> (first | exact True.intro | exact ⟨True.intro, True.intro⟩)

/-! part P5 -/
section
open PySem PySem.W PySem.Calls PySem.Spec PyProof.Rows
namespace Mine

def fkObj : Obj := { cls := .type "builtin_function_or_method", data := .fields #[.builtin "dict.fromkeys", .type "dict"] }
theorem type_fk : typeOf (.builtin "dict.fromkeys") = pure (.type "classmethod_descriptor") := by show builtinType _ = _; rw [builtinType_eq_fast]; kernel_rfl
theorem entry_fk : entryFor table "dict.fromkeys" = some Builtin.«dict.fromkeys» := entryFor_of_tree (by kernel_rfl)
theorem entry_fkl : entryFor table "dict.fromkeys.loop" = some Builtin.«dict.fromkeys.loop» := entryFor_of_tree (by kernel_rfl)
theorem plain_fk : plainId "dict.fromkeys" = true := by decide +kernel
theorem plain_fkl : plainId "dict.fromkeys.loop" = true := by decide +kernel
theorem isty_dict : isType (.type "dict") = pure true := by first | rfl | kernel_rfl
theorem owner_fk : (kfb_private% "ownerAndName") "dict.fromkeys" = ("dict", "fromkeys") := by first | decide +kernel | kernel_rfl
theorem check_fk {v : Value} : checkBoundCall "dict.fromkeys" ⟨[.type "dict", v], []⟩ = pure () := by first | kernel_rfl | rfl
theorem tcall_dict0 : checkTypeCall "dict" ⟨[], []⟩ = pure () := by kernel_rfl
theorem ncall_dict0 : checkBuiltinCall "dict.__new__" ⟨[.type "dict"], []⟩ = pure () := by kernel_rfl

section
variable {prog : Program} {w : World} {A : Around} {E : Value → Shared → Prop} {s : Shared} {K : Frag} {h₀ : Heap} {L : Addr} {m : Str → Option Value} {news : List (Addr × Obj)}

theorem getFk {pl : Sem Bool} {Q : Value × List Value → Shared → Prop} (F : Fr h₀ L s.heap m) (N : News h₀ L s.heap news) (X₀ : K.In h₀)
    (e : findCls K (.type "dict") (.type "type") (PySem.Str.ofString "fromkeys") = some (.get (.builtin "classmethod_descriptor.__get__") (.builtin "dict.fromkeys") .none (.type "dict")))
    (h : ∀ x h', Fr h₀ L h' m → News h₀ L h' ((x, fkObj) :: news) → (∀ p ∈ news, p.1 < x) → Q (.ref x, []) { s with heap := h', toks := s.toks + 1 }) :
    wpAny (model prog w) A (getMethod (.type "dict") (PySem.Str.ofString "fromkeys") pl) Q E s := by
  have X := X₀.keeps F.keep
  have hstub : opaqueClassAbove (.type "dict") = pure none := by unfold opaqueClassAbove; dsimp only; rw [show Manifest.isStub "dict" = false by decide +kernel]; rfl
  have ht : typeOf (.type "dict") = pure (.type "type") := by first | rfl | kernel_rfl
  have L0 : Looks (model prog w) s.heap (typeOf (.type "dict")) (.type "type") := Looks.of_pure ht
  have hg : findIn K (.type "type") "__getattribute__" = some (some (.builtin "type.__getattribute__")) := type_tga
  have LO : Looks (model prog w) s.heap (opaqueClassAbove (.type "dict")) none := Looks.of_pure hstub
  unfold getMethod specialOf
  refine wpAny_bind (wpAny_bind (L0.here ((looks_findIn X hg).here ?_)))
  dsimp only
  rw [if_pos canon_tga]
  refine wpAny_bind (wpAny_mono (Q := fun v => Q (v, [])) (E := E) ?_ (fun _ _ z => wpAny_pure z) fun _ _ z => z)
  refine cls_open X LO L0 hg (looks_hook X (r := none) (by rfl)) (by show subIn K _ _ = _; rfl) e ?_
  show wpAny _ _ (holding [.builtin "dict.fromkeys"] (call (.builtin "classmethod_descriptor.__get__") [.builtin "dict.fromkeys", .none, .type "dict"]) >>= fun v => ret v) _ _ _
  have run : ∀ {A' : Around} {P : Fin → Shared → Prop} {E' : Value → Shared → Prop} {s' : Shared}, P (.done (.ret (.ref s'.heap.objs.size))) { s' with heap := s'.heap.push fkObj } →
      wpAny (model prog w) A' (Builtin.«classmethod_descriptor.__get__» ⟨[.builtin "dict.fromkeys", .none, .type "dict"], []⟩) P E' s' := by
    intro A' P E' s' hP
    unfold Builtin.«classmethod_descriptor.__get__»
    refine wpAny_bind (wpAny_of_eq (a := (.builtin "dict.fromkeys", none, some (.type "dict"))) (by first | rfl | kernel_rfl) ?_)
    simp only [owner_fk]
    refine wpAny_bind (wpAny_of_eq (a := .type "dict") rfl (wpAny_bind (wpAny_of_eq (a := true) isty_dict (KFB.if_not rfl ?_))))
    refine wpAny_bind (wpAny_of_eq (a := true) isSubtype_dict_dict (KFB.if_not rfl ?_))
    exact wpAny_bind (wpAny_newObj_type (wpAny_pure hP))
  exact wpAny_bind (wpAny_holding (wpAny_call_entry KFB.slot_get type_fk KFB.entry_get (run ⟨_, rfl, wpAny_pure (wpAny_pure (h _ _ (F.push _) (News.push F N _) fun p hp => Heap.lt_size (N p hp).1))⟩) (KFB.args_get _ _ _)))

def FkAt (x : Addr) (h : Heap) : Prop := h.get? x = some fkObj
theorem fkAt_of {x : Addr} {h : Heap} (N : News h₀ L h news) (hm : (x, fkObj) ∈ news) : FkAt x h := N.get hm
theorem callWith_fkA {M : Model} {pos : Pos} {u : Addr} {first : List Value} {args : List (Bool × Sem Value)} {Q : Value → Shared → Prop} (hplain : args.any (·.1) = false)
    (h : wpAny M A (evalArgs (.ref u) true args []) (fun x s₁ => FkAt u s₁.heap ∧ wpAny M A (call (.ref u) (first ++ x.pos) x.kw) Q E s₁) E s) : wpAny M A (callWith pos (.ref u) first args []) Q E s := by
  unfold callWith
  refine wpAny_bind (wpAny_holding (wpAny_mono h (fun x s₁ h₁ => wpAny_bind (wpAny_standAt ?_)) fun _ _ x => x))
  obtain ⟨ho, hcall⟩ := h₁
  simp only [hplain, List.any_nil, Bool.or_false]
  refine wpAny_bind (m := keeperOf (.ref u)) ?_
  unfold keeperOf
  refine wpAny_bind (wpAny_load ho ?_)
  simp only [fkObj, show (Value.type "builtin_function_or_method" != Value.type "method") = true by decide, show (Value.type "builtin_function_or_method" == Value.type "builtin_function_or_method" || Value.type "builtin_function_or_method" == Value.type "method-wrapper") = true by decide, if_true]
  exact wpAny_pure (wpAny_bind (wpAny_mono hcall (fun r s₂ hr => wpAny_bind (wpAny_holding (wpAny_point (wpAny_pure hr)))) fun _ _ x => x))
theorem callWith_fk {M : Model} {pos : Pos} {u : Addr} {first : List Value} {env : Env} {e : Expr} {rest : List Expr} {Q : Value → Shared → Prop} (_N : News h₀ L s.heap news) (_hm : (u, fkObj) ∈ news)
    (h : wpAny M A (spliced (backTo pos (starEach (e :: rest) env))) (fun vs s₁ => FkAt u s₁.heap ∧ wpAny M A (call (.ref u) (first ++ vs)) Q E s₁) E s)
    (he : starEach (e :: rest) env = (false, eval e env) :: starEach rest env := by rfl) (hplain : (backTo pos (starEach rest env)).any (·.1) = false := by rfl) :
    wpAny M A (callWith pos (.ref u) first (backTo pos (starEach (e :: rest) env)) []) Q E s := by
  rw [he] at h ⊢
  refine callWith_fkA (by show (false || (backTo pos (starEach rest env)).any (·.1)) = false; rw [hplain]; rfl) ?_
  exact evalArgs_plain h

/-- the call of the bound method, the built-in's own tree to be run -/
theorem callFk {x : Addr} {v : Value} {Q : Value → Shared → Prop} (ho : FkAt x s.heap) (h : codeAny (model prog w) A (.builtin "dict.fromkeys" ⟨[.type "dict", v], []⟩) (wants Q E) s) :
    wpAny (model prog w) A (call (.ref x) [v]) Q E s := by
  refine wpAny_call (codeAny_of_tree ?_)
  show wpAny _ A.in1 (callAny (.ref x) ⟨[v], []⟩) _ _ s
  simp only [callAny]
  refine wpAny_bind (wpAny_load ho ?_)
  simp only [fkObj, show (Value.type "builtin_function_or_method" == Value.type "method" || Value.type "builtin_function_or_method" == Value.type "builtin_function_or_method" || Value.type "builtin_function_or_method" == Value.type "method-wrapper") = true by decide, if_true]
  refine KFB.if_so (by decide) ?_
  refine wpAny_bind (wpAny_of_eq (a := ()) check_fk ?_)
  refine wpAny_bind (wpAny_pure (wpAny_pure ?_))
  exact ⟨plainId_quiet plain_fk _, h⟩

/-- `dict()` -/
theorem callDict0 {Q : Value → Shared → Prop} (h : ∀ h', h'.DictOf (intKind prog w) s.heap.objs.size [] → h' = s.heap.push { cls := .type "dict", data := .dict #[] } → Q (.ref s.heap.objs.size) { s with heap := h' }) :
    wpAny (model prog w) A (call (.type "dict") []) Q E s := by
  have nw : codeAny (model prog w) (A.under (.builtin "type.__call__" ⟨.type "dict" :: [], []⟩)) (.call (.builtin "dict.__new__") ⟨[.type "dict"], []⟩) (wants (fun obj s₁ => obj = .ref s.heap.objs.size ∧ s₁ = { s with heap := s.heap.push { cls := .type "dict", data := .dict #[] } }) E) s := by
    refine codeAny_call_builtin PySem.F.kt_plain_dict_new PySem.F.kt_entry_dict_new (wpAny_of_eq ncall_dict0 ?_)
    have hsub := PySem.F.kt_sub_dict
    have hmro := PySem.F.kt_mro_dict
    obtain ⟨hp, g, d, tk, os⟩ := s
    unfold Builtin.«dict.__new__»
    wp_walk
    exact ⟨rfl, rfl⟩
  refine callType_codes (Q₁ := fun obj s₁ => obj = .ref s.heap.objs.size ∧ s₁ = { s with heap := s.heap.push { cls := .type "dict", data := .dict #[] } }) PySem.F.kt_called_dict tcall_dict0 PySem.F.entry_dict_init nw ?_
  rintro obj s₁ ⟨rfl, rfl⟩
  have hnew : (s.heap.push { cls := .type "dict", data := .dict #[] }).DictOf (intKind prog w) s.heap.objs.size [] := Heap.DictOf.new s.heap
  refine ⟨hnew.typeIs, PySem.F.args_dict_init_1 _, ?_⟩
  unfold Builtin.«dict.__init__»
  refine wpAny_bind ?_
  unfold Builtin.Dict.selfAndRest
  refine wpAny_bind (wpAny_notOrdered_dict hnew.typeIs ?_)
  show wpAny _ _ (pure (s.heap.objs.size, [])) _ _ _
  refine wpAny_pure ?_
  show wpAny _ _ (Builtin.Dict.addKeywords s.heap.objs.size [] >>= fun _ => ret .none) _ _ _
  exact wpAny_bind (wpAny_pure (wpAny_pure ⟨rfl, h _ hnew rfl⟩))
end
end Mine
end
theorem Mine.calm9a6 : True ∧ True := by
  w_top off
  (try walk1) <;> (first | exact True.intro | exact ⟨True.intro, True.intro⟩)

/-! part P6 -/
section
open PySem PySem.W PySem.Calls PySem.Spec PyProof.Rows
namespace Mine

/-- one thing more, at the end, if it is not there -/
def addI (ks : List Int) (i : Int) : List Int := if i ∈ ks then ks else ks ++ [i]
def addA (ks is : List Int) : List Int := is.foldl addI ks
/-- one thing out -/
def outI (ks : List Int) (i : Int) : List Int := ks.filter fun k => decide (k ≠ i)
def outA (ks is : List Int) : List Int := is.foldl outI ks

theorem stored_kv (ks : List Int) (i : Int) : stored (kv ks) i Value.none = kv (addI ks i) := by
  unfold stored addI kv
  by_cases h : i ∈ ks
  · rw [if_pos h, if_pos (by simp only [List.any_map, List.any_eq_true, Function.comp]; exact ⟨i, h, by simp⟩)]
    rw [List.map_map]
    exact List.map_congr_left fun k _ => by simp only [Function.comp]; split <;> rfl
  · rw [if_neg h, if_neg (by simp only [List.any_map, List.any_eq_true, Function.comp]; rintro ⟨k, hk, e⟩; exact h (of_decide_eq_true e ▸ hk))]
    simp
theorem without_kv (ks : List Int) (i : Int) : without (kv ks) i = kv (outI ks i) := by
  unfold without outI kv
  rw [List.filter_map]; rfl
theorem valueAt_kv (ks : List Int) (i : Int) : (valueAt (kv ks) i).isSome = decide (i ∈ ks) := by
  unfold valueAt kv
  induction ks with
  | nil => rfl
  | cons k r ih =>
    by_cases e : k = i
    · subst e; simp
    · have e' : ¬ i = k := fun q => e q.symm
      simp only [List.map_cons, List.find?_cons, e, decide_false, List.mem_cons, e', false_or]
      exact ih
theorem valueAt_some (ks : List Int) (i : Int) (h : i ∈ ks) : valueAt (kv ks) i = some Value.none := by
  have := valueAt_kv ks i
  rw [decide_eq_true h] at this
  obtain ⟨v, hv⟩ := Option.isSome_iff_exists.mp this
  rw [hv]
  unfold valueAt at hv
  obtain ⟨p, hp, rfl⟩ := Option.map_eq_some_iff.mp hv
  obtain ⟨k, _, rfl⟩ := List.mem_map.mp (List.mem_of_find?_eq_some hp)
  rfl
theorem valueAt_none (ks : List Int) (i : Int) (h : i ∉ ks) : valueAt (kv ks) i = none := by
  have := valueAt_kv ks i
  rw [decide_eq_false h] at this
  cases hv : valueAt (kv ks) i with
  | none => rfl
  | some v => rw [hv] at this; cases this

theorem addI_length (ks : List Int) (i : Int) : (addI ks i).length ≤ ks.length + 1 := by
  unfold addI; split <;> simp
theorem addA_length : ∀ (is ks : List Int), (addA ks is).length ≤ ks.length + is.length
  | [], ks => Nat.le_refl _
  | i :: r, ks => by
    have h1 := addA_length r (addI ks i)
    have h2 := addI_length ks i
    show (addA (addI ks i) r).length ≤ _
    simp only [List.length_cons]; omega
theorem addA_take (ks is : List Int) (i : Nat) (n : Int) (h : is[i]? = some n) : addA ks (is.take (i + 1)) = addI (addA ks (is.take i)) n := by
  unfold addA
  rw [List.take_add_one, h]
  simp [List.foldl_append]
theorem outA_take (ks is : List Int) (i : Nat) (n : Int) (h : is[i]? = some n) : outA ks (is.take (i + 1)) = outI (outA ks (is.take i)) n := by
  unfold outA
  rw [List.take_add_one, h]
  simp [List.foldl_append]
theorem outI_length (ks : List Int) (i : Int) : (outI ks i).length ≤ ks.length := List.length_filter_le _ _
theorem outA_length : ∀ (is ks : List Int), (outA ks is).length ≤ ks.length
  | [], ks => Nat.le_refl _
  | i :: r, ks => Nat.le_trans (outA_length r (outI ks i)) (outI_length ks i)

theorem dictOf_at {prog : Program} {w : World} {h h' : Heap} {a : Addr} {kvs : List (Int × Value)} (x : h.DictOf (intKind prog w) a kvs) (e : ∀ o, h.get? a = some o → h'.get? a = some o) : h'.DictOf (intKind prog w) a kvs :=
  let ⟨o, es, ep, ho, r⟩ := x; ⟨o, es, ep, e o ho, r⟩

section
variable {prog : Program} {w : World} {A : Around} {E : Value → Shared → Prop} {s : Shared} {K : Frag} {h₀ : Heap} {L : Addr} {m : Str → Option Value} {news : List (Addr × Obj)}

theorem fkLoop {I d : Addr} {fp : List Addr} {ns : List Int} {P : Nat → Value → Prop} {St : Nat → Heap → Prop} {R : Result → Shared → Prop} (W : Walks prog w A.in1 I fp [I] ns.length P St) (hval : ∀ i v, P i v → ∃ t n, ns[i]? = some n ∧ v = .int n t) (hdf : d ∉ fp)
    (hsz : ns.length ≤ 100) :
    ∀ (k i : Nat) (s : Shared), ns.length - i = k → i ≤ ns.length → St i s.heap → s.heap.DictOf (intKind prog w) d (kv (addA [] (ns.take i))) →
      (∀ h' tk, h'.DictOf (intKind prog w) d (kv (addA [] ns)) → (∀ b o, b ≠ d → b ≠ I → s.heap.get? b = some o → h'.get? b = some o) → R (.ok (.ret (.ref d))) { s with heap := h', toks := tk }) →
      codeAny (model prog w) A (.builtin "dict.fromkeys.loop" ⟨[.ref d, .ref I, .none], []⟩) R s := by
  have hdI : d ≠ I := fun e => hdf (W.sub d (by rw [e]; exact .head _))
  intro k
  induction k with
  | zero =>
    intro i s hk hi hst hd hR
    have hin : i = ns.length := by omega
    subst hin
    refine codeAny_builtin entry_fkl ?_
    rw [Around.under_plainId plain_fkl _]
    show wpAny _ A.in1 (pyNext (.ref I) >>= _) _ _ s
    refine wpAny_bind (W.done s _ _ hst fun h' tk hm => ?_)
    show wpAny _ A.in1 (ret (Value.ref d)) _ _ _
    rw [List.take_length] at hd
    exact wpAny_pure (hR h' tk (dictOf_at hd fun o e => hm d o (by simpa using hdI) e) fun b o hbd hbI e => hm b o (by simpa using hbI) e)
  | succ k ih =>
    intro i s hk hi hst hd hR
    have hlt : i < ns.length := by omega
    refine codeAny_builtin entry_fkl ?_
    rw [Around.under_plainId plain_fkl _]
    show wpAny _ A.in1 (pyNext (.ref I) >>= _) _ _ s
    refine wpAny_bind (W.item i s _ _ hlt hst fun v h' tk hP hst' hm => ?_)
    obtain ⟨t, n, hn, rfl⟩ := hval i v hP
    have hd' : h'.DictOf (intKind prog w) d (kv (addA [] (ns.take i))) := dictOf_at hd fun o e => hm d o (by simpa using hdI) e
    dsimp only
    refine wpAny_bind (wpAny_typeOf hd'.typeIs ?_)
    rw [if_pos (by decide)]
    refine wpAny_bind (wpAny_pure (wpAny_bind (wpAny_holding ?_)))
    have hl : (kv (addA [] (ns.take i))).length ≤ sizeLine := by
      have := addA_length (ns.take i) []
      have := List.length_take_le i ns
      rw [sizeLine_eq]; simp only [kv, List.length_map, List.length_nil] at *; omega
    refine wpAny_dictSet_pairs (intKind_is _ _ _ _) hd' (fun h₂ hd₂ hs₂ => ?_) hl
    rw [stored_kv, ← addA_take [] ns i n hn] at hd₂
    refine wpAny_pure ⟨plainId_quiet plain_fkl _, ih (i + 1) _ (by omega) hlt (W.frame _ _ _ hst' fun b hb o e => (hs₂.2 b (fun q => hdf (q ▸ hb))).trans e) hd₂ fun h₃ tk₃ hd₃ hk₃ => ?_⟩
    exact hR h₃ tk₃ hd₃ fun b o hbd hbI e => hk₃ b o hbd hbI ((hs₂.2 b hbd).trans (hm b o (by simpa using hbI) e))

/-- `dict.fromkeys` of a list of ints -/
theorem fkList {l : Addr} {vs : List Value} {ns : List Int} {Q : Value → Shared → Prop} (hh : A.handled = none) (hl : s.heap.IsList l vs.toArray) (hi : IntsAre vs ns) (hsz : ns.length ≤ 100)
    (k : ∀ h' tk, h'.DictOf (intKind prog w) s.heap.objs.size (kv (addA [] ns)) → (∀ b o, s.heap.get? b = some o → h'.get? b = some o) → Q (.ref s.heap.objs.size) { s with heap := h', toks := tk }) :
    codeAny (model prog w) A (.builtin "dict.fromkeys" ⟨[.type "dict", .ref l], []⟩) (wants Q E) s := by
  refine codeAny_builtin entry_fk ?_
  rw [Around.under_plainId plain_fk _]
  unfold Builtin.«dict.fromkeys»
  refine wpAny_bind (wpAny_of_eq (a := true) isty_dict (KFB.if_not rfl ?_))
  refine wpAny_bind (wpAny_of_eq (a := true) isSubtype_dict_dict (KFB.if_not rfl ?_))
  refine KFB.if_not rfl ?_
  refine wpAny_bind (wpAny_rule (wpAny_bind (wpAny_pure ?_)))
  dsimp only
  refine wpAny_bind (callDict0 fun h' hd' e' => ?_)
  subst e'
  have hne : l ≠ s.heap.objs.size := by obtain ⟨o, ho, _⟩ := hl; exact Nat.ne_of_lt (Heap.lt_size ho)
  have hl' := hl.push { cls := .type "dict", data := .dict #[] }
  refine wpAny_holding (wpAny_bind (wpAny_typeOf (T := "list") hl'.typeIs ?_))
  refine wpAny_bind (wpAny_typeOf (T := "dict") hd'.typeIs ?_)
  refine KFB.if_not (by decide) ?_
  refine wpAny_bind (wpAny_typeOf (T := "dict") hd'.typeIs ?_)
  refine KFB.if_not (by decide) ?_
  refine wpAny_bind (wpAny_pyIter_list hl' ?_)
  refine wpAny_pure ⟨plainId_quiet plain_fkl _, ?_⟩
  have hsize : (s.heap.push { cls := Value.type "dict", data := Data.dict #[] }).objs.size = s.heap.objs.size + 1 := Heap.size_push ..
  rw [hsize]
  have W := Walks.list (prog := prog) (w := w) (A := A.in1) hh (s.heap.objs.size + 1) l (by obtain ⟨o, ho, _⟩ := hl; exact Nat.ne_of_lt (Nat.lt_succ_of_lt (Heap.lt_size ho))) vs.toArray
  have hlen : vs.toArray.size = ns.length := by simp [hi.length]
  rw [hlen] at W
  refine fkLoop W (fun i v hv => ?_) (by simp only [List.mem_cons, List.not_mem_nil, or_false, not_or]; exact ⟨Nat.ne_of_lt (Nat.lt_succ_self _), Ne.symm hne⟩) hsz ns.length 0 _ rfl (Nat.zero_le _) ⟨?_, hl'.push _⟩ (hd'.push _) fun h₃ tk₃ hd₃ hk₃ => ?_
  · have hv' : vs[i]? = some v := by simpa using hv
    have hlt : i < ns.length := by
      have := (List.getElem?_eq_some_iff.mp hv').1
      rw [hi.length] at this; exact this
    obtain ⟨t, hx⟩ := hi.get i ns[i] (by simp [hlt])
    rw [hv'] at hx
    exact ⟨t, ns[i], by simp [hlt], Option.some.inj hx⟩
  · have := Heap.get?_push_size (h := s.heap.push { cls := Value.type "dict", data := Data.dict #[] }) (o := { cls := .type "list_iterator", data := .fields #[.ref l, .int 0 0] }) rfl
    rw [hsize] at this
    exact ⟨_, this, rfl, rfl⟩
  · refine k h₃ tk₃ hd₃ fun b o e => hk₃ b o (Nat.ne_of_lt (Heap.lt_size e)) (Nat.ne_of_lt (Nat.lt_succ_of_lt (Heap.lt_size e))) (Heap.get?_push_of_some _ (Heap.get?_push_of_some _ e))
end
end Mine
end
theorem Mine.calm9a7 : True ∧ True := by
  w_top off
  (try walk1) <;> (first | exact True.intro | exact ⟨True.intro, True.intro⟩)

/-! part P7 -/
section
open PySem PySem.W PySem.Calls PySem.Spec PyProof.Rows
namespace Mine
theorem fill9c : PySem.Challenge.rw_fs0001_01 = PySem.Challenge.rw_fs0001_01 ∧ ∀ (w : World) h, (hd.heap_39 w.params).In h → True := by
  k_fill
  exact ⟨rfl, fun _ _ _ => trivial⟩

def IsL (o : Obj) (vs : List Value) : Prop := o.cls = .type "list" ∧ ∃ n, o.data = .seq vs.toArray n
theorem IsL.at {o : Obj} {vs : List Value} {h : Heap} {l : Addr} (x : IsL o vs) (e : h.get? l = some o) : h.IsList l vs.toArray := ⟨o, e, x⟩

theorem led_new {h₀ h h' : Heap} {L c : Addr} {m : Str → Option Value} {news : List (Addr × Obj)} {o' : Obj} (F : Fr h₀ L h m) (N : News h₀ L h news) (hk : ∀ b o, h.get? b = some o → h'.get? b = some o) (hc : h'.get? c = some o') (hs : h.objs.size ≤ c) :
    Fr h₀ L h' m ∧ News h₀ L h' ((c, o') :: news) := by
  refine ⟨⟨F.ns.keeps hk, fun b o e => hk b o (F.keep b o e), F.above⟩, fun p hp => ?_⟩
  rcases List.mem_cons.mp hp with rfl | hp
  · refine ⟨hc, Nat.ne_of_gt (Nat.lt_of_lt_of_le F.ns.lt hs), ?_⟩
    cases hq : h₀.get? c with
    | none => rfl
    | some o' => exact absurd (Heap.lt_size (F.keep _ _ hq)) (Nat.not_lt.mpr hs)
  · exact ⟨hk _ _ (N p hp).1, (N p hp).2⟩

section
variable {prog : Program} {w : World} {p : Program} {loose : List Str} {mean : ExcName → Option Value} {mg mb : Str → Option Value} {A A₀ : Around} {env : Env} {outer : List Env} {base h₀ : Heap} {L : Addr} {m : Str → Option Value} {s : Shared} {news : List (Addr × Obj)} {Q E : Value → Shared → Prop}

theorem fkCall9 {x l : Addr} {lo : Obj} {vs : List Value} {ns : List Int} (F : Fr h₀ L s.heap m) (N : News h₀ L s.heap news) (hlim : h₀.NoLimit) (hh : A.handled = none) (hx : (x, fkObj) ∈ news) (hl : (l, lo) ∈ news) (hlo : IsL lo vs) (hi : IntsAre vs ns) (hsz : ns.length ≤ 100)
    (k : ∀ c h' tk o', Fr h₀ L h' m → News h₀ L h' ((c, o') :: news) → (∀ p ∈ news, p.1 < c) → L < c → (c == sysModules) = false → o'.IsDictOf (intKind prog w) (kv (addA [] ns)) → Q (.ref c) { s with heap := h', toks := tk }) :
    wpAny (model prog w) A (call (.ref x) [.ref l]) Q E s := by
  refine callFk (fkAt_of N hx) (fkList hh (hlo.at (N _ hl).1) hi hsz fun h' tk hd hk => ?_)
  obtain ⟨o', ho', hd'⟩ := Heap.dictOf_iff.mp hd
  obtain ⟨F', N'⟩ := led_new F N hk ho' (Nat.le_refl _)
  exact k _ h' tk o' F' N' (fun p hp => Heap.lt_size (N p hp).1) F.ns.lt (F.notModules (modules_low hlim)) hd'

local macro_rules | `(tactic| walk_at "getMethod type:dict") => `(tactic| (k_here; k_dflt (refine' getFk ?kbF ?kbN ?kbX ?kbE ?_; (case kbF => k_asm); (case kbN => k_asm); (case kbX => k_asm); (case kbE => k_is); k_whole; intro x' h' F' N' l1; (try k_lt l1); (try k_sweep))))
local macro_rules | `(tactic| walk_at "callWith ref") => `(tactic| (k_here; (with_reducible show wpAny _ _ (callWith _ (Value.ref _) _ (backTo _ (starEach (_ :: _) _)) []) _ _ _); k_dflt (refine' callWith_fk ?kbN ?kbM ?_; (case kbN => k_asm); (case kbM => k_mem); k_whole)))
local macro_rules | `(tactic| walk_at "And") => `(tactic| ((with_reducible show FkAt _ _ ∧ _); k_dflt (refine ⟨fkAt_of (by k_asm) (by k_mem), ?_⟩); (try dsimp only [List.nil_append, List.cons_append])))
local macro_rules | `(tactic| walk_at "call ref") => `(tactic| (k_here; (with_reducible show wpAny _ _ (call (Value.ref _) [Value.ref _]) _ _ _); k_dflt (refine' fkCall9 ?F ?N ?l ?h ?x ?y ?o ?i ?z ?_; (case F => k_asm); (case N => k_asm); (case l => exact Top.nolimit (by k_asm)); (case h => first | rfl | assumption); (case x => k_mem); (case y => k_mem); (case o => assumption); (case i => assumption); (case z => assumption); k_whole; intro c' h' tk' o' F' N' l1 l2 lo' hd'; (try k_lt l1); (try k_lt2 l2); (try k_sweep))))

set_option maxHeartbeats 4000000 in
/-- `x.__init__(l)` of a new object and a list of ints -/
theorem init_spec {x dx l : Addr} {o : Obj} {vs : List Value} {ns : List Int} (c : Cl w p loose mean mg mb A env outer A₀ base h₀ L s.heap m)
    (N : News h₀ L s.heap [(x, instObj 217 dx), (dx, dictOf [] 0), (l, o)]) (ho : IsL o vs) (hi : IntsAre vs ns) (hsz : ns.length ≤ 100) (h1 : x ≠ dx) (hdep : A.depth + 4 < recursionLimit) 
    (k : ∀ d' h' tk' o' hs tk, Kp [dx] s.heap h' → h'.get? dx = some (dictOf [⟨hs, .str (Str.ofString "_data") tk, .ref d'⟩] 1) → h'.get? d' = some o' → s.heap.objs.size ≤ d' → (d' == sysModules) = false → o'.IsDictOf (intKind prog w) (kv (addA [] ns)) → Q .none { s with heap := h', toks := tk' }) :
    wpAny (model prog w) A (call (.ref 36) [.ref x, .ref l]) Q E s := by
  have a1 : @Ne Nat x l := by
    rintro rfl
    have a := (N _ (.head _)).1; have b := (N _ (.tail _ (.tail _ (.head _)))).1
    simp only at a b
    rw [a] at b; cases b
    cases ho.1
  have a2 : @Ne Nat dx l := by
    rintro rfl
    have a := (N _ (.tail _ (.head _))).1; have b := (N _ (.tail _ (.tail _ (.head _)))).1
    simp only at a b
    rw [a] at b
    have e := ho.1
    rw [← Option.some.inj b] at e
    exact absurd e (by decide)
  have X := c.X.keeps fun b o e => c.F.keep b o (c.B.stays b o e)
  have hh := c.hh
  have a3 := neN h1
  refine wpAny_call ?_
  k_dflt (refine' enter9 (binds := [(Str.ofString "self", .ref x), (Str.ofString "iterable", .ref l)]) c N ?k6 ?k7 ?k8 ?k9 ?kB ?_ ?c5 ?c2 ?c3 ?c4; (case k6 => k_is); (case k7 => k_is); (case k8 => omega); (case k9 => first | exact BindsTo.of_eq rfl | exact binds_K (by k_in) rfl (by k_is) rfl rfl rfl); (case c5 => decide); (case kB => exact locs rfl); (case c2 => exact rfl); (case c3 => exact rfl); (case c4 => exact rfl); k_whole; intro g' L' h' F' N' B' X' T' keep' above'; (try dsimp only); (try k_fold))
  k_steps
  (with_reducible rename News _ _ _ _ => N9); (with_reducible rename Fr _ _ _ _ => F9)
  refine k _ _ _ _ _ _ (kp_of keep' F9 N N9 (by simp)) (N9 _ (.tail _ (.tail _ (.tail _ (.head _))))).1 (N9 _ (.head _)).1 (by omega) (by assumption) (by assumption)
end
end Mine
end
theorem Mine.calm9a8 : True ∧ True := by
  w_top off
  (try walk1) <;> (first | exact True.intro | exact ⟨True.intro, True.intro⟩)

/-! part P8 -/
section
open PySem PySem.W PySem.Calls PySem.Spec PyProof.Rows
namespace Mine
theorem fill9d : PySem.Challenge.rw_fs0001_01 = PySem.Challenge.rw_fs0001_01 ∧ ∀ (w : World) h, (hd.heap_39 w.params).In h → True := by
  k_fill
  exact ⟨rfl, fun _ _ _ => trivial⟩

/-- small numbers -/
def sm (ks : List Int) : Prop := ∀ k ∈ ks, 0 ≤ k ∧ k < 7

abbrev dent (hs : Int) (tk : Nat) (d : Addr) : DictEntry := ⟨hs, .str (Str.ofString "_data") tk, .ref d⟩

/-- an ordered set that a caller holds -/
def OSN (prog : Program) (w : World) (h₀ : Heap) (L : Addr) (h : Heap) (x d : Addr) (ks : List Int) : Prop :=
  ∃ dx hs tk n o, News h₀ L h [(x, instObj 217 dx), (dx, dictOf [⟨hs, .str (Str.ofString "_data") tk, .ref d⟩] n), (d, o)] ∧ o.IsDictOf (intKind prog w) (kv ks) ∧ (d == sysModules) = false ∧ sm ks
/-- an ordered set that was made -/
def NewOS (prog : Program) (w : World) (h h' : Heap) (x d : Addr) (ks : List Int) : Prop :=
  ∃ dx hs tk n o, h'.get? x = some (instObj 217 dx) ∧ h'.get? dx = some (dictOf [⟨hs, .str (Str.ofString "_data") tk, .ref d⟩] n) ∧ h'.get? d = some o ∧ h.objs.size ≤ x ∧ h.objs.size ≤ dx ∧ h.objs.size ≤ d ∧
    o.IsDictOf (intKind prog w) (kv ks) ∧ (d == sysModules) = false ∧ sm ks

theorem nodup_small : ∀ {n : Nat} {l : List Nat}, l.Nodup → (∀ x ∈ l, x < n) → l.length ≤ n
  | 0, [], _, _ => Nat.le_refl _
  | 0, a :: _, _, h => absurd (h a (.head _)) (Nat.not_lt_zero _)
  | n + 1, l, hn, h => by
    have h1 : (l.erase n).Nodup := hn.erase n
    have h2 : ∀ x ∈ l.erase n, x < n := fun x hx => by
      have := h x (List.mem_of_mem_erase hx)
      have hne : x ≠ n := fun e => by rw [e] at hx; exact (List.Nodup.not_mem_erase hn) hx
      omega
    have h3 := nodup_small h1 h2
    have h4 : l.length - 1 ≤ (l.erase n).length := List.le_length_erase
    omega
theorem small_len {ks : List Int} (hn : ks.Nodup) (h : sm ks) : ks.length ≤ 7 := by
  have h1 : (ks.map Int.toNat).Nodup := by
    rw [List.nodup_iff_pairwise_ne, List.pairwise_map]
    refine (List.nodup_iff_pairwise_ne.mp hn).imp_of_mem fun {a b} ha hb hne e => hne ?_
    have := h a ha; have := h b hb; omega
  have := nodup_small (n := 7) h1 fun x hx => by
    obtain ⟨k, hk, rfl⟩ := List.mem_map.mp hx
    have := h k hk; omega
  rwa [List.length_map] at this
theorem kv_keys (ks : List Int) : (kv ks).map (·.1) = ks := by unfold kv; rw [List.map_map]; exact List.map_id _
section
variable {prog : Program} {w : World} {o : Obj} {ks : List Int}
theorem isd_nodup (h : o.IsDictOf (intKind prog w) (kv ks)) : ks.Nodup := by
  obtain ⟨_, _, _, _, _, _, hn⟩ := h
  rwa [kv_keys] at hn
theorem isd_len (h : o.IsDictOf (intKind prog w) (kv ks)) (hs : sm ks) : (kv ks).length ≤ 100 := by
  have := small_len (isd_nodup h) hs
  unfold kv; rw [List.length_map]; omega
end
theorem sm_addI {ks : List Int} {i : Int} (h : sm ks) (h0 : 0 ≤ i) (h7 : i < 7) : sm (addI ks i) := by
  unfold addI; split
  · exact h
  · intro k hk
    rcases List.mem_append.mp hk with hk | hk
    · exact h k hk
    · rw [List.mem_singleton.mp hk]; exact ⟨h0, h7⟩
theorem sm_addA : ∀ {is ks : List Int}, sm ks → sm is → sm (addA ks is)
  | [], _, h, _ => h
  | i :: r, _, h, h' => sm_addA (is := r) (sm_addI h (h' i (.head _)).1 (h' i (.head _)).2) fun k hk => h' k (.tail _ hk)
theorem sm_outI {ks : List Int} {i : Int} (h : sm ks) : sm (outI ks i) := fun k hk => h k (List.mem_filter.mp hk).1
theorem sm_outA : ∀ {is ks : List Int}, sm ks → sm (outA ks is)
  | [], _, h => h
  | _ :: r, _, h => sm_outA (is := r) (sm_outI h)
theorem sm_nil : sm [] := fun _ h => nomatch h
theorem sm_sub {ks ls : List Int} (h : sm ks) (s : ∀ k ∈ ls, k ∈ ks) : sm ls := fun k hk => h k (s k hk)

/-- an ordered set stands where nothing of it has changed -/
theorem OSN.kp {prog : Program} {w : World} {h₀ h h' : Heap} {L x d : Addr} {ks : List Int} (O : OSN prog w h₀ L h x d ks) (hk : ∀ b o, h.get? b = some o → h'.get? b = some o) : OSN prog w h₀ L h' x d ks := by
  obtain ⟨dx, hs, tk, n, o, N, r⟩ := O
  exact ⟨dx, hs, tk, n, o, fun p hp => ⟨hk _ _ (N p hp).1, (N p hp).2⟩, r⟩
/-- .. and where another dict has changed -/
theorem OSN.kpBut {prog : Program} {w : World} {h₀ h h' : Heap} {L x d x' d' : Addr} {ks ks' : List Int} (O : OSN prog w h₀ L h x d ks) (O' : OSN prog w h₀ L h x' d' ks') (hne : d ≠ d') (hk : Kp [d'] h h') : OSN prog w h₀ L h' x d ks := by
  obtain ⟨dx, hs, tk, n, o, N, ho, r⟩ := O
  obtain ⟨dx', hs', tk', n', o', N', ho', r'⟩ := O'
  have N2 : News h₀ L h [(x, instObj 217 dx), (dx, dictOf [⟨hs, .str (Str.ofString "_data") tk, .ref d⟩] n), (d', o')] := fun p hp => by
    rcases List.mem_cons.mp hp with rfl | hp
    · exact N _ (.head _)
    rcases List.mem_cons.mp hp with rfl | hp
    · exact N _ (.tail _ (.head _))
    · exact N' p (List.mem_cons_of_mem _ (List.mem_cons_of_mem _ hp))
  have a1 : x ≠ d' := apart_x N2 (.head _) (.tail _ (.tail _ (.head _))) ho'
  have a2 : dx ≠ d' := apart_d N2 (.tail _ (.head _)) (.tail _ (.tail _ (.head _))) ho'
  refine ⟨dx, hs, tk, n, o, fun p hp => ⟨hk _ _ ?_ (N p hp).1, (N p hp).2⟩, ho, r⟩
  rcases List.mem_cons.mp hp with rfl | hp
  · simpa using a1
  rcases List.mem_cons.mp hp with rfl | hp
  · simpa using a2
  · rw [List.mem_singleton.mp hp]; simpa using hne
/-- its own dict has changed -/
theorem OSN.put {prog : Program} {w : World} {h₀ h h' : Heap} {L x d : Addr} {o' : Obj} {ks ks' : List Int} (O : OSN prog w h₀ L h x d ks) (hk : Kp [d] h h') (ho' : h'.get? d = some o') (hd' : o'.IsDictOf (intKind prog w) (kv ks')) (hs' : sm ks') : OSN prog w h₀ L h' x d ks' := by
  obtain ⟨dx, hs, tk, n, o, N, ho, lo, _⟩ := O
  have a1 : x ≠ d := apart_x N (.head _) (.tail _ (.tail _ (.head _))) ho
  have a2 : dx ≠ d := apart_d N (.tail _ (.head _)) (.tail _ (.tail _ (.head _))) ho
  refine ⟨dx, hs, tk, n, o', fun p hp => ?_, hd', lo, hs'⟩
  rcases List.mem_cons.mp hp with rfl | hp
  · exact ⟨hk _ _ (by simpa using a1) (N _ (.head _)).1, (N _ (.head _)).2⟩
  rcases List.mem_cons.mp hp with rfl | hp
  · exact ⟨hk _ _ (by simpa using a2) (N _ (.tail _ (.head _))).1, (N _ (.tail _ (.head _))).2⟩
  · rw [List.mem_singleton.mp hp]; exact ⟨ho', (N _ (.tail _ (.tail _ (.head _)))).2⟩
theorem NewOS.osn {prog : Program} {w : World} {h₀ h h' : Heap} {L x d : Addr} {m : Str → Option Value} {ks : List Int} (O : NewOS prog w h h' x d ks) (F : Fr h₀ L h m) : OSN prog w h₀ L h' x d ks := by
  obtain ⟨dx, hs, tk, n, o, h1, h2, h3, g1, g2, g3, r⟩ := O
  have fresh : ∀ c, h.objs.size ≤ c → c ≠ L ∧ h₀.get? c = none := fun c hc => by
    refine ⟨Nat.ne_of_gt (Nat.lt_of_lt_of_le F.ns.lt hc), ?_⟩
    cases hq : h₀.get? c with
    | none => rfl
    | some o' => exact absurd (Heap.lt_size (F.keep _ _ hq)) (Nat.not_lt.mpr hc)
  refine ⟨dx, hs, tk, n, o, fun p hp => ?_, r⟩
  rcases List.mem_cons.mp hp with rfl | hp
  · exact ⟨h1, fresh _ g1⟩
  rcases List.mem_cons.mp hp with rfl | hp
  · exact ⟨h2, fresh _ g2⟩
  · rw [List.mem_singleton.mp hp]; exact ⟨h3, fresh _ g3⟩
theorem NewOS.apart {prog : Program} {w : World} {h₀ h h' : Heap} {L x d x' d' : Addr} {ks ks' : List Int} (O : NewOS prog w h h' x d ks) (O' : OSN prog w h₀ L h x' d' ks') : d ≠ d' := by
  obtain ⟨dx, hs, tk, n, o, h1, h2, h3, g1, g2, g3, r⟩ := O
  obtain ⟨dx', hs', tk', n', o', N', _⟩ := O'
  have := Heap.lt_size (N' _ (.tail _ (.tail _ (.head _)))).1
  simp only at this
  exact Nat.ne_of_gt (Nat.lt_of_lt_of_le this g3)

section
variable {prog : Program} {w : World} {p : Program} {loose : List Str} {mean : ExcName → Option Value} {mg mb : Str → Option Value} {A A₀ : Around} {env : Env} {outer : List Env} {base h₀ : Heap} {L : Addr} {m : Str → Option Value} {s : Shared} {news : List (Addr × Obj)} {Q E : Value → Shared → Prop} {R : Result → Shared → Prop}
  {x d : Addr} {ks : List Int}

local macro_rules | `(tactic| walk_at "setItem ref int") => `(tactic| (k_here; k_dflt (refine' kda_set (knd := PySem.intKind _ _) ?F ?N ?U ?d (intKind_is _ _ _ _) ?z ?_; (case F => k_asm); (case N => k_asm); (case U => k_updF); (case d => k_asm); (case z => rw [sizeLine_eq]; omega)); intro h' o' F' N' hd'; (try dsimp only at N')))
set_option maxHeartbeats 4000000 in
theorem add_code {i : Int} {t : Tok} (c : Cl w p loose mean mg mb A env outer A₀ base h₀ L s.heap m) (O : OSN prog w h₀ L s.heap x d ks) (h0 : 0 ≤ i) (h7 : i < 7) (hdep : A.depth + 4 < recursionLimit)
    (k : ∀ h' tk', Kp [d] s.heap h' → OSN prog w h₀ L h' x d (addI ks i) → R (.ok (.ret .none)) { s with heap := h', toks := tk' }) :
    codeAny (model prog w) A (.call (.ref 99) ⟨[.ref x, .int i t], []⟩) R s := by
  have O₀ := O
  obtain ⟨dx, hs, tk, n, o, N, ho, lo, h7s⟩ := O
  have a1 := neN (apart_x N (.head _) (.tail _ (.tail _ (.head _))) ho)
  have a2 := neN (apart_d N (.tail _ (.head _)) (.tail _ (.tail _ (.head _))) ho)
  have hlen := isd_len ho h7s
  k_dflt (refine' enter9 (binds := [(Str.ofString "self", .ref x), (Str.ofString "item", .int i t)]) c N ?k6 ?k7 ?k8 ?k9 ?kB ?_ ?c5 ?c2 ?c3 ?c4; (case k6 => k_is); (case k7 => k_is); (case k8 => omega); (case k9 => first | exact BindsTo.of_eq rfl | exact binds_K (by k_in) rfl (by k_is) rfl rfl rfl); (case c5 => decide); (case kB => exact locs rfl); (case c2 => exact rfl); (case c3 => exact rfl); (case c4 => exact rfl); k_whole; intro g' L' h' F' N' B' X' T' keep' above'; (try dsimp only); (try k_fold))
  k_steps
  (with_reducible rename News _ _ _ _ => N9); (with_reducible rename Fr _ _ _ _ => F9); (with_reducible rename Obj.IsDictOf _ _ _ => D9)
  have hk := kp_of (ch := [d]) keep' F9 N N9 (by simp)
  rw [stored_kv] at D9
  exact k _ _ hk (O₀.put hk (N9 _ (.tail _ (.tail _ (.head _)))).1 D9 (sm_addI h7s h0 h7))
end
end Mine
end
theorem Mine.calm9a9 : True ∧ True := by
  w_top off
  (try walk1) <;> (first | exact True.intro | exact ⟨True.intro, True.intro⟩)

/-! part P9 -/
section
open PySem PySem.W PySem.Calls PySem.Spec PyProof.Rows
namespace Mine
theorem fill9e : PySem.Challenge.rw_fs0001_01 = PySem.Challenge.rw_fs0001_01 ∧ ∀ (w : World) h, (hd.heap_39 w.params).In h → True := by
  k_fill
  exact ⟨rfl, fun _ _ _ => trivial⟩

section
variable {prog : Program} {w : World} {p : Program} {loose : List Str} {mean : ExcName → Option Value} {mg mb : Str → Option Value} {A A₀ : Around} {env : Env} {outer : List Env} {base h₀ : Heap} {L : Addr} {m : Str → Option Value} {s : Shared} {news : List (Addr × Obj)} {Q E : Value → Shared → Prop} {R : Result → Shared → Prop}
  {x d : Addr} {ks : List Int}

theorem getM9 {name : Str} {id : String} {o : Obj} {kvs : List (Int × Value)} {pl : Sem Bool} {Q : Value × List Value → Shared → Prop} (N : News h₀ L s.heap news) (hp : (d, o) ∈ news) (ho : o.IsDictOf (intKind prog w) kvs) (slot : Slot "dict" name id) (hty : typeOf (.builtin id) = pure (.type "method_descriptor")) (h : Q (.builtin id, [.ref d]) s) :
    wpAny (model prog w) A (getMethod (.ref d) name pl) Q E s :=
  have hD := kda_dict N hp ho
  getMethod_builtin hD.typeIs PySem.F.plainAttrs_dict slot hty hD.mapOf.noDict h

theorem dpop9 {o : Obj} {g : Obj → List (Addr × Obj)} {i : Int} {t : Tok} (F : Fr h₀ L s.heap m) (N : News h₀ L s.heap news) (U : UpdF d o news g) (ho : o.IsDictOf (intKind prog w) (kv ks)) (lo : (d == sysModules) = false) (hz : (kv ks).length ≤ 100)
    (h : ∀ h' o', Fr h₀ L h' m → News h₀ L h' (g o') → o'.IsDictOf (intKind prog w) (kv (outI ks i)) → Q .none { s with heap := h', toks := s.toks + 1 }) :
    wpAny (model prog w) A (call (.builtin "dict.pop") [.ref d, .int i t, .none]) Q E s := by
  obtain ⟨pre, post, rfl, hg, a, b⟩ := U.split
  have hm := N (d, o) (List.mem_append_right _ (.head _))
  have hD : s.heap.DictOf (intKind prog w) d (kv ks) := Heap.dictOf_iff.mpr ⟨o, hm.1, ho⟩
  by_cases hi : i ∈ ks
  · refine call_meetsIn PySem.F.slot_dict_pop hD.typeIs PySem.F.entry_dict_pop (PySem.F.args_dict_pop_3 _ _ _) (meets_dict_pop_there (intKind prog w) d (intKind_is _ _ _ _) [.none] (.inr ⟨_, rfl⟩) rfl) ⟨kv ks, .none, hD, by rw [sizeLine_eq]; omega, valueAt_some ks i hi, fun h' hmm hs => ?_⟩
    obtain ⟨o', ho', hd'⟩ := Heap.dictOf_iff.mp hmm
    rw [without_kv] at hd'
    exact h h' o' (F.change hs hm.2.1 hm.2.2) (hg o' ▸ N.setIn a b hs ho') hd'
  · refine call_meetsIn PySem.F.slot_dict_pop hD.typeIs PySem.F.entry_dict_pop (PySem.F.args_dict_pop_3 _ _ _) (meets_dict_pop_default (intKind prog w) d (intKind_is _ _ _ _) lo rfl .none) ⟨kv ks, hD, valueAt_none ks i hi, ?_⟩
    refine h s.heap o F (hg o ▸ N) ?_
    have : outI ks i = ks := List.filter_eq_self.mpr fun k hk => decide_eq_true fun e => hi (e ▸ hk)
    rwa [this]
theorem ddel9 {o : Obj} {g : Obj → List (Addr × Obj)} {i : Int} {t : Tok} {Q : Unit → Shared → Prop} (F : Fr h₀ L s.heap m) (N : News h₀ L s.heap news) (U : UpdF d o news g) (ho : o.IsDictOf (intKind prog w) (kv ks)) (hi : i ∈ ks) (hz : (kv ks).length ≤ 100)
    (h : ∀ h' o', Fr h₀ L h' m → News h₀ L h' (g o') → o'.IsDictOf (intKind prog w) (kv (outI ks i)) → Q () { s with heap := h', toks := s.toks + 1 }) :
    wpAny (model prog w) A (delItem (.ref d) (.int i t)) Q E s := by
  obtain ⟨pre, post, rfl, hg, a, b⟩ := U.split
  have hm := N (d, o) (List.mem_append_right _ (.head _))
  have hD : s.heap.DictOf (intKind prog w) d (kv ks) := Heap.dictOf_iff.mpr ⟨o, hm.1, ho⟩
  unfold delItem
  try with_reducible refine wpAny_holding ?_
  refine wpAny_bind (wpAny_sequenceKey hD.typeIs (by decide) ?_)
  refine wpAny_bind (wpAny_callSpecial?_slot (name := Str.ofString "__delitem__") hD.typeIs PySem.F.slot_dict_delitem
    (call_meetsIn PySem.F.slot_dict_delitem hD.typeIs PySem.F.entry_dict_delitem (PySem.F.args_dict_delitem_2 _ _) (meets_dict_delitem_pairs (intKind prog w) d (intKind_is _ _ _ _)) ⟨kv ks, hD, by rw [sizeLine_eq]; omega, by rw [valueAt_kv]; exact decide_eq_true hi, fun h' hmm hs => ?_⟩))
  obtain ⟨o', ho', hd'⟩ := Heap.dictOf_iff.mp hmm
  rw [without_kv] at hd'
  exact wpAny_pure (h h' o' (F.change hs hm.2.1 hm.2.2) (hg o' ▸ N.setIn a b hs ho') hd')
theorem dclear9 {o : Obj} {g : Obj → List (Addr × Obj)} (F : Fr h₀ L s.heap m) (N : News h₀ L s.heap news) (U : UpdF d o news g) (ho : o.IsDictOf (intKind prog w) (kv ks)) (hz : (kv ks).length ≤ 100)
    (h : ∀ h' o', Fr h₀ L h' m → News h₀ L h' (g o') → o'.IsDictOf (intKind prog w) (kv []) → Q .none { s with heap := h' }) :
    wpAny (model prog w) A (call (.builtin "dict.clear") [.ref d]) Q E s := by
  obtain ⟨pre, post, rfl, hg, a, b⟩ := U.split
  have hm := N (d, o) (List.mem_append_right _ (.head _))
  have hD : s.heap.DictOf (intKind prog w) d (kv ks) := Heap.dictOf_iff.mpr ⟨o, hm.1, ho⟩
  refine call_meetsIn PySem.F.slot_dict_clear hD.typeIs PySem.F.entry_dict_clear (PySem.F.args_dict_clear_1 _) (meets_dict_clear (intKind prog w) d) ⟨kv ks, hD, by rw [sizeLine_eq]; omega, fun h' hmm hs => ?_⟩
  obtain ⟨o', ho', hd'⟩ := Heap.dictOf_iff.mp hmm
  exact h h' o' (F.change hs hm.2.1 hm.2.2) (hg o' ▸ N.setIn a b hs ho') hd'
theorem dpopitem9 {o : Obj} {g : Obj → List (Addr × Obj)} {i : Int} (F : Fr h₀ L s.heap m) (N : News h₀ L s.heap news) (U : UpdF d o news g) (lo : (d == sysModules) = false) (ho : o.IsDictOf (intKind prog w) (kv (ks ++ [i]))) (hz : (kv (ks ++ [i])).length ≤ 100)
    (h : ∀ T h' o' t, Fr h₀ L h' m → News h₀ L h' ((T, { cls := .type "tuple", data := .seq #[.int i t, .none] }) :: g o') → o'.IsDictOf (intKind prog w) (kv ks) → Q (.ref T) { s with heap := h' }) :
    wpAny (model prog w) A (call (.builtin "dict.popitem") [.ref d]) Q E s := by
  obtain ⟨pre, post, rfl, hg, a, b⟩ := U.split
  have hm := N (d, o) (List.mem_append_right _ (.head _))
  have hD : s.heap.DictOf (intKind prog w) d (kv ks ++ [(i, Value.none)]) := Heap.dictOf_iff.mpr ⟨o, hm.1, by unfold kv at ho; rw [List.map_append] at ho; exact ho⟩
  refine popitem9 lo hD (by unfold kv at hz ⊢; simp only [List.length_map, List.length_append, List.length_cons, List.length_nil] at hz ⊢; omega) fun t T h' hd' hT hsz hk => ?_
  obtain ⟨o', ho', hd'⟩ := Heap.dictOf_iff.mp hd'
  have keep : ∀ b x, h₀.get? b = some x → h'.get? b = some x := fun b x e => hk b x (fun q => by rw [q, hm.2.2] at e; cases e) (F.keep b x e)
  obtain ⟨oL, es, ep, hL, r⟩ := F.ns
  refine h T h' o' t ⟨⟨oL, es, ep, hk _ _ (Ne.symm hm.2.1) hL, r⟩, keep, F.above⟩ (fun p hp => ?_) hd'
  rcases List.mem_cons.mp hp with rfl | hp
  · refine ⟨hT, Nat.ne_of_gt (Nat.lt_of_lt_of_le (Heap.lt_size hL) hsz), ?_⟩
    cases hq : h₀.get? T with
    | none => rfl
    | some o' => exact absurd (Heap.lt_size (F.keep _ _ hq)) (Nat.not_lt.mpr hsz)
  · rw [hg o'] at hp
    rcases List.mem_append.mp hp with hp | hp
    · have P := N p (List.mem_append_left _ hp); exact ⟨hk _ _ (a p hp) P.1, P.2⟩
    rcases List.mem_cons.mp hp with rfl | hp
    · exact ⟨ho', hm.2⟩
    · have P := N p (List.mem_append_right _ (.tail _ hp)); exact ⟨hk _ _ (b p hp) P.1, P.2⟩

local macro_rules | `(tactic| walk_at "getMethod ref") => `(tactic| (k_here; k_dflt (first
  | (refine getM9 (by k_asm) (by k_mem) (by k_asm) PySem.F.slot_dict_contains PySem.F.type_dict_contains ?_)
  | (refine getM9 (by k_asm) (by k_mem) (by k_asm) PySem.F.slot_dict_pop PySem.F.type_dict_pop ?_)
  | (refine getM9 (by k_asm) (by k_mem) (by k_asm) PySem.F.slot_dict_popitem PySem.F.type_dict_popitem ?_)
  | (refine getM9 (by k_asm) (by k_mem) (by k_asm) PySem.F.slot_dict_clear PySem.F.type_dict_clear ?_)
  | (refine getM9 (by k_asm) (by k_mem) (by k_asm) PySem.F.slot_dict_copy PySem.F.type_dict_copy ?_))))
local macro_rules | `(tactic| walk_at "call builtin:dict.__contains__") => `(tactic| (k_here; k_dflt (refine dhas9 (by k_asm) (by k_mem) (by k_asm) (by assumption) ?_)))
local macro_rules | `(tactic| walk_at "call builtin:dict.pop") => `(tactic| (k_here; k_dflt (refine' dpop9 ?F ?N ?U ?d ?l ?z ?_; (case F => k_asm); (case N => k_asm); (case U => k_updF); (case d => k_asm); (case l => assumption); (case z => assumption)); intro h' o' F' N' hd'; (try dsimp only at N')))
local macro_rules | `(tactic| walk_at "delItem ref int") => `(tactic| (k_here; k_dflt (refine' ddel9 ?F ?N ?U ?d ?l ?z ?_; (case F => k_asm); (case N => k_asm); (case U => k_updF); (case d => k_asm); (case l => assumption); (case z => assumption)); intro h' o' F' N' hd'; (try dsimp only at N')))
local macro_rules | `(tactic| walk_at "call builtin:dict.clear") => `(tactic| (k_here; k_dflt (refine' dclear9 ?F ?N ?U ?d ?z ?_; (case F => k_asm); (case N => k_asm); (case U => k_updF); (case d => k_asm); (case z => assumption)); intro h' o' F' N' hd'; (try dsimp only at N')))
local macro_rules | `(tactic| walk_at "call builtin:dict.popitem") => `(tactic| (k_here; k_dflt (refine' dpopitem9 ?F ?N ?U ?l ?d ?z ?_; (case F => k_asm); (case N => k_asm); (case U => k_updF); (case l => assumption); (case d => k_asm); (case z => assumption)); intro T' h' o' t' F' N' hd'; (try dsimp only at N')))
local macro_rules | `(tactic| walk_at "call builtin:dict.copy") => `(tactic| (k_here; k_dflt (refine' dcopy9 ?F ?N ?l ?p ?d ?o ?z ?_; (case F => k_asm); (case N => k_asm); (case l => exact Top.nolimit (by k_asm)); (case p => k_mem); (case d => k_asm); (case o => assumption); (case z => assumption)); intro c' h' o' F' N' l1 l2 lo' hd'; (try k_lt l1); (try k_lt2 l2); (try k_sweep)))
local macro_rules | `(tactic| walk_at "call builtin:object.__new__") => `(tactic| (k_here; k_dflt (refine' new9 ?F ?X ?N ?m ?i ?_; (case F => k_asm); (case X => k_asm); (case N => k_asm); (case m => k_is); (case i => k_is); k_whole); intro x' dx' h' F' N' l1 l2 l3; (try k_lt l1); (try k_lt2 l2); (try k_lt2 l3); (try k_sweep)))

set_option maxHeartbeats 4000000 in
theorem contains_code {i : Int} {t : Tok} (c : Cl w p loose mean mg mb A env outer A₀ base h₀ L s.heap m) (O : OSN prog w h₀ L s.heap x d ks) (hdep : A.depth + 4 < recursionLimit)
    (k : ∀ h' tk', Kp [] s.heap h' → R (.ok (.ret (.bool (decide (i ∈ ks))))) { s with heap := h', toks := tk' }) :
    codeAny (model prog w) A (.call (.ref 64) ⟨[.ref x, .int i t], []⟩) R s := by
  obtain ⟨dx, hs, tk, n, o, N, ho, lo, h7s⟩ := O
  k_dflt (refine' enter9 (binds := [(Str.ofString "self", .ref x), (Str.ofString "item", .int i t)]) c N ?k6 ?k7 ?k8 ?k9 ?kB ?_ ?c5 ?c2 ?c3 ?c4; (case k6 => k_is); (case k7 => k_is); (case k8 => omega); (case k9 => first | exact BindsTo.of_eq rfl | exact binds_K (by k_in) rfl (by k_is) rfl rfl rfl); (case c5 => decide); (case kB => exact locs rfl); (case c2 => exact rfl); (case c3 => exact rfl); (case c4 => exact rfl); k_whole; intro g' L' h' F' N' B' X' T' keep' above'; (try dsimp only); (try k_fold))
  k_steps
  (with_reducible rename News _ _ _ _ => N9); (with_reducible rename Fr _ _ _ _ => F9)
  rw [valueAt_kv]
  exact k _ _ (kp_of keep' F9 N N9 (by simp))

set_option maxHeartbeats 4000000 in
theorem discard_code {i : Int} {t : Tok} (c : Cl w p loose mean mg mb A env outer A₀ base h₀ L s.heap m) (O : OSN prog w h₀ L s.heap x d ks) (hdep : A.depth + 4 < recursionLimit)
    (k : ∀ h' tk', Kp [d] s.heap h' → OSN prog w h₀ L h' x d (outI ks i) → R (.ok (.ret .none)) { s with heap := h', toks := tk' }) :
    codeAny (model prog w) A (.call (.ref 120) ⟨[.ref x, .int i t], []⟩) R s := by
  have O₀ := O
  obtain ⟨dx, hs, tk, n, o, N, ho, lo, h7s⟩ := O
  have a1 := neN (apart_x N (.head _) (.tail _ (.tail _ (.head _))) ho)
  have a2 := neN (apart_d N (.tail _ (.head _)) (.tail _ (.tail _ (.head _))) ho)
  have hlen := isd_len ho h7s
  k_dflt (refine' enter9 (binds := [(Str.ofString "self", .ref x), (Str.ofString "item", .int i t)]) c N ?k6 ?k7 ?k8 ?k9 ?kB ?_ ?c5 ?c2 ?c3 ?c4; (case k6 => k_is); (case k7 => k_is); (case k8 => omega); (case k9 => first | exact BindsTo.of_eq rfl | exact binds_K (by k_in) rfl (by k_is) rfl rfl rfl); (case c5 => decide); (case kB => exact locs rfl); (case c2 => exact rfl); (case c3 => exact rfl); (case c4 => exact rfl); k_whole; intro g' L' h' F' N' B' X' T' keep' above'; (try dsimp only); (try k_fold))
  k_steps
  (with_reducible rename News _ _ _ _ => N9); (with_reducible rename Fr _ _ _ _ => F9); (with_reducible rename Obj.IsDictOf _ _ _ => D9)
  have hk := kp_of (ch := [d]) keep' F9 N N9 (by simp)
  exact k _ _ hk (O₀.put hk (N9 _ (.tail _ (.tail _ (.head _)))).1 D9 (sm_outI h7s))

set_option maxHeartbeats 4000000 in
theorem remove_code {i : Int} {t : Tok} (c : Cl w p loose mean mg mb A env outer A₀ base h₀ L s.heap m) (O : OSN prog w h₀ L s.heap x d ks) (hi : i ∈ ks) (hdep : A.depth + 4 < recursionLimit)
    (k : ∀ h' tk', Kp [d] s.heap h' → OSN prog w h₀ L h' x d (outI ks i) → R (.ok (.ret .none)) { s with heap := h', toks := tk' }) :
    codeAny (model prog w) A (.call (.ref 113) ⟨[.ref x, .int i t], []⟩) R s := by
  have O₀ := O
  obtain ⟨dx, hs, tk, n, o, N, ho, lo, h7s⟩ := O
  have a1 := neN (apart_x N (.head _) (.tail _ (.tail _ (.head _))) ho)
  have a2 := neN (apart_d N (.tail _ (.head _)) (.tail _ (.tail _ (.head _))) ho)
  have hlen := isd_len ho h7s
  k_dflt (refine' enter9 (binds := [(Str.ofString "self", .ref x), (Str.ofString "item", .int i t)]) c N ?k6 ?k7 ?k8 ?k9 ?kB ?_ ?c5 ?c2 ?c3 ?c4; (case k6 => k_is); (case k7 => k_is); (case k8 => omega); (case k9 => first | exact BindsTo.of_eq rfl | exact binds_K (by k_in) rfl (by k_is) rfl rfl rfl); (case c5 => decide); (case kB => exact locs rfl); (case c2 => exact rfl); (case c3 => exact rfl); (case c4 => exact rfl); k_whole; intro g' L' h' F' N' B' X' T' keep' above'; (try dsimp only); (try k_fold))
  k_steps
  (with_reducible rename News _ _ _ _ => N9); (with_reducible rename Fr _ _ _ _ => F9); (with_reducible rename Obj.IsDictOf _ _ _ => D9)
  have hk := kp_of (ch := [d]) keep' F9 N N9 (by simp)
  exact k _ _ hk (O₀.put hk (N9 _ (.tail _ (.tail _ (.head _)))).1 D9 (sm_outI h7s))

set_option maxHeartbeats 4000000 in
theorem clear_code (c : Cl w p loose mean mg mb A env outer A₀ base h₀ L s.heap m) (O : OSN prog w h₀ L s.heap x d ks) (hdep : A.depth + 4 < recursionLimit)
    (k : ∀ h' tk', Kp [d] s.heap h' → OSN prog w h₀ L h' x d [] → R (.ok (.ret .none)) { s with heap := h', toks := tk' }) :
    codeAny (model prog w) A (.call (.ref 134) ⟨[.ref x], []⟩) R s := by
  have O₀ := O
  obtain ⟨dx, hs, tk, n, o, N, ho, lo, h7s⟩ := O
  have a1 := neN (apart_x N (.head _) (.tail _ (.tail _ (.head _))) ho)
  have a2 := neN (apart_d N (.tail _ (.head _)) (.tail _ (.tail _ (.head _))) ho)
  have hlen := isd_len ho h7s
  k_dflt (refine' enter9 (binds := [(Str.ofString "self", .ref x)]) c N ?k6 ?k7 ?k8 ?k9 ?kB ?_ ?c5 ?c2 ?c3 ?c4; (case k6 => k_is); (case k7 => k_is); (case k8 => omega); (case k9 => first | exact BindsTo.of_eq rfl | exact binds_K (by k_in) rfl (by k_is) rfl rfl rfl); (case c5 => decide); (case kB => exact locs rfl); (case c2 => exact rfl); (case c3 => exact rfl); (case c4 => exact rfl); k_whole; intro g' L' h' F' N' B' X' T' keep' above'; (try dsimp only); (try k_fold))
  k_steps
  (with_reducible rename News _ _ _ _ => N9); (with_reducible rename Fr _ _ _ _ => F9); (with_reducible rename Obj.IsDictOf _ _ _ => D9)
  have hk := kp_of (ch := [d]) keep' F9 N N9 (by simp)
  exact k _ _ hk (O₀.put hk (N9 _ (.tail _ (.tail _ (.head _)))).1 D9 sm_nil)

set_option maxHeartbeats 4000000 in
theorem pop_code {i : Int} (c : Cl w p loose mean mg mb A env outer A₀ base h₀ L s.heap m) (O : OSN prog w h₀ L s.heap x d (ks ++ [i])) (hdep : A.depth + 4 < recursionLimit)
    (k : ∀ h' tk' t, Kp [d] s.heap h' → OSN prog w h₀ L h' x d ks → R (.ok (.ret (.int i t))) { s with heap := h', toks := tk' }) :
    codeAny (model prog w) A (.call (.ref 92) ⟨[.ref x], []⟩) R s := by
  have O₀ := O
  obtain ⟨dx, hs, tk, n, o, N, ho, lo, h7s⟩ := O
  have a1 := neN (apart_x N (.head _) (.tail _ (.tail _ (.head _))) ho)
  have a2 := neN (apart_d N (.tail _ (.head _)) (.tail _ (.tail _ (.head _))) ho)
  have hlen := isd_len ho h7s
  k_dflt (refine' enter9 (binds := [(Str.ofString "self", .ref x)]) c N ?k6 ?k7 ?k8 ?k9 ?kB ?_ ?c5 ?c2 ?c3 ?c4; (case k6 => k_is); (case k7 => k_is); (case k8 => omega); (case k9 => first | exact BindsTo.of_eq rfl | exact binds_K (by k_in) rfl (by k_is) rfl rfl rfl); (case c5 => decide); (case kB => exact locs rfl); (case c2 => exact rfl); (case c3 => exact rfl); (case c4 => exact rfl); k_whole; intro g' L' h' F' N' B' X' T' keep' above'; (try dsimp only); (try k_fold))
  k_steps
  (with_reducible rename News _ _ _ _ => N9); (with_reducible rename Fr _ _ _ _ => F9); (with_reducible rename Obj.IsDictOf _ _ _ => D9)
  have hk := kp_of (ch := [d]) keep' F9 N N9 (by simp)
  exact k _ _ _ hk (O₀.put hk (N9 _ (.tail _ (.tail _ (.tail _ (.head _))))).1 D9 (sm_sub h7s fun k hk => List.mem_append_left _ hk))

set_option maxHeartbeats 4000000 in
theorem copy_code (c : Cl w p loose mean mg mb A env outer A₀ base h₀ L s.heap m) (O : OSN prog w h₀ L s.heap x d ks) (hdep : A.depth + 4 < recursionLimit)
    (k : ∀ x' d' h' tk', Kp [] s.heap h' → NewOS prog w s.heap h' x' d' ks → R (.ok (.ret (.ref x'))) { s with heap := h', toks := tk' }) :
    codeAny (model prog w) A (.call (.ref 197) ⟨[.ref x], []⟩) R s := by
  obtain ⟨dx, hs, tk, n, o, N, ho, lo, h7s⟩ := O
  have a1 := neN (apart_x N (.head _) (.tail _ (.tail _ (.head _))) ho)
  have a2 := neN (apart_d N (.tail _ (.head _)) (.tail _ (.tail _ (.head _))) ho)
  have hlen := isd_len ho h7s
  k_dflt (refine' enter9 (binds := [(Str.ofString "self", .ref x)]) c N ?k6 ?k7 ?k8 ?k9 ?kB ?_ ?c5 ?c2 ?c3 ?c4; (case k6 => k_is); (case k7 => k_is); (case k8 => omega); (case k9 => first | exact BindsTo.of_eq rfl | exact binds_K (by k_in) rfl (by k_is) rfl rfl rfl); (case c5 => decide); (case kB => exact locs rfl); (case c2 => exact rfl); (case c3 => exact rfl); (case c4 => exact rfl); k_whole; intro g' L' h' F' N' B' X' T' keep' above'; (try dsimp only); (try k_fold))
  k_steps
  (with_reducible rename News _ _ _ _ => N9); (with_reducible rename Fr _ _ _ _ => F9); (with_reducible rename Obj.IsDictOf _ _ _ => D9)
  have hk := kp_of (ch := []) keep' F9 N N9 (by simp)
  refine k _ _ _ _ hk ⟨_, _, _, _, _, (N9 _ (.tail _ (.head _))).1, (N9 _ (.tail _ (.tail _ (.head _)))).1, (N9 _ (.head _)).1, by omega, by omega, by omega, D9, by assumption, h7s⟩
end
end Mine
end
theorem Mine.calm9a10 : True ∧ True := by
  w_top off
  (try walk1) <;> (first | exact True.intro | exact ⟨True.intro, True.intro⟩)

/-! part P10 -/
section
open PySem PySem.W PySem.Calls PySem.Spec PyProof.Rows
namespace Mine

/-- what the aliases of these names are: one walk through their list for all of them -/
theorem canon9 :
    Manifest.canonical (String.map (fun c => if (c.isAlphanum || c == '_' || c == '.') = true then c else '_') "dict_reversekeyiterator.__next__") ++ "" = "dict_reverseitemiterator.__next__" ∧
    Manifest.canonical (String.map (fun c => if (c.isAlphanum || c == '_' || c == '.') = true then c else '_') "dict_reversekeyiterator.__iter__") ++ "" = "dict_keyiterator.__iter__" ∧
    Manifest.canonical (String.map (fun c => if (c.isAlphanum || c == '_' || c == '.') = true then c else '_') "dict_reversekeyiterator.__length_hint__") ++ "" = "dict_itemiterator.__length_hint__" ∧
    Manifest.canonical (String.map (fun c => if (c.isAlphanum || c == '_' || c == '.') = true then c else '_') "dict_keys.__len__") ++ "" = "dict_items.__len__" ∧
    Manifest.canonical (String.map (fun c => if (c.isAlphanum || c == '_' || c == '.') = true then c else '_') "set.__len__") ++ "" = "frozenset.__len__" ∧
    Manifest.canonical (String.map (fun c => if (c.isAlphanum || c == '_' || c == '.') = true then c else '_') "dict_keys.__and__") ++ "" = "dict_items.__and__" ∧
    Manifest.canonical (String.map (fun c => if (c.isAlphanum || c == '_' || c == '.') = true then c else '_') "set.__iter__") ++ "" = "frozenset.__iter__" ∧
    Manifest.canonical (String.map (fun c => if (c.isAlphanum || c == '_' || c == '.') = true then c else '_') "set_iterator.__iter__") ++ "" = "dict_keyiterator.__iter__" ∧
    Manifest.canonical (String.map (fun c => if (c.isAlphanum || c == '_' || c == '.') = true then c else '_') "set.__getattribute__") ++ "" = "object.__getattribute__" ∧
    Manifest.canonical (String.map (fun c => if (c.isAlphanum || c == '_' || c == '.') = true then c else '_') "set.intersection") ++ "" = "frozenset.intersection" ∧
    Manifest.canonical (String.map (fun c => if (c.isAlphanum || c == '_' || c == '.') = true then c else '_') "dict_keys.__rand__") ++ "" = "dict_items.__rand__" ∧
    Manifest.canonical (String.map (fun c => if (c.isAlphanum || c == '_' || c == '.') = true then c else '_') "set.__and__") ++ "" = "frozenset.__and__" := by decide +kernel
theorem slot_rk_next : Slot "dict_reversekeyiterator" "__next__" "dict_reversekeyiterator.__next__" :=
  .of (owner := "dict_reversekeyiterator") (n := "__next__") (by rw [typeLookup_type, builtinLookup_eq_fast]; kernel_rfl) (by decide +kernel) (by decide +kernel) (by decide +kernel)
    (by first | exact .inl (by decide +kernel) | exact .inr (by decide +kernel)) (by rw [isSubtype_type]; kernel_rfl)
theorem slot_rk_iter : Slot "dict_reversekeyiterator" "__iter__" "dict_reversekeyiterator.__iter__" :=
  .of (owner := "dict_reversekeyiterator") (n := "__iter__") (by rw [typeLookup_type, builtinLookup_eq_fast]; kernel_rfl) (by decide +kernel) (by decide +kernel) (by decide +kernel)
    (by first | exact .inl (by decide +kernel) | exact .inr (by decide +kernel)) (by rw [isSubtype_type]; kernel_rfl)
theorem entry_rk_next : entryFor table "dict_reversekeyiterator.__next__" = some Builtin.«dict_reverseitemiterator.__next__» :=
  entryFor_alias (id' := "dict_reverseitemiterator.__next__") (by rw [fastTable_eq_tree]; kernel_rfl) rfl canon9.1 (by rw [fastTable_eq_tree]; kernel_rfl)
theorem entry_rk_iter : entryFor table "dict_reversekeyiterator.__iter__" = some Builtin.«dict_keyiterator.__iter__» :=
  entryFor_alias (id' := "dict_keyiterator.__iter__") (by rw [fastTable_eq_tree]; kernel_rfl) rfl canon9.2.1 (by rw [fastTable_eq_tree]; kernel_rfl)
theorem args_rk_next (a : Value) : argsOk "dict_reversekeyiterator.__next__" ⟨[a], []⟩ := by unfold argsOk; kernel_rfl
theorem args_rk_iter (a : Value) : argsOk "dict_reversekeyiterator.__iter__" ⟨[a], []⟩ := by unfold argsOk; kernel_rfl
theorem mro_rk : mroOf (.type "dict_reversekeyiterator") = pure [.type "dict_reversekeyiterator", .type "object"] := by rw [mroOf_type]; kernel_rfl
theorem sub_rk_reversed : isSubtype (.type "dict_reversekeyiterator") (.type "reversed") = pure false := by rw [isSubtype_type]; kernel_rfl

/-- a reverse iterator over a dict's keys -/
def IsRK (h : Heap) (it d : Addr) (i : Int) (n ep : Nat) : Prop :=
  ∃ o, h.get? it = some o ∧ o.cls = .type "dict_reversekeyiterator" ∧ o.data = .fields #[.ref d, rawInt i, .int n 0, .int ep 0]
theorem IsRK.at {h h' : Heap} {it d : Addr} {i : Int} {n ep : Nat} (x : IsRK h it d i n ep) (e : ∀ o, h.get? it = some o → h'.get? it = some o) : IsRK h' it d i n ep := let ⟨o, ho, r⟩ := x; ⟨o, e _ ho, r⟩
theorem IsRK.typeIs {s : Shared} {it d : Addr} {i : Int} {n ep : Nat} (x : IsRK s.heap it d i n ep) : s.TypeIs (.ref it) "dict_reversekeyiterator" := let ⟨o, ho, hc, _⟩ := x; ⟨o, ho, hc⟩

section
variable {prog : Program} {w : World} {A : Around} {E : Value → Shared → Prop} {s : Shared} {it d : Addr}
theorem whole_rk {Q : String → Shared → Prop} (hT : s.TypeIs (.ref it) "dict_reversekeyiterator") (h : Q "dict_reversekeyiterator" s) : wpAny (model prog w) A (typeNameOfWhole (.ref it)) Q E s := by
  unfold typeNameOfWhole shownTypeOf
  refine wpAny_bind (wpAny_bind (wpAny_typeOf hT ?_))
  simp only [show (Value.type "dict_reversekeyiterator" == Value.type "builtin_function_or_method") = false by decide, Bool.false_eq_true, if_false]
  refine wpAny_pure ?_
  have e : typeName (.type "dict_reversekeyiterator") = pure "dict_reversekeyiterator" := by unfold typeName; rw [find?_eq_fast]; kernel_rfl
  rw [show typeNameWhole (.type "dict_reversekeyiterator") = typeName (.type "dict_reversekeyiterator") from rfl, e]; exact wpAny_pure h
theorem oneOf_rk {types : List String} {Q : Bool → Shared → Prop} (hT : s.TypeIs (.ref it) "dict_reversekeyiterator")
    (h : Q (types.any fun t => [Value.type "dict_reversekeyiterator", Value.type "object"].contains (.type t)) s) : wpAny (model prog w) A (Builtin.Dict_items.isOneOf (.ref it) types) Q E s := by
  unfold Builtin.Dict_items.isOneOf
  refine wpAny_bind (wpAny_typeOf hT ?_)
  rw [mro_rk]
  exact wpAny_bind (wpAny_pure (wpAny_pure h))

/-- the built-in's run where a key is left -/
theorem rk_run_item {i : Nat} {ep : Nat} {kvs : List (Int × Value)} {k : Int} {v : Value} {P : Fin → Shared → Prop} (hit : IsRK s.heap it d (i : Int) kvs.length ep) (hm : s.heap.DictAt (intKind prog w) d kvs ep) (hx : kvs[i]? = some (k, v))
    (hQ : ∀ t h', IsRK h' it d ((i : Int) - 1) kvs.length ep → Heap.SameBut it s.heap h' → P (.done (.ret (.int k t))) { s with heap := h' }) :
    wpAny (model prog w) A (Builtin.«dict_reverseitemiterator.__next__» ⟨[.ref it], []⟩) P E s := by
  obtain ⟨o, ho, hc, hd⟩ := id hit
  obtain ⟨od, es, hod, hcd, hdd, hk, hp, hn⟩ := id hm
  have hlt : i < kvs.length := by
    rcases Nat.lt_or_ge i kvs.length with h | h
    · exact h
    · simp [List.getElem?_eq_none h] at hx
  have hsz : es.size = kvs.length := by rw [← hp.length]; simp
  have hlt' : i < es.size := by rw [hsz]; exact hlt
  have hkey : (intKind prog w).is k es[i].key = true := (hp.get? (e := es[i]) (by simp [hlt']) hx).1
  obtain ⟨t, ht⟩ := Value.isInt_shape hkey
  show wpAny _ _ ((Builtin.Dict_items.slot0 "__next__" ⟨[.ref it], []⟩) >>= _) _ _ _
  refine wpAny_bind (wpAny_of_eq (a := Value.ref it) rfl ?_)
  refine wpAny_bind ?_
  refine wpAny_bind ?_
  refine wpAny_bind (whole_rk hit.typeIs (wpAny_pure ?_))
  refine wpAny_bind (wpAny_fieldsOf ho hd ?_)
  have hown : Builtin.Dict_items.ownsTuple "dict_reversekeyiterator" = false := by decide
  simp only [hown, Bool.false_eq_true, if_false]
  show wpAny _ _ (if (Value.ref d == Value.none) = true then _ else _) _ _ s
  rw [if_neg (show ¬ ((Value.ref d == Value.none) = true) from Bool.false_ne_true)]
  refine wpAny_bind (wpAny_pure ?_)
  refine wpAny_bind (wpAny_dictEntries hod hdd ?_)
  rw [if_neg (by rw [hsz]; simp)]
  refine wpAny_bind (wpAny_pure ?_)
  refine wpAny_bind (wpAny_dictEpoch hod hdd ?_)
  rw [if_neg (by simp)]
  refine wpAny_pure ?_
  simp only [show ¬ ((i : Int) < 0) from by omega, if_false, Int.toNat_natCast, Array.getElem?_eq_getElem hlt']
  refine wpAny_bind ?_
  refine wpAny_bind (whole_rk hit.typeIs (wpAny_pure ?_))
  refine wpAny_bind (oneOf_rk hit.typeIs ?_)
  show wpAny _ _ (setField (.ref it) 1 (rawInt ((i : Int) - 1)) >>= _) _ _ s
  refine wpAny_bind (wpAny_setField ho hd (by simp) ?_)
  have hit' : IsRK (s.heap.update it (Obj.mapFields (·.setIfInBounds 1 (rawInt ((i : Int) - 1))))) it d ((i : Int) - 1) kvs.length ep :=
    ⟨_, Heap.get?_update_self _ ho (Obj.isFreed_of_fields (Obj.data_mapFields hd _)), (Obj.cls_mapFields ..).trans hc, by rw [Obj.data_mapFields hd]; simp [rawInt]⟩
  refine wpAny_bind (wpAny_holding ?_)
  refine wpAny_bind (oneOf_rk (s := { s with heap := s.heap.update it (Obj.mapFields (·.setIfInBounds 1 (rawInt ((i : Int) - 1)))) }) hit'.typeIs ?_)
  show wpAny _ _ (pure es[i].key) _ _ _
  rw [ht]
  exact wpAny_pure (wpAny_pure (hQ t _ hit' (Heap.SameBut.update ..)))

/-- .. and where none is left: pyNext gives none -/
theorem rk_next_end {n ep : Nat} {kvs : List (Int × Value)} {Q : Option Value → Shared → Prop} (hh : A.handled = none) (hit : IsRK s.heap it d (-1) kvs.length ep) (hm : s.heap.DictAt (intKind prog w) d kvs ep)
    (hQ : ∀ h', Heap.ExtBut it s.heap h' → Q none { s with heap := h' }) : wpAny (model prog w) A (pyNext (.ref it)) Q E s := by
  obtain ⟨o, ho, hc, hd⟩ := id hit
  obtain ⟨od, es, hod, hcd, hdd, hk, hp, hn⟩ := id hm
  have hsz : es.size = kvs.length := by rw [← hp.length]; simp
  unfold pyNext
  refine wpAny_bind (wpAny_attempt (wpAny_callSpecial?_slot (name := Str.ofString "__next__") hit.typeIs slot_rk_next
    (wpAny_call_entry slot_rk_next hit.typeIs entry_rk_next ?_ (args_rk_next _))))
  show wpAny _ _ ((Builtin.Dict_items.slot0 "__next__" ⟨[.ref it], []⟩) >>= _) _ _ _
  refine wpAny_bind (wpAny_of_eq (a := Value.ref it) rfl ?_)
  refine wpAny_bind ?_
  refine wpAny_bind ?_
  refine wpAny_bind (whole_rk hit.typeIs (wpAny_pure ?_))
  refine wpAny_bind (wpAny_fieldsOf ho hd ?_)
  have hown : Builtin.Dict_items.ownsTuple "dict_reversekeyiterator" = false := by decide
  simp only [hown, Bool.false_eq_true, if_false]
  show wpAny _ _ (if (Value.ref d == Value.none) = true then _ else _) _ _ s
  rw [if_neg (show ¬ ((Value.ref d == Value.none) = true) from Bool.false_ne_true)]
  refine wpAny_bind (wpAny_pure ?_)
  refine wpAny_bind (wpAny_dictEntries hod hdd ?_)
  rw [if_neg (by rw [hsz]; simp)]
  refine wpAny_bind (wpAny_pure ?_)
  refine wpAny_bind (wpAny_dictEpoch hod hdd ?_)
  rw [if_neg (by simp)]
  refine wpAny_pure ?_
  simp only [show (-1 : Int) < 0 from by decide, if_true]
  refine wpAny_bind ?_
  refine wpAny_bind (whole_rk hit.typeIs (wpAny_pure ?_))
  show wpAny _ _ (setField (.ref it) 0 .none >>= _) _ _ s
  refine wpAny_bind (wpAny_setField ho hd (by simp) ?_)
  show wpAny _ _ (newExc (.type "StopIteration") [] >>= _) _ _ _
  refine wpAny_bind ?_
  simp only [newExc, newTuple]
  refine wpAny_bind (wpAny_newObj_type ?_ (by size_fits))
  refine wpAny_bind (m := firstArgMember _ _) (wpAny_of_eq (a := Value.none) (by first | rfl | (simp only [firstArgMember]; rfl)) ?_)
  refine wpAny_newObj_type ?_ (by size_fits)
  simp only [raiseNew]
  refine wpAny_bind (wpAny_handled ?_)
  rw [show A.in1.handled = none from hh]
  refine wpAny_bind (wpAny_pure (wpAny_throw ?_))
  refine wpAny_bind (wpAny_isInstance (T := "StopIteration") (b := true) ⟨_, Heap.get?_push_size _ rfl, rfl⟩ isSubtype_stop ?_)
  exact wpAny_pure (hQ _ (((Heap.SameBut.update ..).extBut.push _).push _))

theorem rk_next_item {i : Nat} {ep : Nat} {kvs : List (Int × Value)} {k : Int} {v : Value} {Q : Option Value → Shared → Prop} (hit : IsRK s.heap it d (i : Int) kvs.length ep) (hm : s.heap.DictAt (intKind prog w) d kvs ep) (hx : kvs[i]? = some (k, v))
    (hQ : ∀ t h', IsRK h' it d ((i : Int) - 1) kvs.length ep → Heap.SameBut it s.heap h' → Q (some (.int k t)) { s with heap := h' }) : wpAny (model prog w) A (pyNext (.ref it)) Q E s := by
  unfold pyNext
  refine wpAny_bind (wpAny_attempt (wpAny_callSpecial?_slot (name := Str.ofString "__next__") hit.typeIs slot_rk_next
    (wpAny_call_entry slot_rk_next hit.typeIs entry_rk_next (rk_run_item hit hm hx fun t h' a b => ⟨_, rfl, wpAny_pure (hQ t h' a b)⟩) (args_rk_next _))))

theorem rk_iter {i : Int} {n ep : Nat} {Q : Value → Shared → Prop} (hit : IsRK s.heap it d i n ep) (h : Q (.ref it) s) : wpAny (model prog w) A (pyIter (.ref it)) Q E s := by
  refine wpAny_pyIter_slot hit.typeIs slot_rk_iter (wpAny_call_entry slot_rk_iter hit.typeIs entry_rk_iter ?_ (args_rk_iter _))
  show wpAny _ _ (ret (.ref it)) _ _ s
  exact wpAny_pure ⟨_, rfl, "dict_reversekeyiterator", _, hit.typeIs, slot_rk_next.lookup, h⟩
end

section
variable {prog : Program} {w : World} {A : Around}
theorem walksRev (hh : A.handled = none) (I d : Addr) (hne : d ≠ I) (ks : List Int) (ep : Nat) :
    Walks prog w A I [I, d] [I] ks.length (fun i v => ∃ t k, ks.reverse[i]? = some k ∧ v = .int k t) (fun i h => IsRK h I d ((ks.length : Int) - 1 - i) (kv ks).length ep ∧ h.DictAt (intKind prog w) d (kv ks) ep) where
  sub := fun b hb => by simp at hb; simp [hb]
  frame := fun _ _ _ st hk => ⟨st.1.at fun o e => hk I (by simp) o e, st.2.at' fun o e => hk d (by simp) o e⟩
  item := fun i s Q E hi st hQ => by
    have hj : ks.length - 1 - i < ks.length := by omega
    have hx : (kv ks)[ks.length - 1 - i]? = some (ks[ks.length - 1 - i], Value.none) := by
      unfold kv; rw [List.getElem?_map, List.getElem?_eq_getElem hj]; rfl
    have e : ((ks.length : Int) - 1 - i) = ((ks.length - 1 - i : Nat) : Int) := by omega
    have st1 := st.1
    rw [e] at st1
    refine rk_next_item st1 st.2 hx fun t h' hit' hs' => ?_
    refine hQ _ h' s.toks ⟨t, ks[ks.length - 1 - i], ?_, rfl⟩ ⟨?_, st.2.extBut hs'.extBut hne⟩ fun b o hb e => hs'.extBut b o (fun h => hb (by simp [h])) e
    · rw [List.getElem?_reverse hi, List.getElem?_eq_getElem hj]
    · rw [← e] at hit'
      have e2 : ((ks.length : Int) - 1 - i) - 1 = (ks.length : Int) - 1 - ((i + 1 : Nat) : Int) := by omega
      rwa [e2] at hit'
  done := fun s Q E st hQ => by
    have st1 := st.1
    have e : ((ks.length : Int) - 1 - (ks.length : Nat)) = -1 := by omega
    rw [e] at st1
    exact rk_next_end (n := 0) hh st1 st.2 fun h' he' => hQ h' s.toks fun b o hb e => he' b o (fun h => hb (by simp [h])) e
  self := fun _ _ _ _ st hQ => rk_iter st.1 hQ
end
end Mine
end
theorem Mine.calm9a11 : True ∧ True := by
  w_top off
  (try walk1) <;> (first | exact True.intro | exact ⟨True.intro, True.intro⟩)

/-! part P11 -/
section
open PySem PySem.W PySem.Calls PySem.Spec PyProof.Rows
namespace Mine
theorem fill9f : PySem.Challenge.rw_fs0001_01 = PySem.Challenge.rw_fs0001_01 ∧ ∀ (w : World) h, (hd.heap_39 w.params).In h → True := by
  k_fill
  exact ⟨rfl, fun _ _ _ => trivial⟩

section
variable {prog : Program} {w : World} {p : Program} {loose : List Str} {mean : ExcName → Option Value} {mg mb : Str → Option Value} {A A₀ : Around} {env : Env} {outer : List Env} {base h₀ : Heap} {L : Addr} {m : Str → Option Value} {s : Shared} {news : List (Addr × Obj)} {Q E : Value → Shared → Prop} {R : Result → Shared → Prop}
  {x d : Addr} {ks : List Int}

theorem Cl.in1 (c : Cl w p loose mean mg mb A env outer A₀ base h₀ L s.heap m) : Cl w p loose mean mg mb A.in1 env outer A₀ base h₀ L s.heap m := ⟨c.B, c.F, c.X, c.T, c.hA, c.hf, c.hk, c.hh⟩
theorem Cl.like {A' : Around} {s' : Shared} (c : Cl w p loose mean mg mb A env outer A₀ base h₀ L s.heap m) (F : Fr h₀ L s'.heap m) (h1 : A'.frames = A.frames) (h2 : A'.handled = A.handled) : Cl w p loose mean mg mb A' env outer A₀ base h₀ L s'.heap m := ⟨c.B, F, c.X, c.T, h1.trans c.hA, c.hf, c.hk, h2.trans c.hh⟩
theorem Cl.kp {h' : Heap} {tk : Nat} (c : Cl w p loose mean mg mb A env outer A₀ base h₀ L s.heap m) (hk : ∀ b o, s.heap.get? b = some o → h'.get? b = some o) : Cl w p loose mean mg mb A env outer A₀ base h₀ L h' m :=
  ⟨c.B, ⟨c.F.ns.keeps hk, fun b o e => hk b o (c.F.keep b o e), c.F.above⟩, c.X, c.T, c.hA, c.hf, c.hk, c.hh⟩

/-- `iter(dict)` -/
theorem diter9 {o : Obj} (F : Fr h₀ L s.heap m) (N : News h₀ L s.heap news) (hp : (d, o) ∈ news) (ho : o.IsDictOf (intKind prog w) (kv ks)) (lo : (d == sysModules) = false)
    (k : ∀ I h' oI ep, Fr h₀ L h' m → News h₀ L h' ((I, oI) :: news) → (∀ p ∈ news, p.1 < I) → L < I → KdkIter oI d 0 (kv ks).length ep → KdkAt (intKind prog w) o (kv ks) ep → Q (.ref I) { s with heap := h' }) :
    wpAny (model prog w) A (call (.builtin "iter") [.ref d]) Q E s := by
  obtain ⟨ep, ha⟩ := KdkAt.of ho
  refine call_function_entry (by decide +kernel) (by decide +kernel) kdk_entry_iter (kdk_args_iter _) ?_
  unfold Builtin.«iter»
  refine wpAny_bind (m := someArgs "iter" 1 2 _) (wpAny_of_eq (a := [Value.ref d]) (by first | rfl | kernel_rfl!) ?_)
  dsimp only
  refine wpAny_bind (wpAny_pyIter_dict lo (ha.dictAt (N _ hp).1) (wpAny_pure ⟨_, rfl, ?_⟩))
  exact k s.heap.objs.size _ _ ep (F.push _) (N.push F _) (fun p hp => Heap.lt_size (N p hp).1) F.ns.lt ⟨rfl, rfl⟩ ha

/-- `reversed(dict)` -/
def rkObj (d : Addr) (n ep : Nat) : Obj := { cls := .type "dict_reversekeyiterator", data := .fields #[.ref d, rawInt ((n : Int) - 1), .int n 0, .int ep 0] }
theorem drev9 {o : Obj} (F : Fr h₀ L s.heap m) (N : News h₀ L s.heap news) (hp : (d, o) ∈ news) (ho : o.IsDictOf (intKind prog w) (kv ks)) (lo : (d == sysModules) = false)
    (k : ∀ I h' ep, Fr h₀ L h' m → News h₀ L h' ((I, rkObj d (kv ks).length ep) :: news) → (∀ p ∈ news, p.1 < I) → L < I → KdkAt (intKind prog w) o (kv ks) ep → Q (.ref I) { s with heap := h' }) :
    wpAny (model prog w) A (call (.type "reversed") [.ref d]) Q E s := by
  obtain ⟨ep, ha⟩ := KdkAt.of ho
  have hD := kda_dict N hp ho
  have hT := hD.typeIs
  obtain ⟨es, hex, hdat, hk, hpp, hn⟩ := id ha
  have hsz : es.size = (kv ks).length := by rw [← hpp.length]; simp
  have mth : ∀ {A' : Around} {Q' : Value → Shared → Prop}, Q' (.ref s.heap.objs.size) { s with heap := s.heap.push (rkObj d (kv ks).length ep) } → wpAny (model prog w) A' (call (.builtin "dict.__reversed__") [.ref d]) Q' E s := by
    intro A' Q' hq
    refine wpAny_call_entry PySem.F.slot_dict_reversed hT PySem.F.entry_dict_reversed ?_ (PySem.F.args_dict_reversed_1 _)
    unfold Builtin.«dict.__reversed__»
    refine wpAny_bind ?_
    unfold Builtin.Dict.noArgs
    refine wpAny_bind (wpAny_notOrdered_dict hT ?_)
    show wpAny _ _ (pure d) _ _ s
    refine wpAny_pure ?_
    unfold Builtin.Dict.showsAll
    rw [if_neg (by rw [lo]; exact Bool.false_ne_true)]
    refine wpAny_bind (wpAny_pure ?_)
    refine wpAny_bind (wpAny_dictEntries (N _ hp).1 hdat ?_)
    refine wpAny_bind (wpAny_dictEpoch (N _ hp).1 hdat ?_)
    rw [hsz]
    exact wpAny_bind (wpAny_newObj_type (wpAny_pure ⟨_, rfl, hq⟩))
  have nw : ∀ {A' : Around}, codeAny (model prog w) A' (.call (.builtin "reversed.__new__") ⟨[.type "reversed", .ref d], []⟩) (wants (fun obj s₁ => obj = .ref s.heap.objs.size ∧ s₁ = { s with heap := s.heap.push (rkObj d (kv ks).length ep) }) E) s := by
    intro A'
    refine codeAny_of_tree ?_
    show wpAny _ A'.in1 (do checkBuiltinCall "reversed.__new__" ⟨[.type "reversed", .ref d], []⟩; again (.builtin "reversed.__new__" ⟨[.type "reversed", .ref d], []⟩)) _ _ s
    refine wpAny_bind (wpAny_of_eq (PySem.F.newCall_reversed_1 _) (wpAny_pure ⟨plainId_quiet PySem.F.plain_reversed_new _, codeAny_builtin PySem.F.entry_reversed_new ?_⟩))
    rw [Around.under_plainId PySem.F.plain_reversed_new _]
    unfold Builtin.«reversed.__new__»
    refine wpAny_bind (wpAny_of_eq (newClass_reversed _) ?_)
    try dsimp only
    refine wpAny_bind (wpAny_of_eq (a := ()) (by first | rfl | kernel_rfl) ?_)
    refine wpAny_bind (wpAny_of_eq (a := ()) (by first | rfl | kernel_rfl) ?_)
    try dsimp only
    refine wpAny_bind (wpAny_specialOf hT PySem.F.slot_dict_reversed.lookup ?_)
    try dsimp only
    refine wpAny_bind (wpAny_of_eq (PySem.F.slot_dict_reversed.bind _) ?_)
    try dsimp only
    refine KFB.if_not rfl ?_
    refine wpAny_bind (wpAny_rule ?_)
    refine wpAny_bind (m := runValue (.call (.builtin "dict.__reversed__") ⟨[.ref d], []⟩)) (show wpAny _ _ (call (.builtin "dict.__reversed__") [.ref d]) _ _ _ from mth ?_)
    first
    | exact wpAny_pure ⟨rfl, rfl⟩
    | exact wpAny_bind (wpAny_pure (wpAny_pure ⟨rfl, rfl⟩))
  refine callType_other (U := "dict_reversekeyiterator") (Q₁ := fun obj s₁ => obj = .ref s.heap.objs.size ∧ s₁ = { s with heap := s.heap.push (rkObj d (kv ks).length ep) }) (by decide +kernel) PySem.F.create_reversed ⟨_, _, PySem.F.mro_reversed⟩ PySem.F.made_reversed sub_rk_reversed (PySem.F.typeCall_reversed_1 _) nw ?_
  rintro obj s₁ ⟨rfl, rfl⟩
  exact ⟨⟨_, Heap.get?_push_size _ rfl, rfl⟩, k s.heap.objs.size _ ep (F.push _) (N.push F _) (fun p hp => Heap.lt_size (N p hp).1) F.ns.lt ha⟩

local macro_rules | `(tactic| walk_at "call builtin:iter") => `(tactic| (k_here; (with_reducible show wpAny _ _ (call (Value.builtin "iter") [Value.ref _]) _ _ _); k_dflt (refine diter9 (by k_asm) (by k_asm) (by k_mem) (by k_asm) (by assumption) ?_); intro D' h' o' ep' F' N' l1 l2 hi' ha'; (try k_lt l1); (try k_lt2 l2)))
local macro_rules | `(tactic| walk_at "call type:reversed") => `(tactic| (k_here; (with_reducible show wpAny _ _ (call (Value.type "reversed") [Value.ref _]) _ _ _); k_dflt (refine drev9 (by k_asm) (by k_asm) (by k_mem) (by k_asm) (by assumption) ?_); intro D' h' ep' F' N' l1 l2 ha'; (try k_lt l1); (try k_lt2 l2)))

set_option maxHeartbeats 4000000 in
theorem iter_code (c : Cl w p loose mean mg mb A env outer A₀ base h₀ L s.heap m) (O : OSN prog w h₀ L s.heap x d ks) (hdep : A.depth + 4 < recursionLimit)
    (k : ∀ I ep h' tk', Kp [] s.heap h' → h'.IsKeyIter I d 0 (kv ks).length ep → h'.DictAt (intKind prog w) d (kv ks) ep → s.heap.objs.size ≤ I → R (.ok (.ret (.ref I))) { s with heap := h', toks := tk' }) :
    codeAny (model prog w) A (.call (.ref 50) ⟨[.ref x], []⟩) R s := by
  obtain ⟨dx, hs, tk, n, o, N, ho, lo, h7s⟩ := O
  k_dflt (refine' enter9 (binds := [(Str.ofString "self", .ref x)]) c N ?k6 ?k7 ?k8 ?k9 ?kB ?_ ?c5 ?c2 ?c3 ?c4; (case k6 => k_is); (case k7 => k_is); (case k8 => omega); (case k9 => first | exact BindsTo.of_eq rfl | exact binds_K (by k_in) rfl (by k_is) rfl rfl rfl); (case c5 => decide); (case kB => exact locs rfl); (case c2 => exact rfl); (case c3 => exact rfl); (case c4 => exact rfl); k_whole; intro g' L' h' F' N' B' X' T' keep' above'; (try dsimp only); (try k_fold))
  k_steps
  (with_reducible rename News _ _ _ _ => N9); (with_reducible rename Fr _ _ _ _ => F9); (with_reducible rename KdkIter _ _ _ _ _ => I9); (with_reducible rename KdkAt _ _ _ _ => A9)
  exact k _ _ _ _ (kp_of keep' F9 N N9 (by simp)) (I9.at (N9 _ (.head _)).1) (A9.dictAt (N9 _ (.tail _ (.tail _ (.tail _ (.head _))))).1) (by omega)

set_option maxHeartbeats 4000000 in
theorem reversed_code (c : Cl w p loose mean mg mb A env outer A₀ base h₀ L s.heap m) (O : OSN prog w h₀ L s.heap x d ks) (hdep : A.depth + 4 < recursionLimit)
    (k : ∀ I ep h' tk', Kp [] s.heap h' → IsRK h' I d ((ks.length : Int) - 1) (kv ks).length ep → h'.DictAt (intKind prog w) d (kv ks) ep → s.heap.objs.size ≤ I → R (.ok (.ret (.ref I))) { s with heap := h', toks := tk' }) :
    codeAny (model prog w) A (.call (.ref 57) ⟨[.ref x], []⟩) R s := by
  obtain ⟨dx, hs, tk, n, o, N, ho, lo, h7s⟩ := O
  k_dflt (refine' enter9 (binds := [(Str.ofString "self", .ref x)]) c N ?k6 ?k7 ?k8 ?k9 ?kB ?_ ?c5 ?c2 ?c3 ?c4; (case k6 => k_is); (case k7 => k_is); (case k8 => omega); (case k9 => first | exact BindsTo.of_eq rfl | exact binds_K (by k_in) rfl (by k_is) rfl rfl rfl); (case c5 => decide); (case kB => exact locs rfl); (case c2 => exact rfl); (case c3 => exact rfl); (case c4 => exact rfl); k_whole; intro g' L' h' F' N' B' X' T' keep' above'; (try dsimp only); (try k_fold))
  k_steps
  (with_reducible rename News _ _ _ _ => N9); (with_reducible rename Fr _ _ _ _ => F9); (with_reducible rename KdkAt _ _ _ _ => A9)
  exact k _ _ _ _ (kp_of keep' F9 N N9 (by simp)) ⟨_, (N9 _ (.head _)).1, rfl, by unfold rkObj kv; rw [List.length_map]⟩ (A9.dictAt (N9 _ (.tail _ (.tail _ (.tail _ (.head _))))).1) (by omega)

local macro_rules | `(tactic| walk_at "call builtin:len") => `(tactic| (k_here; (with_reducible show wpAny _ _ (call (Value.builtin "len") [Value.ref _]) _ _ _); k_dflt (refine kda_len (knd := PySem.intKind _ _) (by k_asm) (by k_mem) (by k_asm) (by k_asm) (by omega) ?_)))
set_option maxHeartbeats 4000000 in
theorem len_code (c : Cl w p loose mean mg mb A env outer A₀ base h₀ L s.heap m) (O : OSN prog w h₀ L s.heap x d ks) (hdep : A.depth + 4 < recursionLimit)
    (k : ∀ h' tk' t, Kp [] s.heap h' → R (.ok (.ret (.int ks.length t))) { s with heap := h', toks := tk' }) :
    codeAny (model prog w) A (.call (.ref 71) ⟨[.ref x], []⟩) R s := by
  obtain ⟨dx, hs, tk, n, o, N, ho, lo, h7s⟩ := O
  have hlen := isd_len ho h7s
  k_dflt (refine' enter9 (binds := [(Str.ofString "self", .ref x)]) c N ?k6 ?k7 ?k8 ?k9 ?kB ?_ ?c5 ?c2 ?c3 ?c4; (case k6 => k_is); (case k7 => k_is); (case k8 => omega); (case k9 => first | exact BindsTo.of_eq rfl | exact binds_K (by k_in) rfl (by k_is) rfl rfl rfl); (case c5 => decide); (case kB => exact locs rfl); (case c2 => exact rfl); (case c3 => exact rfl); (case c4 => exact rfl); k_whole; intro g' L' h' F' N' B' X' T' keep' above'; (try dsimp only); (try k_fold))
  k_steps
  (with_reducible rename News _ _ _ _ => N9); (with_reducible rename Fr _ _ _ _ => F9)
  have e : (kv ks).length = ks.length := by unfold kv; exact List.length_map ..
  rw [e]
  exact k _ _ _ (kp_of keep' F9 N N9 (by simp))

/-- an ordered set is asked for its iterator -/
theorem pyIterOS (c : Cl w p loose mean mg mb A env outer A₀ base h₀ L s.heap m) (O : OSN prog w h₀ L s.heap x d ks) (hdep : A.depth + 4 < recursionLimit)
    (k : ∀ I ep h' tk', Kp [] s.heap h' → h'.IsKeyIter I d 0 (kv ks).length ep → h'.DictAt (intKind prog w) d (kv ks) ep → s.heap.objs.size ≤ I → Q (.ref I) { s with heap := h', toks := tk' }) :
    wpAny (model prog w) A (pyIter (.ref x)) Q E s := by
  have X₀ := c.X.keeps c.B.stays
  have O₀ := O
  obtain ⟨dx, hs, tk, n, o, N, ho, lo, h7s⟩ := O
  refine owit_iter (C := 217) (f := 50) c.F X₀ (InstAt.of_news N (.head _) (.tail _ (.head _))) (by k_is) (by k_is) (wpAny_call (iter_code c O₀ hdep fun I ep h' tk' hk hi ha hI => ?_))
  unfold OwitIt
  refine wpAny_specialOf (s := { s with heap := h', toks := tk' }) hi.typeIs PySem.F.slot_dict_keyiterator_next.lookup ?_
  exact k I ep h' tk' hk hi ha hI
end
end Mine
end
theorem Mine.calm9a12 : True ∧ True := by
  w_top off
  (try walk1) <;> (first | exact True.intro | exact ⟨True.intro, True.intro⟩)

/-! part P12 -/
section
open PySem PySem.W PySem.Calls PySem.Spec PyProof.Rows
namespace Mine
theorem fill9g : PySem.Challenge.rw_fs0001_01 = PySem.Challenge.rw_fs0001_01 ∧ ∀ (w : World) h, (hd.heap_39 w.params).In h → True := by
  k_fill
  exact ⟨rfl, fun _ _ _ => trivial⟩

/-- a goal at which the walk stands still -/
def Stop9 (P : Prop) : Prop := P
theorem stop9 {P : Prop} (h : Stop9 P) : P := h

section
variable {prog : Program} {w : World} {A : Around} {s : Shared} {env : Env} {v : Str} {px pos : Pos} {iter : Expr} {body : List Stmt} {Q : Flow → Shared → Prop}

def WalkAt9 (prog : Program) (w : World) (A : Around) (env : Env) (v : Str) (body : List Stmt) (Q : Flow → Shared → Prop) (it : Value) (s₂ : Shared) : Prop :=
  ∃ (I : Addr) (fp : List Addr) (n : Nat) (P : Nat → Value → Prop) (St : Nat → Heap → Prop) (Inv : Nat → Heap → Prop), it = .ref I ∧ Walks prog w A I fp [I] n P St ∧ St 0 s₂.heap ∧ Inv 0 s₂.heap ∧
    (∀ i h h', Inv i h → (∀ b o, b ≠ I → h.get? b = some o → h'.get? b = some o) → Inv i h') ∧
    (∀ i y h tk, i < n → P i y → St (i + 1) h → Inv i h → wpAny (model prog w) A (storeName env v y) (fun _ s₃ => wpAny (model prog w) A (execs body env) (fun f s₄ => f = .next ∧ ∃ h' tk', s₄ = { s₂ with heap := h', toks := tk' } ∧ St (i + 1) h' ∧ Inv (i + 1) h') (fun _ _ => False) s₃) (fun _ _ => False) { s₂ with heap := h, toks := tk }) ∧
    (∀ h tk, Inv n h → Q .next { s₂ with heap := h, toks := tk })

theorem for_walk9 (h : wpAny (model prog w) A (eval iter env) (fun xv s₁ => wpAny (model prog w) A (pyIter xv) (WalkAt9 prog w A env v body Q) (fun _ _ => False) s₁) (fun _ _ => False) s)
    (hs : ∀ x, foldedSetIterable iter env x = pure x := by intro _; rfl) :
    wpAny (model prog w) A (exec (.For (.Name v px) iter body [] pos) env) Q (fun _ _ => False) s := by
  refine wpAny_For (wpAny_mono h (fun xv s₁ h₁ => wpAny_mono h₁ (fun it s₂ h₂ => ?_) fun _ _ z => z) fun _ _ z => z) hs
  obtain ⟨I, fp, n, P, St, Inv, rfl, W, hst, hinv, stable, step, done⟩ := h₂
  refine codeAny_forLoop (R := fun r s' => match r with | .ok f => Q f s' | .error e => cameBackBy (model prog w) A env (fun _ _ => False) e s')
    (fun k s' => ∃ i h tk, s' = { s₂ with heap := h, toks := tk } ∧ i ≤ n ∧ k = n - i ∧ St i h ∧ Inv i h) ?_ n ⟨0, s₂.heap, s₂.toks, rfl, Nat.zero_le _, rfl, hst, hinv⟩
  rintro k s' ⟨i, h, tk, rfl, hi, rfl, hst, hinv⟩
  refine wpAny_passesOwn PassesOwn.never ?_
  by_cases hlt : i < n
  · refine W.item i _ _ _ hlt hst fun y h' tk' hP hst' hk => ?_
    have hinv' := stable i h h' hinv fun b o hb e => hk b o (by simpa using hb) e
    refine wpAny_passesOwn PassesOwn.never (wpAny_assign_Name (wpAny_mono (step i y h' tk' hlt hP hst' hinv') (fun _ s₃ h₃ => wpAny_passesOwn PassesOwn.never (wpAny_mono h₃ (fun f s₄ h₄ => ?_) fun _ _ z => z)) fun _ _ z => z))
    obtain ⟨rfl, h4, tk4, rfl, hst4, hinv4⟩ := h₄
    exact ⟨n - (i + 1), by omega, i + 1, h4, tk4, rfl, hlt, rfl, hst4, hinv4⟩
  · have hin : i = n := by omega
    subst hin
    refine W.done _ _ _ hst fun h' tk' hk => ?_
    exact wpAny_execs_nil (done h' tk' (stable i h h' hinv fun b o hb e => hk b o (by simpa using hb) e))
end

theorem fr_if {h₀ h : Heap} {L : Addr} {m : Str → Option Value} {v : Str} (F : Fr h₀ L h m) (hv : m v = none) : Fr h₀ L h (fun z => if z = v then none else m z) := by
  have : (fun z => if z = v then none else m z) = m := funext fun z => by
    by_cases e : z = v
    · subst e; rw [if_pos rfl, hv]
    · rw [if_neg e]
  rw [this]; exact F
theorem fr_if2 {h₀ h : Heap} {L : Addr} {m : Str → Option Value} {v : Str} {u u' : Option Value} (F : Fr h₀ L h (fun z => if z = v then u' else if z = v then u else m z)) : Fr h₀ L h (fun z => if z = v then u' else m z) := by
  have : (fun z => if z = v then u' else if z = v then u else m z) = (fun z => if z = v then u' else m z) := funext fun z => by
    by_cases e : z = v
    · rw [if_pos e, if_pos e]
    · rw [if_neg e, if_neg e, if_neg e]
  rw [← this]; exact F

section
variable {prog : Program} {w : World} {A : Around} {s : Shared} {env : Env} {v : Str} {body : List Stmt} {Q : Flow → Shared → Prop} {g : Heap} {L : Addr} {m : Str → Option Value} {x dx d I src : Addr} {hs : Int} {tk₀ n₀ : Nat} {ns ks : List Int} {P : Nat → Value → Prop} {St : Nat → Heap → Prop} {os o : Obj}

theorem mutLoop9 (ex : List (Addr × Obj)) (f : List Int → Int → List Int) (W : Walks prog w A I [I, src] [I] ns.length P St) (hP : ∀ i y, P i y → ∃ t k, ns[i]? = some k ∧ y = .int k t) (hI : ∀ i h, St i h → ∃ oI, h.get? I = some oI) (hIg : g.get? I = none) (hIL : I ≠ L)
    (hIN : ∀ p ∈ (x, instObj 217 dx) :: (dx, dictOf [⟨hs, .str (Str.ofString "_data") tk₀, .ref d⟩] n₀) :: (d, o) :: (src, os) :: ex, p.1 < I)
    (st0 : St 0 s.heap) (F : Fr g L s.heap (fun z => if z = v then none else m z)) (N : News g L s.heap ((x, instObj 217 dx) :: (dx, dictOf [⟨hs, .str (Str.ofString "_data") tk₀, .ref d⟩] n₀) :: (d, o) :: (src, os) :: ex)) (ho : o.IsDictOf (intKind prog w) (kv ks))
    (step : ∀ ls k t h tk u o' oI, ls.length ≤ ks.length + ns.length → k ∈ ns → Fr g L h (fun z => if z = v then u else m z) → News g L h ((x, instObj 217 dx) :: (dx, dictOf [⟨hs, .str (Str.ofString "_data") tk₀, .ref d⟩] n₀) :: (d, o') :: (src, os) :: (I, oI) :: ex) → o'.IsDictOf (intKind prog w) (kv ls) →
      wpAny (model prog w) A (storeName env v (.int k t)) (fun _ s₃ => wpAny (model prog w) A (execs body env) (fun fl s₄ => Stop9 (fl = .next ∧ ∃ h' tk' u' o'', s₄ = { s with heap := h', toks := tk' } ∧ Fr g L h' (fun z => if z = v then u' else m z) ∧
        News g L h' ((x, instObj 217 dx) :: (dx, dictOf [⟨hs, .str (Str.ofString "_data") tk₀, .ref d⟩] n₀) :: (d, o'') :: (src, os) :: (I, oI) :: ex) ∧ o''.IsDictOf (intKind prog w) (kv (f ls k)))) (fun _ _ => False) s₃) (fun _ _ => False) { s with heap := h, toks := tk })
    (hf : ∀ ls k, (f ls k).length ≤ ls.length + 1)
    (done : ∀ h tk u o', Fr g L h (fun z => if z = v then u else m z) → News g L h ((x, instObj 217 dx) :: (dx, dictOf [⟨hs, .str (Str.ofString "_data") tk₀, .ref d⟩] n₀) :: (d, o') :: (src, os) :: ex) → o'.IsDictOf (intKind prog w) (kv (ns.foldl f ks)) → Q .next { s with heap := h, toks := tk }) :
    WalkAt9 prog w A env v body Q (.ref I) s := by
  have flen : ∀ i, ((ns.take i).foldl f ks).length ≤ ks.length + i := by
    intro i
    have : ∀ (l : List Int) (ls : List Int), (l.foldl f ls).length ≤ ls.length + l.length := by
      intro l
      induction l with
      | nil => intro ls; exact Nat.le_refl _
      | cons a r ih => intro ls; have := ih (f ls a); have := hf ls a; simp only [List.foldl_cons, List.length_cons]; omega
    have h1 := this (ns.take i) ks
    have h2 := List.length_take_le i ns
    omega
  refine ⟨I, [I, src], ns.length, P, St, fun i h => ∃ u o', Fr g L h (fun z => if z = v then u else m z) ∧ News g L h ((x, instObj 217 dx) :: (dx, dictOf [⟨hs, .str (Str.ofString "_data") tk₀, .ref d⟩] n₀) :: (d, o') :: (src, os) :: ex) ∧ o'.IsDictOf (intKind prog w) (kv ((ns.take i).foldl f ks)), rfl, W, st0, ⟨none, o, F, N, by simpa using ho⟩, ?_, ?_, ?_⟩
  · rintro i h h' ⟨u, o', F', N', ho'⟩ hk
    refine ⟨u, o', ⟨?_, fun b o e => hk b o (fun q => by rw [q, hIg] at e; cases e) (F'.keep b o e), F'.above⟩, fun p hp => ⟨hk _ _ ?_ (N' p hp).1, (N' p hp).2⟩, ho'⟩
    · obtain ⟨oL, es, ep, hL, r⟩ := F'.ns
      exact ⟨oL, es, ep, hk _ _ (Ne.symm hIL) hL, r⟩
    · have : p.1 < I := by
        rcases List.mem_cons.mp hp with rfl | hp
        · exact hIN _ (.head _)
        rcases List.mem_cons.mp hp with rfl | hp
        · exact hIN _ (.tail _ (.head _))
        rcases List.mem_cons.mp hp with rfl | hp
        · exact hIN (d, o) (.tail _ (.tail _ (.head _)))
        · exact hIN p (.tail _ (.tail _ (.tail _ hp)))
      exact Nat.ne_of_lt this
  · rintro i y h tk hi hPi hst ⟨u, o', F', N', ho'⟩
    obtain ⟨t, k, hk, rfl⟩ := hP i y hPi
    obtain ⟨oI, hoI⟩ := hI _ _ hst
    have N2 : News g L h ((x, instObj 217 dx) :: (dx, dictOf [⟨hs, .str (Str.ofString "_data") tk₀, .ref d⟩] n₀) :: (d, o') :: (src, os) :: (I, oI) :: ex) := by
      intro p hp
      rcases List.mem_cons.mp hp with rfl | hp
      · exact N' _ (.head _)
      rcases List.mem_cons.mp hp with rfl | hp
      · exact N' _ (.tail _ (.head _))
      rcases List.mem_cons.mp hp with rfl | hp
      · exact N' _ (.tail _ (.tail _ (.head _)))
      rcases List.mem_cons.mp hp with rfl | hp
      · exact N' _ (.tail _ (.tail _ (.tail _ (.head _))))
      rcases List.mem_cons.mp hp with rfl | hp
      · exact ⟨hoI, hIL, hIg⟩
      · exact N' _ (.tail _ (.tail _ (.tail _ (.tail _ hp))))
    refine wpAny_mono (step _ k t h tk u o' oI (by have := flen i; omega) (List.mem_of_getElem? hk) F' N2 ho') (fun _ s₃ h₃ => wpAny_mono h₃ (fun fl s₄ h₄ => ?_) fun _ _ z => z) fun _ _ z => z
    obtain ⟨rfl, h', tk', u', o'', rfl, F3, N3, ho3⟩ := h₄
    refine ⟨rfl, h', tk', rfl, W.frame _ _ _ hst fun b hb o₂ e => ?_, u', o'', F3, fun p hp => ?_, ?_⟩
    · simp only [List.mem_cons, List.not_mem_nil, or_false] at hb
      rcases hb with rfl | rfl
      · have e1 := (N2 _ (.tail _ (.tail _ (.tail _ (.tail _ (.head _)))))).1
        simp only at e1
        rw [e] at e1; cases e1
        exact (N3 _ (.tail _ (.tail _ (.tail _ (.tail _ (.head _)))))).1
      · have e1 := (N2 _ (.tail _ (.tail _ (.tail _ (.head _))))).1
        simp only at e1
        rw [e] at e1; cases e1
        exact (N3 _ (.tail _ (.tail _ (.tail _ (.head _))))).1
    · rcases List.mem_cons.mp hp with rfl | hp
      · exact N3 _ (.head _)
      rcases List.mem_cons.mp hp with rfl | hp
      · exact N3 _ (.tail _ (.head _))
      rcases List.mem_cons.mp hp with rfl | hp
      · exact N3 _ (.tail _ (.tail _ (.head _)))
      rcases List.mem_cons.mp hp with rfl | hp
      · exact N3 _ (.tail _ (.tail _ (.tail _ (.head _))))
      · exact N3 _ (.tail _ (.tail _ (.tail _ (.tail _ (.tail _ hp)))))
    · rw [List.take_add_one, hk]
      simpa [List.foldl_append] using ho3
  · rintro h tk ⟨u, o', F', N', ho'⟩
    rw [List.take_length] at ho'
    exact done h tk u o' F' N' ho'
end
end Mine
end
theorem Mine.calm9a13 : True ∧ True := by
  w_top off
  (try walk1) <;> (first | exact True.intro | exact ⟨True.intro, True.intro⟩)

/-! part P13 -/
section
open PySem PySem.W PySem.Calls PySem.Spec PyProof.Rows
namespace Mine
theorem fill9h : PySem.Challenge.rw_fs0001_01 = PySem.Challenge.rw_fs0001_01 ∧ ∀ (w : World) h, (hd.heap_39 w.params).In h → True := by
  k_fill
  exact ⟨rfl, fun _ _ _ => trivial⟩

section
variable {prog : Program} {w : World} {p : Program} {loose : List Str} {mean : ExcName → Option Value} {mg mb : Str → Option Value} {A A₀ : Around} {env : Env} {outer : List Env} {base h₀ : Heap} {L : Addr} {m : Str → Option Value} {s : Shared} {news : List (Addr × Obj)} {Q E : Value → Shared → Prop} {R : Result → Shared → Prop}
  {x d : Addr} {ks : List Int}

/-- a list of ints that a caller holds -/
def LSN (h₀ : Heap) (L : Addr) (h : Heap) (l : Addr) (ns : List Int) : Prop := ∃ o vs, News h₀ L h [(l, o)] ∧ IsL o vs ∧ IntsAre vs ns
theorem LSN.kp {h h' : Heap} {l : Addr} {ns : List Int} (O : LSN h₀ L h l ns) (hk : ∀ b o, h.get? b = some o → h'.get? b = some o) : LSN h₀ L h' l ns := by
  obtain ⟨o, vs, N, r⟩ := O
  exact ⟨o, vs, fun p hp => ⟨hk _ _ (N p hp).1, (N p hp).2⟩, r⟩

theorem Cl.deeper {env' : Env} {g h : Heap} {L' : Addr} {m' : Str → Option Value} (c : Cl w p loose mean mg mb A env outer A₀ base h₀ L s.heap m) (B : Below A base (env :: outer) g) (F : Fr g L' h m') (hf : env'.frame = some L') (hk : env'.scope.kind = .function) :
    Cl w p loose mean mg mb (A.deeper env') env' (env :: outer) A base g L' h m' :=
  ⟨B, F, c.X, c.T, by show A.frames.map _ = _; rw [c.hA]; rfl, hf, hk, c.hh⟩

local macro_rules | `(tactic| walk_at "exec For Name Name cons nil") => `(tactic| (k_here; refine stop9 ?_))
local macro_rules | `(tactic| walk_at "getMethod ref") => `(tactic| (k_here; k_dflt (refine getM9 (by k_asm) (by k_mem) (by k_asm) PySem.F.slot_dict_pop PySem.F.type_dict_pop ?_)))
local macro_rules | `(tactic| walk_at "call builtin:dict.pop") => `(tactic| (k_here; k_dflt (refine' dpop9 ?F ?N ?U ?d ?l ?z ?_; (case F => k_asm); (case N => k_asm); (case U => k_updF); (case d => k_asm); (case l => assumption); (case z => assumption)); intro h' o' F' N' hd'; (try dsimp only at N')))
local macro_rules | `(tactic| walk_at "setItem ref int") => `(tactic| (k_here; k_dflt (refine' kda_set (knd := PySem.intKind _ _) ?F ?N ?U ?d (intKind_is _ _ _ _) ?z ?_; (case F => k_asm); (case N => k_asm); (case U => k_updF); (case d => k_asm); (case z => rw [sizeLine_eq]; omega)); intro h' o' F' N' hd'; (try dsimp only at N')))

theorem listP {vs : List Value} {ns : List Int} (hi : IntsAre vs ns) : ∀ (i : Nat) (y : Value), vs.toArray[i]? = some y → ∃ t k, ns[i]? = some k ∧ y = .int k t := by
  intro i v hv
  have hv' : vs[i]? = some v := by simpa using hv
  have hlt : i < ns.length := by
    have := (List.getElem?_eq_some_iff.mp hv').1
    rw [hi.length] at this; exact this
  obtain ⟨t, hx⟩ := hi.get i ns[i] (by simp [hlt])
  rw [hv'] at hx
  exact ⟨t, ns[i], by simp [hlt], Option.some.inj hx⟩
theorem keyP (ls : List Int) : ∀ (i : Nat) (y : Value), (∃ k x, (kv ls)[i]? = some (k, x) ∧ (intKind prog w).is k y = true) → ∃ t k, ls[i]? = some k ∧ y = .int k t := by
  rintro i y ⟨k, x, hx, hk⟩
  obtain ⟨t, rfl⟩ := Value.isInt_shape hk
  unfold kv at hx
  rw [List.getElem?_map] at hx
  obtain ⟨k', hk', e⟩ := Option.map_eq_some_iff.mp hx
  cases e
  exact ⟨t, _, hk', rfl⟩

theorem mem_four {α : Type} {a b c e f g p : α} (h : p ∈ [a, b, c, e]) : p ∈ [a, b, c, e, f, g] := by
  simp only [List.mem_cons, List.not_mem_nil, or_false] at h ⊢
  rcases h with h | h | h | h <;> simp [h]

set_option maxHeartbeats 8000000 in
theorem addmany_code {l : Addr} {ns : List Int} (c : Cl w p loose mean mg mb A env outer A₀ base h₀ L s.heap m) (O : OSN prog w h₀ L s.heap x d ks) (Ol : LSN h₀ L s.heap l ns) (hsn : sm ns) (hn : ns.length ≤ 40) (hdep : A.depth + 8 < recursionLimit)
    (k : ∀ h' tk', Kp [d] s.heap h' → OSN prog w h₀ L h' x d (addA ks ns) → R (.ok (.ret .none)) { s with heap := h', toks := tk' }) :
    codeAny (model prog w) A (.call (.ref 106) ⟨[.ref x, .ref l], []⟩) R s := by
  have O₀ := O
  obtain ⟨dx, hs, tk, n, o, N0, ho, lo, h7s⟩ := O
  obtain ⟨os, vs, Nl, hos, hi⟩ := Ol
  have a1 := neN (apart_x N0 (.head _) (.tail _ (.tail _ (.head _))) ho)
  have a2 := neN (apart_d N0 (.tail _ (.head _)) (.tail _ (.tail _ (.head _))) ho)
  have a3 : @Ne Nat l d := by
    rintro rfl
    have a := (N0 _ (.tail _ (.tail _ (.head _)))).1; have b := (Nl _ (.head _)).1
    simp only at a b
    rw [a] at b; cases b
    obtain ⟨_, _, hc, _⟩ := ho
    exact absurd (hc.1.symm.trans hos.1) (by decide)
  have hlen := isd_len ho h7s
  have hks : ks.length ≤ 7 := small_len (isd_nodup ho) h7s
  have N : News h₀ L s.heap [(x, instObj 217 dx), (dx, dictOf [⟨hs, .str (Str.ofString "_data") tk, .ref d⟩] n), (d, o), (l, os)] := fun p hp => by
    rcases List.mem_append.mp (show p ∈ [(x, instObj 217 dx), (dx, dictOf [⟨hs, .str (Str.ofString "_data") tk, .ref d⟩] n), (d, o)] ++ [(l, os)] from hp) with hp | hp
    · exact N0 p hp
    · exact Nl p hp
  k_dflt (refine' enter9 (binds := [(Str.ofString "self", .ref x), (Str.ofString "iterable", .ref l)]) c N ?k6 ?k7 ?k8 ?k9 ?kB ?_ ?c5 ?c2 ?c3 ?c4; (case k6 => k_is); (case k7 => k_is); (case k8 => omega); (case k9 => first | exact BindsTo.of_eq rfl | exact binds_K (by k_in) rfl (by k_is) rfl rfl rfl); (case c5 => decide); (case kB => exact locs rfl); (case c2 => exact rfl); (case c3 => exact rfl); (case c4 => exact rfl); k_whole; intro g' L' h' F' N' B' X' T' keep' above'; (try dsimp only); (try k_fold))
  k_steps
  unfold Stop9
  refine wpAny_noRaise (for_walk9 ?_)
  refine ld F' rfl ?_
  have hl : h'.IsList l vs.toArray := hos.at (N' _ (.tail _ (.tail _ (.tail _ (.head _))))).1
  have hll := F'.ns.lt
  have hlt : l < h'.objs.size := Heap.lt_size (N' _ (.tail _ (.tail _ (.tail _ (.head _))))).1
  have hxt : x < h'.objs.size := Heap.lt_size (N' _ (.head _)).1
  have hdxt : dx < h'.objs.size := Heap.lt_size (N' _ (.tail _ (.head _))).1
  have hdt : d < h'.objs.size := Heap.lt_size (N' _ (.tail _ (.tail _ (.head _)))).1
  refine wpAny_pyIter_list hl ?_
  have hvl : vs.toArray.size = ns.length := by simp [hi.length]
  have kp1 : ∀ b o, h'.get? b = some o → (h'.push { cls := .type "list_iterator", data := .fields #[.ref l, .int 0 0] }).get? b = some o := fun b o e => Heap.get?_push_of_some _ e
  have hIg : g'.get? h'.objs.size = none := by
    cases hq : g'.get? h'.objs.size with
    | none => rfl
    | some o' => exact absurd (Heap.lt_size (F'.keep _ _ hq)) (Nat.lt_irrefl _)
  have hI : ∀ (i : Nat) (h : Heap), (h.IsListIter h'.objs.size l i ∧ h.IsList l vs.toArray) → ∃ oI, h.get? h'.objs.size = some oI := fun i h st => let ⟨o, e, _⟩ := st.1; ⟨o, e⟩
  have hnew : (h'.push { cls := .type "list_iterator", data := .fields #[.ref l, .int 0 0] }).get? h'.objs.size = some { cls := .type "list_iterator", data := .fields #[.ref l, .int 0 0] } := Heap.get?_push_size _ rfl
  refine mutLoop9 (x := x) (dx := dx) (d := d) (src := l) (ns := ns) (ks := ks) (o := o) (os := os) (m := fun y => List.lookup y [(Str.ofString "self", Value.ref x), (Str.ofString "iterable", Value.ref l)].reverse) [] addI (by rw [← hvl]; exact Walks.list (by exact c.hh) h'.objs.size l (Nat.ne_of_lt hlt) vs.toArray) (listP hi) hI hIg (Nat.ne_of_gt hll) (fun p hp => Heap.lt_size (N' p hp).1) ⟨⟨_, hnew, rfl, rfl⟩, hl.at fun o e => kp1 _ o e⟩ (fr_if (F'.push _) rfl) (fun p hp => ⟨kp1 _ _ (N' p hp).1, (N' p hp).2⟩) ho ?_ addI_length ?_
  · intro ls k t h tk u o' oI hl hk F2 N2 ho2
    have hz : (kv ls).length ≤ 100 := by unfold kv; rw [List.length_map]; omega
    have i3 := neN (Nat.ne_of_gt hdt)
    k_steps
    unfold Stop9
    (with_reducible rename News _ _ _ _ => N9); (with_reducible rename Fr _ _ _ _ => F9); (with_reducible rename Obj.IsDictOf _ _ _ => D9)
    rw [stored_kv] at D9
    exact ⟨rfl, _, _, _, _, rfl, fr_if2 F9, N9, D9⟩
  · intro h tk u o' F2 N2 ho2
    k_steps
    have hk := kp_of (ch := [d]) keep' F2 N N2 (by simp)
    exact k _ _ hk (O₀.put hk (N2 _ (.tail _ (.tail _ (.head _)))).1 ho2 (sm_addA h7s hsn))

set_option maxHeartbeats 8000000 in
theorem dropL_code {l : Addr} {ns : List Int} (c : Cl w p loose mean mg mb A env outer A₀ base h₀ L s.heap m) (O : OSN prog w h₀ L s.heap x d ks) (Ol : LSN h₀ L s.heap l ns) (hsn : sm ns) (hn : ns.length ≤ 40) (hdep : A.depth + 8 < recursionLimit)
    (k : ∀ h' tk', Kp [d] s.heap h' → OSN prog w h₀ L h' x d (outA ks ns) → R (.ok (.ret .none)) { s with heap := h', toks := tk' }) :
    codeAny (model prog w) A (.call (.ref 127) ⟨[.ref x, .ref l], []⟩) R s := by
  have O₀ := O
  obtain ⟨dx, hs, tk, n, o, N0, ho, lo, h7s⟩ := O
  obtain ⟨os, vs, Nl, hos, hi⟩ := Ol
  have a1 := neN (apart_x N0 (.head _) (.tail _ (.tail _ (.head _))) ho)
  have a2 := neN (apart_d N0 (.tail _ (.head _)) (.tail _ (.tail _ (.head _))) ho)
  have a3 : @Ne Nat l d := by
    rintro rfl
    have a := (N0 _ (.tail _ (.tail _ (.head _)))).1; have b := (Nl _ (.head _)).1
    simp only at a b
    rw [a] at b; cases b
    obtain ⟨_, _, hc, _⟩ := ho
    exact absurd (hc.1.symm.trans hos.1) (by decide)
  have hlen := isd_len ho h7s
  have hks : ks.length ≤ 7 := small_len (isd_nodup ho) h7s
  have N : News h₀ L s.heap [(x, instObj 217 dx), (dx, dictOf [⟨hs, .str (Str.ofString "_data") tk, .ref d⟩] n), (d, o), (l, os)] := fun p hp => by
    rcases List.mem_append.mp (show p ∈ [(x, instObj 217 dx), (dx, dictOf [⟨hs, .str (Str.ofString "_data") tk, .ref d⟩] n), (d, o)] ++ [(l, os)] from hp) with hp | hp
    · exact N0 p hp
    · exact Nl p hp
  k_dflt (refine' enter9 (binds := [(Str.ofString "self", .ref x), (Str.ofString "iterable", .ref l)]) c N ?k6 ?k7 ?k8 ?k9 ?kB ?_ ?c5 ?c2 ?c3 ?c4; (case k6 => k_is); (case k7 => k_is); (case k8 => omega); (case k9 => first | exact BindsTo.of_eq rfl | exact binds_K (by k_in) rfl (by k_is) rfl rfl rfl); (case c5 => decide); (case kB => exact locs rfl); (case c2 => exact rfl); (case c3 => exact rfl); (case c4 => exact rfl); k_whole; intro g' L' h' F' N' B' X' T' keep' above'; (try dsimp only); (try k_fold))
  k_steps
  unfold Stop9
  refine wpAny_noRaise (for_walk9 ?_)
  refine ld F' rfl ?_
  have hl : h'.IsList l vs.toArray := hos.at (N' _ (.tail _ (.tail _ (.tail _ (.head _))))).1
  have hll := F'.ns.lt
  have hlt : l < h'.objs.size := Heap.lt_size (N' _ (.tail _ (.tail _ (.tail _ (.head _))))).1
  have hxt : x < h'.objs.size := Heap.lt_size (N' _ (.head _)).1
  have hdxt : dx < h'.objs.size := Heap.lt_size (N' _ (.tail _ (.head _))).1
  have hdt : d < h'.objs.size := Heap.lt_size (N' _ (.tail _ (.tail _ (.head _)))).1
  refine wpAny_pyIter_list hl ?_
  have hvl : vs.toArray.size = ns.length := by simp [hi.length]
  have kp1 : ∀ b o, h'.get? b = some o → (h'.push { cls := .type "list_iterator", data := .fields #[.ref l, .int 0 0] }).get? b = some o := fun b o e => Heap.get?_push_of_some _ e
  have hIg : g'.get? h'.objs.size = none := by
    cases hq : g'.get? h'.objs.size with
    | none => rfl
    | some o' => exact absurd (Heap.lt_size (F'.keep _ _ hq)) (Nat.lt_irrefl _)
  have hI : ∀ (i : Nat) (h : Heap), (h.IsListIter h'.objs.size l i ∧ h.IsList l vs.toArray) → ∃ oI, h.get? h'.objs.size = some oI := fun i h st => let ⟨o, e, _⟩ := st.1; ⟨o, e⟩
  have hnew : (h'.push { cls := .type "list_iterator", data := .fields #[.ref l, .int 0 0] }).get? h'.objs.size = some { cls := .type "list_iterator", data := .fields #[.ref l, .int 0 0] } := Heap.get?_push_size _ rfl
  refine mutLoop9 (x := x) (dx := dx) (d := d) (src := l) (ns := ns) (ks := ks) (o := o) (os := os) (m := fun y => List.lookup y [(Str.ofString "self", Value.ref x), (Str.ofString "iterable", Value.ref l)].reverse) [] outI (by rw [← hvl]; exact Walks.list (by exact c.hh) h'.objs.size l (Nat.ne_of_lt hlt) vs.toArray) (listP hi) hI hIg (Nat.ne_of_gt hll) (fun p hp => Heap.lt_size (N' p hp).1) ⟨⟨_, hnew, rfl, rfl⟩, hl.at fun o e => kp1 _ o e⟩ (fr_if (F'.push _) rfl) (fun p hp => ⟨kp1 _ _ (N' p hp).1, (N' p hp).2⟩) ho ?_ (fun ls k => Nat.le_succ_of_le (outI_length ls k)) ?_
  · intro ls k t h tk u o' oI hl hk F2 N2 ho2
    have hz : (kv ls).length ≤ 100 := by unfold kv; rw [List.length_map]; omega
    have i3 := neN (Nat.ne_of_gt hdt)
    k_steps
    unfold Stop9
    (with_reducible rename News _ _ _ _ => N9); (with_reducible rename Fr _ _ _ _ => F9); (with_reducible rename Obj.IsDictOf _ _ _ => D9)
    exact ⟨rfl, _, _, _, _, rfl, fr_if2 F9, N9, D9⟩
  · intro h tk u o' F2 N2 ho2
    k_steps
    have hk := kp_of (ch := [d]) keep' F2 N N2 (by simp)
    exact k _ _ hk (O₀.put hk (N2 _ (.tail _ (.tail _ (.head _)))).1 ho2 (sm_outA h7s))

set_option maxHeartbeats 8000000 in
theorem update_code {y dy : Addr} {ns : List Int} (c : Cl w p loose mean mg mb A env outer A₀ base h₀ L s.heap m) (O : OSN prog w h₀ L s.heap x d ks) (Oy : OSN prog w h₀ L s.heap y dy ns) (hne : dy ≠ d) (hdep : A.depth + 8 < recursionLimit)
    (k : ∀ h' tk', Kp [d] s.heap h' → OSN prog w h₀ L h' x d (addA ks ns) → R (.ok (.ret .none)) { s with heap := h', toks := tk' }) :
    codeAny (model prog w) A (.call (.ref 148) ⟨[.ref x, .ref y], []⟩) R s := by
  have O₀ := O
  obtain ⟨dx, hs, tk, n, o, N0, ho, lo, h7s⟩ := O
  obtain ⟨dxy, hsy, tky, ny, os, Ny, hos, loy, h7t⟩ := Oy
  have a1 := neN (apart_x N0 (.head _) (.tail _ (.tail _ (.head _))) ho)
  have a2 := neN (apart_d N0 (.tail _ (.head _)) (.tail _ (.tail _ (.head _))) ho)
  have a3 := neN hne
  have a4 : y ≠ d := apart_x (o := o) (C := 217) (dx := dxy) (L := L) (h₀ := h₀) (news := [(y, instObj 217 dxy), (d, o)]) (fun p hp => by rcases List.mem_cons.mp hp with rfl | hp; exact Ny _ (.head _); exact N0 p (.tail _ (.tail _ hp))) (.head _) (.tail _ (.head _)) ho
  have a5 : dxy ≠ d := apart_d (o := o) (L := L) (h₀ := h₀) (news := [(dxy, dictOf [⟨hsy, .str (Str.ofString "_data") tky, .ref dy⟩] ny), (d, o)]) (fun p hp => by rcases List.mem_cons.mp hp with rfl | hp; exact Ny _ (.tail _ (.head _)); exact N0 p (.tail _ (.tail _ hp))) (.head _) (.tail _ (.head _)) ho
  have hlen := isd_len ho h7s
  have hks : ks.length ≤ 7 := small_len (isd_nodup ho) h7s
  have hn : ns.length ≤ 7 := small_len (isd_nodup hos) h7t
  have N : News h₀ L s.heap [(x, instObj 217 dx), (dx, dictOf [⟨hs, .str (Str.ofString "_data") tk, .ref d⟩] n), (d, o), (dy, os), (y, instObj 217 dxy), (dxy, dictOf [⟨hsy, .str (Str.ofString "_data") tky, .ref dy⟩] ny)] := fun p hp => by
    simp only [List.mem_cons, List.not_mem_nil, or_false] at hp
    rcases hp with rfl | rfl | rfl | rfl | rfl | rfl
    · exact N0 _ (.head _)
    · exact N0 _ (.tail _ (.head _))
    · exact N0 _ (.tail _ (.tail _ (.head _)))
    · exact Ny _ (.tail _ (.tail _ (.head _)))
    · exact Ny _ (.head _)
    · exact Ny _ (.tail _ (.head _))
  k_dflt (refine' enter9 (binds := [(Str.ofString "self", .ref x), (Str.ofString "other", .ref y)]) c N ?k6 ?k7 ?k8 ?k9 ?kB ?_ ?c5 ?c2 ?c3 ?c4; (case k6 => k_is); (case k7 => k_is); (case k8 => omega); (case k9 => first | exact BindsTo.of_eq rfl | exact binds_K (by k_in) rfl (by k_is) rfl rfl rfl); (case c5 => decide); (case kB => exact locs rfl); (case c2 => exact rfl); (case c3 => exact rfl); (case c4 => exact rfl); k_whole; intro g' L' h' F' N' B' X' T' keep' above'; (try dsimp only); (try k_fold))
  k_steps
  unfold Stop9
  refine wpAny_noRaise (for_walk9 ?_)
  refine ld F' rfl ?_
  have Oy' : OSN prog w g' L' h' y dy ns := ⟨dxy, hsy, tky, ny, os, fun p hp => N' p (by
    simp only [List.mem_cons, List.not_mem_nil, or_false] at hp ⊢
    rcases hp with rfl | rfl | rfl <;> simp), hos, loy, h7t⟩
  refine pyIterOS (c.deeper B' F' (by rfl) (by rfl)) Oy' (by show A.depth + 1 + 4 < _; omega) fun I ep h1 tk1 hkp hit hat hsz => ?_
  have hkp' : ∀ b o, h'.get? b = some o → h1.get? b = some o := fun b o e => hkp b o (by simp) e
  have hll := Nat.lt_of_lt_of_le F'.ns.lt hsz
  have hxt : x < I := Nat.lt_of_lt_of_le (Heap.lt_size (N' _ (.head _)).1) hsz
  have hdxt : dx < I := Nat.lt_of_lt_of_le (Heap.lt_size (N' _ (.tail _ (.head _))).1) hsz
  have hdt : d < I := Nat.lt_of_lt_of_le (Heap.lt_size (N' _ (.tail _ (.tail _ (.head _)))).1) hsz
  have hlt : dy < I := Nat.lt_of_lt_of_le (Heap.lt_size (N' _ (.tail _ (.tail _ (.tail _ (.head _))))).1) hsz
  have hIg : g'.get? I = none := by
    cases hq : g'.get? I with
    | none => rfl
    | some o' => exact absurd (Heap.lt_size (F'.keep _ _ hq)) (Nat.not_lt.mpr hsz)
  have hvl : (kv ns).length = ns.length := by unfold kv; exact List.length_map ..
  have hI : ∀ (i : Nat) (h : Heap), (h.IsKeyIter I dy i (kv ns).length ep ∧ h.DictAt (intKind prog w) dy (kv ns) ep) → ∃ oI, h.get? I = some oI := fun i h st => let ⟨o, e, _⟩ := st.1; ⟨o, e⟩
  refine mutLoop9 (x := x) (dx := dx) (d := d) (src := dy) (ns := ns) (ks := ks) (o := o) (os := os) (m := fun z => List.lookup z [(Str.ofString "self", Value.ref x), (Str.ofString "other", Value.ref y)].reverse) [(y, instObj 217 dxy), (dxy, dictOf [⟨hsy, .str (Str.ofString "_data") tky, .ref dy⟩] ny)] addI (by rw [← hvl]; exact Walks.dictKeys (knd := intKind prog w) (by exact c.hh) I dy (Nat.ne_of_lt hlt) (kv ns) ep) (keyP ns) hI hIg (Nat.ne_of_gt hll) (fun p hp => Nat.lt_of_lt_of_le (Heap.lt_size (N' p hp).1) hsz) ⟨hit, hat⟩ (fr_if ⟨F'.ns.keeps hkp', fun b o e => hkp' b o (F'.keep b o e), F'.above⟩ rfl) (fun p hp => ⟨hkp' _ _ (N' p hp).1, (N' p hp).2⟩) ho ?_ addI_length ?_
  · intro ls k t h tk u o' oI hl hk F2 N2 ho2
    have hz : (kv ls).length ≤ 100 := by unfold kv; rw [List.length_map]; omega
    have i3 := neN (Nat.ne_of_gt hdt); have i4 := neN a4; have i5 := neN a5
    k_steps
    unfold Stop9
    (with_reducible rename News _ _ _ _ => N9); (with_reducible rename Fr _ _ _ _ => F9); (with_reducible rename Obj.IsDictOf _ _ _ => D9)
    rw [stored_kv] at D9
    exact ⟨rfl, _, _, _, _, rfl, fr_if2 F9, N9, D9⟩
  · intro h tk u o' F2 N2 ho2
    k_steps
    have hk := kp_of (ch := [d]) keep' F2 N N2 (by simp)
    exact k _ _ hk (O₀.put hk (N2 _ (.tail _ (.tail _ (.head _)))).1 ho2 (sm_addA h7s h7t))

set_option maxHeartbeats 8000000 in
theorem dropS_code {y dy : Addr} {ns : List Int} (c : Cl w p loose mean mg mb A env outer A₀ base h₀ L s.heap m) (O : OSN prog w h₀ L s.heap x d ks) (Oy : OSN prog w h₀ L s.heap y dy ns) (hne : dy ≠ d) (hdep : A.depth + 8 < recursionLimit)
    (k : ∀ h' tk', Kp [d] s.heap h' → OSN prog w h₀ L h' x d (outA ks ns) → R (.ok (.ret .none)) { s with heap := h', toks := tk' }) :
    codeAny (model prog w) A (.call (.ref 127) ⟨[.ref x, .ref y], []⟩) R s := by
  have O₀ := O
  obtain ⟨dx, hs, tk, n, o, N0, ho, lo, h7s⟩ := O
  obtain ⟨dxy, hsy, tky, ny, os, Ny, hos, loy, h7t⟩ := Oy
  have a1 := neN (apart_x N0 (.head _) (.tail _ (.tail _ (.head _))) ho)
  have a2 := neN (apart_d N0 (.tail _ (.head _)) (.tail _ (.tail _ (.head _))) ho)
  have a3 := neN hne
  have a4 : y ≠ d := apart_x (o := o) (C := 217) (dx := dxy) (L := L) (h₀ := h₀) (news := [(y, instObj 217 dxy), (d, o)]) (fun p hp => by rcases List.mem_cons.mp hp with rfl | hp; exact Ny _ (.head _); exact N0 p (.tail _ (.tail _ hp))) (.head _) (.tail _ (.head _)) ho
  have a5 : dxy ≠ d := apart_d (o := o) (L := L) (h₀ := h₀) (news := [(dxy, dictOf [⟨hsy, .str (Str.ofString "_data") tky, .ref dy⟩] ny), (d, o)]) (fun p hp => by rcases List.mem_cons.mp hp with rfl | hp; exact Ny _ (.tail _ (.head _)); exact N0 p (.tail _ (.tail _ hp))) (.head _) (.tail _ (.head _)) ho
  have hlen := isd_len ho h7s
  have hks : ks.length ≤ 7 := small_len (isd_nodup ho) h7s
  have hn : ns.length ≤ 7 := small_len (isd_nodup hos) h7t
  have N : News h₀ L s.heap [(x, instObj 217 dx), (dx, dictOf [⟨hs, .str (Str.ofString "_data") tk, .ref d⟩] n), (d, o), (dy, os), (y, instObj 217 dxy), (dxy, dictOf [⟨hsy, .str (Str.ofString "_data") tky, .ref dy⟩] ny)] := fun p hp => by
    simp only [List.mem_cons, List.not_mem_nil, or_false] at hp
    rcases hp with rfl | rfl | rfl | rfl | rfl | rfl
    · exact N0 _ (.head _)
    · exact N0 _ (.tail _ (.head _))
    · exact N0 _ (.tail _ (.tail _ (.head _)))
    · exact Ny _ (.tail _ (.tail _ (.head _)))
    · exact Ny _ (.head _)
    · exact Ny _ (.tail _ (.head _))
  k_dflt (refine' enter9 (binds := [(Str.ofString "self", .ref x), (Str.ofString "iterable", .ref y)]) c N ?k6 ?k7 ?k8 ?k9 ?kB ?_ ?c5 ?c2 ?c3 ?c4; (case k6 => k_is); (case k7 => k_is); (case k8 => omega); (case k9 => first | exact BindsTo.of_eq rfl | exact binds_K (by k_in) rfl (by k_is) rfl rfl rfl); (case c5 => decide); (case kB => exact locs rfl); (case c2 => exact rfl); (case c3 => exact rfl); (case c4 => exact rfl); k_whole; intro g' L' h' F' N' B' X' T' keep' above'; (try dsimp only); (try k_fold))
  k_steps
  unfold Stop9
  refine wpAny_noRaise (for_walk9 ?_)
  refine ld F' rfl ?_
  have Oy' : OSN prog w g' L' h' y dy ns := ⟨dxy, hsy, tky, ny, os, fun p hp => N' p (by
    simp only [List.mem_cons, List.not_mem_nil, or_false] at hp ⊢
    rcases hp with rfl | rfl | rfl <;> simp), hos, loy, h7t⟩
  refine pyIterOS (c.deeper B' F' (by rfl) (by rfl)) Oy' (by show A.depth + 1 + 4 < _; omega) fun I ep h1 tk1 hkp hit hat hsz => ?_
  have hkp' : ∀ b o, h'.get? b = some o → h1.get? b = some o := fun b o e => hkp b o (by simp) e
  have hll := Nat.lt_of_lt_of_le F'.ns.lt hsz
  have hxt : x < I := Nat.lt_of_lt_of_le (Heap.lt_size (N' _ (.head _)).1) hsz
  have hdxt : dx < I := Nat.lt_of_lt_of_le (Heap.lt_size (N' _ (.tail _ (.head _))).1) hsz
  have hdt : d < I := Nat.lt_of_lt_of_le (Heap.lt_size (N' _ (.tail _ (.tail _ (.head _)))).1) hsz
  have hlt : dy < I := Nat.lt_of_lt_of_le (Heap.lt_size (N' _ (.tail _ (.tail _ (.tail _ (.head _))))).1) hsz
  have hIg : g'.get? I = none := by
    cases hq : g'.get? I with
    | none => rfl
    | some o' => exact absurd (Heap.lt_size (F'.keep _ _ hq)) (Nat.not_lt.mpr hsz)
  have hvl : (kv ns).length = ns.length := by unfold kv; exact List.length_map ..
  have hI : ∀ (i : Nat) (h : Heap), (h.IsKeyIter I dy i (kv ns).length ep ∧ h.DictAt (intKind prog w) dy (kv ns) ep) → ∃ oI, h.get? I = some oI := fun i h st => let ⟨o, e, _⟩ := st.1; ⟨o, e⟩
  refine mutLoop9 (x := x) (dx := dx) (d := d) (src := dy) (ns := ns) (ks := ks) (o := o) (os := os) (m := fun z => List.lookup z [(Str.ofString "self", Value.ref x), (Str.ofString "iterable", Value.ref y)].reverse) [(y, instObj 217 dxy), (dxy, dictOf [⟨hsy, .str (Str.ofString "_data") tky, .ref dy⟩] ny)] outI (by rw [← hvl]; exact Walks.dictKeys (knd := intKind prog w) (by exact c.hh) I dy (Nat.ne_of_lt hlt) (kv ns) ep) (keyP ns) hI hIg (Nat.ne_of_gt hll) (fun p hp => Nat.lt_of_lt_of_le (Heap.lt_size (N' p hp).1) hsz) ⟨hit, hat⟩ (fr_if ⟨F'.ns.keeps hkp', fun b o e => hkp' b o (F'.keep b o e), F'.above⟩ rfl) (fun p hp => ⟨hkp' _ _ (N' p hp).1, (N' p hp).2⟩) ho ?_ (fun ls k => Nat.le_succ_of_le (outI_length ls k)) ?_
  · intro ls k t h tk u o' oI hl hk F2 N2 ho2
    have hz : (kv ls).length ≤ 100 := by unfold kv; rw [List.length_map]; omega
    have i3 := neN (Nat.ne_of_gt hdt); have i4 := neN a4; have i5 := neN a5
    k_steps
    unfold Stop9
    (with_reducible rename News _ _ _ _ => N9); (with_reducible rename Fr _ _ _ _ => F9); (with_reducible rename Obj.IsDictOf _ _ _ => D9)
    exact ⟨rfl, _, _, _, _, rfl, fr_if2 F9, N9, D9⟩
  · intro h tk u o' F2 N2 ho2
    k_steps
    have hk := kp_of (ch := [d]) keep' F2 N N2 (by simp)
    exact k _ _ hk (O₀.put hk (N2 _ (.tail _ (.tail _ (.head _)))).1 ho2 (sm_outA h7s))

end
end Mine
end
theorem Mine.calm9a14 : True ∧ True := by
  w_top off
  (try walk1) <;> (first | exact True.intro | exact ⟨True.intro, True.intro⟩)

/-! part P14 -/
section
open PySem PySem.W PySem.Calls PySem.Spec PyProof.Rows
namespace Mine
theorem fill9i : PySem.Challenge.rw_fs0001_01 = PySem.Challenge.rw_fs0001_01 ∧ ∀ (w : World) h, (hd.heap_39 w.params).In h → True := by
  k_fill
  exact ⟨rfl, fun _ _ _ => trivial⟩

section
variable {prog : Program} {w : World} {p : Program} {loose : List Str} {mean : ExcName → Option Value} {mg mb : Str → Option Value} {A A₀ : Around} {env : Env} {outer : List Env} {base h₀ : Heap} {L : Addr} {m : Str → Option Value} {s : Shared} {news : List (Addr × Obj)} {Q E : Value → Shared → Prop} {R : Result → Shared → Prop}
  {x d : Addr} {ks : List Int}

theorem Cl.re {h h' : Heap} {m' : Str → Option Value} (c : Cl w p loose mean mg mb A env outer A₀ base h₀ L h m) (F : Fr h₀ L h' m') : Cl w p loose mean mg mb A env outer A₀ base h₀ L h' m' := ⟨c.B, F, c.X, c.T, c.hA, c.hf, c.hk, c.hh⟩

theorem with_cd {α : Type} {M : Model} {env' : Env} {g : Heap} {L' : Addr} {m' : Str → Option Value} {t : Sem α} {Q : α → Shared → Prop} {s' : Shared} (c : Cl w p loose mean mg mb A env outer A₀ base h₀ L s.heap m) (B : Below A base (env :: outer) g) (F : Fr g L' s'.heap m') (hf : env'.frame = some L') (hk : env'.scope.kind = .function)
    (h : Cl w p loose mean mg mb (A.deeper env') env' (env :: outer) A base g L' s'.heap m' → wpAny M (A.deeper env') t Q E s') : wpAny M (A.deeper env') t Q E s' := h (c.deeper B F hf hk)

theorem osn_of {dx : Addr} {hs : Int} {tk n : Nat} {o : Obj} {h : Heap} (N : News h₀ L h news) (h1 : (x, instObj 217 dx) ∈ news) (h2 : (dx, dictOf [⟨hs, .str (Str.ofString "_data") tk, .ref d⟩] n) ∈ news) (h3 : (d, o) ∈ news) (ho : o.IsDictOf (intKind prog w) (kv ks)) (lo : (d == sysModules) = false) (h7 : sm ks) : OSN prog w h₀ L h x d ks :=
  ⟨dx, hs, tk, n, o, fun p hp => N p (by
    simp only [List.mem_cons, List.not_mem_nil, or_false] at hp
    rcases hp with rfl | rfl | rfl
    · exact h1
    · exact h2
    · exact h3), ho, lo, h7⟩

theorem copy_line {dx : Addr} {hs : Int} {tk n : Nat} {o : Obj} (c : Cl w p loose mean mg mb A env outer A₀ base h₀ L s.heap m) (N : News h₀ L s.heap news) (h1 : (x, instObj 217 dx) ∈ news) (h2 : (dx, dictOf [⟨hs, .str (Str.ofString "_data") tk, .ref d⟩] n) ∈ news) (h3 : (d, o) ∈ news) (ho : o.IsDictOf (intKind prog w) (kv ks)) (lo : (d == sysModules) = false) (h7 : sm ks)
    (hdep : A.depth + 4 < recursionLimit)
    (k : ∀ x' dx' d' hs' tk' n' o' h' tk'', Fr h₀ L h' m → News h₀ L h' ((x', instObj 217 dx') :: (dx', dictOf [⟨hs', .str (Str.ofString "_data") tk', .ref d'⟩] n') :: (d', o') :: news) → (∀ p ∈ news, p.1 < d') → @Ne Nat x' d' → @Ne Nat dx' d' → L < x' → L < dx' → L < d' →
      o'.IsDictOf (intKind prog w) (kv ks) → (d' == sysModules) = false → Q (.ref x') { s with heap := h', toks := tk'' }) :
    wpAny (model prog w) A (call (.ref 197) [.ref x]) Q E s := by
  refine wpAny_call (copy_code c (osn_of N h1 h2 h3 ho lo h7) hdep fun x' d' h' tk'' hk O' => ?_)
  have hkp : ∀ b o, s.heap.get? b = some o → h'.get? b = some o := fun b o e => hk b o (by simp) e
  obtain ⟨dx', hs', tk', n', o', N', ho', lo', h7'⟩ := O'.osn c.F
  obtain ⟨dx₁, hs₁, tk₁, n₁, o₁, e1, e2, e3, g1, g2, g3, _⟩ := O'
  have hdx : dx' = dx₁ := by
    have := (N' _ (.head _)).1; simp only at this; rw [e1] at this; cases this; rfl
  subst hdx
  refine k x' dx' d' hs' tk' n' o' h' tk'' ⟨c.F.ns.keeps hkp, fun b o e => hkp b o (c.F.keep b o e), c.F.above⟩ (fun p hp => ?_) (fun p hp => Nat.lt_of_lt_of_le (Heap.lt_size (N p hp).1) g3) (apart_x N' (.head _) (.tail _ (.tail _ (.head _))) ho') (apart_d N' (.tail _ (.head _)) (.tail _ (.tail _ (.head _))) ho')
    (Nat.lt_of_lt_of_le c.F.ns.lt g1) (Nat.lt_of_lt_of_le c.F.ns.lt g2) (Nat.lt_of_lt_of_le c.F.ns.lt g3) ho' lo'
  rcases List.mem_cons.mp hp with rfl | hp
  · exact N' _ (.head _)
  rcases List.mem_cons.mp hp with rfl | hp
  · exact N' _ (.tail _ (.head _))
  rcases List.mem_cons.mp hp with rfl | hp
  · exact N' _ (.tail _ (.tail _ (.head _)))
  · exact ⟨hkp _ _ (N p hp).1, (N p hp).2⟩

theorem mut_news {g : Obj → List (Addr × Obj)} {o o' : Obj} {h' : Heap} (F : Fr h₀ L s.heap m) (N : News h₀ L s.heap news) (U : UpdF d o news g) (hk : Kp [d] s.heap h') (ho' : h'.get? d = some o') : Fr h₀ L h' m ∧ News h₀ L h' (g o') := by
  obtain ⟨pre, post, rfl, hg, a, b⟩ := U.split
  have hm := N (d, o) (List.mem_append_right _ (.head _))
  refine ⟨⟨?_, fun b o e => hk b o (fun q => by rw [List.mem_singleton.mp q, hm.2.2] at e; cases e) (F.keep b o e), F.above⟩, fun p hp => ?_⟩
  · obtain ⟨oL, es, ep, hL, r⟩ := F.ns
    exact ⟨oL, es, ep, hk _ _ (fun q => hm.2.1 (List.mem_singleton.mp q).symm) hL, r⟩
  · rw [hg o'] at hp
    rcases List.mem_append.mp hp with hp | hp
    · have P := N p (List.mem_append_left _ hp); exact ⟨hk _ _ (fun q => a p hp (List.mem_singleton.mp q)) P.1, P.2⟩
    rcases List.mem_cons.mp hp with rfl | hp
    · exact ⟨ho', hm.2⟩
    · have P := N p (List.mem_append_right _ (.tail _ hp)); exact ⟨hk _ _ (fun q => b p hp (List.mem_singleton.mp q)) P.1, P.2⟩

theorem updS_line {g : Obj → List (Addr × Obj)} {dx y dxy dy : Addr} {hs hsy : Int} {tk n tky ny : Nat} {o oy : Obj} {ns : List Int} (c : Cl w p loose mean mg mb A env outer A₀ base h₀ L s.heap m) (N : News h₀ L s.heap news) (h1 : (x, instObj 217 dx) ∈ news) (h2 : (dx, dictOf [⟨hs, .str (Str.ofString "_data") tk, .ref d⟩] n) ∈ news) (h3 : (d, o) ∈ news) (ho : o.IsDictOf (intKind prog w) (kv ks)) (lo : (d == sysModules) = false) (h7 : sm ks)
    (y1 : (y, instObj 217 dxy) ∈ news) (y2 : (dxy, dictOf [⟨hsy, .str (Str.ofString "_data") tky, .ref dy⟩] ny) ∈ news) (y3 : (dy, oy) ∈ news) (yo : oy.IsDictOf (intKind prog w) (kv ns)) (ly : (dy == sysModules) = false) (y7 : sm ns) (hne : dy ≠ d) (U : UpdF d o news g)
    (hdep : A.depth + 8 < recursionLimit)
    (k : ∀ h' tk' o', Fr h₀ L h' m → News h₀ L h' (g o') → o'.IsDictOf (intKind prog w) (kv (addA ks ns)) → Q .none { s with heap := h', toks := tk' }) :
    wpAny (model prog w) A (call (.ref 148) [.ref x, .ref y]) Q E s := by
  refine wpAny_call (update_code c (osn_of N h1 h2 h3 ho lo h7) (osn_of N y1 y2 y3 yo ly y7) hne hdep fun h' tk' hk O' => ?_)
  obtain ⟨dx', hs', tk', n', o', N', ho', _⟩ := O'
  obtain ⟨F', N''⟩ := mut_news c.F N U hk (N' _ (.tail _ (.tail _ (.head _)))).1
  exact k _ _ o' F' N'' ho'
theorem dropS_line {g : Obj → List (Addr × Obj)} {dx y dxy dy : Addr} {hs hsy : Int} {tk n tky ny : Nat} {o oy : Obj} {ns : List Int} (c : Cl w p loose mean mg mb A env outer A₀ base h₀ L s.heap m) (N : News h₀ L s.heap news) (h1 : (x, instObj 217 dx) ∈ news) (h2 : (dx, dictOf [⟨hs, .str (Str.ofString "_data") tk, .ref d⟩] n) ∈ news) (h3 : (d, o) ∈ news) (ho : o.IsDictOf (intKind prog w) (kv ks)) (lo : (d == sysModules) = false) (h7 : sm ks)
    (y1 : (y, instObj 217 dxy) ∈ news) (y2 : (dxy, dictOf [⟨hsy, .str (Str.ofString "_data") tky, .ref dy⟩] ny) ∈ news) (y3 : (dy, oy) ∈ news) (yo : oy.IsDictOf (intKind prog w) (kv ns)) (ly : (dy == sysModules) = false) (y7 : sm ns) (hne : dy ≠ d) (U : UpdF d o news g)
    (hdep : A.depth + 8 < recursionLimit)
    (k : ∀ h' tk' o', Fr h₀ L h' m → News h₀ L h' (g o') → o'.IsDictOf (intKind prog w) (kv (outA ks ns)) → Q .none { s with heap := h', toks := tk' }) :
    wpAny (model prog w) A (call (.ref 127) [.ref x, .ref y]) Q E s := by
  refine wpAny_call (dropS_code c (osn_of N h1 h2 h3 ho lo h7) (osn_of N y1 y2 y3 yo ly y7) hne hdep fun h' tk' hk O' => ?_)
  obtain ⟨dx', hs', tk', n', o', N', ho', _⟩ := O'
  obtain ⟨F', N''⟩ := mut_news c.F N U hk (N' _ (.tail _ (.tail _ (.head _)))).1
  exact k _ _ o' F' N'' ho'

local macro_rules | `(tactic| walk_at "call ref") => `(tactic| (k_here; (with_reducible show wpAny _ _ (call (Value.ref 197) _) _ _ _); k_dflt (refine' copy_line (Cl.re (by assumption) (by k_asm)) ?N ?a ?b ?c ?o ?l ?s ?d ?_; (case N => k_asm); (case a => k_mem); (case b => k_mem); (case c => k_mem); (case o => assumption); (case l => assumption); (case s => assumption); (case d => (simp only [depth_deeper, depth_in1]; omega)); k_whole); intro x' dx' d' hs' tk' n' o' h' tk'' F' N' l1 n1 n2 l2 l3 l4 D' lo'; (try k_lt l1); (try k_lt2 l2); (try k_lt2 l3); (try k_lt2 l4); (try k_sweep)))
local macro_rules | `(tactic| walk_at "call ref") => `(tactic| (k_here; (with_reducible show wpAny _ _ (call (Value.ref 148) _) _ _ _); k_dflt (refine' updS_line (Cl.re (by assumption) (by k_asm)) ?N ?a ?b ?c ?o ?l ?s ?a2 ?b2 ?c2 ?o2 ?l2 ?s2 ?ne ?U ?d ?_; (case N => k_asm); (case a => k_mem); (case b => k_mem); (case c => k_mem); (case o => assumption); (case l => assumption); (case s => assumption); (case a2 => k_mem); (case b2 => k_mem); (case c2 => k_mem); (case o2 => assumption); (case l2 => assumption); (case s2 => assumption); (case ne => k_ne); (case U => k_updF); (case d => (simp only [depth_deeper, depth_in1]; omega)); k_whole); intro h' tk' o' F' N' D'; (try dsimp only at N'); (try k_sweep)))
local macro_rules | `(tactic| walk_at "call ref") => `(tactic| (k_here; (with_reducible show wpAny _ _ (call (Value.ref 127) _) _ _ _); k_dflt (refine' dropS_line (Cl.re (by assumption) (by k_asm)) ?N ?a ?b ?c ?o ?l ?s ?a2 ?b2 ?c2 ?o2 ?l2 ?s2 ?ne ?U ?d ?_; (case N => k_asm); (case a => k_mem); (case b => k_mem); (case c => k_mem); (case o => assumption); (case l => assumption); (case s => assumption); (case a2 => k_mem); (case b2 => k_mem); (case c2 => k_mem); (case o2 => assumption); (case l2 => assumption); (case s2 => assumption); (case ne => k_ne); (case U => k_updF); (case d => (simp only [depth_deeper, depth_in1]; omega)); k_whole); intro h' tk' o' F' N' D'; (try dsimp only at N'); (try k_sweep)))

set_option maxHeartbeats 8000000 in
theorem or_code {y dy : Addr} {ns : List Int} (c : Cl w p loose mean mg mb A env outer A₀ base h₀ L s.heap m) (O : OSN prog w h₀ L s.heap x d ks) (Oy : OSN prog w h₀ L s.heap y dy ns) (hdep : A.depth + 12 < recursionLimit)
    (k : ∀ x' d' h' tk', Kp [] s.heap h' → NewOS prog w s.heap h' x' d' (addA ks ns) → R (.ok (.ret (.ref x'))) { s with heap := h', toks := tk' }) :
    codeAny (model prog w) A (.call (.ref 169) ⟨[.ref x, .ref y], []⟩) R s := by
  obtain ⟨dx, hs, tk, n, o, N0, ho, lo, h7s⟩ := O
  obtain ⟨dxy, hsy, tky, ny, oy, Ny, hoy, loy, h7t⟩ := Oy
  have a1 := neN (apart_x N0 (.head _) (.tail _ (.tail _ (.head _))) ho)
  have a2 := neN (apart_d N0 (.tail _ (.head _)) (.tail _ (.tail _ (.head _))) ho)
  have N : News h₀ L s.heap [(x, instObj 217 dx), (dx, dictOf [⟨hs, .str (Str.ofString "_data") tk, .ref d⟩] n), (d, o), (y, instObj 217 dxy), (dxy, dictOf [⟨hsy, .str (Str.ofString "_data") tky, .ref dy⟩] ny), (dy, oy)] := fun p hp => by
    rcases List.mem_append.mp (show p ∈ [(x, instObj 217 dx), (dx, dictOf [⟨hs, .str (Str.ofString "_data") tk, .ref d⟩] n), (d, o)] ++ [(y, instObj 217 dxy), (dxy, dictOf [⟨hsy, .str (Str.ofString "_data") tky, .ref dy⟩] ny), (dy, oy)] from hp) with hp | hp
    · exact N0 p hp
    · exact Ny p hp
  k_dflt (refine' enter9 (binds := [(Str.ofString "self", .ref x), (Str.ofString "other", .ref y)]) c N ?k6 ?k7 ?k8 ?k9 ?kB ?_ ?c5 ?c2 ?c3 ?c4; (case k6 => k_is); (case k7 => k_is); (case k8 => omega); (case k9 => first | exact BindsTo.of_eq rfl | exact binds_K (by k_in) rfl (by k_is) rfl rfl rfl); (case c5 => decide); (case kB => exact locs rfl); (case c2 => exact rfl); (case c3 => exact rfl); (case c4 => exact rfl); k_whole; intro g' L' h' F' N' B' X' T' keep' above'; (try dsimp only); (try k_fold))
  refine with_cd c B' F' rfl rfl fun cd => ?_
  k_steps
  (with_reducible rename News _ _ _ _ => N9); (with_reducible rename Fr _ _ _ _ => F9); (with_reducible rename Obj.IsDictOf _ _ _ => D9)
  have hk := kp_of (ch := []) keep' F9 N N9 (by simp)
  exact k _ _ _ _ hk ⟨_, _, _, _, _, (N9 _ (.head _)).1, (N9 _ (.tail _ (.head _))).1, (N9 _ (.tail _ (.tail _ (.head _)))).1, by omega, by omega, by omega, D9, by assumption, sm_addA h7s h7t⟩

set_option maxHeartbeats 8000000 in
theorem sub_code {y dy : Addr} {ns : List Int} (c : Cl w p loose mean mg mb A env outer A₀ base h₀ L s.heap m) (O : OSN prog w h₀ L s.heap x d ks) (Oy : OSN prog w h₀ L s.heap y dy ns) (hdep : A.depth + 12 < recursionLimit)
    (k : ∀ x' d' h' tk', Kp [] s.heap h' → NewOS prog w s.heap h' x' d' (outA ks ns) → R (.ok (.ret (.ref x'))) { s with heap := h', toks := tk' }) :
    codeAny (model prog w) A (.call (.ref 190) ⟨[.ref x, .ref y], []⟩) R s := by
  obtain ⟨dx, hs, tk, n, o, N0, ho, lo, h7s⟩ := O
  obtain ⟨dxy, hsy, tky, ny, oy, Ny, hoy, loy, h7t⟩ := Oy
  have a1 := neN (apart_x N0 (.head _) (.tail _ (.tail _ (.head _))) ho)
  have a2 := neN (apart_d N0 (.tail _ (.head _)) (.tail _ (.tail _ (.head _))) ho)
  have N : News h₀ L s.heap [(x, instObj 217 dx), (dx, dictOf [⟨hs, .str (Str.ofString "_data") tk, .ref d⟩] n), (d, o), (y, instObj 217 dxy), (dxy, dictOf [⟨hsy, .str (Str.ofString "_data") tky, .ref dy⟩] ny), (dy, oy)] := fun p hp => by
    rcases List.mem_append.mp (show p ∈ [(x, instObj 217 dx), (dx, dictOf [⟨hs, .str (Str.ofString "_data") tk, .ref d⟩] n), (d, o)] ++ [(y, instObj 217 dxy), (dxy, dictOf [⟨hsy, .str (Str.ofString "_data") tky, .ref dy⟩] ny), (dy, oy)] from hp) with hp | hp
    · exact N0 p hp
    · exact Ny p hp
  k_dflt (refine' enter9 (binds := [(Str.ofString "self", .ref x), (Str.ofString "other", .ref y)]) c N ?k6 ?k7 ?k8 ?k9 ?kB ?_ ?c5 ?c2 ?c3 ?c4; (case k6 => k_is); (case k7 => k_is); (case k8 => omega); (case k9 => first | exact BindsTo.of_eq rfl | exact binds_K (by k_in) rfl (by k_is) rfl rfl rfl); (case c5 => decide); (case kB => exact locs rfl); (case c2 => exact rfl); (case c3 => exact rfl); (case c4 => exact rfl); k_whole; intro g' L' h' F' N' B' X' T' keep' above'; (try dsimp only); (try k_fold))
  refine with_cd c B' F' rfl rfl fun cd => ?_
  k_steps
  (with_reducible rename News _ _ _ _ => N9); (with_reducible rename Fr _ _ _ _ => F9); (with_reducible rename Obj.IsDictOf _ _ _ => D9)
  have hk := kp_of (ch := []) keep' F9 N N9 (by simp)
  exact k _ _ _ _ hk ⟨_, _, _, _, _, (N9 _ (.head _)).1, (N9 _ (.tail _ (.head _))).1, (N9 _ (.tail _ (.tail _ (.head _)))).1, by omega, by omega, by omega, D9, by assumption, sm_outA h7s⟩

set_option maxHeartbeats 8000000 in
theorem difference_code {y dy : Addr} {ns : List Int} (c : Cl w p loose mean mg mb A env outer A₀ base h₀ L s.heap m) (O : OSN prog w h₀ L s.heap x d ks) (Oy : OSN prog w h₀ L s.heap y dy ns) (hdep : A.depth + 12 < recursionLimit)
    (k : ∀ x' d' h' tk', Kp [] s.heap h' → NewOS prog w s.heap h' x' d' (outA ks ns) → R (.ok (.ret (.ref x'))) { s with heap := h', toks := tk' }) :
    codeAny (model prog w) A (.call (.ref 141) ⟨[.ref x, .ref y], []⟩) R s := by
  obtain ⟨dx, hs, tk, n, o, N0, ho, lo, h7s⟩ := O
  obtain ⟨dxy, hsy, tky, ny, oy, Ny, hoy, loy, h7t⟩ := Oy
  have a1 := neN (apart_x N0 (.head _) (.tail _ (.tail _ (.head _))) ho)
  have a2 := neN (apart_d N0 (.tail _ (.head _)) (.tail _ (.tail _ (.head _))) ho)
  have N : News h₀ L s.heap [(x, instObj 217 dx), (dx, dictOf [⟨hs, .str (Str.ofString "_data") tk, .ref d⟩] n), (d, o), (y, instObj 217 dxy), (dxy, dictOf [⟨hsy, .str (Str.ofString "_data") tky, .ref dy⟩] ny), (dy, oy)] := fun p hp => by
    rcases List.mem_append.mp (show p ∈ [(x, instObj 217 dx), (dx, dictOf [⟨hs, .str (Str.ofString "_data") tk, .ref d⟩] n), (d, o)] ++ [(y, instObj 217 dxy), (dxy, dictOf [⟨hsy, .str (Str.ofString "_data") tky, .ref dy⟩] ny), (dy, oy)] from hp) with hp | hp
    · exact N0 p hp
    · exact Ny p hp
  k_dflt (refine' enter9 (binds := [(Str.ofString "self", .ref x), (Str.ofString "other", .ref y)]) c N ?k6 ?k7 ?k8 ?k9 ?kB ?_ ?c5 ?c2 ?c3 ?c4; (case k6 => k_is); (case k7 => k_is); (case k8 => omega); (case k9 => first | exact BindsTo.of_eq rfl | exact binds_K (by k_in) rfl (by k_is) rfl rfl rfl); (case c5 => decide); (case kB => exact locs rfl); (case c2 => exact rfl); (case c3 => exact rfl); (case c4 => exact rfl); k_whole; intro g' L' h' F' N' B' X' T' keep' above'; (try dsimp only); (try k_fold))
  refine with_cd c B' F' rfl rfl fun cd => ?_
  k_steps
  (with_reducible rename News _ _ _ _ => N9); (with_reducible rename Fr _ _ _ _ => F9); (with_reducible rename Obj.IsDictOf _ _ _ => D9)
  have hk := kp_of (ch := []) keep' F9 N N9 (by simp)
  exact k _ _ _ _ hk ⟨_, _, _, _, _, (N9 _ (.head _)).1, (N9 _ (.tail _ (.head _))).1, (N9 _ (.tail _ (.tail _ (.head _)))).1, by omega, by omega, by omega, D9, by assumption, sm_outA h7s⟩

set_option maxHeartbeats 8000000 in
theorem ior_code {y dy : Addr} {ns : List Int} (c : Cl w p loose mean mg mb A env outer A₀ base h₀ L s.heap m) (O : OSN prog w h₀ L s.heap x d ks) (Oy : OSN prog w h₀ L s.heap y dy ns) (hne : dy ≠ d) (hdep : A.depth + 12 < recursionLimit)
    (k : ∀ h' tk', Kp [d] s.heap h' → OSN prog w h₀ L h' x d (addA ks ns) → R (.ok (.ret (.ref x))) { s with heap := h', toks := tk' }) :
    codeAny (model prog w) A (.call (.ref 162) ⟨[.ref x, .ref y], []⟩) R s := by
  have O₀ := O
  obtain ⟨dx, hs, tk, n, o, N0, ho, lo, h7s⟩ := O
  obtain ⟨dxy, hsy, tky, ny, oy, Ny, hoy, loy, h7t⟩ := Oy
  have a1 := neN (apart_x N0 (.head _) (.tail _ (.tail _ (.head _))) ho)
  have a2 := neN (apart_d N0 (.tail _ (.head _)) (.tail _ (.tail _ (.head _))) ho)
  have N : News h₀ L s.heap [(x, instObj 217 dx), (dx, dictOf [⟨hs, .str (Str.ofString "_data") tk, .ref d⟩] n), (d, o), (y, instObj 217 dxy), (dxy, dictOf [⟨hsy, .str (Str.ofString "_data") tky, .ref dy⟩] ny), (dy, oy)] := fun p hp => by
    rcases List.mem_append.mp (show p ∈ [(x, instObj 217 dx), (dx, dictOf [⟨hs, .str (Str.ofString "_data") tk, .ref d⟩] n), (d, o)] ++ [(y, instObj 217 dxy), (dxy, dictOf [⟨hsy, .str (Str.ofString "_data") tky, .ref dy⟩] ny), (dy, oy)] from hp) with hp | hp
    · exact N0 p hp
    · exact Ny p hp
  have a3 := neN hne
  have a4 := neN (apart_x (o := o) (C := 217) (dx := dxy) (L := L) (h₀ := h₀) (news := [(y, instObj 217 dxy), (d, o)]) (fun p hp => by rcases List.mem_cons.mp hp with rfl | hp; exact Ny _ (.head _); exact N0 p (.tail _ (.tail _ hp))) (.head _) (.tail _ (.head _)) ho)
  have a5 := neN (apart_d (o := o) (L := L) (h₀ := h₀) (news := [(dxy, dictOf [⟨hsy, .str (Str.ofString "_data") tky, .ref dy⟩] ny), (d, o)]) (fun p hp => by rcases List.mem_cons.mp hp with rfl | hp; exact Ny _ (.tail _ (.head _)); exact N0 p (.tail _ (.tail _ hp))) (.head _) (.tail _ (.head _)) ho)
  k_dflt (refine' enter9 (binds := [(Str.ofString "self", .ref x), (Str.ofString "other", .ref y)]) c N ?k6 ?k7 ?k8 ?k9 ?kB ?_ ?c5 ?c2 ?c3 ?c4; (case k6 => k_is); (case k7 => k_is); (case k8 => omega); (case k9 => first | exact BindsTo.of_eq rfl | exact binds_K (by k_in) rfl (by k_is) rfl rfl rfl); (case c5 => decide); (case kB => exact locs rfl); (case c2 => exact rfl); (case c3 => exact rfl); (case c4 => exact rfl); k_whole; intro g' L' h' F' N' B' X' T' keep' above'; (try dsimp only); (try k_fold))
  refine with_cd c B' F' rfl rfl fun cd => ?_
  k_steps
  (with_reducible rename News _ _ _ _ => N9); (with_reducible rename Fr _ _ _ _ => F9); (with_reducible rename Obj.IsDictOf _ _ _ => D9)
  have hk := kp_of (ch := [d]) keep' F9 N N9 (by simp)
  exact k _ _ hk (O₀.put hk (N9 _ (.tail _ (.tail _ (.head _)))).1 D9 (sm_addA h7s h7t))

set_option maxHeartbeats 8000000 in
theorem isub_code {y dy : Addr} {ns : List Int} (c : Cl w p loose mean mg mb A env outer A₀ base h₀ L s.heap m) (O : OSN prog w h₀ L s.heap x d ks) (Oy : OSN prog w h₀ L s.heap y dy ns) (hne : dy ≠ d) (hdep : A.depth + 12 < recursionLimit)
    (k : ∀ h' tk', Kp [d] s.heap h' → OSN prog w h₀ L h' x d (outA ks ns) → R (.ok (.ret (.ref x))) { s with heap := h', toks := tk' }) :
    codeAny (model prog w) A (.call (.ref 183) ⟨[.ref x, .ref y], []⟩) R s := by
  have O₀ := O
  obtain ⟨dx, hs, tk, n, o, N0, ho, lo, h7s⟩ := O
  obtain ⟨dxy, hsy, tky, ny, oy, Ny, hoy, loy, h7t⟩ := Oy
  have a1 := neN (apart_x N0 (.head _) (.tail _ (.tail _ (.head _))) ho)
  have a2 := neN (apart_d N0 (.tail _ (.head _)) (.tail _ (.tail _ (.head _))) ho)
  have N : News h₀ L s.heap [(x, instObj 217 dx), (dx, dictOf [⟨hs, .str (Str.ofString "_data") tk, .ref d⟩] n), (d, o), (y, instObj 217 dxy), (dxy, dictOf [⟨hsy, .str (Str.ofString "_data") tky, .ref dy⟩] ny), (dy, oy)] := fun p hp => by
    rcases List.mem_append.mp (show p ∈ [(x, instObj 217 dx), (dx, dictOf [⟨hs, .str (Str.ofString "_data") tk, .ref d⟩] n), (d, o)] ++ [(y, instObj 217 dxy), (dxy, dictOf [⟨hsy, .str (Str.ofString "_data") tky, .ref dy⟩] ny), (dy, oy)] from hp) with hp | hp
    · exact N0 p hp
    · exact Ny p hp
  have a3 := neN hne
  have a4 := neN (apart_x (o := o) (C := 217) (dx := dxy) (L := L) (h₀ := h₀) (news := [(y, instObj 217 dxy), (d, o)]) (fun p hp => by rcases List.mem_cons.mp hp with rfl | hp; exact Ny _ (.head _); exact N0 p (.tail _ (.tail _ hp))) (.head _) (.tail _ (.head _)) ho)
  have a5 := neN (apart_d (o := o) (L := L) (h₀ := h₀) (news := [(dxy, dictOf [⟨hsy, .str (Str.ofString "_data") tky, .ref dy⟩] ny), (d, o)]) (fun p hp => by rcases List.mem_cons.mp hp with rfl | hp; exact Ny _ (.tail _ (.head _)); exact N0 p (.tail _ (.tail _ hp))) (.head _) (.tail _ (.head _)) ho)
  k_dflt (refine' enter9 (binds := [(Str.ofString "self", .ref x), (Str.ofString "other", .ref y)]) c N ?k6 ?k7 ?k8 ?k9 ?kB ?_ ?c5 ?c2 ?c3 ?c4; (case k6 => k_is); (case k7 => k_is); (case k8 => omega); (case k9 => first | exact BindsTo.of_eq rfl | exact binds_K (by k_in) rfl (by k_is) rfl rfl rfl); (case c5 => decide); (case kB => exact locs rfl); (case c2 => exact rfl); (case c3 => exact rfl); (case c4 => exact rfl); k_whole; intro g' L' h' F' N' B' X' T' keep' above'; (try dsimp only); (try k_fold))
  refine with_cd c B' F' rfl rfl fun cd => ?_
  k_steps
  (with_reducible rename News _ _ _ _ => N9); (with_reducible rename Fr _ _ _ _ => F9); (with_reducible rename Obj.IsDictOf _ _ _ => D9)
  have hk := kp_of (ch := [d]) keep' F9 N N9 (by simp)
  exact k _ _ hk (O₀.put hk (N9 _ (.tail _ (.tail _ (.head _)))).1 D9 (sm_outA h7s))

end
end Mine
end
theorem Mine.calm9a15 : True ∧ True := by
  w_top off
  (try walk1) <;> (first | exact True.intro | exact ⟨True.intro, True.intro⟩)

/-! part P15 -/
section
open PySem PySem.W PySem.Calls PySem.Spec PyProof.Rows
namespace Mine
theorem fill9j : PySem.Challenge.rw_fs0001_01 = PySem.Challenge.rw_fs0001_01 ∧ ∀ (w : World) h, (hd.heap_39 w.params).In h → True := by
  k_fill
  exact ⟨rfl, fun _ _ _ => trivial⟩

/-- the same things -/
def sameS (ks ns : List Int) : Bool := ks.all (fun k => decide (k ∈ ns)) && ns.all (fun k => decide (k ∈ ks))
theorem sameS_iff {ks ns : List Int} : sameS ks ns = true ↔ ∀ k, k ∈ ks ↔ k ∈ ns := by
  unfold sameS
  simp only [Bool.and_eq_true, List.all_eq_true, decide_eq_true_eq]
  exact ⟨fun h k => ⟨h.1 k, h.2 k⟩, fun h => ⟨fun k hk => (h k).mp hk, fun k hk => (h k).mpr hk⟩⟩
theorem sub_len : ∀ {ks ns : List Int}, ks.Nodup → (∀ k ∈ ks, k ∈ ns) → ks.length ≤ ns.length
  | [], _, _, _ => Nat.zero_le _
  | k :: r, ns, hn, h => by
    have h1 := (List.nodup_cons.mp hn)
    have h2 : ∀ x ∈ r, x ∈ ns.erase k := fun x hx => (List.mem_erase_of_ne (fun (e : x = k) => h1.1 (e ▸ hx))).mpr (h x (.tail _ hx))
    have h3 := sub_len h1.2 h2
    have h4 := List.length_erase_of_mem (h k (.head _))
    have h5 := List.length_pos_of_mem (h k (.head _))
    simp only [List.length_cons]; omega
theorem sub_back {ks ns : List Int} (hk : ks.Nodup) (hl : ks.length = ns.length) (h : ∀ k ∈ ks, k ∈ ns) (x : Int) (hx : x ∈ ns) : x ∈ ks := by
  by_cases q : x ∈ ks
  · exact q
  · have h2 : ∀ k ∈ ks, k ∈ ns.erase x := fun k hk' => (List.mem_erase_of_ne (fun (e : k = x) => q (e ▸ hk'))).mpr (h k hk')
    have h3 := sub_len hk h2
    have h4 := List.length_erase_of_mem hx
    have h5 := List.length_pos_of_mem hx
    omega
theorem same_eq {ks ns : List Int} (hk : ks.Nodup) (hn : ns.Nodup) : ((kv ks).length == (kv ns).length && ks.all (fun k => decide (k ∈ ns))) = sameS ks ns := by
  unfold kv
  simp only [List.length_map]
  rw [Bool.eq_iff_iff, sameS_iff]
  simp only [Bool.and_eq_true, beq_iff_eq, List.all_eq_true, decide_eq_true_eq]
  constructor
  · rintro ⟨hl, h⟩ k
    exact ⟨h k, sub_back hk hl h k⟩
  · intro h
    exact ⟨Nat.le_antisymm (sub_len hk fun k q => (h k).mp q) (sub_len hn fun k q => (h k).mpr q), fun k q => (h k).mp q⟩
theorem hits9 {A : Around} {s : Shared} (ns : List Int) : ∀ ks : List Int, KeqHits A s (kv ns) (kv ks) (ks.all fun k => decide (k ∈ ns))
  | [] => .nil
  | k :: r => by
    by_cases h : k ∈ ns
    · have := KeqHits.hit (A := A) (s := s) (k := k) (v := Value.none) (r := kv r) (valueAt_some ns k h) (e := true) (keq_flat PyProof.V.Flat.none PyProof.V.Flat.none) (hits9 ns r)
      simp only [List.all_cons, decide_eq_true h]
      exact this
    · have := KeqHits.miss (A := A) (s := s) (k := k) (v := Value.none) (r := kv r) (valueAt_none ns k h)
      simp only [List.all_cons, decide_eq_false h, Bool.false_and]
      exact this

theorem NewOS.mono {prog : Program} {w : World} {h₁ h₂ h' : Heap} {x d : Addr} {ks : List Int} (O : NewOS prog w h₂ h' x d ks) (hs : h₁.objs.size ≤ h₂.objs.size) : NewOS prog w h₁ h' x d ks := by
  obtain ⟨dx, hs', tk, n, o, h1, h2, h3, g1, g2, g3, r⟩ := O
  exact ⟨dx, hs', tk, n, o, h1, h2, h3, Nat.le_trans hs g1, Nat.le_trans hs g2, Nat.le_trans hs g3, r⟩

section
variable {prog : Program} {w : World} {p : Program} {loose : List Str} {mean : ExcName → Option Value} {mg mb : Str → Option Value} {A A₀ : Around} {env : Env} {outer : List Env} {base h₀ : Heap} {L : Addr} {m : Str → Option Value} {s : Shared} {news : List (Addr × Obj)} {Q E : Value → Shared → Prop} {R : Result → Shared → Prop}
  {x d : Addr} {ks : List Int}

local macro_rules | `(tactic| walk_at "call ref") => `(tactic| (k_here; (with_reducible show wpAny _ _ (call (Value.ref 169) _) _ _ _); refine stop9 ?_))

set_option maxHeartbeats 8000000 in
theorem union_code {y dy : Addr} {ns : List Int} (c : Cl w p loose mean mg mb A env outer A₀ base h₀ L s.heap m) (O : OSN prog w h₀ L s.heap x d ks) (Oy : OSN prog w h₀ L s.heap y dy ns) (hdep : A.depth + 16 < recursionLimit)
    (k : ∀ x' d' h' tk', Kp [] s.heap h' → NewOS prog w s.heap h' x' d' (addA ks ns) → R (.ok (.ret (.ref x'))) { s with heap := h', toks := tk' }) :
    codeAny (model prog w) A (.call (.ref 155) ⟨[.ref x, .ref y], []⟩) R s := by
  obtain ⟨dx, hs, tk, n, o, N0, ho, lo, h7s⟩ := O
  obtain ⟨dxy, hsy, tky, ny, oy, Ny, hoy, loy, h7t⟩ := Oy
  have a1 := neN (apart_x N0 (.head _) (.tail _ (.tail _ (.head _))) ho)
  have a2 := neN (apart_d N0 (.tail _ (.head _)) (.tail _ (.tail _ (.head _))) ho)
  have N : News h₀ L s.heap [(x, instObj 217 dx), (dx, dictOf [⟨hs, .str (Str.ofString "_data") tk, .ref d⟩] n), (d, o), (y, instObj 217 dxy), (dxy, dictOf [⟨hsy, .str (Str.ofString "_data") tky, .ref dy⟩] ny), (dy, oy)] := fun p hp => by
    rcases List.mem_append.mp (show p ∈ [(x, instObj 217 dx), (dx, dictOf [⟨hs, .str (Str.ofString "_data") tk, .ref d⟩] n), (d, o)] ++ [(y, instObj 217 dxy), (dxy, dictOf [⟨hsy, .str (Str.ofString "_data") tky, .ref dy⟩] ny), (dy, oy)] from hp) with hp | hp
    · exact N0 p hp
    · exact Ny p hp
  k_dflt (refine' enter9 (binds := [(Str.ofString "self", .ref x), (Str.ofString "other", .ref y)]) c N ?k6 ?k7 ?k8 ?k9 ?kB ?_ ?c5 ?c2 ?c3 ?c4; (case k6 => k_is); (case k7 => k_is); (case k8 => omega); (case k9 => first | exact BindsTo.of_eq rfl | exact binds_K (by k_in) rfl (by k_is) rfl rfl rfl); (case c5 => decide); (case kB => exact locs rfl); (case c2 => exact rfl); (case c3 => exact rfl); (case c4 => exact rfl); k_whole; intro g' L' h' F' N' B' X' T' keep' above'; (try dsimp only); (try k_fold))
  refine with_cd c B' F' rfl rfl fun cd => ?_
  k_steps
  unfold Stop9
  have O1 : OSN prog w g' L' h' x d ks := osn_of N' (.head _) (.tail _ (.head _)) (.tail _ (.tail _ (.head _))) ho lo h7s
  have O2 : OSN prog w g' L' h' y dy ns := osn_of N' (.tail _ (.tail _ (.tail _ (.head _)))) (.tail _ (.tail _ (.tail _ (.tail _ (.head _))))) (.tail _ (.tail _ (.tail _ (.tail _ (.tail _ (.head _)))))) hoy loy h7t
  refine wpAny_call (or_code cd O1 O2 (by show A.depth + 1 + 12 < _; omega) fun x' d' h2 tk2 hk2 O' => ?_)
  have hsz : s.heap.objs.size ≤ h'.objs.size := Nat.le_of_lt (Nat.lt_of_le_of_lt above' F'.ns.lt)
  have hk1 := kp_of (ch := []) keep' F' N N' (by simp)
  k_steps
  exact k _ _ _ _ (fun b o hb e => hk2 b o hb (hk1 b o hb e)) (O'.mono hsz)

theorem cmpK9 {oy : Obj} {dy : Addr} {ns : List Int} {o : Obj} (N : News h₀ L s.heap news) (h1 : (d, o) ∈ news) (ho : o.IsDictOf (intKind prog w) (kv ks)) (lo : (d == sysModules) = false) (h2 : (dy, oy) ∈ news) (hoy : oy.IsDictOf (intKind prog w) (kv ns)) (loy : (dy == sysModules) = false) (hu : A.units < cLine)
    (k : Q (.bool (sameS ks ns)) s) : wpAny (model prog w) A (compareOp .Eq (.ref d) (.ref dy)) Q E s := by
  refine keq_eq (knd := intKind prog w) lo loy (kda_dict N h1 ho) (kda_dict N h2 hoy) hu (fun _ => hits9 ns ks) ?_
  rw [same_eq (isd_nodup ho) (isd_nodup hoy)]
  exact k
local macro_rules | `(tactic| walk_at "compareOp Eq ref") => `(tactic| (k_here; (with_reducible show wpAny _ _ (compareOp CmpOp.Eq (Value.ref _) (Value.ref _)) _ _ _); k_dflt (refine' cmpK9 ?N ?a ?o ?l ?a2 ?o2 ?l2 ?u ?_; (case N => k_asm); (case a => k_mem); (case o => assumption); (case l => assumption); (case a2 => k_mem); (case o2 => assumption); (case l2 => assumption); (case u => assumption))))
set_option maxHeartbeats 8000000 in
theorem eq_code {y dy : Addr} {ns : List Int} (c : Cl w p loose mean mg mb A env outer A₀ base h₀ L s.heap m) (O : OSN prog w h₀ L s.heap x d ks) (Oy : OSN prog w h₀ L s.heap y dy ns) (hdep : A.depth + 16 < recursionLimit) (hu : A.units + 20 < cLine)
    (k : ∀ h' tk', Kp [] s.heap h' → R (.ok (.ret (.bool (sameS ks ns)))) { s with heap := h', toks := tk' }) :
    codeAny (model prog w) A (.call (.ref 176) ⟨[.ref x, .ref y], []⟩) R s := by
  obtain ⟨dx, hs, tk, n, o, N0, ho, lo, h7s⟩ := O
  obtain ⟨dxy, hsy, tky, ny, oy, Ny, hoy, loy, h7t⟩ := Oy
  have a1 := neN (apart_x N0 (.head _) (.tail _ (.tail _ (.head _))) ho)
  have a2 := neN (apart_d N0 (.tail _ (.head _)) (.tail _ (.tail _ (.head _))) ho)
  have N : News h₀ L s.heap [(x, instObj 217 dx), (dx, dictOf [⟨hs, .str (Str.ofString "_data") tk, .ref d⟩] n), (d, o), (y, instObj 217 dxy), (dxy, dictOf [⟨hsy, .str (Str.ofString "_data") tky, .ref dy⟩] ny), (dy, oy)] := fun p hp => by
    rcases List.mem_append.mp (show p ∈ [(x, instObj 217 dx), (dx, dictOf [⟨hs, .str (Str.ofString "_data") tk, .ref d⟩] n), (d, o)] ++ [(y, instObj 217 dxy), (dxy, dictOf [⟨hsy, .str (Str.ofString "_data") tky, .ref dy⟩] ny), (dy, oy)] from hp) with hp | hp
    · exact N0 p hp
    · exact Ny p hp
  k_dflt (refine' enter9 (binds := [(Str.ofString "self", .ref x), (Str.ofString "other", .ref y)]) c N ?k6 ?k7 ?k8 ?k9 ?kB ?_ ?c5 ?c2 ?c3 ?c4; (case k6 => k_is); (case k7 => k_is); (case k8 => omega); (case k9 => first | exact BindsTo.of_eq rfl | exact binds_K (by k_in) rfl (by k_is) rfl rfl rfl); (case c5 => decide); (case kB => exact locs rfl); (case c2 => exact rfl); (case c3 => exact rfl); (case c4 => exact rfl); k_whole; intro g' L' h' F' N' B' X' T' keep' above'; (try dsimp only); (try k_fold))
  have hu2 : ∀ e, (A.deeper e).units < cLine := fun e => by show A.units + 3 < _; omega
  have hu3 := hu2 (envOf (Str.ofString "OrderedSet.__eq__") { kind := ScopeKind.function, names := [(Str.ofString "self", NameKind.local), (Str.ofString "other", NameKind.local)], isGenerator := false, isCoroutine := false } L' 176 (Value.ref 175))
  k_steps
  (with_reducible rename News _ _ _ _ => N9); (with_reducible rename Fr _ _ _ _ => F9)
  exact k _ _ (kp_of (ch := []) keep' F9 N N9 (by simp))
end
end Mine
end
theorem Mine.calm9a16 : True ∧ True := by
  w_top off
  (try walk1) <;> (first | exact True.intro | exact ⟨True.intro, True.intro⟩)

/-! part P16 -/
section
open PySem PySem.W PySem.Calls PySem.Spec PyProof.Rows
namespace Mine
theorem fill9k : PySem.Challenge.rw_fs0001_01 = PySem.Challenge.rw_fs0001_01 ∧ ∀ (w : World) h, (hd.heap_39 w.params).In h → True := by
  k_fill
  exact ⟨rfl, fun _ _ _ => trivial⟩

section
variable {prog : Program} {w : World} {A : Around} {E : Value → Shared → Prop} {s : Shared}

/-- a source of n items: what it hands on when it is asked for its iterator -/
def Src9 (prog : Program) (w : World) (A : Around) (E : Value → Shared → Prop) (r S : Addr) (n : Nat) (P : Nat → Value → Prop) (s : Shared) : Prop :=
  ∀ Q : Value → Shared → Prop, (∀ I h tk d St, Walks prog w A I [I, d] [I] n P St → St 0 h → (∀ b o, s.heap.get? b = some o → h.get? b = some o) → s.heap.objs.size ≤ I → S ≠ d →
    (∀ Q2 : Bool → Shared → Prop, (∀ b h2 tk2, (∀ b o, h.get? b = some o → h2.get? b = some o) → Q2 b { s with heap := h2, toks := tk2 }) → wpAny (model prog w) A (Builtin.List.listLengthHint (.ref r)) Q2 E { s with heap := h, toks := tk }) →
    Q (.ref I) { s with heap := h, toks := tk }) → wpAny (model prog w) A (pyIter (.ref r)) Q E s

theorem ext9 {T : Value} {r S : Addr} {n c₀ : Nat} {P : Nat → Value → Prop} {R : Result → Shared → Prop} (res : Value) (hT : ∀ Q : Value → Shared → Prop, Q T s → wpAny (model prog w) A.in1 (typeOf (.ref r)) Q (fun e s' => R (.error e) s') s)
    (t1 : (T == .type "list") = false) (t2 : (T == .type "tuple") = false) (hSr : S ≠ r) (hS : s.heap.get? S = some { cls := .type "list", data := .seq #[] c₀ }) (hn : n ≤ sizeLine)
    (src : Src9 prog w A.in1 (fun e s' => R (.error e) s') r S n P s)
    (hR : ∀ h' tk acc' c', (∀ b o, b ≠ S → s.heap.get? b = some o → h'.get? b = some o) → h'.get? S = some { cls := .type "list", dict := none, data := .seq acc' c', slots := #[] } → ItemsOf P acc' n → R (.ok (.ret res)) { s with heap := h', toks := tk }) :
    wpAny (model prog w) A.in1 (Builtin.List.listExtendWith (.ref S) (.ref r) res)
      (fun fin s' => match fin with | .done f => R (.ok f) s' | .again c' => c'.quiet = true ∧ codeAny (model prog w) A c' R s') (fun e s' => R (.error e) s') s := by
  unfold Builtin.List.listExtendWith
  refine wpAny_bind (hT _ ?_)
  have h1 : Builtin.List.listSameRef (.ref S) (.ref r) = false := by simp [Builtin.List.listSameRef, hSr]
  simp only [h1, t1, t2, Bool.or_false, Bool.false_eq_true, if_false]
  refine wpAny_bind (src _ fun I h tk d St W hst hk hI hSd hint => ?_)
  refine wpAny_bind (wpAny_holding (hint _ fun b h2 tk2 hk2 => ?_))
  have hSI : S ≠ I := Nat.ne_of_lt (Nat.lt_of_lt_of_le (Heap.lt_size hS) hI)
  have hSf : S ∉ [I, d] := by simp only [List.mem_cons, List.not_mem_nil, or_false, not_or]; exact ⟨hSI, hSd⟩
  have hS₁ := hk2 _ _ (hk _ _ hS)
  have key : ∀ (h3 : Heap) (c₁ tk3 : Nat), St 0 h3 → (∀ b o, b ≠ S → s.heap.get? b = some o → h3.get? b = some o) →
      h3.get? S = some { cls := .type "list", data := .seq #[] c₁ } → codeAny (model prog w) A (.builtin "list.extend.loop" ⟨[.ref S, .ref I, res], []⟩) R { s with heap := h3, toks := tk3 } := by
    intro h3 c₁ tk3 hst3 hk3 hS3
    refine codeAny_extend_loopS W.toS hn S hSf res n 0 _ #[] c₁ rfl (Nat.zero_le _) hst3 hS3 (ItemsOf.nil _) fun s' acc' c' hm hS' hacc => ?_
    rw [Moved.eq_with hm]
    refine hR s'.heap s'.toks acc' c' (fun b o hb e => hm.heap b o (fun hmem => ?_) (hk3 b o hb e)) hS' hacc
    rcases List.mem_cons.mp hmem with e' | hmem
    · exact hb e'
    · exact absurd (Heap.lt_size e) (by rw [List.mem_singleton.mp hmem]; exact Nat.not_lt.mpr hI)
  have hst2 : St 0 h2 := W.frame 0 _ _ hst fun b _ o e => hk2 b o e
  refine wpAny_ite_split (fun _ => ?_) (fun _ => wpAny_pure ⟨plainId_quiet PySem.F.plain_extend_loop _, key _ c₀ _ hst2 (fun b o _ e => hk2 b o (hk b o e)) hS₁⟩)
  refine wpAny_bind (wpAny_rule ?_)
  refine wpAny_bind ?_
  show wpAny _ _ (updateSeq S (·.push .none) >>= fun _ => updateSeq S (·.pop)) _ _ _
  refine wpAny_bind (wpAny_updateSeq hS₁ rfl ?_)
  have hS₂ := Heap.get?_update_self (Obj.mapSeq (·.push Value.none)) hS₁ rfl
  refine wpAny_updateSeq (hz := by seq_fits) hS₂ rfl ?_
  have hS₃ := Heap.get?_update_self (Obj.mapSeq (·.pop)) hS₂ rfl
  refine wpAny_pure ⟨plainId_quiet PySem.F.plain_extend_loop _, key _ _ _ ?_ (fun b o hb e => ?_) hS₃⟩
  · refine W.frame 0 _ _ hst2 fun b hb o e => ?_
    have hbS : b ≠ S := fun h => hSf (h ▸ hb)
    exact (Heap.get?_update_other _ _ (Ne.symm hbS)).trans ((Heap.get?_update_other _ _ (Ne.symm hbS)).trans e)
  · exact (Heap.get?_update_other _ _ (Ne.symm hb)).trans ((Heap.get?_update_other _ _ (Ne.symm hb)).trans (hk2 b o (hk b o e)))

/-- `list(r)` of such a source -/
theorem listOf9 {T : Value} {r : Addr} {n : Nat} {P : Nat → Value → Prop} {Q : Value → Shared → Prop} (hr : r < s.heap.objs.size) (hn : n ≤ sizeLine)
    (hT : ∀ {M : Model} {A' : Around} {h tk} {Q : Value → Shared → Prop} {E : Value → Shared → Prop}, (∀ b o, b < s.heap.objs.size → s.heap.get? b = some o → h.get? b = some o) → Q T { s with heap := h, toks := tk } → wpAny M A' (typeOf (.ref r)) Q E { s with heap := h, toks := tk })
    (t1 : (T == .type "list") = false) (t2 : (T == .type "tuple") = false)
    (src : ∀ {E : Value → Shared → Prop} {h tk}, (∀ b o, s.heap.get? b = some o → h.get? b = some o) → (∃ o, h.get? s.heap.objs.size = some o ∧ o.cls = .type "list") → Src9 prog w A.in1.in1 E r s.heap.objs.size n P { s with heap := h, toks := tk })
    (k : ∀ h' tk (vs : List Value) c, (∀ b o, s.heap.get? b = some o → h'.get? b = some o) → h'.get? s.heap.objs.size = some (listOf vs.toArray c) → vs.length = n → (∀ j v, vs[j]? = some v → P j v) → Q (.ref s.heap.objs.size) { s with heap := h', toks := tk }) :
    wpAny (model prog w) A (call (.type "list") [.ref r]) Q E s := by
  refine callType_codes (Q₁ := fun obj s₁ => obj = .ref s.heap.objs.size ∧ s₁ = { s with heap := s.heap.push { cls := .type "list", data := .seq #[] } }) PySem.F.called_list (PySem.F.typeCall_list_1 _) PySem.F.entry_list_init
    (code_list_new _ ⟨rfl, rfl⟩) fun obj s₁ h₁ => ?_
  obtain ⟨rfl, rfl⟩ := h₁
  have hS : (s.heap.push { cls := .type "list", data := .seq #[] }).get? s.heap.objs.size = some { cls := .type "list", data := .seq #[] } := Heap.get?_push_size _ rfl
  refine ⟨⟨_, hS, rfl⟩, PySem.F.args_list_init_2 _ _, ?_⟩
  show wpAny _ _ (do let old ← Builtin.List.listItems (.ref s.heap.objs.size); Builtin.List.listUpdate (.ref s.heap.objs.size) (fun _ => #[]); letGo old.toList.reverse; Builtin.List.listExtendWith (.ref s.heap.objs.size) (.ref r) .none) _ _ _
  refine wpAny_bind ?_
  unfold Builtin.List.listItems
  refine wpAny_bind (wpAny_seqItems hS rfl (wpAny_pure ?_))
  show wpAny _ _ (updateSeq s.heap.objs.size (fun _ => #[]) >>= fun _ => letGo (#[] : Array Value).toList.reverse >>= fun _ => Builtin.List.listExtendWith (.ref s.heap.objs.size) (.ref r) .none) _ _ _
  refine wpAny_bind (wpAny_updateSeq hS rfl ?_)
  have hS₂ := Heap.get?_update_self (Obj.mapSeq (fun _ => (#[] : Array Value))) hS rfl
  have kept : ∀ b o, s.heap.get? b = some o → ((s.heap.push { cls := .type "list", data := .seq #[] }).update s.heap.objs.size (Obj.mapSeq (fun _ => (#[] : Array Value)))).get? b = some o :=
    fun b o e => (Heap.get?_update_other _ _ (Ne.symm (Nat.ne_of_lt (Heap.lt_size e)))).trans (Heap.get?_push_of_some _ e)
  refine wpAny_bind (wpAny_letGo ?_)
  refine ext9 (T := T) (A := A.in1) .none (fun Q hq => hT (fun b o _ e => kept b o e) hq) t1 t2 (Nat.ne_of_gt hr) hS₂ hn (src kept ⟨_, hS₂, rfl⟩) fun h' tk acc' c' hk hS' hacc => ?_
  refine ⟨rfl, k h' tk acc'.toList c' (fun b o e => hk b o (Nat.ne_of_lt (Heap.lt_size e)) (kept b o e)) (by rw [Array.toArray_toList]; exact hS') (by rw [Array.length_toList]; exact hacc.1) fun j v e => hacc.2 j v (by rw [← Array.getElem?_toList]; exact e)⟩
end

theorem intsOf9 {ks : List Int} : ∀ {vs : List Value}, vs.length = ks.length → (∀ (j : Nat) (v : Value), vs[j]? = some v → ∃ t k, ks[j]? = some k ∧ v = Value.int k t) → IntsAre vs ks := by
  induction ks with
  | nil => intro vs h _; rw [List.length_eq_zero_iff.mp h]; exact .nil
  | cons k r ih =>
    intro vs h hv
    cases vs with
    | nil => cases h
    | cons v vr =>
      obtain ⟨t, k', e1, e2⟩ := hv 0 v rfl
      cases e1
      subst e2
      exact .cons k t (ih (Nat.succ.inj h) fun j u hj => hv (j + 1) u hj)

section
variable {prog : Program} {w : World} {p : Program} {loose : List Str} {mean : ExcName → Option Value} {mg mb : Str → Option Value} {A A₀ : Around} {env : Env} {outer : List Env} {base h₀ : Heap} {L : Addr} {m : Str → Option Value} {s : Shared} {news : List (Addr × Obj)} {Q E : Value → Shared → Prop} {R : Result → Shared → Prop}
  {x d : Addr} {ks : List Int}

theorem OSN.inst (O : OSN prog w h₀ L s.heap x d ks) : ∃ ox od, InstAt s.heap x ox 217 (some od) := by
  obtain ⟨dx, hs, tk, n, o, N, _⟩ := O
  exact ⟨_, _, InstAt.of_news N (.head _) (.tail _ (.head _))⟩
theorem OSN.len (O : OSN prog w h₀ L s.heap x d ks) : ks.length ≤ 7 := by
  obtain ⟨dx, hs, tk, n, o, N, ho, _, h7⟩ := O
  exact small_len (isd_nodup ho) h7
theorem OSN.nodup (O : OSN prog w h₀ L s.heap x d ks) : ks.Nodup := by
  obtain ⟨dx, hs, tk, n, o, N, ho, _, h7⟩ := O
  exact isd_nodup ho
theorem OSN.small (O : OSN prog w h₀ L s.heap x d ks) : sm ks := by
  obtain ⟨dx, hs, tk, n, o, N, ho, _, h7⟩ := O
  exact h7
theorem OSN.lt (O : OSN prog w h₀ L s.heap x d ks) : x < s.heap.objs.size ∧ d < s.heap.objs.size := by
  obtain ⟨dx, hs, tk, n, o, N, ho, _, h7⟩ := O
  exact ⟨Heap.lt_size (N _ (.head _)).1, Heap.lt_size (N _ (.tail _ (.tail _ (.head _)))).1⟩

/-- `len` of an ordered set -/
theorem lenOS9 (c : Cl w p loose mean mg mb A env outer A₀ base h₀ L s.heap m) (O : OSN prog w h₀ L s.heap x d ks) (hdep : A.depth + 4 < recursionLimit)
    (k : ∀ h' tk' t, (∀ b o, s.heap.get? b = some o → h'.get? b = some o) → Q (.int ks.length t) { s with heap := h', toks := tk' }) : wpAny (model prog w) A (call (.builtin "len") [.ref x]) Q E s := by
  obtain ⟨ox, od, I⟩ := O.inst
  have hl := O.len
  refine len_K (f := 71) c.F (c.X.keeps c.B.stays) I (by k_is) (by k_is) (wpAny_call (len_code c.in1 O hdep fun h' tk' t hk => ?_))
  exact ⟨⟨by omega, by omega⟩, k h' _ _ fun b o e => hk b o (by simp) e⟩

theorem hintOS9 (c : Cl w p loose mean mg mb A env outer A₀ base h₀ L s.heap m) (O : OSN prog w h₀ L s.heap x d ks) (hdep : A.depth + 4 < recursionLimit) {Q : Bool → Shared → Prop}
    (k : ∀ b h' tk', (∀ b o, s.heap.get? b = some o → h'.get? b = some o) → Q b { s with heap := h', toks := tk' }) : wpAny (model prog w) A (Builtin.List.listLengthHint (.ref x)) Q E s := by
  obtain ⟨ox, od, I⟩ := O.inst
  have X := (c.X.keeps c.B.stays).keeps c.F.keep
  have hl := O.len
  unfold Builtin.List.listLengthHint specialOf
  refine wpAny_bind (wpAny_bind (I.type.here ((looks_findIn X (r := some (.ref 71)) (by k_is)).here ?_)))
  dsimp only
  refine KFB.if_not rfl ?_
  refine KFB.if_so rfl ?_
  refine wpAny_bind (wpAny_rule ?_)
  refine wpAny_bind (wpAny_attempt (lenOS9 c O hdep fun h' tk' t hk => ?_))
  dsimp only
  refine wpAny_bind (wpAny_of_eq (a := some (ks.length : Int)) rfl ?_)
  dsimp only
  refine KFB.if_not (by unfold Builtin.List.listTooLong; simp only [Int.toNat_natCast, decide_eq_false_iff_not]; rw [sizeLine_eq]; omega) ?_
  exact wpAny_pure (k _ _ _ hk)

theorem srcOS9 {S : Addr} {h₁ : Heap} {tk₁ : Nat} (c : Cl w p loose mean mg mb A env outer A₀ base h₀ L h₁ m) (O : OSN prog w h₀ L h₁ x d ks) (hdep : A.depth + 4 < recursionLimit) (hS : ∃ o, h₁.get? S = some o ∧ o.cls = .type "list") :
    Src9 prog w A E x S ks.length (fun i v => ∃ t k, ks[i]? = some k ∧ v = .int k t) { s with heap := h₁, toks := tk₁ } := by
  intro Q hQ
  have hSd : S ≠ d := by
    obtain ⟨dx, hs, tk, n, o, N, ho, _⟩ := O
    obtain ⟨oS, e, hc⟩ := hS
    rintro rfl
    have := (N _ (.tail _ (.tail _ (.head _)))).1
    simp only at this
    rw [e] at this; cases this
    obtain ⟨_, _, hx, _⟩ := ho
    exact absurd (hx.1.symm.trans hc) (by decide)
  have hlt := OSN.lt (s := { s with heap := h₁, toks := tk₁ }) O
  refine pyIterOS (s := { s with heap := h₁, toks := tk₁ }) c O hdep fun I ep h' tk' hk hi ha hsz => ?_
  have hk' : ∀ b o, h₁.get? b = some o → h'.get? b = some o := fun b o e => hk b o (by simp) e
  have hvl : (kv ks).length = ks.length := by unfold kv; exact List.length_map ..
  have W := Walks.dictKeys (prog := prog) (w := w) (knd := intKind prog w) c.hh I d (Nat.ne_of_lt (Nat.lt_of_lt_of_le hlt.2 hsz)) (kv ks) ep
  have W2 : Walks prog w A I [I, d] [I] ks.length (fun i v => ∃ t k, ks[i]? = some k ∧ v = .int k t) (fun i h => h.IsKeyIter I d i (kv ks).length ep ∧ h.DictAt (intKind prog w) d (kv ks) ep) := by
    rw [← hvl]
    exact ⟨W.sub, W.frame, fun i s Q E hi st hQ => W.item i s Q E hi st fun v h' tk hP => hQ v h' tk (keyP ks i v hP), W.done, W.self⟩
  refine hQ I h' tk' d _ W2 ⟨hi, ha⟩ hk' hsz hSd fun Q2 h2 => ?_
  exact hintOS9 (s := { s with heap := h', toks := tk' }) (Cl.re c ⟨c.F.ns.keeps hk', fun b o e => hk' b o (c.F.keep b o e), c.F.above⟩) (O.kp hk') hdep h2

/-- `list` of an ordered set -/
theorem listOS9 (c : Cl w p loose mean mg mb A env outer A₀ base h₀ L s.heap m) (O : OSN prog w h₀ L s.heap x d ks) (hdep : A.depth + 4 < recursionLimit)
    (k : ∀ D h' tk' vs n, (∀ b o, s.heap.get? b = some o → h'.get? b = some o) → h'.get? D = some (listOf vs.toArray n) → s.heap.objs.size ≤ D → IntsAre vs ks → Q (.ref D) { s with heap := h', toks := tk' }) :
    wpAny (model prog w) A (call (.type "list") [.ref x]) Q E s := by
  have hl := O.len
  obtain ⟨ox, od, I⟩ := O.inst
  refine listOf9 (T := .ref 217) O.lt.1 (by rw [sizeLine_eq]; omega) (fun {M A' h tk Q E} hk hq => ?_) (by decide) (by decide) (fun {E h tk} hk hS => srcOS9 (Cl.re c.in1.in1 ⟨c.F.ns.keeps hk, fun b o e => hk b o (c.F.keep b o e), c.F.above⟩) (O.kp hk) hdep hS) fun h' tk vs n hk hD hlen hP => ?_
  · obtain ⟨ox', od', I'⟩ := OSN.inst (s := { s with heap := h, toks := tk }) (O.kp fun b o e => hk b o (Heap.lt_size e) e)
    exact I'.type.here hq
  · exact k _ h' tk vs n hk hD (Nat.le_refl _) (intsOf9 hlen hP)
end
end Mine
end
theorem Mine.calm9a17 : True ∧ True := by
  w_top off
  (try walk1) <;> (first | exact True.intro | exact ⟨True.intro, True.intro⟩)

/-! part P17 -/
section
open PySem PySem.W PySem.Calls PySem.Spec PyProof.Rows
namespace Mine
theorem fill9l : PySem.Challenge.rw_fs0001_01 = PySem.Challenge.rw_fs0001_01 ∧ ∀ (w : World) h, (hd.heap_39 w.params).In h → True := by
  k_fill
  exact ⟨rfl, fun _ _ _ => trivial⟩

theorem entry_rk_hint : entryFor table "dict_reversekeyiterator.__length_hint__" = some Builtin.«dict_itemiterator.__length_hint__» :=
  entryFor_alias (id' := "dict_itemiterator.__length_hint__") (by rw [fastTable_eq_tree]; kernel_rfl) rfl canon9.2.2.1 (by rw [fastTable_eq_tree]; kernel_rfl)
theorem slot_rk_hint : Slot "dict_reversekeyiterator" "__length_hint__" "dict_reversekeyiterator.__length_hint__" :=
  .of (owner := "dict_reversekeyiterator") (n := "__length_hint__") (by rw [typeLookup_type, builtinLookup_eq_fast]; kernel_rfl) (by decide +kernel) (by decide +kernel) (by decide +kernel)
    (by first | exact .inl (by decide +kernel) | exact .inr (by decide +kernel)) (by rw [isSubtype_type]; kernel_rfl)
theorem args_rk_hint (a : Value) : argsOk "dict_reversekeyiterator.__length_hint__" ⟨[a], []⟩ := by unfold argsOk; kernel_rfl
theorem look_rk_len : typeLookup (.type "dict_reversekeyiterator") (Str.ofString "__len__") = pure none := by rw [typeLookup_type, builtinLookup_eq_fast]; kernel_rfl

section
variable {prog : Program} {w : World} {A : Around} {E : Value → Shared → Prop} {s : Shared} {it d : Addr}
theorem rk_hint {i : Nat} {ep : Nat} {kvs : List (Int × Value)} {Q : Bool → Shared → Prop} (hi : i ≤ 8) (hit : IsRK s.heap it d ((i : Int) - 1) kvs.length ep) (hm : s.heap.DictAt (intKind prog w) d kvs ep)
    (hQ : ∀ b tk, Q b { s with toks := tk }) : wpAny (model prog w) A (Builtin.List.listLengthHint (.ref it)) Q E s := by
  obtain ⟨o, ho, hc, hd⟩ := id hit
  obtain ⟨od, es, hod, hcd, hdd, hk, hp, hn⟩ := id hm
  have hsz : es.size = kvs.length := by rw [← hp.length]; simp
  unfold Builtin.List.listLengthHint
  refine wpAny_bind (wpAny_specialOf hit.typeIs look_rk_len ?_)
  dsimp only
  refine KFB.if_not rfl ?_
  refine KFB.if_not rfl ?_
  refine wpAny_bind (wpAny_specialOf (name := Str.ofString "__length_hint__") hit.typeIs slot_rk_hint.lookup ?_)
  dsimp only
  generalize hid : ("dict_reversekeyiterator.__length_hint__" : String) = id0
  rw [show splitId id0 = some ("dict_reversekeyiterator", "__length_hint__") from by subst hid; decide +kernel]
  subst hid
  dsimp only
  refine wpAny_bind (wpAny_isInstance (T := "dict_reversekeyiterator") (b := true) hit.typeIs (by rw [isSubtype_type]; kernel_rfl) ?_)
  refine wpAny_ite_split (fun hab => absurd hab (by decide)) (fun _ => ?_)
  refine wpAny_ite_split (fun hab => absurd hab (by decide +kernel)) (fun _ => ?_)
  refine wpAny_bind (wpAny_rule ?_)
  refine wpAny_bind (wpAny_of_eq (slot_rk_hint.bind _) ?_)
  dsimp only
  refine wpAny_bind (wpAny_attempt (wpAny_call_entry slot_rk_hint hit.typeIs entry_rk_hint ?_ (args_rk_hint _)))
  show wpAny _ _ ((Builtin.Dict_items.method0 "__length_hint__" ⟨[.ref it], []⟩) >>= _) _ _ _
  refine wpAny_bind (wpAny_of_eq (a := Value.ref it) rfl ?_)
  refine wpAny_bind (wpAny_fieldsOf ho hd ?_)
  refine wpAny_bind ?_
  refine wpAny_bind (whole_rk hit.typeIs (wpAny_pure ?_))
  have hown : Builtin.Dict_items.ownsTuple "dict_reversekeyiterator" = false := by decide
  simp only [hown, Bool.false_eq_true, if_false]
  show wpAny _ _ (if (Value.ref d == Value.none) = true then _ else _) _ _ s
  rw [if_neg (show ¬ ((Value.ref d == Value.none) = true) from Bool.false_ne_true)]
  refine wpAny_bind (wpAny_pure ?_)
  refine wpAny_bind (wpAny_dictEntries hod hdd ?_)
  rw [if_neg (by rw [hsz]; simp)]
  refine wpAny_bind (oneOf_rk hit.typeIs ?_)
  show wpAny _ _ (retInt ((i : Int) - 1 + 1)) _ _ _
  refine wpAny_bind (wpAny_mkInt (wpAny_pure ⟨_, rfl, ?_⟩))
  dsimp only
  refine wpAny_bind (wpAny_of_eq (a := some ((i : Int) - 1 + 1)) rfl ?_)
  dsimp only
  have ei : (i : Int) - 1 + 1 = i := by omega
  rw [ei]
  have e8 : ∀ j : Nat, j ≤ 8 → Builtin.List.listFitsIndex (j : Int) = true := by decide +kernel
  rw [e8 i hi]
  refine KFB.if_not rfl ?_
  rw [if_neg (by omega)]
  refine KFB.if_not (by unfold Builtin.List.listTooLong; simp only [Int.toNat_natCast, decide_eq_false_iff_not]; rw [sizeLine_eq]; omega) ?_
  exact wpAny_pure (hQ _ _)


/-- the list S is extended by what a reverse iterator hands out -/
theorem extRK9 {S : Addr} {c₀ ep : Nat} {ks : List Int} {R : Result → Shared → Prop} (res : Value) (hh : A.handled = none) (h7 : ks.length ≤ 7) (hSr : S ≠ it) (hSd : S ≠ d) (hdi : d ≠ it) (hS : s.heap.get? S = some { cls := .type "list", data := .seq #[] c₀ })
    (hit : IsRK s.heap it d ((ks.length : Int) - 1) (kv ks).length ep) (hm : s.heap.DictAt (intKind prog w) d (kv ks) ep)
    (hR : ∀ h' tk acc' c', (∀ b o, b ≠ S → b ≠ it → s.heap.get? b = some o → h'.get? b = some o) → h'.get? S = some { cls := .type "list", dict := none, data := .seq acc' c', slots := #[] } → ItemsOf (fun i v => ∃ t k, ks.reverse[i]? = some k ∧ v = .int k t) acc' ks.length → R (.ok (.ret res)) { s with heap := h', toks := tk }) :
    wpAny (model prog w) A.in1 (Builtin.List.listExtendWith (.ref S) (.ref it) res)
      (fun fin s' => match fin with | .done f => R (.ok f) s' | .again c' => c'.quiet = true ∧ codeAny (model prog w) A c' R s') (fun e s' => R (.error e) s') s := by
  unfold Builtin.List.listExtendWith
  refine wpAny_bind (wpAny_typeOf hit.typeIs ?_)
  have h1 : Builtin.List.listSameRef (.ref S) (.ref it) = false := by simp [Builtin.List.listSameRef, hSr]
  simp only [h1, show (Value.type "dict_reversekeyiterator" == Value.type "list") = false by decide, show (Value.type "dict_reversekeyiterator" == Value.type "tuple") = false by decide, Bool.or_false, Bool.false_eq_true, if_false]
  refine wpAny_bind (rk_iter hit ?_)
  refine wpAny_bind (wpAny_holding (rk_hint (i := ks.length) (by omega) hit hm fun b tk2 => ?_))
  obtain ⟨St, W, hst0⟩ : ∃ St, Walks prog w A.in1 it [it, d] [it] ks.length (fun i v => ∃ t k, ks.reverse[i]? = some k ∧ v = .int k t) St ∧ St 0 s.heap := ⟨_, walksRev (A := A.in1) hh it d hdi ks ep, ⟨by simpa using hit, hm⟩⟩
  have hSf : S ∉ [it, d] := by simp only [List.mem_cons, List.not_mem_nil, or_false, not_or]; exact ⟨hSr, hSd⟩
  have hn : ks.length ≤ sizeLine := by rw [sizeLine_eq]; omega
  have key : ∀ (h3 : Heap) (c₁ tk3 : Nat), St 0 h3 → (∀ b o, b ≠ S → s.heap.get? b = some o → h3.get? b = some o) →
      h3.get? S = some { cls := .type "list", data := .seq #[] c₁ } → codeAny (model prog w) A (.builtin "list.extend.loop" ⟨[.ref S, .ref it, res], []⟩) R { s with heap := h3, toks := tk3 } := by
    intro h3 c₁ tk3 hst3 hk3 hS3
    refine codeAny_extend_loopS W.toS hn S hSf res ks.length 0 _ #[] c₁ rfl (Nat.zero_le _) hst3 hS3 (ItemsOf.nil _) fun s' acc' c' hm' hS' hacc => ?_
    rw [Moved.eq_with hm']
    refine hR s'.heap s'.toks acc' c' (fun b o hb hb2 e => hm'.heap b o (fun hmem => ?_) (hk3 b o hb e)) hS' hacc
    rcases List.mem_cons.mp hmem with e' | hmem
    · exact hb e'
    · exact hb2 (List.mem_singleton.mp hmem)
  refine wpAny_ite_split (fun _ => ?_) (fun _ => wpAny_pure ⟨plainId_quiet PySem.F.plain_extend_loop _, key _ c₀ _ hst0 (fun b o _ e => e) hS⟩)
  refine wpAny_bind (wpAny_rule ?_)
  refine wpAny_bind ?_
  show wpAny _ _ (updateSeq S (·.push .none) >>= fun _ => updateSeq S (·.pop)) _ _ _
  refine wpAny_bind (wpAny_updateSeq hS rfl ?_)
  have hS₂ := Heap.get?_update_self (Obj.mapSeq (·.push Value.none)) hS rfl
  refine wpAny_updateSeq (hz := by seq_fits) hS₂ rfl ?_
  have hS₃ := Heap.get?_update_self (Obj.mapSeq (·.pop)) hS₂ rfl
  refine wpAny_pure ⟨plainId_quiet PySem.F.plain_extend_loop _, key _ _ _ ?_ (fun b o hb e => ?_) hS₃⟩
  · refine W.frame 0 _ _ hst0 fun b hb o e => ?_
    have hbS : b ≠ S := fun h => hSf (h ▸ hb)
    exact (Heap.get?_update_other _ _ (Ne.symm hbS)).trans ((Heap.get?_update_other _ _ (Ne.symm hbS)).trans e)
  · exact (Heap.get?_update_other _ _ (Ne.symm hb)).trans ((Heap.get?_update_other _ _ (Ne.symm hb)).trans e)

/-- `list(r)` of a reverse iterator -/
theorem listRK9 {ks : List Int} {ep : Nat} {Q : Value → Shared → Prop} (hh : A.handled = none) (h7 : ks.length ≤ 7) (hdi : d ≠ it) (hit : IsRK s.heap it d ((ks.length : Int) - 1) (kv ks).length ep) (hm : s.heap.DictAt (intKind prog w) d (kv ks) ep)
    (k : ∀ D h' tk vs c, (∀ b o, b ≠ it → s.heap.get? b = some o → h'.get? b = some o) → h'.get? D = some (listOf vs.toArray c) → s.heap.objs.size ≤ D → IntsAre vs ks.reverse → Q (.ref D) { s with heap := h', toks := tk }) :
    wpAny (model prog w) A (call (.type "list") [.ref it]) Q E s := by
  refine callType_codes (Q₁ := fun obj s₁ => obj = .ref s.heap.objs.size ∧ s₁ = { s with heap := s.heap.push { cls := .type "list", data := .seq #[] } }) PySem.F.called_list (PySem.F.typeCall_list_1 _) PySem.F.entry_list_init
    (code_list_new _ ⟨rfl, rfl⟩) fun obj s₁ h₁ => ?_
  obtain ⟨rfl, rfl⟩ := h₁
  have hS : (s.heap.push { cls := .type "list", data := .seq #[] }).get? s.heap.objs.size = some { cls := .type "list", data := .seq #[] } := Heap.get?_push_size _ rfl
  refine ⟨⟨_, hS, rfl⟩, PySem.F.args_list_init_2 _ _, ?_⟩
  show wpAny _ _ (do let old ← Builtin.List.listItems (.ref s.heap.objs.size); Builtin.List.listUpdate (.ref s.heap.objs.size) (fun _ => #[]); letGo old.toList.reverse; Builtin.List.listExtendWith (.ref s.heap.objs.size) (.ref it) .none) _ _ _
  refine wpAny_bind ?_
  unfold Builtin.List.listItems
  refine wpAny_bind (wpAny_seqItems hS rfl (wpAny_pure ?_))
  show wpAny _ _ (updateSeq s.heap.objs.size (fun _ => #[]) >>= fun _ => letGo (#[] : Array Value).toList.reverse >>= fun _ => Builtin.List.listExtendWith (.ref s.heap.objs.size) (.ref it) .none) _ _ _
  refine wpAny_bind (wpAny_updateSeq hS rfl ?_)
  have hS₂ := Heap.get?_update_self (Obj.mapSeq (fun _ => (#[] : Array Value))) hS rfl
  have kept : ∀ b o, s.heap.get? b = some o → ((s.heap.push { cls := .type "list", data := .seq #[] }).update s.heap.objs.size (Obj.mapSeq (fun _ => (#[] : Array Value)))).get? b = some o :=
    fun b o e => (Heap.get?_update_other _ _ (Ne.symm (Nat.ne_of_lt (Heap.lt_size e)))).trans (Heap.get?_push_of_some _ e)
  refine wpAny_bind (wpAny_letGo ?_)
  have li : it < s.heap.objs.size := let ⟨_, e, _⟩ := hit; Heap.lt_size e
  refine extRK9 (A := A.in1) .none hh h7 (Nat.ne_of_gt li) (Nat.ne_of_gt hm.lt_size) hdi hS₂ (hit.at fun o e => kept _ _ e) (hm.at' fun o e => kept _ _ e) fun h' tk acc' c' hk hS' hacc => ?_
  have hlen : acc'.toList.length = ks.reverse.length := by rw [Array.length_toList, hacc.1, List.length_reverse]
  refine ⟨rfl, k _ h' tk acc'.toList c' (fun b o hb e => hk b o (Nat.ne_of_lt (Heap.lt_size e)) hb (kept b o e)) (by rw [Array.toArray_toList]; exact hS') (Nat.le_refl _) (intsOf9 hlen fun j v e => hacc.2 j v (by rw [← Array.getElem?_toList]; exact e))⟩
end

section
variable {prog : Program} {w : World} {p : Program} {loose : List Str} {mean : ExcName → Option Value} {mg mb : Str → Option Value} {A A₀ : Around} {env : Env} {outer : List Env} {base h₀ : Heap} {L : Addr} {m : Str → Option Value} {s : Shared} {news : List (Addr × Obj)} {Q E : Value → Shared → Prop} {R : Result → Shared → Prop}
  {x d : Addr} {ks : List Int}

/-- `reversed` of an ordered set -/
theorem revOS9 (c : Cl w p loose mean mg mb A env outer A₀ base h₀ L s.heap m) (O : OSN prog w h₀ L s.heap x d ks) (hdep : A.depth + 8 < recursionLimit)
    (k : ∀ I ep h' tk', (∀ b o, s.heap.get? b = some o → h'.get? b = some o) → IsRK h' I d ((ks.length : Int) - 1) (kv ks).length ep → h'.DictAt (intKind prog w) d (kv ks) ep → s.heap.objs.size ≤ I → Q (.ref I) { s with heap := h', toks := tk' }) :
    wpAny (model prog w) A (call (.type "reversed") [.ref x]) Q E s := by
  obtain ⟨ox, od, I⟩ := O.inst
  have X := (c.X.keeps c.B.stays).keeps c.F.keep
  have hf : isFn (hd.heap_39 w.params) (.ref 57) = true := by k_is
  have nw : codeAny (model prog w) (A.under (.builtin "type.__call__" ⟨[.type "reversed", .ref x], []⟩)) (.call (.builtin "reversed.__new__") ⟨[.type "reversed", .ref x], []⟩) (wants (fun obj s₁ => ∃ I ep h' tk', obj = .ref I ∧ s₁ = { s with heap := h', toks := tk' } ∧ (∀ b o, s.heap.get? b = some o → h'.get? b = some o) ∧ IsRK h' I d ((ks.length : Int) - 1) (kv ks).length ep ∧ h'.DictAt (intKind prog w) d (kv ks) ep ∧ s.heap.objs.size ≤ I) E) s := by
    refine codeAny_of_tree ?_
    show wpAny _ _ (do checkBuiltinCall "reversed.__new__" ⟨[.type "reversed", .ref x], []⟩; again (.builtin "reversed.__new__" ⟨[.type "reversed", .ref x], []⟩)) _ _ s
    refine wpAny_bind (wpAny_of_eq (PySem.F.newCall_reversed_1 _) (wpAny_pure ⟨plainId_quiet PySem.F.plain_reversed_new _, codeAny_builtin PySem.F.entry_reversed_new ?_⟩))
    rw [Around.under_plainId PySem.F.plain_reversed_new _]
    unfold Builtin.«reversed.__new__»
    refine wpAny_bind (wpAny_of_eq (newClass_reversed _) ?_)
    try dsimp only
    refine wpAny_bind (wpAny_of_eq (a := ()) (by first | rfl | kernel_rfl) ?_)
    refine wpAny_bind (wpAny_of_eq (a := ()) (by first | rfl | kernel_rfl) ?_)
    try dsimp only
    unfold specialOf
    refine wpAny_bind (wpAny_bind (I.type.here ((looks_findIn X (r := some (.ref 57)) (by k_is)).here ?_)))
    try dsimp only
    refine wpAny_bind ((bind_fn X _ (beq_iff_eq.mp hf)).here ?_)
    try dsimp only
    refine KFB.if_not rfl ?_
    refine wpAny_bind (wpAny_rule ?_)
    refine wpAny_bind (m := runValue (.call (.ref 57) ⟨[.ref x], []⟩)) (show wpAny _ _ (call (.ref 57) [.ref x]) _ _ _ from wpAny_call (reversed_code (Cl.like c c.F rfl rfl) O (by have e : (A.under (.builtin "type.__call__" ⟨[.type "reversed", .ref x], []⟩)).in1.depth = A.depth := rfl; omega) fun I ep h' tk' hk hi ha hI => ?_))
    refine wpAny_pure ⟨I, ep, h', tk', rfl, rfl, fun b o e => hk b o (by simp) e, hi, ha, hI⟩
  refine callType_other (U := "dict_reversekeyiterator") (Q₁ := _) (by decide +kernel) PySem.F.create_reversed ⟨_, _, PySem.F.mro_reversed⟩ PySem.F.made_reversed sub_rk_reversed (PySem.F.typeCall_reversed_1 _) nw ?_
  rintro obj s₁ ⟨I, ep, h', tk', rfl, rfl, hk, hi, ha, hI⟩
  exact ⟨hi.typeIs, k I ep h' tk' hk hi ha hI⟩
end
end Mine
end
theorem Mine.calm9a18 : True ∧ True := by
  w_top off
  (try walk1) <;> (first | exact True.intro | exact ⟨True.intro, True.intro⟩)

/-! part P18 -/
section
open PySem PySem.W PySem.Calls PySem.Spec PyProof.Rows
namespace Mine
theorem fill9m : PySem.Challenge.rw_fs0001_01 = PySem.Challenge.rw_fs0001_01 ∧ ∀ (w : World) h, (hd.heap_39 w.params).In h → True := by
  k_fill
  exact ⟨rfl, fun _ _ _ => trivial⟩

section
variable {prog : Program} {w : World} {p : Program} {loose : List Str} {mean : ExcName → Option Value} {mg mb : Str → Option Value} {A A₀ : Around} {env : Env} {outer : List Env} {base h₀ : Heap} {L : Addr} {m : Str → Option Value} {s : Shared} {news : List (Addr × Obj)} {Q E : Value → Shared → Prop} {R : Result → Shared → Prop}
  {x d : Addr} {ks : List Int}

/-- `iter` of an ordered set -/
theorem iterOS9 (c : Cl w p loose mean mg mb A env outer A₀ base h₀ L s.heap m) (O : OSN prog w h₀ L s.heap x d ks) (hdep : A.depth + 8 < recursionLimit)
    (k : ∀ I ep h' tk', Kp [] s.heap h' → h'.IsKeyIter I d 0 (kv ks).length ep → h'.DictAt (intKind prog w) d (kv ks) ep → s.heap.objs.size ≤ I → Q (.ref I) { s with heap := h', toks := tk' }) :
    wpAny (model prog w) A (call (.builtin "iter") [.ref x]) Q E s := by
  refine call_function_entry (by decide +kernel) (by decide +kernel) kdk_entry_iter (kdk_args_iter _) ?_
  unfold Builtin.«iter»
  refine wpAny_bind (m := someArgs "iter" 1 2 _) (wpAny_of_eq (a := [Value.ref x]) (by first | rfl | kernel_rfl!) ?_)
  dsimp only
  exact wpAny_bind (pyIterOS c.in1 O (by show A.depth + 4 < _; omega) fun I ep h' tk' hk hi ha hI => wpAny_pure ⟨_, rfl, k I ep h' tk' hk hi ha hI⟩)

theorem nextK9 {I : Addr} {ep : Nat} {k₀ : Int} {r : List Int} (hi : s.heap.IsKeyIter I d 0 (kv (k₀ :: r)).length ep) (ha : s.heap.DictAt (intKind prog w) d (kv (k₀ :: r)) ep)
    (k : ∀ t h', (∀ b o, b ≠ I → s.heap.get? b = some o → h'.get? b = some o) → Q (.int k₀ t) { s with heap := h' }) : wpAny (model prog w) A (call (.builtin "next") [.ref I]) Q E s := by
  refine call_function_entry (by decide +kernel) (by decide +kernel) kdk_entry_next (kdk_args_next _) ?_
  unfold Builtin.«next»
  refine wpAny_bind (m := someArgs "next" 1 2 _) (wpAny_of_eq (a := [Value.ref I]) (by first | rfl | kernel_rfl!) ?_)
  dsimp only
  refine wpAny_bind (wpAny_specialOf (name := Str.ofString "__next__") hi.typeIs PySem.F.slot_dict_keyiterator_next.lookup ?_)
  refine wpAny_ite_split (fun hab => absurd hab (by decide)) (fun _ => ?_)
  refine wpAny_bind (kdk_special hi ha (i := 0) (k := k₀) (x := .none) rfl fun key h' hkey hit' hs => ?_)
  obtain ⟨t, rfl⟩ := Value.isInt_shape hkey
  exact wpAny_pure ⟨_, rfl, k t h' fun b o hb e => hs.extBut b o hb e⟩

theorem nextR9 {I : Addr} {ep : Nat} {k₀ : Int} {r : List Int} (hi : IsRK s.heap I d (((r ++ [k₀]).length : Int) - 1) (kv (r ++ [k₀])).length ep) (ha : s.heap.DictAt (intKind prog w) d (kv (r ++ [k₀])) ep)
    (k : ∀ t h', (∀ b o, b ≠ I → s.heap.get? b = some o → h'.get? b = some o) → Q (.int k₀ t) { s with heap := h' }) : wpAny (model prog w) A (call (.builtin "next") [.ref I]) Q E s := by
  refine call_function_entry (by decide +kernel) (by decide +kernel) kdk_entry_next (kdk_args_next _) ?_
  unfold Builtin.«next»
  refine wpAny_bind (m := someArgs "next" 1 2 _) (wpAny_of_eq (a := [Value.ref I]) (by first | rfl | kernel_rfl!) ?_)
  dsimp only
  refine wpAny_bind (wpAny_specialOf (name := Str.ofString "__next__") hi.typeIs slot_rk_next.lookup ?_)
  refine wpAny_ite_split (fun hab => absurd hab (by decide)) (fun _ => ?_)
  have e : (((r ++ [k₀]).length : Int) - 1) = (r.length : Int) := by simp
  rw [e] at hi
  refine wpAny_bind (wpAny_callSpecial?_slot (name := Str.ofString "__next__") hi.typeIs slot_rk_next
    (wpAny_call_entry slot_rk_next hi.typeIs entry_rk_next (rk_run_item (k := k₀) (v := .none) hi ha (by unfold kv; simp) fun t h' a b => ⟨_, rfl, ?_⟩) (args_rk_next _)))
  exact wpAny_pure ⟨_, rfl, k t h' fun b' o hb e => b.extBut b' o hb e⟩

local macro_rules | `(tactic| walk_at "call builtin:iter") => `(tactic| (k_here; refine stop9 ?_))
local macro_rules | `(tactic| walk_at "call builtin:next") => `(tactic| (k_here; refine stop9 ?_))
local macro_rules | `(tactic| walk_at "call type:reversed") => `(tactic| (k_here; refine stop9 ?_))

set_option maxHeartbeats 4000000 in
theorem first_code {k₀ : Int} {r : List Int} (c : Cl w p loose mean mg mb A env outer A₀ base h₀ L s.heap m) (O : OSN prog w h₀ L s.heap x d (k₀ :: r)) (hdep : A.depth + 12 < recursionLimit)
    (k : ∀ h' tk' t, Kp [] s.heap h' → R (.ok (.ret (.int k₀ t))) { s with heap := h', toks := tk' }) :
    codeAny (model prog w) A (.call (.ref 78) ⟨[.ref x], []⟩) R s := by
  obtain ⟨dx, hs, tk, n, o, N, ho, lo, h7s⟩ := O
  k_dflt (refine' enter9 (binds := [(Str.ofString "self", .ref x)]) c N ?k6 ?k7 ?k8 ?k9 ?kB ?_ ?c5 ?c2 ?c3 ?c4; (case k6 => k_is); (case k7 => k_is); (case k8 => omega); (case k9 => first | exact BindsTo.of_eq rfl | exact binds_K (by k_in) rfl (by k_is) rfl rfl rfl); (case c5 => decide); (case kB => exact locs rfl); (case c2 => exact rfl); (case c3 => exact rfl); (case c4 => exact rfl); k_whole; intro g' L' h' F' N' B' X' T' keep' above'; (try dsimp only); (try k_fold))
  refine with_cd c B' F' rfl rfl fun cd => ?_
  k_steps
  unfold Stop9
  have O1 : OSN prog w g' L' h' x d (k₀ :: r) := osn_of N' (.head _) (.tail _ (.head _)) (.tail _ (.tail _ (.head _))) ho lo h7s
  have hk1 := kp_of (ch := []) keep' F' N N' (by simp)
  have hsz : s.heap.objs.size ≤ h'.objs.size := Nat.le_of_lt (Nat.lt_of_le_of_lt above' F'.ns.lt)
  refine iterOS9 cd O1 (by show A.depth + 1 + 8 < _; omega) fun I ep h2 tk2 hk2 hi ha hI => ?_
  have F2 : Fr g' L' h2 _ := ⟨F'.ns.keeps fun b o e => hk2 b o (by simp) e, fun b o e => hk2 b o (by simp) (F'.keep b o e), F'.above⟩
  k_steps
  unfold Stop9
  refine nextK9 hi ha fun t h3 hk3 => ?_
  k_steps
  refine k _ _ t fun b o hb e => hk3 b o ?_ (hk2 b o hb (hk1 b o hb e))
  exact Nat.ne_of_lt (Nat.lt_of_lt_of_le (Heap.lt_size e) (Nat.le_trans hsz hI))

set_option maxHeartbeats 4000000 in
theorem last_code {k₀ : Int} {r : List Int} (c : Cl w p loose mean mg mb A env outer A₀ base h₀ L s.heap m) (O : OSN prog w h₀ L s.heap x d (r ++ [k₀])) (hdep : A.depth + 12 < recursionLimit)
    (k : ∀ h' tk' t, Kp [] s.heap h' → R (.ok (.ret (.int k₀ t))) { s with heap := h', toks := tk' }) :
    codeAny (model prog w) A (.call (.ref 85) ⟨[.ref x], []⟩) R s := by
  obtain ⟨dx, hs, tk, n, o, N, ho, lo, h7s⟩ := O
  k_dflt (refine' enter9 (binds := [(Str.ofString "self", .ref x)]) c N ?k6 ?k7 ?k8 ?k9 ?kB ?_ ?c5 ?c2 ?c3 ?c4; (case k6 => k_is); (case k7 => k_is); (case k8 => omega); (case k9 => first | exact BindsTo.of_eq rfl | exact binds_K (by k_in) rfl (by k_is) rfl rfl rfl); (case c5 => decide); (case kB => exact locs rfl); (case c2 => exact rfl); (case c3 => exact rfl); (case c4 => exact rfl); k_whole; intro g' L' h' F' N' B' X' T' keep' above'; (try dsimp only); (try k_fold))
  refine with_cd c B' F' rfl rfl fun cd => ?_
  k_steps
  unfold Stop9
  have O1 : OSN prog w g' L' h' x d (r ++ [k₀]) := osn_of N' (.head _) (.tail _ (.head _)) (.tail _ (.tail _ (.head _))) ho lo h7s
  have hk1 := kp_of (ch := []) keep' F' N N' (by simp)
  have hsz : s.heap.objs.size ≤ h'.objs.size := Nat.le_of_lt (Nat.lt_of_le_of_lt above' F'.ns.lt)
  refine revOS9 cd O1 (by show A.depth + 1 + 8 < _; omega) fun I ep h2 tk2 hk2 hi ha hI => ?_
  have F2 : Fr g' L' h2 _ := ⟨F'.ns.keeps hk2, fun b o e => hk2 b o (F'.keep b o e), F'.above⟩
  k_steps
  unfold Stop9
  refine nextR9 hi ha fun t h3 hk3 => ?_
  k_steps
  refine k _ _ t fun b o hb e => hk3 b o ?_ (hk2 b o (hk1 b o hb e))
  exact Nat.ne_of_lt (Nat.lt_of_lt_of_le (Heap.lt_size e) (Nat.le_trans hsz hI))

/-- `i in x` -/
theorem inOS9 {i : Int} {t : Tok} (c : Cl w p loose mean mg mb A env outer A₀ base h₀ L s.heap m) (O : OSN prog w h₀ L s.heap x d ks) (hdep : A.depth + 4 < recursionLimit)
    (k : ∀ h' tk', Kp [] s.heap h' → Q (.bool (decide (i ∈ ks))) { s with heap := h', toks := tk' }) : wpAny (model prog w) A (compareOp .In (.int i t) (.ref x)) Q E s := by
  obtain ⟨ox, od, I⟩ := O.inst
  refine in_K (f := 64) c.F (c.X.keeps c.B.stays) I (by k_is) (by k_is) (wpAny_call (contains_code c O hdep fun h' tk' hk => ?_))
  exact wpAny_pure (k h' tk' hk)

/-- `sorted` of an ordered set -/
theorem collectOS9 {Q : List Value → Shared → Prop} (c : Cl w p loose mean mg mb A env outer A₀ base h₀ L s.heap m) (O : OSN prog w h₀ L s.heap x d ks) (hdep : A.depth + 4 < recursionLimit)
    (k : ∀ h' tk' vs, (∀ b o, s.heap.get? b = some o → h'.get? b = some o) → s.heap.objs.size < h'.objs.size → IntsAre vs ks → Q vs { s with heap := h', toks := tk' }) : wpAny (model prog w) A (collect (.ref x)) Q E s := by
  have hl := O.len
  have hlt := O.lt
  unfold collect
  refine wpAny_bind (wpAny_runValue (codeAny_builtin entry_proto_collect' ?_))
  show wpAny _ _ (do again (.builtin "list.__iadd__" ⟨[← newList [], .ref x], []⟩)) _ _ s
  refine wpAny_bind (wpAny_newList (wpAny_pure ⟨Code.quiet_builtin _ (by decide +kernel), codeAny_builtin entry_list_iadd' ?_⟩))
  show wpAny _ _ (Builtin.List.listExtendWith (.ref s.heap.objs.size) (.ref x) (.ref s.heap.objs.size)) _ _ { s with heap := s.heap.push (seqObj "list" #[] 0) }
  rw [Around.under_plainId (by decide +kernel)]
  have hS : (s.heap.push { cls := .type "list", data := .seq #[] }).get? s.heap.objs.size = some { cls := .type "list", data := .seq #[] } := Heap.get?_push_size _ rfl
  have kept : ∀ b o, s.heap.get? b = some o → (s.heap.push (seqObj "list" #[] 0)).get? b = some o := fun b o e => Heap.get?_push_of_some _ e
  have c2 : Cl w p loose mean mg mb A.in1 env outer A₀ base h₀ L (s.heap.push (seqObj "list" #[] 0)) m := Cl.re c.in1 ⟨c.F.ns.keeps kept, fun b o e => kept b o (c.F.keep b o e), c.F.above⟩
  refine ext9 (T := .ref 217) (R := fun r s' => match r with
    | .ok (.ret v) => wpAny (model prog w) A (match v with
      | .ref a => (do
        match (← load a).data with
        | .seq xs _ => pure xs.toList
        | _ => unsupported "internal:collect")
      | _ => unsupported "internal:collect") Q E s'
    | .ok _ => False
    | .error e => E e s') (.ref s.heap.objs.size) (fun Q hq => ?_) (by decide) (by decide) (Nat.ne_of_gt hlt.1) hS (n := ks.length) (by rw [sizeLine_eq]; omega) (srcOS9 (s := { s with heap := s.heap.push (seqObj "list" #[] 0) }) c2 (O.kp kept) hdep ⟨_, hS, rfl⟩) fun h' tk acc' c' hk hS' hacc => ?_
  · obtain ⟨ox', od', I'⟩ := OSN.inst (s := { s with heap := s.heap.push (seqObj "list" #[] 0) }) (O.kp kept)
    exact I'.type.here hq
  · refine wpAny_bind (wpAny_load hS' ?_)
    exact wpAny_pure (k h' tk acc'.toList (fun b o e => hk b o (Nat.ne_of_lt (Heap.lt_size e)) (kept b o e)) (Heap.lt_size hS') (intsOf9 (by rw [Array.length_toList]; exact hacc.1) fun j v e => hacc.2 j v (by rw [← Array.getElem?_toList]; exact e)))

theorem sortedOS9 (c : Cl w p loose mean mg mb A env outer A₀ base h₀ L s.heap m) (O : OSN prog w h₀ L s.heap x d ks) (hdep : A.depth + 4 < recursionLimit)
    (k : ∀ D h' tk' vs ns n, (∀ b o, s.heap.get? b = some o → h'.get? b = some o) → h'.get? D = some (listOf vs.toArray n) → s.heap.objs.size ≤ D → IntsAre vs ns → ns.Perm ks → ns.Pairwise (· ≤ ·) → Q (.ref D) { s with heap := h', toks := tk' }) :
    wpAny (model prog w) A (call (.builtin "sorted") [.ref x]) Q E s := by
  have hl := O.len
  refine Calls.call_function_entry kind_sorted plain_sorted entry_sorted (args_sorted1 _) ?_
  unfold Builtin.«sorted»
  refine wpAny_bind (m := checkCount "sorted" 1 1 _) (wpAny_pure ?_)
  refine wpAny_bind (collectOS9 c.in1 O hdep fun h1 tk1 vs hk1 hlt hi => ?_)
  refine wpAny_bind (wpAny_newList ?_)
  have hoL : (h1.push (seqObj "list" vs.toArray 0)).get? h1.objs.size = some (seqObj "list" vs.toArray 0) := Heap.get?_push_size _ rfl
  show wpAny _ _ _ _ _ { s with heap := h1.push (seqObj "list" vs.toArray 0), toks := tk1 }
  refine wpAny_bind (wpAny_holding (wpAny_call_entry slot_list_sort ⟨_, hoL, rfl⟩ entry_list_sort (list_sort_tree hoL hi (by rw [hi.length]; omega) fun out ns' a1 a2 a3 => ⟨_, rfl, ?_⟩) (args_list_sort _)))
  refine wpAny_pure ⟨_, rfl, ?_⟩
  obtain ⟨n2, e2⟩ := sortedHeap_at (out := out) hoL
  refine k _ _ _ out.toList ns' n2 (fun b o e => ?_) (by rw [Array.toArray_toList]; exact e2) (Nat.le_of_lt (Nat.lt_of_lt_of_le hlt (Nat.le_refl _))) a1 a2 a3
  have e1 := hk1 b o e
  have e2 := Heap.get?_push_of_some (seqObj "list" vs.toArray 0) e1
  exact (sortedHeap_old (Nat.ne_of_lt (Heap.lt_size e1)) (Heap.lt_size e2)).trans e2
end
end Mine
end
theorem Mine.calm9a19 : True ∧ True := by
  w_top off
  (try walk1) <;> (first | exact True.intro | exact ⟨True.intro, True.intro⟩)

/-! part P19 -/
section
open PySem PySem.W PySem.Calls PySem.Spec PyProof.Rows PyProof.Rows.LCg
namespace Mine
theorem fill9n : PySem.Challenge.rw_fs0001_01 = PySem.Challenge.rw_fs0001_01 ∧ ∀ (w : World) h, (hd.heap_39 w.params).In h → True := by
  k_fill
  exact ⟨rfl, fun _ _ _ => trivial⟩

/-- one turn's verdict: the tests, then the element -/
def Turn9 (prog : Program) (w : World) (A : Around) (ce : Env) (elt : Expr) (ifs : List Expr) (s : Shared) (G : Bool → Value → Heap → Prop) : Prop :=
  wpAny (model prog w) A (forIn ifs true fun c r => if r = true then do let ok ← isTrue c ce (eval c ce); pure (ForInStep.yield ok) else pure (ForInStep.yield r))
    (fun ok s₃ => if ok = true then wpAny (model prog w) A (eval elt ce) (fun v s₄ => ∃ h' tk', s₄ = { s with heap := h', toks := tk' } ∧ (∀ b o, s.heap.get? b = some o → h'.get? b = some o) ∧ G true v h') (fun _ _ => False) s₃
      else ∃ h' tk', s₃ = { s with heap := h', toks := tk' } ∧ (∀ b o, s.heap.get? b = some o → h'.get? b = some o) ∧ G false .none h') (fun _ _ => False) s

def CompAt9 (prog : Program) (w : World) (A : Around) (elt : Expr) (ifs : List Expr) (x : Str) (scope : Scope) (cl : List (Str × Addr)) (env : Env) (Q : Value → Shared → Prop) (it : Value) (s₂ : Shared) : Prop :=
  ∃ (I : Addr) (fp : List Addr) (n : Nat) (P : Nat → Value → Prop) (St : Nat → Heap → Prop) (Inv : Addr → Addr → Nat → List Value → Heap → Prop), it = .ref I ∧ Walks prog w A I fp [I] n P St ∧ n ≤ sizeLine ∧ St 0 s₂.heap ∧ (∀ b ∈ fp, b < s₂.heap.objs.size) ∧
    (∀ C D h, s₂.heap.objs.size ≤ C → s₂.heap.objs.size ≤ D → (∀ b o, s₂.heap.get? b = some o → h.get? b = some o) → Inv C D 0 [] h) ∧
    (∀ C D i ys h h', Inv C D i ys h → (∀ b o, b ≠ I → b ≠ C → b ≠ D → h.get? b = some o → h'.get? b = some o) → Inv C D i ys h') ∧
    (∀ C D i ys y h tk m₂, i < n → P i y → s₂.heap.objs.size ≤ C → s₂.heap.objs.size ≤ D → C < h.objs.size → D < h.objs.size → I < h.objs.size → h.Ns C m₂ → m₂ x = some y → (∀ b o, b ≠ I → s₂.heap.get? b = some o → h.get? b = some o) → Inv C D i ys h →
      Turn9 prog w A (compEnvC scope cl C env) elt ifs { s₂ with heap := h, toks := tk } fun b v h' => Inv C D (i + 1) (if b = true then ys ++ [v] else ys) h') ∧
    (∀ C D ys h tk, s₂.heap.objs.size ≤ D → (∀ b o, b ≠ I → s₂.heap.get? b = some o → h.get? b = some o) → Inv C D n ys h → h.get? D = some (lst ys) → Q (.ref D) { s₂ with heap := h, toks := tk })

section
variable {prog : Program} {w : World} {A : Around} {s : Shared} {env : Env} {Q E : Value → Shared → Prop} {elt iter : Expr} {ifs : List Expr} {x : Str} {px : Pos} {scope : Scope} {cl : List (Str × Addr)} {pos : Pos}

theorem comp9 (hclos : closureFor scope env = pure cl) (hcell : ∀ y ∈ scope.names, y.2 ≠ .cell) (hkind : scope.kind = .function)
    (hnames : ∀ y ∈ scope.names, y.2 = .local → scope.names.lookup y.1 = some .local) (hx : scope.names.lookup x = some .local)
    (h : wpAny (model prog w) A (eval iter env) (fun xv s₁ => wpAny (model prog w) A (pyIter xv) (CompAt9 prog w A elt ifs x scope cl env Q) E s₁) E s)
    (hs : ∀ x, foldedSetIterable iter env x = pure x := by intro _; rfl) :
    wpAny (model prog w) A (eval (.ListComp elt [⟨.Name x px, iter, ifs, 0⟩] scope pos) env) Q E s := by
  rw [eval_ListComp]
  refine wpAny_comprehension_free (use := none) rfl hs hclos hkind hnames (wpAny_mono h (fun xv s₁ h₁ => wpAny_mono h₁ (fun it s₂ h₂ => ?_) fun _ _ e => e) fun _ _ e => e)
  obtain ⟨I, fp, n, P, St, Inv, rfl, W, hsz, hst, hfp, inv0, stable, turn, done⟩ := h₂
  refine wpAny_newObj_type (wpAny_newFunctionEnv hcell (by intro y hy; simp at hy) (fun h₁ hns₁ hsb₁ => ?_) hkind)
  dsimp only at hns₁ hsb₁ ⊢
  generalize hH2 : s₂.heap.push { cls := .type "list", dict := none, data := .seq ([] : List Value).toArray } = H2 at hns₁ hsb₁ ⊢
  have hC : H2.objs.size = s₂.heap.objs.size + 1 := by rw [← hH2, Heap.size_push]
  have hDC : s₂.heap.objs.size ≠ H2.objs.size := by rw [hC]; exact Nat.ne_of_lt (Nat.lt_succ_self _)
  have below : ∀ b, b < s₂.heap.objs.size → b ≠ H2.objs.size ∧ b ≠ s₂.heap.objs.size := fun b hb => ⟨by rw [hC]; exact Nat.ne_of_lt (Nat.lt_succ_of_lt hb), Nat.ne_of_lt hb⟩
  have hDf : s₂.heap.objs.size ∉ fp := fun hm => Nat.lt_irrefl _ (hfp _ hm)
  have hCf : H2.objs.size ∉ fp := fun hm => by have := hfp _ hm; rw [hC] at this; exact Nat.lt_irrefl _ (Nat.lt_of_succ_lt this)
  have hIf : I ∈ fp := W.sub I (List.mem_singleton.mpr rfl)
  have hIlt : I < s₂.heap.objs.size := hfp I hIf
  have old : ∀ b o, s₂.heap.get? b = some o → h₁.get? b = some o := fun b o e => hsb₁.extBut b o (below b (Heap.lt_size e)).1 (Heap.get?_push_of_some _ (hH2 ▸ Heap.get?_push_of_some _ e))
  have hacc : h₁.get? s₂.heap.objs.size = some (lst []) := hsb₁.extBut _ _ hDC (Heap.get?_push_of_some _ (hH2 ▸ Heap.get?_push_size _ rfl))
  have hst₁ : St 0 h₁ := W.frame _ _ _ hst fun b _ o e => old b o e
  have hCI : I ≠ H2.objs.size := (below I hIlt).1
  have hDI : I ≠ s₂.heap.objs.size := (below I hIlt).2
  have leC : s₂.heap.objs.size ≤ H2.objs.size := by rw [hC]; exact Nat.le_succ _
  have hs1 : s₂.heap.objs.size ≤ h₁.objs.size := by
    have := hns₁.lt
    exact Nat.le_trans leC (Nat.le_of_lt this)
  have loop : ∀ s₃ : Shared, s₃ = { s₂ with heap := h₁, toks := s₂.toks + ([] : List (Str × Value)).length } →
      codeAny (model prog w) A (.compLoop (.ListComp elt [⟨.Name x px, iter, ifs, 0⟩] scope pos) 0 (.ref I) (.ref s₂.heap.objs.size) (compEnvC scope cl H2.objs.size env))
        (compPost (model prog w) A E none Q (.ref s₂.heap.objs.size) H2.objs.size) s₃ := by
    rintro s₃ rfl
    refine codeAny_compLoop_tests
      (fun k s' => ∃ h' tk i ys m', s' = { s₂ with heap := h', toks := tk } ∧ i ≤ n ∧ k = n + 1 - i ∧ ys.length ≤ i ∧ St i h' ∧ h'.Ns H2.objs.size m' ∧ h'.get? s₂.heap.objs.size = some (lst ys) ∧ I < h'.objs.size ∧
        (∀ b o, b ≠ I → s₂.heap.get? b = some o → h'.get? b = some o) ∧ Inv H2.objs.size s₂.heap.objs.size i ys h') ?_ (n + 1)
      ⟨h₁, _, 0, [], _, rfl, Nat.zero_le _, rfl, Nat.le_refl _, hst₁, hns₁, hacc, Nat.lt_of_lt_of_le hIlt hs1, fun b o _ e => old b o e, inv0 _ _ _ leC (Nat.le_refl _) old⟩
    rintro k s' ⟨h', tk, i, ys, m', rfl, hi, rfl, hyl, hst', hn', hD', hIh, kp', inv'⟩
    by_cases hlt : i < n
    · refine W.item i _ _ _ hlt hst' fun v h₂ tk₂ hPv hst₂ hk₂ => ?_
      have hD₂ : h₂.get? s₂.heap.objs.size = some (lst ys) := hk₂ _ _ (by simpa using Ne.symm hDI) hD'
      refine wpAny_assign_Name (wpAny_storeName_local (lookup_relabel_local hx) (hn'.at' fun o e => hk₂ _ o (by simpa using Ne.symm hCI) e) (fun h₃ hn₃ hs₃ => ?_) (by simp [compEnvC, relabel, hkind]))
      have hst₃ : St (i + 1) h₃ := W.frame _ _ _ hst₂ fun b hb o e => hs₃.extBut b o (fun q => hCf (by have q' : b = H2.objs.size := q; rw [← q']; exact hb)) e
      have hD₃ : h₃.get? s₂.heap.objs.size = some (lst ys) := hs₃.extBut _ _ hDC hD₂
      have inv₃ : Inv H2.objs.size s₂.heap.objs.size i ys h₃ := stable _ _ _ _ _ _ inv' fun b o a1 a2 a3 e => hs₃.extBut b o a2 (hk₂ b o (by simpa using a1) e)
      have kp₃ : ∀ b o, b ≠ I → s₂.heap.get? b = some o → h₃.get? b = some o := fun b o hb e => hs₃.extBut b o (below b (Heap.lt_size e)).1 (hk₂ b o (by simpa using hb) (kp' b o hb e))
      have hI₃ : I < h₃.objs.size := by
        have := Heap.lt_size hD₃
        exact Nat.lt_trans hIlt this
      refine wpAny_mono (turn _ _ i ys v h₃ _ _ hlt hPv leC (Nat.le_refl _) hn₃.lt (Heap.lt_size hD₃) hI₃ hn₃ (by simp) kp₃ inv₃) (fun ok s₄ h₄ => ?_) fun _ _ e => e.elim
      have step : ∀ (h4 : Heap) (b : Bool) (v' : Value), (∀ b o, h₃.get? b = some o → h4.get? b = some o) → Inv H2.objs.size s₂.heap.objs.size (i + 1) (if b = true then ys ++ [v'] else ys) h4 →
          St (i + 1) h4 ∧ h4.Ns H2.objs.size (fun z => if z = x then some v else m' z) ∧ h4.get? s₂.heap.objs.size = some (lst ys) ∧ I < h4.objs.size ∧ (∀ b o, b ≠ I → s₂.heap.get? b = some o → h4.get? b = some o) := by
        intro h4 b v' hk4 _
        have hD4 := hk4 _ _ hD₃
        exact ⟨W.frame _ _ _ hst₃ fun b _ o e => hk4 b o e, hn₃.at' fun o e => hk4 _ o e, hD4, Nat.lt_trans hIlt (Heap.lt_size hD4), fun b o hb e => hk4 b o (kp₃ b o hb e)⟩
      cases ok with
      | false =>
        obtain ⟨h4, tk4, rfl, hk4, inv4⟩ := h₄
        obtain ⟨a1, a2, a3, a4, a5⟩ := step h4 false .none hk4 inv4
        exact ⟨n + 1 - (i + 1), by omega, h4, tk4, i + 1, ys, _, rfl, hlt, rfl, Nat.le_succ_of_le hyl, a1, a2, a3, a4, a5, inv4⟩
      | true =>
        refine wpAny_mono h₄ (fun y s₅ h₅ => ?_) fun _ _ e => e.elim
        obtain ⟨h4, tk4, rfl, hk4, inv4⟩ := h₅
        obtain ⟨a1, a2, a3, a4, a5⟩ := step h4 true y hk4 inv4
        refine append_at (hsz := by show ys.toArray.size ≤ sizeLine; rw [List.size_toArray]; exact Nat.le_trans hyl (Nat.le_trans hi hsz)) a3 fun h₅ hs₅ hD₅ => ?_
        refine ⟨n + 1 - (i + 1), by omega, h₅, tk4, i + 1, ys ++ [y], _, rfl, hlt, rfl, by rw [List.length_append, List.length_singleton]; omega, W.frame _ _ _ a1 fun b hb o e => hs₅.extBut b o (fun q => hDf (q ▸ hb)) e,
          a2.sameBut hs₅ (Ne.symm hDC), hD₅.trans (congrArg some (lst_snoc ys y)), Nat.lt_trans hIlt (Heap.lt_size hD₅), fun b o hb e => hs₅.extBut b o (below b (Heap.lt_size e)).2 (a5 b o hb e), stable _ _ _ _ _ _ inv4 fun b o _ _ hb e => hs₅.extBut b o hb e⟩
    · obtain rfl : i = n := Nat.le_antisymm hi (Nat.not_lt.mp hlt)
      refine W.done _ _ _ hst' fun h₂ tk₂ hk₂ => ?_
      refine ⟨_, hn'.at' fun o e => hk₂ _ o (by simpa using Ne.symm hCI) e, fun h₃ hs₃ => ?_⟩
      refine done H2.objs.size _ ys h₃ tk₂ (Nat.le_refl _) (fun b o hb e => hs₃.extBut b o (below b (Heap.lt_size e)).1 (hk₂ b o (by simpa using hb) (kp' b o hb e))) (stable _ _ _ _ _ _ inv' fun b o a1 a2 a3 e => hs₃.extBut b o a2 (hk₂ b o (by simpa using a1) e))
        (hs₃.extBut _ _ hDC (hk₂ _ _ (by simpa using Ne.symm hDI) hD'))
  exact codeAny_compStart_list (loop _ rfl) (W.self 0 _ _ _ hst₁ (loop _ rfl))
end
end Mine
end
theorem Mine.calm9a20 : True ∧ True := by
  w_top off
  (try walk1) <;> (first | exact True.intro | exact ⟨True.intro, True.intro⟩)

/-! part P20 -/
section
open PySem PySem.W PySem.Calls PySem.Spec PyProof.Rows PyProof.Rows.LCg
namespace Mine
theorem fill9o : PySem.Challenge.rw_fs0001_01 = PySem.Challenge.rw_fs0001_01 ∧ ∀ (w : World) h, (hd.heap_39 w.params).In h → True := by
  k_fill
  exact ⟨rfl, fun _ _ _ => trivial⟩

section
variable {prog : Program} {w : World} {p : Program} {loose : List Str} {mean : ExcName → Option Value} {mg mb : Str → Option Value} {A A₀ : Around} {env : Env} {outer : List Env} {base h₀ : Heap} {L : Addr} {m : Str → Option Value} {s : Shared} {sub : List (Addr × Obj)} {Q E : Value → Shared → Prop}
  {R : Result → Shared → Prop} {name qual : Str} {params : Arguments} {body : List Stmt} {scope : Scope} {dV kV doc pm cdv ct oc : Value} {an od : Option Addr} {osl : Array (Option Value)} {f : Addr} {args : Args} {binds : List (Str × Value)}

/-- where the walk stands still -/
structure Stop8 (P : Prop) : Prop where
  out : P
/-- a def with cells is entered -/
theorem enter9C (c : Mine.Cl w p loose mean mg mb A env outer A₀ base h₀ L s.heap m) (N : News h₀ L s.heap sub)
    (ho : (hd.heap_39 w.params).lookup f = some ⟨oc, od, .func (fnOf name qual params body scope dV kV doc pm an cdv ct), osl⟩) (hcd : codeIn (hd.heap_39 w.params) cdv qual = true) (hroom : A.depth < recursionLimit)
    (hbind : BindsTo s (fnOf name qual params body scope dV kV doc pm an cdv ct) args binds) (hkind : (binds.all fun y => scope.names.lookup y.1 == some .local || scope.names.lookup y.1 == some .cell) = true)
    (hnd : ((cellsFrom 0 scope.names []).map (·.1)).Nodup)
    (h : ∀ g L' h₁ tk cells, Fr g L' h₁ (bindL (envOfC qual scope L' f cdv).kindOf binds fun _ => none) → News g L' h₁ (cells ++ sub) →
      CellsAre (bindC (envOfC qual scope L' f cdv).kindOf binds fun _ => none) (cellsFrom (L' + 1) scope.names []) cells → Below A base (env :: outer) g → (hd.heap_39 w.params).In g → Top p loose mean mg mb g →
      (∀ b o, s.heap.get? b = some o → b ∉ sub.map (·.1) → g.get? b = some o) → s.heap.objs.size ≤ L' → (∀ p ∈ sub, p.1 < L') →
      wpAny (model prog w) (A.deeper (envOfC qual scope L' f cdv)) (execs body (envOfC qual scope L' f cdv))
        (fun fl s' => R (.ok (.ret (match fl with | .ret v => v | _ => .none))) s')
        (fun e s' => wpAny (model prog w) (A.deeper (envOfC qual scope L' f cdv)) (leaving (envOfC qual scope L' f cdv) e) (fun _ s'' => R (.error e) s'') (fun e' s'' => R (.error e') s'') s')
        { s with heap := h₁, toks := tk })
    (hco : scope.isCoroutine = false) (hgen : scope.isGenerator = false) (hk : scope.kind = .function) : codeAny (model prog w) A (.call (.ref f) args) R s := by
  obtain ⟨BG, st⟩ := ground9 c N
  have X := c.X.keeps fun b o e => c.F.keep b o (c.B.stays b o e)
  refine codeAny_call_function (fd := fnOf name qual params body scope dV kV doc pm an cdv ct) hroom (X _ _ ho) rfl hco hgen rfl (codeRec_of X hcd) (hbind _ _ _ _ ?_)
  refine wpAny_newFunctionEnv_cells hk (kindsX hkind _) fun env' he s' x => ?_
  subst he
  refine ⟨((c.T.keeps c.B.stays).nolimit.keeps c.F.keep).keeps x.toInCall.keep, codeAny_func ?_⟩
  obtain ⟨h₁, tk, rfl, _⟩ := x.done
  have hk₁ := x.toInCall.keep
  obtain ⟨cells, NC, Y⟩ := PyProof.Rows.Cl.news (h₀ := s.heap) (Nat.le_refl _) fun n c hm => ⟨x.cell n c (lookup_of_mem_nodup (cellsFrom_names scope.names 0 (s.heap.objs.size + 1) [] [] rfl ▸ hnd) hm), x.above n c hm⟩
  refine h _ s.heap.objs.size h₁ tk cells ⟨x.toInCall.ns, fun b o e => hk₁ b o (of_hideAll _ e), Nat.le_of_eq (hideAll_size _ _)⟩ (fun p hp => ?_) Y BG (c.X.keeps st) (c.T.keeps st) (fun b o e q => hideAll_get _ e q) (Nat.le_refl _) (fun p hp => Heap.lt_size (N p hp).1)
  rcases List.mem_append.mp hp with hp | hp
  · refine ⟨(NC p hp).1, (NC p hp).2.1, ?_⟩
    cases q : (hideAll s.heap (sub.map (·.1))).get? p.1 with
    | none => rfl
    | some o => have := of_hideAll _ q; rw [(NC p hp).2.2] at this; cases this
  · exact ⟨hk₁ _ _ (N p hp).1, Nat.ne_of_lt (Heap.lt_size (N p hp).1), hideAll_none _ (List.mem_map_of_mem hp)⟩

/-- the block's own name, and one of its function's cells -/
theorem ldOwn9 {M : Model} {scope : Scope} {cl : List (Str × Addr)} {C : Addr} {env : Env} {x : Str} {pos : Pos} {v : Value} {m₂ : Str → Option Value} (hC : s.heap.Ns C m₂) (hx : m₂ x = some v) (h : Q v s)
    (hk : (compEnvC scope cl C env).scope.kind = .function := by rfl) (hl : (compEnvC scope cl C env).kindOf x = some .local := by rfl) (hd : (x == ("__debug__" : Str)) = false := by decide) :
    wpAny M A (eval (.Name x pos) (compEnvC scope cl C env)) Q E s := ldVarK hC hx h hk hl hd
theorem ldCell9 {M : Model} {scope : Scope} {cl : List (Str × Addr)} {C c : Addr} {env : Env} {x : Str} {pos : Pos} {v : Value} (hc : s.heap.IsCell c (some v)) (hx : cl.lookup x = some c) (h : Q v s)
    (hk : (compEnvC scope cl C env).scope.kind = .function := by rfl) (hl : (compEnvC scope cl C env).kindOf x = some .cell := by rfl) (hd : (x == ("__debug__" : Str)) = false := by decide) :
    wpAny M A (eval (.Name x pos) (compEnvC scope cl C env)) Q E s := wpAny_Name (wpAny_loadName_cell hk hl hx hc h) hd

theorem turn_nil9 {ce : Env} {elt : Expr} {G : Bool → Value → Heap → Prop}
    (h : wpAny (model prog w) A (eval elt ce) (fun v s₄ => Stop8 (∃ h' tk', s₄ = { s with heap := h', toks := tk' } ∧ (∀ b o, s.heap.get? b = some o → h'.get? b = some o) ∧ G true v h')) (fun _ _ => False) s) : Turn9 prog w A ce elt [] s G :=
  wpAny_tests_nil (by rw [if_pos rfl]; exact wpAny_mono h (fun _ _ z => z.out) fun _ _ z => z)
theorem turn_one9 {ce : Env} {elt c : Expr} {G : Bool → Value → Heap → Prop}
    (h : wpAny (model prog w) A (isTrue c ce (eval c ce)) (fun ok s₃ => Stop8 (if ok = true then wpAny (model prog w) A (eval elt ce) (fun v s₄ => Stop8 (∃ h' tk', s₄ = { s with heap := h', toks := tk' } ∧ (∀ b o, s.heap.get? b = some o → h'.get? b = some o) ∧ G true v h')) (fun _ _ => False) s₃
      else ∃ h' tk', s₃ = { s with heap := h', toks := tk' } ∧ (∀ b o, s.heap.get? b = some o → h'.get? b = some o) ∧ G false .none h')) (fun _ _ => False) s) : Turn9 prog w A ce elt [c] s G :=
  wpAny_tests_one (wpAny_mono h (fun ok _ z => by
    have z := z.out
    cases ok with
    | true => exact wpAny_mono z (fun _ _ z => z.out) fun _ _ z => z
    | false => exact z) fun _ _ z => z)

section
variable {elt : Expr} {ifs : List Expr} {x : Str} {scope : Scope} {cl : List (Str × Addr)}

def IntTurn9 (o : Option Int) (b : Bool) (v : Value) : Prop := match o with
  | some j => b = true ∧ ∃ t, v = .int j t
  | none => b = false

theorem fm_some {α β : Type} (g : α → β) (l : List α) : l.filterMap (fun k => some (g k)) = l.map g := by
  rw [← List.filterMap_eq_map]; rfl
theorem range_get {α : Type} : ∀ (ns : List α), (List.range ns.length).filterMap (fun i => ns[i]?) = ns
  | [] => rfl
  | a :: r => by
    rw [List.length_cons, List.range_succ_eq_map, List.filterMap_cons]
    simp only [List.getElem?_cons_zero, List.filterMap_map]
    congr 1
    have := range_get r
    simpa [Function.comp_def] using this

theorem intsAt9 {h₁ : Heap} {I : Addr} {fp : List Addr} {n : Nat} {P : Nat → Value → Prop} {St : Nat → Heap → Prop} (W : Walks prog w A I fp [I] n P St) (hn : n ≤ 100) (hst : St 0 h₁) (hfp : ∀ b ∈ fp, b < h₁.objs.size) (hk₁ : ∀ b o, s.heap.get? b = some o → h₁.get? b = some o) (hI : s.heap.objs.size ≤ I) (hI2 : s.heap.objs.size ≤ h₁.objs.size) (f : Nat → Option Int)
    (turn : ∀ C i y h tk m₂, i < n → P i y → h.Ns C m₂ → m₂ x = some y → (∀ b o, s.heap.get? b = some o → h.get? b = some o) → s.heap.objs.size ≤ C → Turn9 prog w A (compEnvC scope cl C env) elt ifs { s with heap := h, toks := tk } (fun b v _ => IntTurn9 (f i) b v))
    (done : ∀ D h tk vs, (∀ b o, s.heap.get? b = some o → h.get? b = some o) → h.get? D = some (lst vs) → s.heap.objs.size ≤ D → IntsAre vs ((List.range n).filterMap f) → Q (.ref D) { s with heap := h, toks := tk }) :
    CompAt9 prog w A elt ifs x scope cl env Q (.ref I) { s with heap := h₁ } := by
  have kp : ∀ h : Heap, (∀ b o, b ≠ I → h₁.get? b = some o → h.get? b = some o) → ∀ b o, s.heap.get? b = some o → h.get? b = some o := fun h hk b o e => hk b o (Nat.ne_of_lt (Nat.lt_of_lt_of_le (Heap.lt_size e) hI)) (hk₁ b o e)
  refine ⟨I, fp, n, P, St, fun _ _ i ys _ => IntsAre ys ((List.range i).filterMap f), rfl, W, by rw [sizeLine_eq]; omega, hst, hfp, fun _ _ _ _ _ _ => .nil, fun _ _ _ _ _ _ h _ => h, ?_, ?_⟩
  · intro C D i ys y h tk m₂ hi hP hC hD _ _ _ hns hx hk hinv
    have T := turn C i y h tk m₂ hi hP hns hx (kp h hk) (Nat.le_trans hI2 hC)
    have fin : ∀ b v, IntTurn9 (f i) b v → IntsAre (if b = true then ys ++ [v] else ys) ((List.range (i + 1)).filterMap f) := by
      intro b v hg
      rw [List.range_succ, List.filterMap_append]
      unfold IntTurn9 at hg
      cases hf : f i with
      | none => rw [hf] at hg; subst hg; simpa [hf] using hinv
      | some j =>
        rw [hf] at hg
        obtain ⟨rfl, t, rfl⟩ := hg
        simp only [if_true, List.filterMap_cons, hf, List.filterMap_nil]
        exact hinv.append (.cons j t .nil)
    unfold Turn9 at T ⊢
    refine wpAny_mono T (fun ok s₃ h₃ => ?_) fun _ _ e => e
    cases ok with
    | false =>
      obtain ⟨h', tk', rfl, a, b⟩ := h₃
      exact ⟨h', tk', rfl, a, fin _ _ b⟩
    | true =>
      exact wpAny_mono h₃ (fun v s₄ ⟨h', tk', e, a, b⟩ => ⟨h', tk', e, a, fin _ _ b⟩) fun _ _ e => e
  · intro C D ys h tk hD hk hinv hg
    exact done D h tk ys (kp h hk) hg (Nat.le_trans hI2 hD) hinv

theorem rangeComp9 {r : Addr} {b : Int} {t u v : Tok} (n : Nat) (hr : IsRange s.heap r 0 b 1 t u v) (hb : b = (n : Int)) (hn : n ≤ 100) (hh : A.handled = none) (f : Nat → Option Int)
    (turn : ∀ C i t h tk m₂, i < n → h.Ns C m₂ → m₂ x = some (.int (i : Nat) t) → (∀ b o, s.heap.get? b = some o → h.get? b = some o) → s.heap.objs.size ≤ C → Turn9 prog w A (compEnvC scope cl C env) elt ifs { s with heap := h, toks := tk } (fun b v _ => IntTurn9 (f i) b v))
    (done : ∀ D h tk vs, (∀ b o, s.heap.get? b = some o → h.get? b = some o) → h.get? D = some (lst vs) → s.heap.objs.size ≤ D → IntsAre vs ((List.range n).filterMap f) → Q (.ref D) { s with heap := h, toks := tk }) :
    wpAny (model prog w) A (pyIter (.ref r)) (CompAt9 prog w A elt ifs x scope cl env Q) E s := by
  subst hb
  have hsm : ∀ j : Nat, j ≤ 100 → Builtin.Range.small 0 (j : Int) 1 = true ∧ Builtin.Range.rangeSize 0 (j : Int) 1 = (j : Int) := by decide +kernel
  refine wpAny_pyIter_range hr (hsm n hn).1 ?_
  refine intsAt9 (range_walks hh 0 n) hn (by show IsRangeIter _ _ _ _ _; rw [(hsm n hn).2]; simpa using Heap.get?_push_size _ rfl) (fun b hb => ?_) (fun b o e => Heap.get?_push_of_some _ e) (Nat.le_refl _) (by rw [Heap.size_push]; exact Nat.le_succ _) f ?_ done
  · rw [List.mem_singleton.mp hb]
    show s.heap.objs.size < (s.heap.push _).objs.size
    rw [Heap.size_push]; exact Nat.lt_succ_self _
  · rintro C i y h tk m₂ hi ⟨t, rfl⟩ hns hx hk hC
    exact turn C i t h tk m₂ hi hns (by rw [hx, Int.zero_add]) hk hC

theorem listComp9 {l : Addr} {vs : List Value} {ns : List Int} (hl : s.heap.IsList l vs.toArray) (hi : IntsAre vs ns) (hn : ns.length ≤ 100) (hh : A.handled = none) (f : Int → Option Int)
    (turn : ∀ C j t h tk m₂, j ∈ ns → h.Ns C m₂ → m₂ x = some (.int j t) → (∀ b o, s.heap.get? b = some o → h.get? b = some o) → s.heap.objs.size ≤ C → Turn9 prog w A (compEnvC scope cl C env) elt ifs { s with heap := h, toks := tk } (fun b v _ => IntTurn9 (f j) b v))
    (done : ∀ D h tk vs', (∀ b o, s.heap.get? b = some o → h.get? b = some o) → h.get? D = some (lst vs') → s.heap.objs.size ≤ D → IntsAre vs' (ns.filterMap f) → Q (.ref D) { s with heap := h, toks := tk }) :
    wpAny (model prog w) A (pyIter (.ref l)) (CompAt9 prog w A elt ifs x scope cl env Q) E s := by
  have hlt : l < s.heap.objs.size := by obtain ⟨_, e, _⟩ := hl; exact Heap.lt_size e
  refine wpAny_pyIter_list hl ?_
  have e1 : vs.toArray.size = ns.length := by simp [hi.length]
  have e2 : (List.range ns.length).filterMap (fun i => ns[i]?.bind f) = ns.filterMap f := by
    have e := List.filterMap_filterMap (f := fun i => ns[i]?) (g := f) (l := List.range ns.length)
    rw [range_get] at e
    exact e.symm
  have W := Walks.list (prog := prog) (w := w) (A := A) hh s.heap.objs.size l (Nat.ne_of_lt hlt) vs.toArray
  rw [e1] at W
  refine intsAt9 W hn ⟨⟨_, Heap.get?_push_size _ rfl, rfl, rfl⟩, hl.push _⟩ (fun b hb => ?_) (fun b o e => Heap.get?_push_of_some _ e) (Nat.le_refl _) (by rw [Heap.size_push]; exact Nat.le_succ _) (fun i => ns[i]?.bind f) ?_ (by rw [e2]; exact done)
  · show b < (s.heap.push _).objs.size
    rw [Heap.size_push]
    rcases List.mem_cons.mp hb with rfl | hb
    · exact Nat.lt_succ_self _
    · rw [List.mem_singleton.mp hb]; exact Nat.lt_succ_of_lt hlt
  · rintro C i y h tk m₂ hi' hP hns hx hk hC
    obtain ⟨t, j, hj, rfl⟩ := listP hi i y hP
    rw [hj]
    exact turn C j t h tk m₂ (List.mem_of_getElem? hj) hns hx hk hC
end

local macro_rules | `(tactic| walk_at "eval ListComp") => `(tactic| (k_here; refine stop9 ?_))
local macro_rules | `(tactic| walk_at "pyIter") => `(tactic| (k_here; refine stop9 ?_))
local macro_rules | `(tactic| walk_at "eval Name") => `(tactic| (k_here; (with_reducible show wpAny _ _ (eval (Expr.Name _ _) (compEnvC _ _ _ _)) _ _ _); k_dflt (first
  | refine ldOwn9 (by assumption) (by assumption) ?_
  | refine ldCell9 (by assumption) (by rfl) ?_)))

def drawnOf (n : Int) : List Int := (List.range (n.fmod 6).toNat).map fun k => (n.fdiv (7 ^ k)).fmod 7

set_option maxHeartbeats 4000000 in
theorem drawn_code {n : Int} {t : Tok} (c : Mine.Cl w p loose mean mg mb A env outer A₀ base h₀ L s.heap m) (hdep : A.depth + 4 < recursionLimit)
    (k : ∀ h' tk' l vs, Kp [] s.heap h' → h'.get? l = some (lst vs) → s.heap.objs.size ≤ l → IntsAre vs (drawnOf n) → R (.ok (.ret (.ref l))) { s with heap := h', toks := tk' }) :
    codeAny (model prog w) A (.call (.ref 232) ⟨[.int n t], []⟩) R s := by
  have N : News h₀ L s.heap [] := News.nil
  k_dflt (refine' enter9C (binds := [(Str.ofString "n", .int n t)]) c N ?k6 ?k7 ?k8 ?k9 ?kB ?kD ?_ ?c2 ?c3 ?c4; (case k6 => k_is); (case k7 => k_is); (case k8 => omega); (case k9 => first | exact BindsTo.of_eq rfl | exact binds_K (by k_in) rfl (by k_is) rfl rfl rfl); (case kB => exact rfl); (case kD => decide +kernel); (case c2 => exact rfl); (case c3 => exact rfl); (case c4 => exact rfl); k_whole; intro g' L' h' tk' cells' F' N' Y' B' X' T' keep' above' l1; (try k_lt l1); k_cells Y'; (try simp only [List.cons_append, List.nil_append] at N'); (try dsimp only); (try k_fold))
  refine with_cd c B' F' rfl rfl fun cd => ?_
  k_steps
  unfold Stop9
  k_dflt (refine comp9 (by rfl) (by decide) (by rfl) (by decide) (by rfl) ?_)
  k_steps
  (with_reducible rename @Eq Data _ _ => d9); (with_reducible rename IsRange _ _ _ _ _ _ _ _ => R9); (with_reducible rename News _ _ _ _ => N9); (with_reducible rename Fr _ _ _ _ => F9)
  have hk1 := kp_of (ch := []) keep' F9 N N9 (by simp)
  have h6 : 0 ≤ n.fmod 6 ∧ n.fmod 6 < 6 := ⟨Int.fmod_nonneg_of_pos _ (by decide), Int.fmod_lt_of_pos _ (by decide)⟩
  try dsimp only
  refine rangeComp9 (n.fmod 6).toNat R9 (by omega) (by omega) (by exact c.hh) (fun k => some ((n.fdiv (7 ^ k)).fmod 7)) (fun C i t h tk m₂ hi hns hx hk hC => turn_nil9 ?_) (fun D h tk vs hk hD hDs hi => ?_)
  · have cell9 : h.IsCell (L' + 1) (some (.int n _)) := ⟨_, hk _ _ (N9 _ (.head _)).1, d9⟩
    have hi6 : i < 6 := by omega
    rcases (show i = 0 ∨ i = 1 ∨ i = 2 ∨ i = 3 ∨ i = 4 ∨ i = 5 by omega) with rfl | rfl | rfl | rfl | rfl | rfl
    · change m₂ _ = some (.int 0 t) at hx
      k_steps
      exact ⟨_, _, rfl, fun b o e => e, rfl, _, rfl⟩
    · change m₂ _ = some (.int 1 t) at hx
      k_steps
      exact ⟨_, _, rfl, fun b o e => e, rfl, _, rfl⟩
    · change m₂ _ = some (.int 2 t) at hx
      k_steps
      exact ⟨_, _, rfl, fun b o e => e, rfl, _, rfl⟩
    · change m₂ _ = some (.int 3 t) at hx
      k_steps
      exact ⟨_, _, rfl, fun b o e => e, rfl, _, rfl⟩
    · change m₂ _ = some (.int 4 t) at hx
      k_steps
      exact ⟨_, _, rfl, fun b o e => e, rfl, _, rfl⟩
    · change m₂ _ = some (.int 5 t) at hx
      k_steps
      exact ⟨_, _, rfl, fun b o e => e, rfl, _, rfl⟩
  · k_steps
    refine k _ _ _ _ (fun b o hb e => hk b o (hk1 b o hb e)) hD ?_ ?_
    · exact Nat.le_trans above' (Nat.le_of_lt (Nat.lt_of_lt_of_le F9.ns.lt hDs))
    · rw [fm_some] at hi; exact hi

theorem drawn_sm (n : Int) : sm (drawnOf n) := fun k hk => by
  obtain ⟨i, _, rfl⟩ := List.mem_map.mp hk
  exact ⟨Int.fmod_nonneg_of_pos _ (by decide), Int.fmod_lt_of_pos _ (by decide)⟩
theorem drawn_len (n : Int) : (drawnOf n).length ≤ 5 := by
  unfold drawnOf
  rw [List.length_map, List.length_range]
  have := Int.fmod_lt_of_pos n (b := 6) (by decide)
  omega
end
end Mine
end
theorem Mine.calm9a21 : True ∧ True := by
  w_top off
  (try walk1) <;> (first | exact True.intro | exact ⟨True.intro, True.intro⟩)

/-! part P21 -/
section
open PySem PySem.W PySem.Calls PySem.Spec PyProof.Rows PyProof.Rows.LCg
namespace Mine
theorem fresh9 {h g : Heap} {D : Addr} {sub : List (Addr × Obj)} (keep : ∀ b o, h.get? b = some o → b ∉ sub.map (·.1) → g.get? b = some o) (hD : g.get? D = none) (hs : D ∉ sub.map (·.1)) : h.get? D = none := by
  cases hq : h.get? D with
  | none => rfl
  | some o => have := keep D o hq hs; rw [hD] at this; cases this
theorem fill9p : PySem.Challenge.rw_fs0001_01 = PySem.Challenge.rw_fs0001_01 ∧ ∀ (w : World) h, (hd.heap_39 w.params).In h → True := by
  k_fill
  exact ⟨rfl, fun _ _ _ => trivial⟩

section
variable {prog : Program} {w : World} {A : Around} {s : Shared} {env : Env} {v : Str} {body : List Stmt} {Q : Flow → Shared → Prop} {g : Heap} {L : Addr} {m : Str → Option Value} {D I src : Addr} {n : Nat} {P : Nat → Value → Prop} {St : Nat → Heap → Prop} {os o : Obj}

theorem ledLoop9 (ex : List (Addr × Obj)) (Pd : Nat → Obj → Prop) (W : Walks prog w A I [I, src] [I] n P St) (hI : ∀ i h, St i h → ∃ oI, h.get? I = some oI) (hIg : g.get? I = none) (hIL : I ≠ L)
    (hIN : ∀ p ∈ (D, o) :: (src, os) :: ex, p.1 < I)
    (st0 : St 0 s.heap) (F : Fr g L s.heap (fun z => if z = v then none else m z)) (N : News g L s.heap ((D, o) :: (src, os) :: ex)) (ho : Pd 0 o)
    (step : ∀ i y h tk u o' oI, i < n → P i y → Fr g L h (fun z => if z = v then u else m z) → News g L h ((D, o') :: (src, os) :: (I, oI) :: ex) → Pd i o' →
      wpAny (model prog w) A (storeName env v y) (fun _ s₃ => wpAny (model prog w) A (execs body env) (fun fl s₄ => Stop8 (fl = .next ∧ ∃ h' tk' u' o'', s₄ = { s with heap := h', toks := tk' } ∧ Fr g L h' (fun z => if z = v then u' else m z) ∧
        News g L h' ((D, o'') :: (src, os) :: (I, oI) :: ex) ∧ Pd (i + 1) o'')) (fun _ _ => False) s₃) (fun _ _ => False) { s with heap := h, toks := tk })
    (done : ∀ h tk u o', Fr g L h (fun z => if z = v then u else m z) → News g L h ((D, o') :: (src, os) :: ex) → Pd n o' → Q .next { s with heap := h, toks := tk }) :
    WalkAt9 prog w A env v body Q (.ref I) s := by
  refine ⟨I, [I, src], n, P, St, fun i h => ∃ u o', Fr g L h (fun z => if z = v then u else m z) ∧ News g L h ((D, o') :: (src, os) :: ex) ∧ Pd i o', rfl, W, st0, ⟨none, o, F, N, ho⟩, ?_, ?_, ?_⟩
  · rintro i h h' ⟨u, o', F', N', ho'⟩ hk
    refine ⟨u, o', ⟨?_, fun b o e => hk b o (fun q => by rw [q, hIg] at e; cases e) (F'.keep b o e), F'.above⟩, fun p hp => ⟨hk _ _ ?_ (N' p hp).1, (N' p hp).2⟩, ho'⟩
    · obtain ⟨oL, es, ep, hL, r⟩ := F'.ns
      exact ⟨oL, es, ep, hk _ _ (Ne.symm hIL) hL, r⟩
    · have : p.1 < I := by
        rcases List.mem_cons.mp hp with rfl | hp
        · exact hIN (D, o) (.head _)
        · exact hIN p (.tail _ hp)
      exact Nat.ne_of_lt this
  · rintro i y h tk hi hPi hst ⟨u, o', F', N', ho'⟩
    obtain ⟨oI, hoI⟩ := hI _ _ hst
    have N2 : News g L h ((D, o') :: (src, os) :: (I, oI) :: ex) := by
      intro p hp
      rcases List.mem_cons.mp hp with rfl | hp
      · exact N' _ (.head _)
      rcases List.mem_cons.mp hp with rfl | hp
      · exact N' _ (.tail _ (.head _))
      rcases List.mem_cons.mp hp with rfl | hp
      · exact ⟨hoI, hIL, hIg⟩
      · exact N' _ (.tail _ (.tail _ hp))
    refine wpAny_mono (step i y h tk u o' oI hi hPi F' N2 ho') (fun _ s₃ h₃ => wpAny_mono h₃ (fun fl s₄ h₄ => ?_) fun _ _ z => z) fun _ _ z => z
    obtain ⟨⟨rfl, h', tk', u', o'', rfl, F3, N3, ho3⟩⟩ := h₄
    refine ⟨rfl, h', tk', rfl, W.frame _ _ _ hst fun b hb o₂ e => ?_, u', o'', F3, fun p hp => ?_, ho3⟩
    · simp only [List.mem_cons, List.not_mem_nil, or_false] at hb
      rcases hb with rfl | rfl
      · have e1 := (N2 _ (.tail _ (.tail _ (.head _)))).1
        simp only at e1
        rw [e] at e1; cases e1
        exact (N3 _ (.tail _ (.tail _ (.head _)))).1
      · have e1 := (N2 _ (.tail _ (.head _))).1
        simp only at e1
        rw [e] at e1; cases e1
        exact (N3 _ (.tail _ (.head _))).1
    · rcases List.mem_cons.mp hp with rfl | hp
      · exact N3 _ (.head _)
      rcases List.mem_cons.mp hp with rfl | hp
      · exact N3 _ (.tail _ (.head _))
      · exact N3 _ (.tail _ (.tail _ (.tail _ hp)))
  · rintro h tk ⟨u, o', F', N', ho'⟩
    exact done h tk u o' F' N' ho'
end

section
variable {prog : Program} {w : World} {A : Around} {s : Shared} {env : Env} {v : Str} {body : List Stmt} {Q : Flow → Shared → Prop} {E : Value → Shared → Prop} {g : Heap} {L : Addr} {m : Str → Option Value} {D src : Addr} {os o : Obj} {vs : List Value} {ns : List Int}
theorem listLoop9 (ex : List (Addr × Obj)) (Pd : Nat → Obj → Prop) (hh : A.handled = none) (hos : IsL os vs) (hi : IntsAre vs ns) (hn : ns.length ≤ 100) (F : Fr g L s.heap m) (hv : m v = none) (N : News g L s.heap ((D, o) :: (src, os) :: ex)) (ho : Pd 0 o)
    (step : ∀ i j t h tk u o' oI, ns[i]? = some j → Fr g L h (fun z => if z = v then u else m z) → News g L h ((D, o') :: (src, os) :: (s.heap.objs.size, oI) :: ex) → Pd i o' →
      wpAny (model prog w) A (storeName env v (.int j t)) (fun _ s₃ => wpAny (model prog w) A (execs body env) (fun fl s₄ => Stop8 (fl = .next ∧ ∃ h' tk' u' o'', s₄ = { s with heap := h', toks := tk' } ∧ Fr g L h' (fun z => if z = v then u' else m z) ∧
        News g L h' ((D, o'') :: (src, os) :: (s.heap.objs.size, oI) :: ex) ∧ Pd (i + 1) o'')) (fun _ _ => False) s₃) (fun _ _ => False) { s with heap := h, toks := tk })
    (done : ∀ h tk u o', Fr g L h (fun z => if z = v then u else m z) → News g L h ((D, o') :: (src, os) :: ex) → Pd ns.length o' → Q .next { s with heap := h, toks := tk }) :
    wpAny (model prog w) A (pyIter (.ref src)) (WalkAt9 prog w A env v body Q) E s := by
  have hl : s.heap.IsList src vs.toArray := hos.at (N _ (.tail _ (.head _))).1
  refine wpAny_pyIter_list hl ?_
  have kp1 : ∀ b o, s.heap.get? b = some o → (s.heap.push { cls := .type "list_iterator", data := .fields #[.ref src, .int 0 0] }).get? b = some o := fun b o e => Heap.get?_push_of_some _ e
  have hlt : src < s.heap.objs.size := Heap.lt_size (N _ (.tail _ (.head _))).1
  have hvl : vs.toArray.size = ns.length := by simp [hi.length]
  have hIg : g.get? s.heap.objs.size = none := by
    cases hq : g.get? s.heap.objs.size with
    | none => rfl
    | some o' => exact absurd (Heap.lt_size (F.keep _ _ hq)) (Nat.lt_irrefl _)
  have W := Walks.list (prog := prog) (w := w) (A := A) hh s.heap.objs.size src (Nat.ne_of_lt hlt) vs.toArray
  rw [hvl] at W
  have hnew : (s.heap.push { cls := .type "list_iterator", data := .fields #[.ref src, .int 0 0] }).get? s.heap.objs.size = some { cls := .type "list_iterator", data := .fields #[.ref src, .int 0 0] } := Heap.get?_push_size _ rfl
  refine ledLoop9 (s := { s with heap := s.heap.push { cls := .type "list_iterator", data := .fields #[.ref src, .int 0 0] } }) (m := m) ex Pd W (fun i h st => let ⟨o, e, _⟩ := st.1; ⟨o, e⟩) hIg (Nat.ne_of_gt F.ns.lt) (fun p hp => Heap.lt_size (N p hp).1) ⟨⟨_, hnew, rfl, rfl⟩, hl.at fun o e => kp1 _ o e⟩ (fr_if (F.push _) hv)
    (fun p hp => ⟨kp1 _ _ (N p hp).1, (N p hp).2⟩) ho ?_ done
  intro i y h tk u o' oI hin hP F' N' ho'
  obtain ⟨t, j, hj, rfl⟩ := listP hi i y hP
  exact step i j t h tk u o' oI hj F' N' ho'
end

section
variable {prog : Program} {w : World} {p : Program} {loose : List Str} {mean : ExcName → Option Value} {mg mb : Str → Option Value} {A A₀ : Around} {env : Env} {outer : List Env} {base h₀ : Heap} {L : Addr} {m : Str → Option Value} {s : Shared} {sub : List (Addr × Obj)} {Q E : Value → Shared → Prop}
  {R : Result → Shared → Prop}


theorem inNums_iff (k : Int) : ∀ ns : List Int, KTD.inNums k ns = decide (k ∈ ns)
  | [] => by simp [KTD.inNums]
  | x :: xs => by
    show (decide (k = x) || KTD.inNums k xs) = _
    rw [inNums_iff k xs]
    by_cases h1 : k = x <;> by_cases h2 : k ∈ xs <;> simp [h1, h2]
theorem inL9 {i : Int} {t : Tok} {a : Addr} {vs : List Value} {ns : List Int} (hl : s.heap.IsList a vs.toArray) (hi : IntsAre vs ns) (h : Q (.bool (decide (i ∈ ns))) s) : wpAny (model prog w) A (compareOp .In (.int i t) (.ref a)) Q E s :=
  KTD.in_nums (h₀ := s.heap) ⟨vs, hl, hi⟩ (fun _ _ e => e) (by rw [inNums_iff]; exact h)
theorem ninL9 {i : Int} {t : Tok} {a : Addr} {vs : List Value} {ns : List Int} (hl : s.heap.IsList a vs.toArray) (hi : IntsAre vs ns) (h : Q (.bool (decide (i ∉ ns))) s) : wpAny (model prog w) A (compareOp .NotIn (.int i t) (.ref a)) Q E s :=
  KTD.notin_nums (h₀ := s.heap) ⟨vs, hl, hi⟩ (fun _ _ e => e) (by rw [inNums_iff, ← decide_not]; exact h)

theorem app9 {D : Addr} {its : Array Value} {n : Nat} {x : Value} {news : List (Addr × Obj)} {g : Obj → List (Addr × Obj)} (F : Fr h₀ L s.heap m) (N : News h₀ L s.heap news) (U : UpdF D (listOf its n) news g) (hsz : its.size ≤ 100)
    (h : ∀ h', Fr h₀ L h' m → News h₀ L h' (g (listOf (its.push x) (n + 1))) → Q .none { s with heap := h' }) : wpAny (model prog w) A (call (.builtin "list.append") [.ref D, x]) Q E s := by
  obtain ⟨pre, post, hl, hg, a, b⟩ := U.split
  have hmem : (D, listOf its n) ∈ news := by rw [hl]; exact List.mem_append_right _ (.head _)
  have hm := N _ hmem
  refine append_at (hsz := by rw [sizeLine_eq]; omega) hm.1 fun h' hs ho => ?_
  exact h h' (F.change hs hm.2.1 hm.2.2) (hg _ ▸ (show News h₀ L s.heap (pre ++ (D, listOf its n) :: post) from hl ▸ N).setIn a b hs ho)
theorem newL9 {news : List (Addr × Obj)} (F : Fr h₀ L s.heap m) (N : News h₀ L s.heap news)
    (k : ∀ D h', Fr h₀ L h' m → News h₀ L h' ((D, listOf #[] 0) :: news) → (∀ p ∈ news, p.1 < D) → L < D → Q (.ref D) { s with heap := h' }) : wpAny (model prog w) A (newList []) Q E s :=
  wpAny_newList (k s.heap.objs.size _ (F.push _) (News.push F N (listOf #[] 0) rfl) (fun p hp => Heap.lt_size (N p hp).1) F.ns.lt)
local macro_rules | `(tactic| walk_at "newList") => `(tactic| (k_here; k_dflt (refine' newL9 ?F ?N ?_; (case F => k_asm); (case N => k_asm)); intro D' h' F' N' l1 l2; (try k_lt l1); (try k_lt2 l2)))
local macro_rules | `(tactic| walk_at "call builtin:list.append") => `(tactic| (k_here; k_dflt (refine' app9 ?F ?N ?U ?z ?_; (case F => k_asm); (case N => k_asm); (case U => k_updF); (case z => assumption)); intro h' F' N'; (try dsimp only at N')))
local macro_rules | `(tactic| walk_at "exec For Name Name cons nil") => `(tactic| (k_here; refine stop9 ?_))
local macro_rules | `(tactic| walk_at "compareOp NotIn int ref") => `(tactic| (k_here; refine stop9 ?_))

set_option maxHeartbeats 400000 in
theorem row_code {l : Addr} {ns : List Int} (c : Mine.Cl w p loose mean mg mb A env outer A₀ base h₀ L s.heap m) (Ol : LSN h₀ L s.heap l ns) (hn : ns.length ≤ 40) (hdep : A.depth + 4 < recursionLimit)
    (k : ∀ h' tk' l' vs n, Kp [] s.heap h' → h'.get? l' = some (listOf vs.toArray n) → s.heap.objs.size ≤ l' → IntsAre vs (addA [] ns) → R (.ok (.ret (.ref l'))) { s with heap := h', toks := tk' }) :
    codeAny (model prog w) A (.call (.ref 239) ⟨[.ref l], []⟩) R s := by
  obtain ⟨os, vs, N, hos, hi⟩ := Ol
  k_dflt (refine' enter9 (binds := [(Str.ofString "things", .ref l)]) c N ?k6 ?k7 ?k8 ?k9 ?kB ?_ ?c5 ?c2 ?c3 ?c4; (case k6 => k_is); (case k7 => k_is); (case k8 => omega); (case k9 => first | exact BindsTo.of_eq rfl | exact binds_K (by k_in) rfl (by k_is) rfl rfl rfl); (case c5 => decide); (case kB => exact locs rfl); (case c2 => exact rfl); (case c3 => exact rfl); (case c4 => exact rfl); k_whole; intro g' L' h' F' N' B' X' T' keep' above'; (try dsimp only); (try k_fold))
  k_steps
  unfold Stop9
  (with_reducible rename News _ _ _ _ => N9); (with_reducible rename Fr _ _ _ _ => F9); (with_reducible rename @LT.lt _ _ _ _ => l9)
  refine wpAny_noRaise (for_walk9 ?_)
  refine ld F9 rfl ?_
  have hD := Nat.le_trans above' (Nat.le_of_lt l9)
  have i1 := neN (Nat.ne_of_lt (Heap.lt_size (N9 _ (.head _)).1))
  have i2 := neN (Nat.ne_of_lt (Heap.lt_size (N9 _ (.tail _ (.head _))).1))
  refine listLoop9 [] (fun i o => ∃ vs' c, o = listOf vs'.toArray c ∧ IntsAre vs' (addA [] (ns.take i)) ∧ vs'.length ≤ i) (by exact c.hh) hos hi (by omega) F9 rfl N9 ⟨[], 0, rfl, .nil, Nat.le_refl _⟩ ?_ ?_
  · rintro i j t h tk u o' oI hij F3 N3 ⟨vs', cc, rfl, hi', hlen⟩
    have hi40 : i < 40 := by have := (List.getElem?_eq_some_iff.mp hij).1; omega
    k_steps
    unfold Stop9
    (with_reducible rename News _ _ _ _ => N4); (with_reducible rename Fr _ _ _ _ => F4)
    refine ninL9 (vs := vs') ⟨_, (N4 _ (.head _)).1, rfl, _, rfl⟩ hi' ?_
    have hsz : vs'.toArray.size ≤ 100 := by rw [List.size_toArray]; omega
    have e1 : ns.take (i + 1) = ns.take i ++ [j] := by rw [List.take_add_one, hij]; rfl
    have e2 : addA [] (ns.take (i + 1)) = addI (addA [] (ns.take i)) j := by rw [e1]; unfold addA; rw [List.foldl_append]; rfl
    by_cases hm : j ∈ addA [] (ns.take i)
    · rw [decide_eq_false (by simpa using hm)]
      k_steps
      (with_reducible rename News _ _ _ _ => N5); (with_reducible rename Fr _ _ _ _ => F5)
      refine ⟨rfl, _, _, _, _, rfl, fr_if2 F5, N5, vs', cc, rfl, ?_, by omega⟩
      rw [e2]; unfold addI; rw [if_pos hm]; exact hi'
    · rw [decide_eq_true hm]
      k_steps
      (with_reducible rename News _ _ _ _ => N5); (with_reducible rename Fr _ _ _ _ => F5)
      refine ⟨rfl, _, _, _, _, rfl, fr_if2 F5, N5, vs' ++ [.int j t], cc + 1, by rw [List.push_toArray], ?_, by rw [List.length_append, List.length_singleton]; omega⟩
      rw [e2]; unfold addI; rw [if_neg hm]; exact hi'.append (.cons j t .nil)
  · rintro h tk u o' F3 N3 ⟨vs', cc, rfl, hi', hlen⟩
    rw [List.take_length] at hi'
    k_steps
    (with_reducible rename News _ _ _ _ => N5); (with_reducible rename Fr _ _ _ _ => F5)
    exact k _ _ _ vs' cc (kp_of (ch := []) keep' F5 N N5 (by simp)) (N5 _ (.head _)).1 hD hi'
end
end Mine
end
theorem Mine.calm9a22 : True ∧ True := by
  w_top off
  (try walk1) <;> (first | exact True.intro | exact ⟨True.intro, True.intro⟩)

/-! part P22 -/
section
open PySem PySem.W PySem.Calls PySem.Spec PyProof.Rows PyProof.Rows.LCg
namespace Mine
theorem fill9q : PySem.Challenge.rw_fs0001_01 = PySem.Challenge.rw_fs0001_01 ∧ ∀ (w : World) h, (hd.heap_39 w.params).In h → True := by
  k_fill
  exact ⟨rfl, fun _ _ _ => trivial⟩

section
variable {prog : Program} {w : World} {p : Program} {loose : List Str} {mean : ExcName → Option Value} {mg mb : Str → Option Value} {A A₀ : Around} {env : Env} {outer : List Env} {base h₀ : Heap} {L : Addr} {m : Str → Option Value} {s : Shared} {sub : List (Addr × Obj)} {Q E : Value → Shared → Prop}
  {R : Result → Shared → Prop}

theorem lenL9 {a : Addr} {vs : List Value} {ns : List Int} (hl : s.heap.IsList a vs.toArray) (hi : IntsAre vs ns) (hn : ns.length ≤ 100) (h : ∀ t, Q (.int (ns.length : Nat) t) { s with toks := s.toks + 1 + 1 }) : wpAny (model prog w) A (call (.builtin "len") [.ref a]) Q E s := by
  have e : vs.toArray.size = ns.length := by simp [hi.length]
  refine len_list hl (by rw [e]; omega) (by rw [e]; exact h _)

local macro_rules | `(tactic| walk_at "eval ListComp") => `(tactic| (k_here; refine stop9 ?_))
local macro_rules | `(tactic| walk_at "pyIter") => `(tactic| (k_here; refine stop9 ?_))
local macro_rules | `(tactic| walk_at "call builtin:len") => `(tactic| (k_here; refine stop9 ?_))
local macro_rules | `(tactic| walk_at "subscriptTail Name BinOp ref int") => `(tactic| (k_here; refine stop9 ?_))
local macro_rules | `(tactic| walk_at "binaryOp Mod int int") => `(tactic| (k_here; refine stop9 ?_))
local macro_rules | `(tactic| walk_at "eval Name") => `(tactic| (k_here; (with_reducible show wpAny _ _ (eval (Expr.Name _ _) (compEnvC _ _ _ _)) _ _ _); k_dflt (first
  | refine ldOwn9 (by assumption) (by assumption) ?_
  | refine ldCell9 (by assumption) (by rfl) ?_
  | refine LCgL.ld_global (by k_asm) (by k_asm) (by k_asm) (by k_is) ?_
  | refine LCgL.ld_built (by k_asm) (by k_asm) (by k_asm) (by k_is) (by boot_by_name) (by decide) ?_)))

def numOf (ns : List Int) (k : Nat) : Int := ns.getD (k % ns.length) 0

set_option maxHeartbeats 400000 in
theorem numbers_code {l : Addr} {vs : List Value} {ns : List Int} {t : Tok} (c : Mine.Cl w p loose mean mg mb A env outer A₀ base h₀ L s.heap m) (hl : s.heap.IsList l vs.toArray) (hi : IntsAre vs ns) (hn : ns.length ≤ 100) (hdep : A.depth + 4 < recursionLimit)
    (k : ∀ h' tk' l' vs', Kp [] s.heap h' → h'.get? l' = some (lst vs') → s.heap.objs.size ≤ l' → IntsAre vs' ((List.range 16).map (numOf ns)) → R (.ok (.ret (.ref l'))) { s with heap := h', toks := tk' }) :
    codeAny (model prog w) A (.call (.ref 227) ⟨[.ref l, .int 16 t], []⟩) R s := by
  have N : News h₀ L s.heap [] := News.nil
  k_dflt (refine' enter9C (binds := [(Str.ofString "script", .ref l), (Str.ofString "count", .int 16 t)]) c N ?k6 ?k7 ?k8 ?k9 ?kB ?kD ?_ ?c2 ?c3 ?c4; (case k6 => k_is); (case k7 => k_is); (case k8 => omega); (case k9 => first | exact BindsTo.of_eq rfl | exact binds_K (by k_in) rfl (by k_is) rfl rfl rfl); (case kB => exact rfl); (case kD => decide +kernel); (case c2 => exact rfl); (case c3 => exact rfl); (case c4 => exact rfl); k_whole; intro g' L' h' tk' cells' F' N' Y' B' X' T' keep' above' l1; (try k_lt l1); k_cells Y'; (try simp only [List.cons_append, List.nil_append] at N'); (try dsimp only); (try k_fold))
  refine with_cd c B' F' rfl rfl fun cd => ?_
  k_steps
  unfold Stop9
  k_dflt (refine comp9 (by rfl) (by decide) (by rfl) (by decide) (by rfl) ?_)
  k_steps
  unfold Stop9
  (with_reducible rename @Eq Data _ _ => d9); (with_reducible rename IsRange _ _ _ _ _ _ _ _ => R9); (with_reducible rename News _ _ _ _ => N9); (with_reducible rename Fr _ _ _ _ => F9)
  have hk1 := kp_of (ch := []) keep' F9 N N9 (by simp)
  try dsimp only
  refine rangeComp9 16 R9 rfl (by omega) (by exact c.hh) (fun k => some (numOf ns k)) (fun C i t h tk m₂ hi' hns hx hk hC => turn_nil9 ?_) (fun D h tk vs hk hD hDs hi => ?_)
  · have cell9 : h.IsCell (L' + 1) (some (.ref l)) := ⟨_, hk _ _ (N9 _ (.head _)).1, d9⟩
    have hl3 : h.IsList l vs.toArray := hl.at fun o e => hk _ o (hk1 _ o (by simp) e)
    have F3 : Fr g' L' h _ := ⟨F9.ns.keeps hk, fun b o e => hk b o (F9.keep b o e), F9.above⟩
    k_steps
    unfold Stop9
    refine lenL9 hl3 hi hn fun t2 => ?_
    by_cases hpos : ns.length = 0
    · rw [hpos]
      k_steps
      have h0 : numOf ns i = 0 := by unfold numOf; rw [List.length_eq_zero_iff.mp hpos]; rfl
      exact ⟨_, _, rfl, fun b o e => e, rfl, _, by rw [h0]⟩
    · obtain ⟨nn, hnn⟩ : ∃ nn, ns.length = nn + 1 := ⟨ns.length - 1, by omega⟩
      have hgt : (0 : Int) < ((nn + 1 : Nat) : Int) := by omega
      rw [hnn]
      k_steps
      · unfold Stop9
        refine lenL9 hl3 hi hn fun t3 => ?_
        rw [hnn]
        k_steps
        unfold Stop9
        refine mod_int (by omega) ?_
        k_steps
        unfold Stop9
        have e1 : ((i : Nat) : Int).fmod ((nn + 1 : Nat) : Int) = ((i % (nn + 1) : Nat) : Int) := by
          rw [Int.fmod_eq_emod_of_nonneg _ (by omega)]; omega
        rw [e1]
        have hlt : i % (nn + 1) < ns.length := by rw [hnn]; exact Nat.mod_lt _ (by omega)
        obtain ⟨t4, e4⟩ := hi.get (i % (nn + 1)) ns[i % (nn + 1)] (by simp [hlt])
        refine item_list hl3 (by omega) (by omega) (by rw [Int.toNat_natCast]; simpa using e4) ?_
        have h0 : numOf ns i = ns[i % (nn + 1)] := by
          unfold numOf
          rw [List.getD_eq_getElem?_getD]
          simp only [hnn]
          rw [List.getElem?_eq_getElem hlt]; rfl
        exact ⟨_, _, rfl, fun b o e => e, rfl, _, by rw [h0]⟩
  · k_steps
    refine k _ _ _ _ (fun b o hb e => hk b o (hk1 b o hb e)) hD ?_ ?_
    · exact Nat.le_trans above' (Nat.le_of_lt (Nat.lt_of_lt_of_le F9.ns.lt hDs))
    · rw [fm_some] at hi; exact hi
end
end Mine
end
theorem Mine.calm9a23 : True ∧ True := by
  w_top off
  (try walk1) <;> (first | exact True.intro | exact ⟨True.intro, True.intro⟩)

/-! part P23 -/
section
open PySem PySem.W PySem.Calls PySem.Spec PyProof.Rows
namespace Mine
theorem fill9r : PySem.Challenge.rw_fs0001_01 = PySem.Challenge.rw_fs0001_01 ∧ ∀ (w : World) h, (hd.heap_39 w.params).In h → True := by
  k_fill
  exact ⟨rfl, fun _ _ _ => trivial⟩

/-- what `dict.fromkeys` makes of such an object -/
def Fk9 (prog : Program) (w : World) (o : Obj) (Rk : List Int → Prop) : Prop :=
  ∀ (s : Shared) (A : Around) (l : Addr) (Q E : Value → Shared → Prop), A.handled = none → s.heap.get? l = some o →
    (∀ h' tk rs, Rk rs → h'.DictOf (intKind prog w) s.heap.objs.size (kv rs) → (∀ b o, s.heap.get? b = some o → h'.get? b = some o) → Q (.ref s.heap.objs.size) { s with heap := h', toks := tk }) →
    codeAny (model prog w) A (.builtin "dict.fromkeys" ⟨[.type "dict", .ref l], []⟩) (wants Q E) s
theorem fk9_list {prog : Program} {w : World} {o : Obj} {vs : List Value} {ns : List Int} (ho : IsL o vs) (hi : IntsAre vs ns) (hsz : ns.length ≤ 100) : Fk9 prog w o (fun rs => rs = addA [] ns) :=
  fun _ _ _ _ _ hh hl k => fkList hh (ho.at hl) hi hsz fun h' tk hd hk => k h' tk _ rfl hd hk

section
variable {prog : Program} {w : World} {p : Program} {loose : List Str} {mean : ExcName → Option Value} {mg mb : Str → Option Value} {A A₀ : Around} {env : Env} {outer : List Env} {base h₀ : Heap} {L : Addr} {m : Str → Option Value} {s : Shared} {news : List (Addr × Obj)} {Q E : Value → Shared → Prop} {R : Result → Shared → Prop} {Rk : List Int → Prop}

theorem fkGen9 {x l : Addr} {lo : Obj} (F : Fr h₀ L s.heap m) (N : News h₀ L s.heap news) (hlim : h₀.NoLimit) (hh : A.handled = none) (hx : (x, fkObj) ∈ news) (hl : (l, lo) ∈ news) (hfk : Fk9 prog w lo Rk)
    (k : ∀ c h' tk o' rs, Fr h₀ L h' m → News h₀ L h' ((c, o') :: news) → (∀ p ∈ news, p.1 < c) → L < c → (c == sysModules) = false → Stop8 (Rk rs ∧ o'.IsDictOf (intKind prog w) (kv rs)) → Q (.ref c) { s with heap := h', toks := tk }) :
    wpAny (model prog w) A (call (.ref x) [.ref l]) Q E s := by
  refine callFk (fkAt_of N hx) (hfk _ _ _ _ _ hh (N _ hl).1 fun h' tk rs hr hd hk => ?_)
  obtain ⟨o', ho', hd'⟩ := Heap.dictOf_iff.mp hd
  obtain ⟨F', N'⟩ := led_new F N hk ho' (Nat.le_refl _)
  exact k _ h' tk o' rs F' N' (fun p hp => Heap.lt_size (N p hp).1) F.ns.lt (F.notModules (modules_low hlim)) ⟨hr, hd'⟩

local macro_rules | `(tactic| walk_at "getMethod type:dict") => `(tactic| (k_here; k_dflt (refine' getFk ?kbF ?kbN ?kbX ?kbE ?_; (case kbF => k_asm); (case kbN => k_asm); (case kbX => k_asm); (case kbE => k_is); k_whole; intro x' h' F' N' l1; (try k_lt l1); (try k_sweep))))
local macro_rules | `(tactic| walk_at "callWith ref") => `(tactic| (k_here; (with_reducible show wpAny _ _ (callWith _ (Value.ref _) _ (backTo _ (starEach (_ :: _) _)) []) _ _ _); k_dflt (refine' callWith_fk ?kbN ?kbM ?_; (case kbN => k_asm); (case kbM => k_mem); k_whole)))
local macro_rules | `(tactic| walk_at "And") => `(tactic| ((with_reducible show FkAt _ _ ∧ _); k_dflt (refine ⟨fkAt_of (by k_asm) (by k_mem), ?_⟩); (try dsimp only [List.nil_append, List.cons_append])))
local macro_rules | `(tactic| walk_at "call ref") => `(tactic| (k_here; (with_reducible show wpAny _ _ (call (Value.ref _) [Value.ref _]) _ _ _); k_dflt (refine' fkGen9 ?F ?N ?l ?h ?x ?y ?z ?_; (case F => k_asm); (case N => k_asm); (case l => exact Top.nolimit (by k_asm)); (case h => first | rfl | assumption); (case x => k_mem); (case y => k_mem); (case z => assumption); k_whole; intro c' h' tk' o' rs' F' N' l1 l2 lo' hd'; (try k_lt l1); (try k_lt2 l2); (try k_sweep))))

set_option maxHeartbeats 4000000 in
theorem init_code {x dx l : Addr} {o : Obj} (c : Mine.Cl w p loose mean mg mb A env outer A₀ base h₀ L s.heap m)
    (N : News h₀ L s.heap [(x, instObj 217 dx), (dx, dictOf [] 0), (l, o)]) (hfk : Fk9 prog w o Rk) (h1 : x ≠ dx) (h2 : x ≠ l) (h3 : dx ≠ l) (hdep : A.depth + 4 < recursionLimit) 
    (k : ∀ d' h' tk' o' hs tk rs, Kp [dx] s.heap h' → h'.get? dx = some (dictOf [⟨hs, .str (Str.ofString "_data") tk, .ref d'⟩] 1) → h'.get? d' = some o' → s.heap.objs.size ≤ d' → (d' == sysModules) = false → Rk rs → o'.IsDictOf (intKind prog w) (kv rs) → R (.ok (.ret .none)) { s with heap := h', toks := tk' }) :
    codeAny (model prog w) A (.call (.ref 36) ⟨[.ref x, .ref l], []⟩) R s := by
  have a1 := neN h2
  have a2 := neN h3
  have X := c.X.keeps fun b o e => c.F.keep b o (c.B.stays b o e)
  have hh := c.hh
  have a3 := neN h1
  k_dflt (refine' enter9 (binds := [(Str.ofString "self", .ref x), (Str.ofString "iterable", .ref l)]) c N ?k6 ?k7 ?k8 ?k9 ?kB ?_ ?c5 ?c2 ?c3 ?c4; (case k6 => k_is); (case k7 => k_is); (case k8 => omega); (case k9 => first | exact BindsTo.of_eq rfl | exact binds_K (by k_in) rfl (by k_is) rfl rfl rfl); (case c5 => decide); (case kB => exact locs rfl); (case c2 => exact rfl); (case c3 => exact rfl); (case c4 => exact rfl); k_whole; intro g' L' h' F' N' B' X' T' keep' above'; (try dsimp only); (try k_fold))
  k_steps
  (with_reducible rename News _ _ _ _ => N9); (with_reducible rename Fr _ _ _ _ => F9); (with_reducible rename Stop8 _ => D9)
  refine k _ _ _ _ _ _ _ (kp_of keep' F9 N N9 (by simp)) (N9 _ (.tail _ (.tail _ (.tail _ (.head _))))).1 (N9 _ (.head _)).1 (by omega) (by assumption) D9.out.1 D9.out.2

theorem cls_code {l : Addr} {o : Obj} (c : Mine.Cl w p loose mean mg mb A env outer A₀ base h₀ L s.heap m) (N : News h₀ L s.heap [(l, o)]) (hfk : Fk9 prog w o Rk) (hsm : ∀ rs, Rk rs → sm rs) (hdep : A.depth + 8 < recursionLimit)
    (k : ∀ x d h' tk' rs, Kp [] s.heap h' → Rk rs → NewOS prog w s.heap h' x d rs → R (.ok (.ret (.ref x))) { s with heap := h', toks := tk' }) :
    codeAny (model prog w) A (.call (.ref 217) ⟨[.ref l], []⟩) R s := by
  have X := (c.X.keeps c.B.stays).keeps c.F.keep
  have F₁ := (c.F.push emptyDict).push (instObj 217 s.heap.objs.size)
  have N₁ := (N.push c.F emptyDict).push (c.F.push _) (instObj 217 s.heap.objs.size)
  rw [Heap.size_push] at N₁
  have lt := Heap.lt_size (N _ (.head _)).1
  have kp₁ : ∀ b o, s.heap.get? b = some o → ((s.heap.push emptyDict).push (instObj 217 s.heap.objs.size)).get? b = some o := fun b o e => Heap.get?_push_of_some _ (Heap.get?_push_of_some _ e)
  have hm : makesIn (hd.heap_39 w.params) 217 = true := by k_is
  have hi : findIn (hd.heap_39 w.params) (.ref 217) "__init__" = some (some (.ref 36)) := by k_is
  have hf : isFn (hd.heap_39 w.params) (.ref 36) = true := by k_is
  have body : codeAny (model prog w) (A.under (.builtin "type.__call__" ⟨[.ref 217, .ref l], []⟩)) (.call (.ref 36) ⟨[.ref (s.heap.objs.size + 1), .ref l], []⟩) (InitBack (s.heap.objs.size + 1) R) { s with heap := (s.heap.push emptyDict).push (instObj 217 s.heap.objs.size) } := by
    refine init_code (s := { s with heap := (s.heap.push emptyDict).push (instObj 217 s.heap.objs.size) }) (Cl.like (s' := { s with heap := (s.heap.push emptyDict).push (instObj 217 s.heap.objs.size) }) c F₁ rfl rfl) N₁ hfk (Nat.ne_of_gt (Nat.lt_succ_self _)) (Nat.ne_of_gt (Nat.lt_succ_of_lt lt)) (Nat.ne_of_gt lt) (by have e : (A.under (.builtin "type.__call__" ⟨[.ref 217, .ref l], []⟩)).depth = A.depth + 1 := rfl; omega) fun d' h' tk' o' hs tk rs hk hdx hd' hsz hlo hr ho' => ?_
    have hsz2 : s.heap.objs.size ≤ d' := by
      have : ((s.heap.push emptyDict).push (instObj 217 s.heap.objs.size)).objs.size = s.heap.objs.size + 1 + 1 := by rw [Heap.size_push, Heap.size_push]
      have hsz' : ((s.heap.push emptyDict).push (instObj 217 s.heap.objs.size)).objs.size ≤ d' := hsz
      rw [this] at hsz'; exact Nat.le_trans (by omega) hsz'
    refine ⟨rfl, k _ d' h' tk' rs (fun b o hb e => hk b o (by simpa using Nat.ne_of_lt (Heap.lt_size e)) (kp₁ b o e)) hr ⟨_, hs, tk, 1, o', hk _ _ (by simpa using Nat.ne_of_gt (Nat.lt_succ_self _)) (N₁ _ (.head _)).1, hdx, hd', Nat.le_succ _, Nat.le_refl _, hsz2, ho', hlo, hsm rs hr⟩⟩
  obtain ⟨hh, g, d, t, os⟩ := s
  exact make_core (makes_of X hm) (looks_findIn X hi) (fun self => bind_fn X self (beq_iff_eq.mp hf)) (.inl rfl) body
end
end Mine
end
theorem Mine.calm9a24 : True ∧ True := by
  w_top off
  (try walk1) <;> (first | exact True.intro | exact ⟨True.intro, True.intro⟩)

/-! part P24 -/
section
open PySem PySem.W PySem.Calls PySem.Spec PyProof.Rows PyProof.Rows.LCg
namespace Mine
theorem fill9s : PySem.Challenge.rw_fs0001_01 = PySem.Challenge.rw_fs0001_01 ∧ ∀ (w : World) h, (hd.heap_39 w.params).In h → True := by
  k_fill
  exact ⟨rfl, fun _ _ _ => trivial⟩

theorem Fr.kp9 {h₀ h h' : Heap} {L : Addr} {m : Str → Option Value} (F : Fr h₀ L h m) (hk : ∀ b o, h.get? b = some o → h'.get? b = some o) : Fr h₀ L h' m := ⟨F.ns.keeps hk, fun b o e => hk b o (F.keep b o e), F.above⟩
theorem News.kp9 {h₀ h h' : Heap} {L : Addr} {news : List (Addr × Obj)} (N : News h₀ L h news) (hk : ∀ b o, h.get? b = some o → h'.get? b = some o) : News h₀ L h' news := fun p hp => ⟨hk _ _ (N p hp).1, (N p hp).2⟩
theorem Kp.all {h h' : Heap} (hk : Kp [] h h') : ∀ b o, h.get? b = some o → h'.get? b = some o := fun b o e => hk b o (by simp) e

section
variable {prog : Program} {w : World} {p : Program} {loose : List Str} {mean : ExcName → Option Value} {mg mb : Str → Option Value} {A A₀ : Around} {env : Env} {outer : List Env} {base h₀ : Heap} {L : Addr} {m : Str → Option Value} {s : Shared} {sub : List (Addr × Obj)} {Q E : Value → Shared → Prop}
  {R : Result → Shared → Prop}

local macro_rules | `(tactic| walk_at "eval ListComp") => `(tactic| (k_here; refine stop9 ?_))
local macro_rules | `(tactic| walk_at "pyIter") => `(tactic| (k_here; refine stop9 ?_))
local macro_rules | `(tactic| walk_at "call builtin:len") => `(tactic| (k_here; refine stop9 ?_))
local macro_rules | `(tactic| walk_at "call type:list") => `(tactic| (k_here; refine stop9 ?_))
local macro_rules | `(tactic| walk_at "call type:reversed") => `(tactic| (k_here; refine stop9 ?_))
local macro_rules | `(tactic| walk_at "call ref") => `(tactic| (k_here; refine stop9 ?_))
local macro_rules | `(tactic| walk_at "compareOp NotEq ref ref") => `(tactic| (k_here; refine stop9 ?_))
local macro_rules | `(tactic| walk_at "compareOp Eq ref ref") => `(tactic| (k_here; refine stop9 ?_))
local macro_rules | `(tactic| walk_at "compareOp In int ref") => `(tactic| (k_here; refine stop9 ?_))
local macro_rules | `(tactic| walk_at "subscriptTail Name BinOp ref int") => `(tactic| (k_here; refine stop9 ?_))
local macro_rules | `(tactic| walk_at "subscriptTail Name Constant ref int") => `(tactic| (k_here; refine stop9 ?_))
local macro_rules | `(tactic| walk_at "subscriptTail Name UnaryOp ref int") => `(tactic| (k_here; refine stop9 ?_))
local macro_rules | `(tactic| walk_at "eval Name") => `(tactic| (k_here; (with_reducible show wpAny _ _ (eval (Expr.Name _ _) (compEnvC _ _ _ _)) _ _ _); k_dflt (first
  | refine ldOwn9 (by assumption) (by assumption) ?_
  | (refine' ldCell9 ?hc ?hx ?_; (case hx => exact rfl); (case hc => assumption))
  | refine LCgL.ld_global (by k_asm) (by k_asm) (by k_asm) (by k_is) ?_
  | refine LCgL.ld_built (by k_asm) (by k_asm) (by k_asm) (by k_is) (by boot_by_name) (by decide) ?_)))

local macro_rules | `(tactic| walk_at "compareOp NotEq int int") => `(tactic| (k_here; refine stop9 ?_))
local macro_rules | `(tactic| walk_at "compareOp NotEq bool bool") => `(tactic| (k_here; refine stop9 ?_))

theorem itemNeg9 {value slice : Expr} {l : Addr} {vs : List Value} {ns : List Int} {k : Int} {u : Tok} (hl : s.heap.IsList l vs.toArray) (hi : IntsAre vs ns) (hn : ns.length ≤ 100) (h0 : k < 0) (h1 : -(ns.length : Int) ≤ k) (h : ∀ t, Q (.int (ns.getD (k + ns.length).toNat 0) t) s)
    (hs : subscripted slice false (.ref l) (.int k u) = operate [.ref l, .int k u] (getItem (.ref l) (.int k u)) := by with_unfolding_all rfl) (hg : ∀ r, letTemporaryGo value (.ref l) r = pure () := by intro _; with_unfolding_all rfl) :
    wpAny (model prog w) A (subscriptTail value slice (.ref l) (.int k u)) Q E s := by
  have e : vs.toArray.size = ns.length := by simp [hi.length]
  have hlt : (k + ns.length).toNat < ns.length := by omega
  obtain ⟨t, ht⟩ := hi.get (k + ns.length).toNat ns[(k + ns.length).toNat] (by simp [hlt])
  refine subscriptTail_builtin hl.typeIs slot_list_getitem.lookup (wpAny_getItem_list_neg hl h0 (by rw [e]; exact h1) (by omega) (x := .int ns[(k + ns.length).toNat] t) (by rw [e]; simpa using ht) ?_) hs hg
  have := h t
  rw [List.getD_eq_getElem?_getD, List.getElem?_eq_getElem hlt] at this
  exact this

theorem itemPos9 {value slice : Expr} {l : Addr} {vs : List Value} {ns : List Int} {k : Int} {u : Tok} (hl : s.heap.IsList l vs.toArray) (hi : IntsAre vs ns) (hn : ns.length ≤ 100) (h0 : 0 ≤ k) (h1 : k < ns.length) (h : ∀ t, Q (.int (ns.getD k.toNat 0) t) s)
    (hs : subscripted slice false (.ref l) (.int k u) = operate [.ref l, .int k u] (getItem (.ref l) (.int k u)) := by with_unfolding_all rfl) (hg : ∀ r, letTemporaryGo value (.ref l) r = pure () := by intro _; with_unfolding_all rfl) :
    wpAny (model prog w) A (subscriptTail value slice (.ref l) (.int k u)) Q E s := by
  have hlt : k.toNat < ns.length := by omega
  obtain ⟨t, ht⟩ := hi.get k.toNat ns[k.toNat] (by simp [hlt])
  refine item_list hl h0 (by omega) (x := .int ns[k.toNat] t) (by simpa using ht) ?_ hs hg
  have := h t
  rw [List.getD_eq_getElem?_getD, List.getElem?_eq_getElem hlt] at this
  exact this

set_option maxHeartbeats 1000000 in
theorem seen_code {x d l : Addr} {ks : List Int} (c : Mine.Cl w p loose mean mg mb A env outer A₀ base h₀ L s.heap m) (O : OSN prog w h₀ L s.heap x d ks) (Ol : LSN h₀ L s.heap l ks) (hdep : A.depth + 20 < recursionLimit) (hu : A.units + 100 < cLine)
    (k : ∀ h' tk', Kp [] s.heap h' → R (.ok (.ret (.bool true))) { s with heap := h', toks := tk' }) :
    codeAny (model prog w) A (.call (.ref 244) ⟨[.ref x, .ref l], []⟩) R s := by
  have hlen := O.len
  obtain ⟨dx, hs, tk₀, n₀, o, N0, ho, lo, h7s⟩ := O
  obtain ⟨os, vs, Nl, hos, hi⟩ := Ol
  have N : News h₀ L s.heap [(x, instObj 217 dx), (dx, dictOf [⟨hs, .str (Str.ofString "_data") tk₀, .ref d⟩] n₀), (d, o), (l, os)] := fun p hp => by
    rcases List.mem_append.mp (show p ∈ [(x, instObj 217 dx), (dx, dictOf [⟨hs, .str (Str.ofString "_data") tk₀, .ref d⟩] n₀), (d, o)] ++ [(l, os)] from hp) with hp | hp
    · exact N0 p hp
    · exact Nl p hp
  k_dflt (refine' enter9C (binds := [(Str.ofString "found", .ref x), (Str.ofString "row", .ref l)]) c N ?k6 ?k7 ?k8 ?k9 ?kB ?kD ?_ ?c2 ?c3 ?c4; (case k6 => k_is); (case k7 => k_is); (case k8 => omega); (case k9 => first | exact BindsTo.of_eq rfl | exact binds_K (by k_in) rfl (by k_is) rfl rfl rfl); (case kB => exact rfl); (case kD => decide +kernel); (case c2 => exact rfl); (case c3 => exact rfl); (case c4 => exact rfl); k_whole; intro g' L' h' tk' cells' F' N' Y' B' X' T' keep' above' l1; (try k_lt l1); k_cells Y'; (try simp only [List.cons_append, List.nil_append] at N'); (try dsimp only); (try k_fold))
  refine with_cd c B' F' rfl rfl fun cd => ?_
  have O1 : OSN prog w g' L' h' x d ks := osn_of N' (.tail _ (.tail _ (.head _))) (.tail _ (.tail _ (.tail _ (.head _)))) (.tail _ (.tail _ (.tail _ (.tail _ (.head _))))) ho lo h7s
  have hl1 : h'.IsList l vs.toArray := hos.at (N' _ (.tail _ (.tail _ (.tail _ (.tail _ (.tail _ (.head _))))))).1
  have hk1 := kp_of (ch := []) keep' F' N N' (by simp)
  have hd1 : (A.deeper (envOfC (Str.ofString "_law_seen") { kind := ScopeKind.function, names := [(Str.ofString "found", NameKind.cell), (Str.ofString "row", NameKind.cell), (Str.ofString "list", NameKind.globalImplicit), (Str.ofString "len", NameKind.globalImplicit), (Str.ofString "reversed", NameKind.globalImplicit), (Str.ofString "range", NameKind.globalImplicit)], isGenerator := false, isCoroutine := false, more := [(Str.ofString "fast", Const.str (Str.ofString "found")), (Str.ofString "fast", Const.str (Str.ofString "row")), (Str.ofString "fast", Const.str (Str.ofString "k")), (Str.ofString "fast", Const.str (Str.ofString "one"))] } L' 244 (Value.ref 243))).depth = A.depth + 1 := rfl
  k_steps
  unfold Stop9
  refine listOS9 cd O1 (by omega) fun D2 h2 tk2 vs2 n2 hk2 hD2 hsz2 hi2 => ?_
  have F2 := Fr.kp9 F' hk2; have N2 := News.kp9 N' hk2
  have hl2 : h2.IsList l vs.toArray := hl1.at fun o e => hk2 _ o e
  have hk2' : Kp [] s.heap h2 := fun b o hb e => hk2 b o (hk1 b o hb e)
  have hkx2 := hk2
  clear hk1 hk2 F' N'
  k_steps
  unfold Stop9
  refine ke_ne_ints ⟨_, hD2, rfl, _, rfl⟩ hl2 hi2 hi (by show A.units + 3 + 64 < _; omega) ?_
  rw [decide_eq_true (rfl : ks = ks)]
  k_steps
  unfold Stop9
  have O2 := OSN.kp O1 (fun b o e => hkx2 b o e)
  refine lenOS9 (Cl.re cd F2) O2 (by omega) fun h3 tk3 t3 hk3 => ?_
  have F3 := Fr.kp9 F2 hk3; have N3 := News.kp9 N2 hk3
  have hl3 : h3.IsList l vs.toArray := hl2.at fun o e => hk3 _ o e
  have hk3' : Kp [] s.heap h3 := fun b o hb e => hk3 b o (hk2' b o hb e)
  have O3 := OSN.kp O2 hk3
  clear hk2' hk3 F2 N2 hl2 O2
  k_steps
  unfold Stop9
  refine lenL9 hl3 hi (by omega) fun t4 => ?_
  k_steps
  unfold Stop9
  refine ne_int ?_
  rw [bne_self_eq_false]
  k_steps
  unfold Stop9
  refine revOS9 (Cl.re cd F3) O3 (by omega) fun I ep h4 tk4 hk4 hi4 ha4 hsz4 => ?_
  k_steps
  unfold Stop9
  refine listRK9 (by exact c.hh) hlen (by have := (OSN.lt (s := { s with heap := h3 }) O3).2; exact Nat.ne_of_lt (Nat.lt_of_lt_of_le this hsz4)) hi4 ha4 fun D5 h5 tk5 vs5 n5 hk5 hD5 hsz5 hi5 => ?_
  have hk35 : ∀ b o, h3.get? b = some o → h5.get? b = some o := fun b o e => hk5 b o (Nat.ne_of_lt (Nat.lt_of_lt_of_le (Heap.lt_size e) hsz4)) (hk4 b o e)
  have F5 := Fr.kp9 F3 hk35; have N5 := News.kp9 N3 hk35
  have hl5 : h5.IsList l vs.toArray := hl3.at fun o e => hk35 _ o e
  have hk5' : Kp [] s.heap h5 := fun b o hb e => hk35 b o (hk3' b o hb e)
  have O5 := OSN.kp O3 hk35
  clear hk3' hk5 hk4 hk35 hi4 ha4 hsz4 F3 N3 hl3 O3
  k_steps
  unfold Stop9
  k_dflt (refine comp9 (by rfl) (by decide) (by rfl) (by decide) (by rfl) ?_)
  k_steps
  unfold Stop9
  refine lenL9 hl5 hi (by omega) fun t6 => ?_
  k_steps
  unfold Stop9
  rename_i R9 F9 N9 kr
  try dsimp only
  refine rangeComp9 ks.length R9 rfl (by omega) (by exact c.hh) (fun k => ks.reverse[k]?) (fun C i t h tk m₂ hi' hns hx hk hC => turn_nil9 ?_) (fun D8 h8 tk8 vs8 hk8 hD8 hDs8 hi8 => ?_)
  · have cell9 : h.IsCell (L' + 1 + 1) (some (.ref l)) := ⟨_, hk _ _ (N9 _ (.head _)).1, by assumption⟩
    have hlh : h.IsList l vs.toArray := hl5.at fun o e => hk _ o (kr _ o e)
    k_steps
    unfold Stop9
    refine itemNeg9 hlh hi (by omega) (by omega) (by omega) fun t9 => ?_
    have e9 : ks.reverse[i]? = some (ks.getD (-1 - (i : Int) + ks.length).toNat 0) := by
      rw [List.getElem?_reverse hi', List.getD_eq_getElem?_getD, show (-1 - (i : Int) + ks.length).toNat = ks.length - 1 - i by omega, List.getElem?_eq_getElem (by omega)]; rfl
    refine ⟨_, _, rfl, fun b o e => e, ?_⟩
    rw [e9]
    exact ⟨rfl, _, rfl⟩
  · rw [show (List.range ks.length).filterMap (fun k => ks.reverse[k]?) = ks.reverse by have := range_get ks.reverse; rwa [List.length_reverse] at this] at hi8
    have hk58 : ∀ b o, h5.get? b = some o → h8.get? b = some o := fun b o e => hk8 b o (kr b o e)
    have F8 := Fr.kp9 F9 hk8; have N8 := News.kp9 N9 hk8
    have hl8 : h8.IsList l vs.toArray := hl5.at fun o e => hk58 _ o e
    have hk8' : Kp [] s.heap h8 := fun b o hb e => hk58 b o (hk5' b o hb e)
    have O8 := OSN.kp O5 hk58
    have hD58 := hk58 _ _ hD5
    clear hk5' hl5 O5 F9 N9 kr hk8 hk58 R9
    k_steps
    unfold Stop9
    refine ke_ne_ints ⟨_, hD58, rfl, _, rfl⟩ ⟨_, hD8, rfl, _, rfl⟩ hi5 hi8 (by show A.units + 3 + 64 < _; omega) ?_
    rw [decide_eq_true (rfl : ks.reverse = ks.reverse)]
    k_steps
    unfold Stop9
    k_dflt (refine comp9 (by rfl) (by decide) (by rfl) (by decide) (by rfl) ?_)
    k_steps
    unfold Stop9
    rename_i R9 F9 N9 kr
    try dsimp only
    refine rangeComp9 8 R9 rfl (by omega) (by exact c.hh) (fun k => none) (fun C i t h tk m₂ hi' hns hx hk hC => turn_one9 ?_) (fun D10 h10 tk10 vs10 hk10 hD10 hDs10 hi10 => ?_)
    · have cell8 : h.IsCell (L' + 1) (some (.ref x)) := ⟨_, hk _ _ (N9 _ (.tail _ (.head _))).1, by assumption⟩
      have cell9 : h.IsCell (L' + 1 + 1) (some (.ref l)) := ⟨_, hk _ _ (N9 _ (.head _)).1, by assumption⟩
      have hlh : h.IsList l vs.toArray := hl8.at fun o e => hk _ o (kr _ o e)
      have Oh := OSN.kp O8 (fun b o e => hk _ o (kr _ o e))
      have Fh := Fr.kp9 F9 hk
      k_steps
      unfold Stop9
      refine inOS9 (Cl.re cd Fh) Oh (by omega) fun h11 tk11 hk11 => ?_
      have hns11 : h11.Ns C m₂ := hns.at' fun o e => hk11.all _ o e
      have cell8 : h11.IsCell (L' + 1) (some (.ref x)) := let ⟨o, e, r⟩ := cell8; ⟨o, hk11.all _ _ e, r⟩
      have cell9 : h11.IsCell (L' + 1 + 1) (some (.ref l)) := let ⟨o, e, r⟩ := cell9; ⟨o, hk11.all _ _ e, r⟩
      have hlh : h11.IsList l vs.toArray := hlh.at fun o e => hk11.all _ o e
      k_steps
      unfold Stop9
      refine inL9 hlh hi ?_
      k_steps
      unfold Stop9
      refine ne_bool ?_
      rw [bne_self_eq_false]
      k_steps
      refine ⟨?_⟩
      rw [if_neg (by decide)]
      exact ⟨_, _, rfl, fun b o e => hk11.all b o e, rfl⟩
    · rw [show (List.range 8).filterMap (fun _ => (none : Option Int)) = [] from rfl] at hi10
      obtain ⟨F10, N10⟩ := led_new F9 N9 hk10 hD10 hDs10
      have hk810 : ∀ b o, h8.get? b = some o → h10.get? b = some o := fun b o e => hk10 b o (kr b o e)
      have hl10 : h10.IsList l vs.toArray := hl8.at fun o e => hk810 _ o e
      have hk10' : Kp [] s.heap h10 := fun b o hb e => hk810 b o (hk8' b o hb e)
      have O10 := OSN.kp O8 hk810
      clear hk8' hl8 O8 F9 N9 kr hk10 hk810 R9
      k_steps
      unfold Stop9
      (with_reducible rename News _ _ _ _ => N11); (with_reducible rename Fr _ _ _ _ => F11)
      refine ke_ne_ints ⟨_, (N11 _ (.tail _ (.head _))).1, rfl, _, rfl⟩ ⟨_, (N11 _ (.head _)).1, rfl, _, rfl⟩ hi10 .nil (by show A.units + 3 + 64 < _; omega) ?_
      rw [decide_eq_true (rfl : ([] : List Int) = [])]
      k_steps
      unfold Stop9
      (with_reducible rename News _ _ _ _ => N12); (with_reducible rename Fr _ _ _ _ => F12)
      have hl12 : Heap.IsList _ l vs.toArray := hos.at (N12 _ (.tail _ (.tail _ (.tail _ (.tail _ (.tail _ (.tail _ (.tail _ (.tail _ (.head _)))))))))).1
      refine ke_eq_ints hl12 ⟨_, (N12 _ (.head _)).1, rfl, _, rfl⟩ hi .nil (by show A.units + 3 + 64 < _; omega) ?_
      have hk12 := kp_of (ch := []) keep' F12 N N12 (by simp)
      by_cases hks : ks = []
      · rw [decide_eq_true hks]
        k_steps
        exact k _ _ hk12
      · rw [decide_eq_false hks]
        have O12 : OSN prog w g' L' _ x d ks := osn_of N12 (.tail _ (.tail _ (.tail _ (.tail _ (.tail _ (.head _)))))) (.tail _ (.tail _ (.tail _ (.tail _ (.tail _ (.tail _ (.head _))))))) (.tail _ (.tail _ (.tail _ (.tail _ (.tail _ (.tail _ (.tail _ (.head _)))))))) ho lo h7s
        k_steps
        unfold Stop9
        obtain ⟨k₀, r, e0⟩ := List.exists_cons_of_ne_nil hks
        obtain ⟨r2, kl, e2⟩ : ∃ r2 kl, ks = r2 ++ [kl] := ⟨ks.dropLast, ks.getLast hks, (List.dropLast_concat_getLast hks).symm⟩
        show wpAny _ _ (call (.ref 78) [.ref x]) _ _ _
        refine wpAny_call (first_code (r := r) (Cl.re cd F12) (by rw [← e0]; exact O12) (by omega) fun h13 tk13 t13 hk13 => ?_)
        have F13 := Fr.kp9 F12 hk13.all; have N13 := News.kp9 N12 hk13.all
        clear F12 N12
        k_steps
        unfold Stop9
        show wpAny _ _ (call (.ref 85) [.ref x]) _ _ _
        refine wpAny_call (last_code (r := r2) (Cl.re cd F13) (by rw [← e2]; exact O12.kp hk13.all) (by omega) fun h14 tk14 t14 hk14 => ?_)
        have F14 := Fr.kp9 F13 hk14.all; have N14 := News.kp9 N13 hk14.all
        have hl14 : h14.IsList l vs.toArray := hl12.at fun o e => hk14.all _ o (hk13.all _ o e)
        clear F13 N13
        k_steps
        unfold Stop9
        (with_reducible rename News _ _ _ _ => N15)
        have hl15 : Heap.IsList _ l vs.toArray := hos.at (N15 _ (.tail _ (.tail _ (.tail _ (.tail _ (.tail _ (.tail _ (.tail _ (.tail _ (.tail _ (.head _))))))))))).1
        have hpos : 0 < ks.length := List.length_pos_iff.mpr hks
        refine itemPos9 hl15 hi (by omega) (by omega) (by omega) fun t15 => ?_
        rw [show ks.getD (Int.toNat 0) 0 = k₀ by rw [e0]; rfl]
        k_steps
        unfold Stop9
        refine itemNeg9 hl15 hi (by omega) (by omega) (by omega) fun t16 => ?_
        rw [show ks.getD (-1 + (ks.length : Int)).toNat 0 = kl by rw [show (-1 + (ks.length : Int)).toNat = ks.length - 1 by omega, e2]; simp]
        k_steps
        unfold Stop9
        k_dflt (refine eq_dataH (by ke_read) (by ke_read) (by ke_shaped) (by ke_shaped) (by show A.units + 3 + 64 < _; omega) ?_)
        ke_norm
        (with_reducible rename News _ _ _ _ => N17); (with_reducible rename Fr _ _ _ _ => F17)
        exact k _ _ (kp_of (ch := []) keep' F17 N N17 (by simp))
end
end Mine
end
theorem Mine.calm9a25 : True ∧ True := by
  w_top off
  (try walk1) <;> (first | exact True.intro | exact ⟨True.intro, True.intro⟩)

/-! part P25 -/
section
open PySem PySem.W PySem.Calls PySem.Spec PyProof.Rows
namespace Mine

/-- the members of a set of small numbers, by its mask -/
def sub9 (n : Nat) : List Nat := (List.range 7).filter fun i => n.testBit i
def tab9 (led : Bool) (n : Nat) : SetTable :=
  { mask := if (sub9 n).length < 5 then 7 else 31, place := (sub9 n).toArray, dummies := #[], finger := 0, led := led, moves := if (sub9 n).length < 5 then 0 else 1, plain := true }
def tabA9 (led : Bool) (n : Nat) : SetTable := if (sub9 n).length = 5 then { tab9 led n with mask := 7, moves := 0 } else tab9 led n
def ints9 (n : Nat) : Array Int := ((sub9 n).map fun (i : Nat) => (i : Int)).toArray
def with9 (n k : Nat) : Nat := n ||| (1 <<< k)

def stepOk9 (led : Bool) (n k : Nat) : Bool :=
  ((tab9 led n).freeSlot (k : Int) == some (k, false)) && (decide ((tab9 led n).put k = (tabA9 led (with9 n k), SetTable.below (sub9 n).toArray k))) && (SetTable.insertAt (ints9 n) (SetTable.below (sub9 n).toArray k) (k : Int) == ints9 (with9 n k)) &&
  (tabA9 led (with9 n k)).fits (sub9 (with9 n k)).length && ((tabA9 led (with9 n k)).tooFull == decide ((sub9 (with9 n k)).length = 5)) &&
  (decide ((sub9 (with9 n k)).length ≠ 5) || (decide ((tabA9 led (with9 n k)).relaid (ints9 (with9 n k)) (SetTable.grown 5) = some (tab9 led (with9 n k), #[0, 1, 2, 3, 4])) && (tab9 led (with9 n k)).fits 5)) && decide (with9 n k < 128)
theorem insertAt_list9 {α : Type} (l : List α) (p : Nat) (x : α) : SetTable.insertAt l.toArray p x = (l.take p ++ x :: l.drop p).toArray := by
  unfold SetTable.insertAt
  simp
  exact List.take_of_length_le (by simp)
theorem free9 : ∀ led : Bool, ∀ n < 128, ∀ k < 7, (n.testBit k || ((tab9 led n).freeSlot (Int.ofNat k) == some ((k, false) : Nat × Bool))) = true := by decide +kernel
theorem ins9 : ∀ n < 128, ∀ k < 7, n.testBit k = false → (sub9 n).take (SetTable.below (sub9 n).toArray k) ++ k :: (sub9 n).drop (SetTable.below (sub9 n).toArray k) = sub9 (with9 n k) := by decide +kernel
theorem lt9 : ∀ n < 128, ∀ k < 7, with9 n k < 128 := by decide +kernel
def stepB9 (led : Bool) (N : Nat) : Bool :=
  (tabA9 led N).fits (sub9 N).length && ((tabA9 led N).tooFull == decide ((sub9 N).length = 5)) &&
  (decide ((sub9 N).length ≠ 5) || (decide ((tabA9 led N).relaid (ints9 N) (SetTable.grown 5) = some (tab9 led N, #[0, 1, 2, 3, 4])) && (tab9 led N).fits 5))
theorem stepB_ok9 : ∀ led : Bool, ∀ N < 128, stepB9 led N = true := by
  decide +kernel
theorem put9 (led : Bool) (n : Nat) (hn : n < 128) (k : Nat) (hk : k < 7) (hb : n.testBit k = false) : (tab9 led n).put k = (tabA9 led (with9 n k), SetTable.below (sub9 n).toArray k) := by
  have hi := ins9 n hn k hk hb
  have hl : (sub9 (with9 n k)).length = (sub9 n).length + 1 := by
    rw [← hi, List.length_append, List.length_cons, List.length_take, List.length_drop]; omega
  have hd : SetTable.has #[] k = false := rfl
  unfold SetTable.put tabA9 tab9
  dsimp only
  rw [insertAt_list9, hi, hl, hd]
  by_cases h5 : (sub9 n).length + 1 = 5
  · rw [if_pos h5, if_pos (show (sub9 n).length < 5 by omega), if_pos (show (sub9 n).length < 5 by omega)]; rfl
  · have e : ((sub9 n).length < 5) = ((sub9 n).length + 1 < 5) := by rw [eq_iff_iff]; omega
    rw [if_neg h5]; simp only [e]; rfl
theorem step_ok9 (led : Bool) (n : Nat) (hn : n < 128) (k : Nat) (hk : k < 7) (hb : n.testBit k = false) : stepOk9 led n k = true := by
  have a1 := free9 led n hn k hk
  rw [hb, Bool.false_or] at a1
  have a3 : SetTable.insertAt (ints9 n) (SetTable.below (sub9 n).toArray k) (k : Int) = ints9 (with9 n k) := by
    unfold ints9
    rw [insertAt_list9, ← ins9 n hn k hk hb, List.map_append, List.map_cons, List.map_take, List.map_drop]
  have b := stepB_ok9 led (with9 n k) (lt9 n hn k hk)
  simp only [stepB9, Bool.and_eq_true] at b
  obtain ⟨⟨b1, b2⟩, b3⟩ := b
  simp only [stepOk9, Bool.and_eq_true]
  exact ⟨⟨⟨⟨⟨⟨a1, decide_eq_true (put9 led n hn k hk hb)⟩, beq_iff_eq.mpr a3⟩, b1⟩, b2⟩, b3⟩, decide_eq_true (lt9 n hn k hk)⟩
theorem sub_bit9 : ∀ n < 128, ∀ k < 7, ∀ j < 7, (with9 n k).testBit j = (n.testBit j || decide (j = k)) := by decide +kernel
end Mine
end
theorem Mine.calm9a26 : True ∧ True := by
  w_top off
  (try walk1) <;> (first | exact True.intro | exact ⟨True.intro, True.intro⟩)

/-! part P26 -/
section
open PySem PySem.W PySem.Calls PySem.Spec PyProof.Rows
namespace Mine

def led9 (w : World) : Bool := !(w.params.followText "set-order")
def Ent9 (es : Array (Int × Value)) (n : Nat) : Prop := es.map (·.1) = ints9 n ∧ ∀ e ∈ es.toList, ∃ t, e.2 = .int e.1 t
def setObj9 (w : World) (es : Array (Int × Value)) (ep n : Nat) : Obj := { cls := .type "set", data := .set es ep (tab9 (led9 w) n) }
def SetIs9 (w : World) (o : Obj) (n : Nat) : Prop := n < 128 ∧ ∃ es ep, o = setObj9 w es ep n ∧ Ent9 es n

theorem fits9 : ∀ led : Bool, ∀ n < 128, (tab9 led n).fits (sub9 n).length = true := by decide +kernel
theorem small9 : ∀ n < 128, ∀ i ∈ sub9 n, i < 7 ∧ n.testBit i = true := by decide +kernel
theorem has9 : ∀ n < 128, ∀ i < 7, n.testBit i = true → i ∈ sub9 n := by decide +kernel
theorem len9 : ∀ n < 128, (sub9 n).length ≤ 7 := by decide +kernel
theorem nodup9 : ∀ n < 128, (sub9 n).Nodup := by decide +kernel
theorem same9 : ∀ n < 128, ∀ k < 7, n.testBit k = true → with9 n k = n := by decide +kernel
theorem hash9 : ∀ k : Nat, k < 7 → hashInt (k : Int) = (k : Int) := by decide +kernel

theorem Ent9.size {es : Array (Int × Value)} {n : Nat} (h : Ent9 es n) : es.size = (sub9 n).length := by
  have := congrArg Array.size h.1
  simpa [ints9] using this
theorem Ent9.keys {es : Array (Int × Value)} {n : Nat} (h : Ent9 es n) : es.toList.map (·.1) = (sub9 n).map fun (i : Nat) => (i : Int) := by
  have := congrArg Array.toList h.1
  simpa [ints9] using this
theorem Ent9.mem {es : Array (Int × Value)} {n : Nat} (h : Ent9 es n) {e : Int × Value} (he : e ∈ es.toList) : ∃ i, i ∈ sub9 n ∧ e.1 = (i : Int) ∧ ∃ t, e.2 = .int i t := by
  have h1 : e.1 ∈ es.toList.map (·.1) := List.mem_map_of_mem he
  rw [h.keys] at h1
  obtain ⟨i, hi, e1⟩ := List.mem_map.mp h1
  obtain ⟨t, e2⟩ := h.2 e he
  exact ⟨i, hi, e1.symm, t, by rw [e2, ← e1]⟩
theorem Ent9.of {es : Array (Int × Value)} {n i : Nat} (h : Ent9 es n) (hi : i ∈ sub9 n) : ∃ e ∈ es.toList, ∃ t, e.2 = .int (i : Nat) t := by
  have h1 : (i : Int) ∈ es.toList.map (·.1) := by rw [h.keys]; exact List.mem_map_of_mem hi
  obtain ⟨e, he, e1⟩ := List.mem_map.mp h1
  obtain ⟨t, e2⟩ := h.2 e he
  exact ⟨e, he, t, by rw [e2, e1]⟩

section
variable {prog : Program} {w : World} {A : Around} {E : Value → Shared → Prop} {s : Shared} {a : Addr} {n : Nat} {es : Array (Int × Value)} {ep : Nat} {o : Obj}

theorem Ent9.elems (h : Ent9 es n) (hn : n < 128) : ElemsOf (intKind prog w) es.toList := by
  intro e he
  obtain ⟨i, hi, e1, t, e2⟩ := h.mem he
  refine ⟨⟨(i : Int), by rw [e2]; exact intKind_is _ _ _ _, ?_⟩, by rw [e2]; rfl⟩
  rw [e1]; exact (hash9 i (small9 n hn i hi).1).symm
theorem Ent9.has (h : Ent9 es n) (hn : n < 128) {k : Nat} (hk : k < 7) : n.testBit k = true ↔ ∃ e ∈ es.toList, (intKind prog w).is (k : Int) e.2 = true := by
  constructor
  · intro hb
    obtain ⟨e, he, t, e2⟩ := h.of (has9 n hn k hk hb)
    exact ⟨e, he, by rw [e2]; exact intKind_is _ _ _ _⟩
  · rintro ⟨e, he, hi⟩
    obtain ⟨i, hm, e1, t, e2⟩ := h.mem he
    rw [e2] at hi
    obtain ⟨t', e3⟩ := Value.isInt_shape (k := (k : Int)) (v := .int (i : Nat) t) hi
    have : (i : Int) = k := by injection e3
    have : i = k := by omega
    subst this
    exact (small9 n hn i hm).2
theorem SetIs9.setOf (hS : SetIs9 w o n) (ho : s.heap.get? a = some o) : s.heap.SetOf (intKind prog w) a (fun k => decide (0 ≤ k ∧ k < 7) && n.testBit k.toNat) (sub9 n).length := by
  obtain ⟨hn, es, ep, rfl, h⟩ := hS
  refine ⟨_, es, ep, _, ho, ⟨rfl, rfl, rfl⟩, rfl, h.elems hn, fun k => ?_, by rw [h.size]; have := len9 n hn; show _ < 4096; omega, by rw [h.size]; exact fits9 _ n hn, h.size⟩
  constructor
  · intro hk
    obtain ⟨h1, h2⟩ := Bool.and_eq_true_iff.mp hk
    have h1 := of_decide_eq_true h1
    have h3 := (h.has (prog := prog) (w := w) hn (k := k.toNat) (by omega)).mp h2
    rwa [show ((k.toNat : Nat) : Int) = k by omega] at h3
  · rintro ⟨e, he, hi⟩
    obtain ⟨i, hm, e1, t, e2⟩ := h.mem he
    have hi7 := (small9 n hn i hm)
    rw [e2] at hi
    obtain ⟨t', e3⟩ := Value.isInt_shape (k := k) (v := .int (i : Nat) t) hi
    have e4 : (i : Int) = k := by injection e3
    subst e4
    show (decide (0 ≤ (i : Int) ∧ (i : Int) < 7) && n.testBit (i : Int).toNat) = true
    rw [decide_eq_true (by omega), Int.toNat_natCast, hi7.2]; rfl

theorem setFind9 {k : Nat} {t : Tok} {Q : Option Nat → Shared → Prop} (hS : SetIs9 w o n) (ho : s.heap.get? a = some o) (hk : k < 7) (h : ∀ r : Option Nat, r.isSome = n.testBit k → Q r s) :
    wpAny (model prog w) A (setFind a (.int k t) (hashInt k)) Q E s := by
  have hh : hashInt (k : Int) = (intKind prog w).hash (k : Int) := rfl
  rw [hh]
  refine wpAny_setFind_of (knd := intKind prog w) (k := (k : Int)) (x := .int k t) (intKind_is _ _ _ _) rfl (hS.setOf ho) fun r hr => h r ?_
  rw [hr]
  show (decide (0 ≤ (k : Int) ∧ (k : Int) < 7) && n.testBit (k : Int).toNat) = _
  rw [decide_eq_true (by omega), Int.toNat_natCast]; rfl

theorem newSet9 {Q : Value → Shared → Prop} (h : ∀ o, SetIs9 w o 0 → Q (.ref s.heap.objs.size) { s with heap := s.heap.push o }) : wpAny (model prog w) A (newSet (.type "set")) Q E s := by
  unfold newSet setsByText
  refine wpAny_bind (wpAny_bind (wpAny_askSetting (wpAny_pure ?_)))
  dsimp only
  simp only [newObj]
  exact wpAny_bind (wpAny_alloc (wpAny_pure (h _ ⟨by decide, #[], 0, rfl, by decide +kernel, fun e he => by simp at he⟩)))

theorem map_insertAt9 (es : Array (Int × Value)) (p : Nat) (x : Int × Value) : (SetTable.insertAt es p x).map (·.1) = SetTable.insertAt (es.map (·.1)) p x.1 := by
  unfold SetTable.insertAt
  simp [Array.map_append, Array.map_push]

theorem pick_all9 {α : Type} (es : Array α) (h : es.size = 5) : (#[0, 1, 2, 3, 4] : Array Nat).filterMap (es[·]?) = es := by
  obtain ⟨l⟩ := es
  match l, h with
  | [a, b, c, d, e], _ => rfl

theorem setAddHashed9 {k : Nat} {t : Tok} {Q : Bool → Shared → Prop} (hS : SetIs9 w o n) (ho : s.heap.get? a = some o) (hk : k < 7)
    (h : ∀ b h' o', Heap.SameBut a s.heap h' → h'.get? a = some o' → SetIs9 w o' (with9 n k) → Q b { s with heap := h' }) :
    wpAny (model prog w) A (setAddHashed a (.int k t) (hashInt k)) Q E s := by
  have hkey : (intKind prog w).is (k : Int) (.int k t) = true := intKind_is _ _ _ _
  obtain ⟨hn, es, ep, rfl, hE⟩ := hS
  have hel := hE.elems (prog := prog) (w := w) hn
  have hf : (tab9 (led9 w) n).fits es.size = true := by rw [hE.size]; exact fits9 _ n hn
  have hd : (setObj9 w es ep n).data = .set es ep (tab9 (led9 w) n) := rfl
  have hb : es.size < scanBound := by rw [hE.size]; have := len9 n hn; show _ < 4096; omega
  unfold setAddHashed setAddHashedIn
  refine wpAny_holding (wpAny_bind (wpAny_setState_of ho hd hf ?_))
  dsimp only
  rw [byScan_of (knd := intKind prog w) (x := .int k t) rfl hb hel]
  simp only [↓reduceIte]
  unfold setAddByScan
  refine wpAny_bind ?_
  refine wpAny_bind (wpAny_rule ?_)
  refine wpAny_bind (wpAny_setScan_of (knd := intKind prog w) (k := (k : Int)) hkey ho hd hf hel ?_)
  cases hr : List.findIdx? (fun e => (intKind prog w).is (k : Int) e.2) es.toList with
  | some j =>
    dsimp only
    obtain ⟨hj, hpj, _⟩ := List.findIdx?_eq_some_iff_getElem.mp hr
    have hbit : n.testBit k = true := (hE.has (prog := prog) (w := w) hn hk).mpr ⟨_, List.getElem_mem hj, hpj⟩
    refine wpAny_pure (wpAny_pure ?_)
    have := h false s.heap _ (Heap.SameBut.refl a s.heap) ho (by rw [same9 n hn k hk hbit]; exact ⟨hn, es, ep, rfl, hE⟩)
    exact this
  | none =>
    dsimp only
    have hbit : n.testBit k = false := by
      cases hk' : n.testBit k with
      | false => rfl
      | true =>
        obtain ⟨e, he, hp⟩ := (hE.has (prog := prog) (w := w) hn hk).mp hk'
        have := List.findIdx?_eq_none_iff.mp hr e he
        rw [hp] at this; exact Bool.noConfusion this
    have ok := step_ok9 (led9 w) n hn k hk hbit
    simp only [stepOk9, Bool.and_eq_true, beq_iff_eq, decide_eq_true_eq] at ok
    obtain ⟨⟨⟨⟨⟨⟨f1, f2⟩, f3⟩, f4⟩, f5⟩, f6⟩, f7⟩ := ok
    have hh : hashInt (k : Int) = (k : Int) := hash9 k hk
    have hsz1 : (SetTable.insertAt es (SetTable.below (sub9 n).toArray k) (hashInt (k : Int), Value.int k t)).map (·.1) = ints9 (with9 n k) := by
      rw [map_insertAt9, hE.1, hh]; exact f3
    have hlen1 : (SetTable.insertAt es (SetTable.below (sub9 n).toArray k) (hashInt (k : Int), Value.int k t)).size = (sub9 (with9 n k)).length := by
      have := congrArg Array.size hsz1
      simpa [ints9] using this
    have hperm := layNew_perm (tab9 (led9 w) n) es (hashInt (k : Int)) (.int k t)
    have hL : layNew (tab9 (led9 w) n) es (hashInt (k : Int)) (.int k t) = (SetTable.insertAt es (SetTable.below (sub9 n).toArray k) (hashInt (k : Int), Value.int k t), tabA9 (led9 w) (with9 n k), false, false) := by
      unfold layNew
      rw [hh, f1]
      dsimp only
      rw [f2]
      dsimp only
      rw [hh] at hlen1
      rw [hlen1, f4]
      unfold SetTable.orStandIn
      rw [f4]
      rfl
    rw [hL] at hperm ⊢
    have hE1 : Ent9 (SetTable.insertAt es (SetTable.below (sub9 n).toArray k) (hashInt (k : Int), Value.int k t)) (with9 n k) := by
      refine ⟨hsz1, fun e he => ?_⟩
      have hm := hperm.mem_iff.mp he
      rw [Array.toList_push] at hm
      rcases List.mem_append.mp hm with hm | hm
      · exact hE.2 e hm
      · rw [List.mem_singleton.mp hm]; exact ⟨t, by rw [hh]⟩
    dsimp only
    refine wpAny_bind (wpAny_pure ?_)
    have hpl : (tabA9 (led9 w) (with9 n k)).plain = true := by unfold tabA9; split <;> rfl
    rw [if_pos hpl, hashByValue_scannable 8 (x := .int k t) rfl]
    refine wpAny_bind (wpAny_pure ?_)
    simp only [plainKind, if_true]
    have hz1 : (SetTable.insertAt es (SetTable.below (sub9 n).toArray k) (hashInt (k : Int), Value.int k t)).size ≤ sizeLine := by
      rw [hlen1, sizeLine_eq]; have := len9 _ f7; omega
    refine wpAny_bind (wpAny_storeSet_of ho hd ?_ hz1)
    have hg : (s.heap.update a (Obj.putSet (SetTable.insertAt es (SetTable.below (sub9 n).toArray k) (hashInt (k : Int), Value.int k t)) (tabA9 (led9 w) (with9 n k)))).get? a = some { cls := .type "set", data := .set (SetTable.insertAt es (SetTable.below (sub9 n).toArray k) (hashInt (k : Int), Value.int k t)) (ep + 1) (tabA9 (led9 w) (with9 n k)) } := by
      have := Heap.get?_update_self (Obj.putSet (SetTable.insertAt es (SetTable.below (sub9 n).toArray k) (hashInt (k : Int), Value.int k t)) (tabA9 (led9 w) (with9 n k))) ho (by rw [putSet_of _ _ hd]; rfl)
      rw [putSet_of _ _ hd] at this; exact this
    have hsb1 := Heap.SameBut.update s.heap a (Obj.putSet (SetTable.insertAt es (SetTable.below (sub9 n).toArray k) (hashInt (k : Int), Value.int k t)) (tabA9 (led9 w) (with9 n k)))
    rw [f5]
    by_cases h5 : (sub9 (with9 n k)).length = 5
    · rw [decide_eq_true h5]
      rcases Bool.or_eq_true_iff.mp f6 with f6 | f6
      · exact absurd h5 (of_decide_eq_true f6)
      obtain ⟨f6, f8⟩ := Bool.and_eq_true_iff.mp f6
      have f6 := of_decide_eq_true f6
      have hR : relayAll (tabA9 (led9 w) (with9 n k)) (SetTable.insertAt es (SetTable.below (sub9 n).toArray k) (hashInt (k : Int), Value.int k t)) (SetTable.grown (SetTable.insertAt es (SetTable.below (sub9 n).toArray k) (hashInt (k : Int), Value.int k t)).size) = (SetTable.insertAt es (SetTable.below (sub9 n).toArray k) (hashInt (k : Int), Value.int k t), tab9 (led9 w) (with9 n k), false) := by
        unfold relayAll
        rw [hsz1, hlen1, h5, f6]
        dsimp only
        rw [pick_all9 _ (by rw [hlen1, h5]), hlen1, h5, f8]
        rfl
      rw [hR]
      simp only [Bool.not_false, Bool.and_self, if_true]
      refine wpAny_bind (wpAny_pure ?_)
      refine wpAny_bind (wpAny_storeSet_of hg rfl ?_ hz1)
      have hg2 := Heap.get?_update_self (Obj.putSet (SetTable.insertAt es (SetTable.below (sub9 n).toArray k) (hashInt (k : Int), Value.int k t)) (tab9 (led9 w) (with9 n k))) hg (by rw [putSet_of _ _ rfl]; rfl)
      rw [putSet_of _ _ rfl] at hg2
      exact wpAny_pure (wpAny_pure (h true _ _ (hsb1.trans (Heap.SameBut.update _ a _)) hg2 ⟨f7, _, _, rfl, hE1⟩))
    · rw [decide_eq_false h5]
      simp only [Bool.not_false, Bool.and_false, Bool.false_eq_true, if_false]
      have e : tabA9 (led9 w) (with9 n k) = tab9 (led9 w) (with9 n k) := by unfold tabA9; rw [if_neg h5]
      rw [e] at hg hsb1 ⊢
      exact wpAny_pure (wpAny_pure (h true _ _ hsb1 hg ⟨f7, _, _, rfl, hE1⟩))
end
end Mine
end
theorem Mine.calm9a27 : True ∧ True := by
  w_top off
  (try walk1) <;> (first | exact True.intro | exact ⟨True.intro, True.intro⟩)

/-! part P27 -/
section
open PySem PySem.W PySem.Calls PySem.Spec PyProof.Rows
namespace Mine

theorem mro_dk : mroOf (.type "dict_keys") = pure [.type "dict_keys", .type "object"] := by rw [mroOf_type]; kernel_rfl
theorem slot_dk_len : Slot "dict_keys" "__len__" "dict_keys.__len__" :=
  .of (owner := "dict_keys") (n := "__len__") (by rw [typeLookup_type, builtinLookup_eq_fast]; kernel_rfl) (by decide +kernel) (by decide +kernel) (by decide +kernel)
    (by first | exact .inl (by decide +kernel) | exact .inr (by decide +kernel)) (by rw [isSubtype_type]; kernel_rfl)
theorem entry_dk_len : entryFor table "dict_keys.__len__" = some Builtin.«dict_items.__len__» :=
  entryFor_alias (id' := "dict_items.__len__") (by rw [fastTable_eq_tree]; kernel_rfl) rfl canon9.2.2.2.1 (by rw [fastTable_eq_tree]; kernel_rfl)
theorem args_dk_len (a : Value) : argsOk "dict_keys.__len__" ⟨[a], []⟩ := by
  unfold argsOk; rw [signature?_of (id := "dict_keys.__len__") (n := ['_', '_', 'n', 'e', 'l', '_', '_']) (o := ['s', 'y', 'e', 'k', '_', 't', 'c', 'i', 'd']) (by kernel_rfl) kdl_owner_keys]; kernel_rfl
theorem slot_set_len : Slot "set" "__len__" "set.__len__" :=
  .of (owner := "set") (n := "__len__") (by rw [typeLookup_type, builtinLookup_eq_fast]; kernel_rfl) (by decide +kernel) (by decide +kernel) (by decide +kernel)
    (by first | exact .inl (by decide +kernel) | exact .inr (by decide +kernel)) (by rw [isSubtype_type]; kernel_rfl)
theorem entry_set_len : entryFor table "set.__len__" = some Builtin.«frozenset.__len__» :=
  entryFor_alias (id' := "frozenset.__len__") (by rw [fastTable_eq_tree]; kernel_rfl) rfl canon9.2.2.2.2.1 (by rw [fastTable_eq_tree]; kernel_rfl)
theorem args_set_len (a : Value) : argsOk "set.__len__" ⟨[a], []⟩ := by
  unfold argsOk; kernel_rfl
theorem slot_dk_and : Slot "dict_keys" "__and__" "dict_keys.__and__" :=
  .of (owner := "dict_keys") (n := "__and__") (by rw [typeLookup_type, builtinLookup_eq_fast]; kernel_rfl) (by decide +kernel) (by decide +kernel) (by decide +kernel)
    (by first | exact .inl (by decide +kernel) | exact .inr (by decide +kernel)) (by rw [isSubtype_type]; kernel_rfl)
theorem entry_dk_and : entryFor table "dict_keys.__and__" = some Builtin.«dict_items.__and__» :=
  entryFor_alias (id' := "dict_items.__and__") (by rw [fastTable_eq_tree]; kernel_rfl) rfl canon9.2.2.2.2.2.1 (by rw [fastTable_eq_tree]; kernel_rfl)
theorem args_dk_and (a b : Value) : argsOk "dict_keys.__and__" ⟨[a, b], []⟩ := by
  unfold argsOk; rw [signature?_of (id := "dict_keys.__and__") (n := ['_', '_', 'd', 'n', 'a', '_', '_']) (o := ['s', 'y', 'e', 'k', '_', 't', 'c', 'i', 'd']) (by kernel_rfl) kdl_owner_keys]; kernel_rfl
theorem entry_and_loop : entryFor table "dict_items.__and__.loop" = some Builtin.«dict_items.__and__.loop» := entryFor_of_tree (by kernel_rfl)
theorem plain_and_loop : plainId "dict_items.__and__.loop" = true := by decide +kernel

section
variable {prog : Program} {w : World} {A : Around} {E : Value → Shared → Prop} {s : Shared} {v d r : Addr} {ks : List Int} {ep n : Nat} {o : Obj}

theorem oneOf_dk {types : List String} {Q : Bool → Shared → Prop} (hT : s.TypeIs (.ref v) "dict_keys")
    (h : Q (types.any fun t => [Value.type "dict_keys", Value.type "object"].contains (.type t)) s) : wpAny (model prog w) A (Builtin.Dict_items.isOneOf (.ref v) types) Q E s := by
  unfold Builtin.Dict_items.isOneOf
  refine wpAny_bind (wpAny_typeOf hT ?_)
  rw [mro_dk]
  exact wpAny_bind (wpAny_pure (wpAny_pure h))
theorem oneOf_set {types : List String} {Q : Bool → Shared → Prop} (hT : s.TypeIs (.ref v) "set")
    (h : Q (types.any fun t => [Value.type "set", Value.type "object"].contains (.type t)) s) : wpAny (model prog w) A (Builtin.Dict_items.isOneOf (.ref v) types) Q E s := by
  unfold Builtin.Dict_items.isOneOf
  refine wpAny_bind (wpAny_typeOf hT ?_)
  rw [PySem.F.mro_set]
  exact wpAny_bind (wpAny_pure (wpAny_pure h))

theorem viewHas9 {i : Int} {t : Tok} {Q : Bool → Shared → Prop} (hv : KdlKeysView s.heap v d) (hm : s.heap.DictAt (intKind prog w) d (kv ks) ep)
    (h : Q (decide (i ∈ ks)) { s with toks := s.toks + 1 }) : wpAny (model prog w) A (Builtin.Dict_items.viewContains (.ref v) (.int i t)) Q E s := by
  obtain ⟨ov, hov, hcv, hdv⟩ := id hv
  unfold Builtin.Dict_items.viewContains
  refine wpAny_bind (oneOf_dk hv.typeIs ?_)
  refine KFB.if_so rfl ?_
  unfold Builtin.Dict_items.keysContain
  refine wpAny_bind ?_
  unfold Builtin.Dict_items.dictOf
  refine wpAny_bind (wpAny_field hov hdv (x := .ref d) rfl (wpAny_pure ?_))
  have hm2 : s.heap.DictOf (intKind prog w) d (kv ks) := let ⟨o, es, r⟩ := hm; ⟨o, es, ep, r⟩
  refine wpAny_bind (wpAny_dictGet_of (knd := intKind prog w) (k := i) (intKind_is _ _ _ _) hm2.mapOf (wpAny_pure ?_))
  rw [valueAt_kv]
  exact h

theorem lenV9 {Q : Int → Shared → Prop} (hv : KdlKeysView s.heap v d) (hm : s.heap.DictAt (intKind prog w) d (kv ks) ep) (hl : ks.length ≤ 7)
    (h : ∀ tk, Q ks.length { s with toks := tk }) : wpAny (model prog w) A (Builtin.Dict_items.lenOf (.ref v)) Q E s := by
  obtain ⟨ov, hov, hcv, hdv⟩ := id hv
  obtain ⟨o, es, ho, hc, hdat, hk, hp, hn⟩ := id hm
  have hsz : es.size = ks.length := by rw [← Array.length_toList, hp.length]; unfold kv; exact List.length_map ..
  unfold Builtin.Dict_items.lenOf
  refine wpAny_bind (call_len_slot hv.typeIs slot_dk_len (n := ks.length) (fun Q' hq => wpAny_call_entry slot_dk_len hv.typeIs entry_dk_len ?_ (args_dk_len _)) (by omega) (by omega) ?_)
  · show wpAny _ _ ((Builtin.Dict_items.slot0 "__len__" ⟨[.ref v], []⟩) >>= _) _ _ _
    refine wpAny_bind (wpAny_of_eq (a := Value.ref v) rfl ?_)
    refine wpAny_bind ?_
    unfold Builtin.Dict_items.dictOf
    refine wpAny_bind (wpAny_field hov hdv (x := .ref d) rfl (wpAny_pure ?_))
    refine wpAny_bind (wpAny_dictEntries ho hdat ?_)
    rw [hsz]
    unfold retInt
    exact wpAny_bind (wpAny_mkInt (wpAny_pure ⟨_, rfl, hq⟩))
  · refine wpAny_bind (wpAny_of_eq (a := some (ks.length : Int)) rfl ?_)
    exact wpAny_pure (h _)

theorem lenS9 {Q : Int → Shared → Prop} (ho : s.heap.get? v = some o) (hS : SetIs9 w o n)
    (h : ∀ tk, Q (sub9 n).length { s with toks := tk }) : wpAny (model prog w) A (Builtin.Dict_items.lenOf (.ref v)) Q E s := by
  obtain ⟨hn, es, ep, rfl, hE⟩ := hS
  have := len9 n hn
  unfold Builtin.Dict_items.lenOf
  refine wpAny_bind (call_len_set ho ⟨rfl, rfl, rfl⟩ rfl (by rw [hE.size]; exact fits9 _ n hn) (by rw [hE.size]; omega) ?_)
  rw [hE.size]
  refine wpAny_bind (wpAny_of_eq (a := some ((sub9 n).length : Int)) rfl ?_)
  exact wpAny_pure (h _)

/-- the members of l that ks has are put into a set -/
def andI9 (ks : List Int) (n : Nat) (k : Int) : Nat := if k ∈ ks then with9 n k.toNat else n
def andL9 (ks l : List Int) (n : Nat) : Nat := l.foldl (andI9 ks) n
theorem andI_lt9 {ks : List Int} {n : Nat} {k : Int} (hn : n < 128) (h0 : 0 ≤ k) (h7 : k < 7) : andI9 ks n k < 128 := by
  unfold andI9; split
  · exact lt9 n hn _ (by omega)
  · exact hn
theorem andI_bit9 {ks : List Int} {n : Nat} {k : Int} (hn : n < 128) (h0 : 0 ≤ k) (h7 : k < 7) (j : Nat) (hj : j < 7) : (andI9 ks n k).testBit j = (n.testBit j || decide ((j : Int) = k ∧ (j : Int) ∈ ks)) := by
  unfold andI9; split
  · rename_i hm
    rw [sub_bit9 n hn k.toNat (by omega) j hj]
    congr 1
    by_cases e : j = k.toNat
    · rw [decide_eq_true e, decide_eq_true ⟨by omega, by rw [show ((j : Nat) : Int) = k by omega]; exact hm⟩]
    · rw [decide_eq_false e, decide_eq_false (fun q => e (by omega))]
  · rename_i hm
    rw [decide_eq_false (fun q : (j : Int) = k ∧ (j : Int) ∈ ks => hm (q.1 ▸ q.2)), Bool.or_false]
theorem andL_lt9 {ks : List Int} : ∀ {l : List Int} {n : Nat}, n < 128 → sm l → andL9 ks l n < 128
  | [], _, hn, _ => hn
  | k :: r, _, hn, h => andL_lt9 (l := r) (andI_lt9 hn (h k (.head _)).1 (h k (.head _)).2) fun x hx => h x (.tail _ hx)
theorem andL_bit9 {ks : List Int} : ∀ {l : List Int} {n : Nat}, n < 128 → sm l → ∀ j < 7, (andL9 ks l n).testBit j = (n.testBit j || decide ((j : Int) ∈ l ∧ (j : Int) ∈ ks))
  | [], n, hn, _, j, hj => by simp [andL9]
  | k :: r, n, hn, h, j, hj => by
    have := andL_bit9 (ks := ks) (l := r) (n := andI9 ks n k) (andI_lt9 hn (h k (.head _)).1 (h k (.head _)).2) (fun x hx => h x (.tail _ hx)) j hj
    show (andL9 ks r (andI9 ks n k)).testBit j = _
    rw [this, andI_bit9 hn (h k (.head _)).1 (h k (.head _)).2 j hj, Bool.or_assoc]
    congr 1
    by_cases e1 : (j : Int) = k <;> by_cases e2 : (j : Int) ∈ r <;> by_cases e3 : (j : Int) ∈ ks <;> simp [e1, e2, e3] <;> simp_all

theorem andLoop9 {I : Addr} {fp : List Addr} {ls : List Int} {P : Nat → Value → Prop} {St : Nat → Heap → Prop} {R : Result → Shared → Prop} (W : Walks prog w A.in1 I fp [I] ls.length P St) (hval : ∀ i x, P i x → ∃ t k, ls[i]? = some k ∧ x = .int k t) (hsm : sm ls) (hrf : r ∉ fp) (hvI : v ≠ I) (hdI : d ≠ I) (hvr : v ≠ r) (hdr : d ≠ r) :
    ∀ (k i : Nat) (s : Shared) (o : Obj) (n : Nat), ls.length - i = k → i ≤ ls.length → St i s.heap → KdlKeysView s.heap v d → s.heap.DictAt (intKind prog w) d (kv ks) ep → s.heap.get? r = some o → SetIs9 w o n →
      (∀ h' tk o', h'.get? r = some o' → SetIs9 w o' (andL9 ks (ls.drop i) n) → (∀ b o, b ≠ r → b ≠ I → s.heap.get? b = some o → h'.get? b = some o) → R (.ok (.ret (.ref r))) { s with heap := h', toks := tk }) →
      codeAny (model prog w) A (.builtin "dict_items.__and__.loop" ⟨[.ref v, .ref I, .ref r], []⟩) R s := by
  have hrI : r ≠ I := fun e => hrf (W.sub r (by rw [e]; exact .head _))
  intro k
  induction k with
  | zero =>
    intro i s o n hk hi hst hv hm ho hS hR
    have hin : i = ls.length := by omega
    subst hin
    refine codeAny_builtin entry_and_loop ?_
    rw [Around.under_plainId plain_and_loop _]
    show wpAny _ A.in1 (pyNext (.ref I) >>= _) _ _ s
    refine wpAny_bind (W.done s _ _ hst fun h' tk hk' => ?_)
    show wpAny _ A.in1 (ret (Value.ref r)) _ _ _
    rw [List.drop_length] at hR
    exact wpAny_pure (hR h' tk o (hk' r o (by simpa using hrI) ho) hS fun b o hbr hbI e => hk' b o (by simpa using hbI) e)
  | succ k ih =>
    intro i s o n hk hi hst hv hm ho hS hR
    have hlt : i < ls.length := by omega
    refine codeAny_builtin entry_and_loop ?_
    rw [Around.under_plainId plain_and_loop _]
    show wpAny _ A.in1 (pyNext (.ref I) >>= _) _ _ s
    refine wpAny_bind (W.item i s _ _ hlt hst fun x h' tk hP hst' hk' => ?_)
    obtain ⟨t, j, hj, rfl⟩ := hval i x hP
    have hjm := hsm j (List.mem_of_getElem? hj)
    have hv' : KdlKeysView h' v d := by obtain ⟨ov, e, q⟩ := hv; exact ⟨ov, hk' v ov (by simpa using hvI) e, q⟩
    have hm' : h'.DictAt (intKind prog w) d (kv ks) ep := hm.at' fun o e => hk' d o (by simpa using hdI) e
    have ho' := hk' r o (by simpa using hrI) ho
    have hdrop : ls.drop i = j :: ls.drop (i + 1) := by
      rw [List.drop_eq_getElem_cons hlt]
      congr 1
      rw [List.getElem?_eq_getElem hlt] at hj
      exact Option.some.inj hj
    rw [hdrop] at hR
    dsimp only
    refine wpAny_bind (wpAny_holding ?_)
    refine wpAny_bind (viewHas9 (s := { s with heap := h', toks := tk }) hv' hm' ?_)
    by_cases hjk : j ∈ ks
    · rw [decide_eq_true hjk]
      simp only [if_true]
      refine wpAny_bind ?_
      unfold setAdd
      refine wpAny_holding (wpAny_bind (wpAny_pyHash_int ?_))
      obtain ⟨kk, rfl⟩ : ∃ kk : Nat, j = (kk : Int) := ⟨j.toNat, by omega⟩
      refine setAddHashed9 (k := kk) hS ho' (by omega) fun b h2 o2 hsb ho2 hS2 => ?_
      refine wpAny_pure (wpAny_pure ⟨plainId_quiet plain_and_loop _, ih (i + 1) _ o2 (with9 n kk) (by omega) hlt (W.frame _ _ _ hst' fun b hb o e => hsb.extBut b o (fun q => hrf (q ▸ hb)) e) ?_ (hm'.at' fun o e => hsb.extBut d o hdr e) ho2 hS2 fun h3 tk3 o3 ho3 hS3 hk3 => ?_⟩)
      · obtain ⟨ov, e, q⟩ := hv'; exact ⟨ov, hsb.extBut v ov hvr e, q⟩
      · refine hR h3 tk3 o3 ho3 ?_ fun b o hbr hbI e => hk3 b o hbr hbI (hsb.extBut b o hbr (hk' b o (by simpa using hbI) e))
        show SetIs9 w o3 (andL9 ks (ls.drop (i + 1)) (andI9 ks n kk))
        unfold andI9; rw [if_pos hjk, Int.toNat_natCast]; exact hS3
    · rw [decide_eq_false hjk]
      simp only [Bool.false_eq_true, if_false]
      refine wpAny_pure (wpAny_pure ⟨plainId_quiet plain_and_loop _, ih (i + 1) _ o n (by omega) hlt hst' hv' hm' ho' hS fun h3 tk3 o3 ho3 hS3 hk3 => ?_⟩)
      refine hR h3 tk3 o3 ho3 ?_ fun b o hbr hbI e => hk3 b o hbr hbI (hk' b o (by simpa using hbI) e)
      show SetIs9 w o3 (andL9 ks (ls.drop (i + 1)) (andI9 ks n j))
      unfold andI9; rw [if_neg hjk]; exact hS3
end
end Mine
end
theorem Mine.calm9a28 : True ∧ True := by
  w_top off
  (try walk1) <;> (first | exact True.intro | exact ⟨True.intro, True.intro⟩)

/-! part P28 -/
section
open PySem PySem.W PySem.Calls PySem.Spec PyProof.Rows
namespace Mine
theorem noI_dk_and : typeLookup (.type "dict_keys") (dunderI "and") = pure none := by rw [typeLookup_type, builtinLookup_eq_fast]; kernel_rfl
theorem fills_dk_and : fillsNumberSlot (.type "dict_keys") "and" = pure true :=
  fillsNumberSlot_of (id := "dict_keys.__and__") (r := some (.builtin "dict_keys.__rand__")) (by rw [typeLookup_type, builtinLookup_eq_fast]; kernel_rfl) (by decide +kernel) (by rw [typeLookup_type, builtinLookup_eq_fast]; kernel_rfl)

section
variable {prog : Program} {w : World} {A : Around} {E : Value → Shared → Prop} {s : Shared} {v d v2 d2 r : Addr} {ks ls : List Int} {ep ep2 n : Nat} {o : Obj}

theorem setLike_dk9 {Q : Bool → Shared → Prop} (hT : s.TypeIs (.ref v) "dict_keys") (h : Q true s) : wpAny (model prog w) A (Builtin.Dict_items.isSetLikeView (.ref v)) Q E s := by
  unfold Builtin.Dict_items.isSetLikeView
  exact oneOf_dk hT h
theorem setLike_set9 {Q : Bool → Shared → Prop} (hT : s.TypeIs (.ref v) "set") (h : Q false s) : wpAny (model prog w) A (Builtin.Dict_items.isSetLikeView (.ref v)) Q E s := by
  unfold Builtin.Dict_items.isSetLikeView
  exact oneOf_set hT h

/-- the loop over a view's keys, from where the new set is made -/
theorem andTail9 {R : Result → Shared → Prop} (hh : A.handled = none) (hv : KdlKeysView s.heap v d) (hm : s.heap.DictAt (intKind prog w) d (kv ks) ep) (hv2 : KdlKeysView s.heap v2 d2) (hm2 : s.heap.DictAt (intKind prog w) d2 (kv ls) ep2)
    (sl : sm ls)
    (h : ∀ h' tk r o' N, (∀ b o, s.heap.get? b = some o → h'.get? b = some o) → h'.get? r = some o' → s.heap.objs.size ≤ r → SetIs9 w o' N → (∀ j < 7, N.testBit j = decide ((j : Int) ∈ ls ∧ (j : Int) ∈ ks)) → R (.ok (.ret (.ref r))) { s with heap := h', toks := tk }) :
    wpAny (model prog w) A.in1 (do
      let result ← newSet (.type "set")
      again (.builtin "dict_items.__and__.loop" ⟨[.ref v, ← holding [result] (pyIter (.ref v2)), result], []⟩))
      (fun fin s' => match fin with | .done f => R (.ok f) s' | .again c' => c'.quiet = true ∧ codeAny (model prog w) A c' R s') (fun e s' => R (.error e) s') s := by
  refine wpAny_bind (newSet9 fun o hS => ?_)
  have kp₁ : ∀ b o₂, s.heap.get? b = some o₂ → (s.heap.push o).get? b = some o₂ := fun b o₂ e => Heap.get?_push_of_some _ e
  have ho : (s.heap.push o).get? s.heap.objs.size = some o := Heap.get?_push_size _ (by obtain ⟨_, _, _, rfl, _⟩ := hS; rfl)
  have hv1 : KdlKeysView (s.heap.push o) v d := by obtain ⟨ov, e, q⟩ := hv; exact ⟨ov, kp₁ _ _ e, q⟩
  have hv3 : KdlKeysView (s.heap.push o) v2 d2 := by obtain ⟨ov, e, q⟩ := hv2; exact ⟨ov, kp₁ _ _ e, q⟩
  have hm1 := hm.at' (h' := s.heap.push o) fun o e => kp₁ _ _ e
  have hm3 := hm2.at' (h' := s.heap.push o) fun o e => kp₁ _ _ e
  have lv : v < s.heap.objs.size := by obtain ⟨_, e, _⟩ := hv; exact Heap.lt_size e
  have ld := hm.lt_size
  have ld2 := hm2.lt_size
  have hsz : (s.heap.push o).objs.size = s.heap.objs.size + 1 := Heap.size_push ..
  refine wpAny_bind (wpAny_holding (kdl_pyIter_keys (s := { s with heap := s.heap.push o }) (knd := intKind prog w) hv3 hm3 ?_))
  have kp₂ : ∀ b o₂, (s.heap.push o).get? b = some o₂ → ((s.heap.push o).push { cls := .type "dict_keyiterator", data := .fields #[.ref d2, .int 0 0, .int (kv ls).length 0, .int ep2 0] }).get? b = some o₂ := fun b o₂ e => Heap.get?_push_of_some _ e
  have hvl : (kv ls).length = ls.length := by unfold kv; exact List.length_map ..
  have W := Walks.dictKeys (prog := prog) (w := w) (A := A.in1) (knd := intKind prog w) hh (s.heap.objs.size + 1) d2 (Nat.ne_of_lt (Nat.lt_succ_of_lt ld2)) (kv ls) ep2
  rw [hvl] at W
  show wpAny _ _ (again (.builtin "dict_items.__and__.loop" ⟨[.ref v, .ref (s.heap.push o).objs.size, .ref s.heap.objs.size], []⟩)) _ _ _
  rw [hsz]
  refine wpAny_pure ⟨plainId_quiet plain_and_loop _, andLoop9 (ks := ks) (ep := ep) W (keyP ls) sl ?_ (Nat.ne_of_lt (Nat.lt_succ_of_lt lv)) (Nat.ne_of_lt (Nat.lt_succ_of_lt ld)) (Nat.ne_of_lt lv) (Nat.ne_of_lt ld) ls.length 0 _ o 0 rfl (Nat.zero_le _) ?_ ?_ ?_ (kp₂ _ _ ho) hS fun h' tk o' ho' hS' hk => ?_⟩
  · simp only [List.mem_cons, List.not_mem_nil, or_false, not_or]
    exact ⟨Nat.ne_of_lt (Nat.lt_succ_self _), Nat.ne_of_gt ld2⟩
  · refine ⟨⟨{ cls := .type "dict_keyiterator", data := .fields #[.ref d2, .int 0 0, .int (kv ls).length 0, .int ep2 0] }, ?_, rfl, by rw [← hvl]; rfl⟩, hm3.at' fun o e => kp₂ _ _ e⟩
    have := Heap.get?_push_size (h := s.heap.push o) (o := { cls := .type "dict_keyiterator", data := .fields #[.ref d2, .int 0 0, .int (kv ls).length 0, .int ep2 0] }) rfl
    rw [hsz] at this
    exact this
  · obtain ⟨ov, e, q⟩ := hv1; exact ⟨ov, kp₂ _ _ e, q⟩
  · exact hm1.at' fun o e => kp₂ _ _ e
  · refine h h' tk _ o' _ (fun b o₂ e => hk b o₂ (Nat.ne_of_lt (Heap.lt_size e)) (Nat.ne_of_lt (Nat.lt_succ_of_lt (Heap.lt_size e))) (kp₂ _ _ (kp₁ _ _ e))) ho' (Nat.le_refl _) hS' fun j hj => ?_
    rw [List.drop_zero, andL_bit9 (by decide) sl j hj, Nat.zero_testBit, Bool.false_or]

/-- two views meet -/
theorem and2_9 {Q : Value → Shared → Prop} (hh : A.handled = none) (hv : KdlKeysView s.heap v d) (hm : s.heap.DictAt (intKind prog w) d (kv ks) ep) (hv2 : KdlKeysView s.heap v2 d2) (hm2 : s.heap.DictAt (intKind prog w) d2 (kv ls) ep2)
    (h7 : ks.length ≤ 7) (l7 : ls.length ≤ 7) (sk : sm ks) (sl : sm ls)
    (h : ∀ h' tk r o' N, (∀ b o, s.heap.get? b = some o → h'.get? b = some o) → h'.get? r = some o' → s.heap.objs.size ≤ r → SetIs9 w o' N → (∀ j < 7, N.testBit j = decide ((j : Int) ∈ ks ∧ (j : Int) ∈ ls)) → Q (.ref r) { s with heap := h', toks := tk }) :
    wpAny (model prog w) A (call (.builtin "dict_keys.__and__") [.ref v, .ref v2]) Q E s := by
  refine wpAny_call (codeAny_call_builtin slot_dk_and.plain entry_dk_and (slot_dk_and.check _ _ _ _ _ _ _ _ hv.typeIs (args_dk_and _ _) ?_))
  show wpAny _ _ (Builtin.Dict_items.slot1 "__and__" ⟨[.ref v, .ref v2], []⟩ >>= _) _ _ _
  refine wpAny_bind (wpAny_of_eq (a := (Value.ref v, Value.ref v2)) rfl ?_)
  show wpAny _ _ (Builtin.Dict_items.isSetLikeView (.ref v) >>= _) _ _ s
  refine wpAny_bind (setLike_dk9 hv.typeIs ?_)
  simp only [if_true]
  refine wpAny_bind (lenV9 hv hm h7 fun tk1 => ?_)
  refine wpAny_bind (wpAny_typeOf (s := { s with toks := tk1 }) hv2.typeIs ?_)
  refine KFB.if_not (by decide) ?_
  refine wpAny_bind (setLike_dk9 (s := { s with toks := tk1 }) hv2.typeIs ?_)
  simp only [if_true]
  refine wpAny_bind (lenV9 (s := { s with toks := tk1 }) hv2 hm2 l7 fun tk2 => ?_)
  refine wpAny_ite_split (fun _ => ?_) (fun _ => ?_)
  · refine wpAny_bind (wpAny_rule ?_)
    refine andTail9 (R := fun r s' => match r with | .ok (.ret v) => Q v s' | .ok _ => False | .error e => E e s') (s := { s with toks := tk2 }) hh hv2 hm2 hv hm sk fun h' tk r o' N hk hr hsz hS hb => ?_
    exact h h' tk r o' N hk hr hsz hS hb
  · refine andTail9 (R := fun r s' => match r with | .ok (.ret v) => Q v s' | .ok _ => False | .error e => E e s') (s := { s with toks := tk2 }) hh hv hm hv2 hm2 sl fun h' tk r o' N hk hr hsz hS hb => ?_
    exact h h' tk r o' N hk hr hsz hS fun j hj => by rw [hb j hj]; by_cases e1 : (j : Int) ∈ ks <;> by_cases e2 : (j : Int) ∈ ls <;> simp [e1, e2]

/-- `v &= v2` of two views -/
theorem iand2_9 {Q : Value → Shared → Prop} (hh : A.handled = none) (hv : KdlKeysView s.heap v d) (hm : s.heap.DictAt (intKind prog w) d (kv ks) ep) (hv2 : KdlKeysView s.heap v2 d2) (hm2 : s.heap.DictAt (intKind prog w) d2 (kv ls) ep2)
    (h7 : ks.length ≤ 7) (l7 : ls.length ≤ 7) (sk : sm ks) (sl : sm ls)
    (h : ∀ h' tk r o' N, (∀ b o, s.heap.get? b = some o → h'.get? b = some o) → h'.get? r = some o' → s.heap.objs.size ≤ r → SetIs9 w o' N → (∀ j < 7, N.testBit j = decide ((j : Int) ∈ ks ∧ (j : Int) ∈ ls)) → Q (.ref r) { s with heap := h', toks := tk }) :
    wpAny (model prog w) A (inplaceOp .BitAnd (.ref v) (.ref v2)) Q E s :=
  wpAny_inplaceOp_same (op := .BitAnd) hv.typeIs hv2.typeIs noI_dk_and fills_dk_and slot_dk_and (and2_9 hh hv hm hv2 hm2 h7 l7 sk sl fun h' tk r o' N a b c d e => ⟨(fun q => by cases q), h h' tk r o' N a b c d e⟩)
end
end Mine
end
theorem Mine.calm9a29 : True ∧ True := by
  w_top off
  (try walk1) <;> (first | exact True.intro | exact ⟨True.intro, True.intro⟩)

/-! part P29 -/
section
open PySem PySem.W PySem.Calls PySem.Spec PyProof.Rows
namespace Mine
theorem slot_si_next : Slot "set_iterator" "__next__" "set_iterator.__next__" :=
  .of (owner := "set_iterator") (n := "__next__") (by rw [typeLookup_type, builtinLookup_eq_fast]; kernel_rfl) (by decide +kernel) (by decide +kernel) (by decide +kernel)
    (by first | exact .inl (by decide +kernel) | exact .inr (by decide +kernel)) (by rw [isSubtype_type]; kernel_rfl)
theorem slot_si_iter : Slot "set_iterator" "__iter__" "set_iterator.__iter__" :=
  .of (owner := "set_iterator") (n := "__iter__") (by rw [typeLookup_type, builtinLookup_eq_fast]; kernel_rfl) (by decide +kernel) (by decide +kernel) (by decide +kernel)
    (by first | exact .inl (by decide +kernel) | exact .inr (by decide +kernel)) (by rw [isSubtype_type]; kernel_rfl)
theorem slot_s_iter : Slot "set" "__iter__" "set.__iter__" :=
  .of (owner := "set") (n := "__iter__") (by rw [typeLookup_type, builtinLookup_eq_fast]; kernel_rfl) (by decide +kernel) (by decide +kernel) (by decide +kernel)
    (by first | exact .inl (by decide +kernel) | exact .inr (by decide +kernel)) (by rw [isSubtype_type]; kernel_rfl)
theorem entry_s_iter : entryFor table "set.__iter__" = some Builtin.«frozenset.__iter__» :=
  entryFor_alias (id' := "frozenset.__iter__") (by rw [fastTable_eq_tree]; kernel_rfl) rfl canon9.2.2.2.2.2.2.1 (by rw [fastTable_eq_tree]; kernel_rfl)
theorem args_s_iter (a : Value) : argsOk "set.__iter__" ⟨[a], []⟩ := by unfold argsOk; kernel_rfl
theorem entry_si_next : entryFor table "set_iterator.__next__" = some Builtin.«set_iterator.__next__» := entryFor_of_tree (by kernel_rfl)
theorem args_si_next (a : Value) : argsOk "set_iterator.__next__" ⟨[a], []⟩ := by unfold argsOk; kernel_rfl
theorem args_si_iter (a : Value) : argsOk "set_iterator.__iter__" ⟨[a], []⟩ := by unfold argsOk; kernel_rfl

theorem perm_erase9 {α : Type} : ∀ (l : List α) (i : Nat) (h : i < l.length), (l[i] :: l.eraseIdx i).Perm l
  | a :: r, 0, _ => by simp
  | a :: r, i + 1, h => by
    have h' : i < r.length := by simpa using h
    show (r[i] :: a :: r.eraseIdx i).Perm (a :: r)
    exact (List.Perm.swap ..).trans ((perm_erase9 r i h').cons a)
/-- an order that a world picks is a permutation -/
theorem pick_go9 {α : Type} (next : Nat → Nat) : ∀ (fuel k : Nat) (left : List α) (out : Array α), left.length ≤ fuel → (pickOrder.go next fuel k left out).toList.Perm (out.toList ++ left)
  | 0, k, left, out, h => by
    have : left = [] := List.length_eq_zero_iff.mp (Nat.le_zero.mp h)
    subst this
    unfold pickOrder.go
    simp
  | fuel + 1, k, left, out, h => by
    unfold pickOrder.go
    cases hx : left[next k % left.length]? with
    | none =>
      have : left = [] := by
        cases left with
        | nil => rfl
        | cons a r =>
          have := Nat.mod_lt (next k) (show 0 < (a :: r).length by simp)
          rw [List.getElem?_eq_getElem this] at hx; cases hx
      subst this
      simp
    | some x =>
      dsimp only
      have hlt : next k % left.length < left.length := (List.getElem?_eq_some_iff.mp hx).1
      have := pick_go9 next fuel (k + 1) (left.eraseIdx (next k % left.length)) (out.push x) (by rw [List.length_eraseIdx_of_lt hlt]; omega)
      refine this.trans ?_
      rw [Array.toList_push, List.append_assoc]
      refine List.Perm.append_left _ ?_
      have e : left[next k % left.length] = x := by rw [List.getElem?_eq_getElem hlt] at hx; exact Option.some.inj hx
      rw [← e]
      exact (perm_erase9 _ _ hlt)
theorem pick_perm9 {α : Type} (next : Nat → Nat) (xs : Array α) : (pickOrder next xs).toList.Perm xs.toList := by
  unfold pickOrder
  have := pick_go9 next xs.size 0 xs.toList #[] (by simp)
  simpa using this

theorem below9 : ∀ n < 128, ∀ i ≤ (sub9 n).length, SetTable.below (sub9 n).toArray (if i = 0 then 0 else (sub9 n).getD (i - 1) 0 + 1) = i := by decide +kernel

/-- the order in which the world shows a set's entries -/
def shown9 (w : World) (a ep : Nat) (es : Array (Int × Value)) : Array (Int × Value) := if led9 w = true then es else pickOrder (w.params.setOrder a ep) es
theorem shown_perm9 (w : World) (a ep : Nat) (es : Array (Int × Value)) : (shown9 w a ep es).toList.Perm es.toList := by
  unfold shown9; split
  · exact List.Perm.refl _
  · exact pick_perm9 _ _
def slot9 (w : World) (n i : Nat) : Nat := if led9 w = true then (if i = 0 then 0 else (sub9 n).getD (i - 1) 0 + 1) else 0
def siObj9 (w : World) (a n ep i : Nat) : Obj := { cls := .type "set_iterator", data := .fields #[rawInt (slot9 w n i), rawInt i, .ref a, rawInt (sub9 n).length, rawInt ep] }

section
variable {prog : Program} {w : World} {A : Around} {E : Value → Shared → Prop} {s : Shared} {a I : Addr} {n ep i : Nat} {es : Array (Int × Value)}

theorem setWalk9 {Q : Array (Int × Value) → Shared → Prop} (hn : n < 128) (hE : Ent9 es n) (ho : s.heap.get? a = some (setObj9 w es ep n)) (h : Q (shown9 w a ep es) s) : wpAny (model prog w) A (setWalk a) Q E s := by
  unfold setWalk
  refine wpAny_bind (wpAny_setState_of ho rfl (by rw [hE.size]; exact fits9 _ n hn) ?_)
  dsimp only
  refine wpAny_bind ?_
  unfold setsByText
  refine wpAny_bind (wpAny_askSetting (wpAny_pure ?_))
  unfold shown9 at h
  cases hl : led9 w with
  | false =>
    have : w.params.followText "set-order" = true := by unfold led9 at hl; simpa using hl
    rw [hl] at h
    show wpAny _ _ (if w.params.followText "set-order" = true then _ else _) _ _ _
    rw [if_pos this]
    exact wpAny_bind (wpAny_askSetting (wpAny_pure h))
  | true =>
    have : w.params.followText "set-order" = false := by unfold led9 at hl; simpa using hl
    rw [hl] at h
    show wpAny _ _ (if w.params.followText "set-order" = true then _ else _) _ _ _
    rw [if_neg (by rw [this]; decide)]
    refine KFB.if_not rfl ?_
    refine wpAny_bind (wpAny_of_eq (a := ()) rfl ?_)
    exact wpAny_pure h

theorem setNext9 {Q : Option (Value × Nat) → Shared → Prop} (hn : n < 128) (hE : Ent9 es n) (ho : s.heap.get? a = some (setObj9 w es ep n)) (hi : i ≤ (sub9 n).length)
    (h : Q ((shown9 w a ep es)[i]?.map fun e => (e.2, slot9 w n (i + 1))) s) : wpAny (model prog w) A (setNext a (slot9 w n i) i ep) Q E s := by
  unfold setNext
  refine wpAny_bind (wpAny_setState_of ho rfl (by rw [hE.size]; exact fits9 _ n hn) ?_)
  dsimp only
  refine wpAny_bind ?_
  unfold setsByText
  refine wpAny_bind (wpAny_askSetting (wpAny_pure ?_))
  cases hl : led9 w with
  | false =>
    have e : w.params.followText "set-order" = true := by unfold led9 at hl; simpa using hl
    show wpAny _ _ (if w.params.followText "set-order" = true then _ else _) _ _ _
    rw [if_pos e]
    refine KFB.if_not (by simp) ?_
    refine wpAny_bind (setWalk9 hn hE ho (wpAny_pure ?_))
    have e2 : ∀ j, slot9 w n j = 0 := fun j => by unfold slot9; rw [hl]; rfl
    rw [e2] at h ⊢
    exact h
  | true =>
    have e : w.params.followText "set-order" = false := by unfold led9 at hl; simpa using hl
    show wpAny _ _ (if w.params.followText "set-order" = true then _ else _) _ _ _
    rw [if_neg (by rw [e]; decide)]
    refine KFB.if_not rfl ?_
    refine wpAny_bind (wpAny_of_eq (a := ()) rfl ?_)
    have e1 : slot9 w n i = (if i = 0 then 0 else (sub9 n).getD (i - 1) 0 + 1) := by unfold slot9; rw [hl]; rfl
    have e4 : SetTable.below (tab9 true n).place (slot9 w n i) = i := by rw [e1]; exact below9 n hn i hi
    have e5 : shown9 w a ep es = es := by unfold shown9; rw [hl]; rfl
    rw [e4]
    rw [e5] at h
    refine wpAny_pure ?_
    have hsz := hE.size
    rcases Nat.lt_or_ge i (sub9 n).length with hlt | hge
    · have h1 : es[i]? = some es[i] := Array.getElem?_eq_getElem (by rw [hsz]; exact hlt)
      have h2 : (tab9 true n).place[i]? = some (sub9 n)[i] := by show (sub9 n).toArray[i]? = _; simp [hlt]
      rw [h1] at h ⊢
      rw [h2]
      have e6 : slot9 w n (i + 1) = (sub9 n)[i] + 1 := by unfold slot9; rw [hl]; simp [hlt]
      rw [e6] at h
      exact h
    · have h1 : es[i]? = none := Array.getElem?_eq_none (by rw [hsz]; exact hge)
      rw [h1] at h ⊢
      exact h

theorem si_obj9 {h : Heap} {v1 v2 : Value} {o : Obj} (ho : h.get? I = some o) {x0 x1 x2 x3 x4 : Value} (hd : o = { cls := .type "set_iterator", data := .fields #[x0, x1, x2, x3, x4] }) :
    ((h.update I (Obj.mapFields (·.setIfInBounds 0 v1))).update I (Obj.mapFields (·.setIfInBounds 1 v2))).get? I = some { cls := .type "set_iterator", data := .fields #[v1, v2, x2, x3, x4] } := by
  subst hd
  have h1 := Heap.get?_update_self (Obj.mapFields (·.setIfInBounds 0 v1)) ho rfl
  exact Heap.get?_update_self (Obj.mapFields (·.setIfInBounds 1 v2)) h1 rfl

theorem si_next_item {Q : Option Value → Shared → Prop} {e : Int × Value} (hn : n < 128) (hE : Ent9 es n) (ho : s.heap.get? a = some (setObj9 w es ep n)) (hI : s.heap.get? I = some (siObj9 w a n ep i)) (hi : i < (sub9 n).length) (hne : e.2 ≠ .none) (he : (shown9 w a ep es)[i]? = some e)
    (hQ : ∀ h', h'.get? I = some (siObj9 w a n ep (i + 1)) → Heap.SameBut I s.heap h' → Q (some e.2) { s with heap := h' }) : wpAny (model prog w) A (pyNext (.ref I)) Q E s := by
  have hT : s.TypeIs (.ref I) "set_iterator" := ⟨_, hI, rfl⟩
  unfold pyNext
  refine wpAny_bind (wpAny_attempt (wpAny_callSpecial?_slot (name := Str.ofString "__next__") hT slot_si_next (wpAny_call_entry slot_si_next hT entry_si_next ?_ (args_si_next _))))
  unfold Builtin.«set_iterator.__next__»
  refine wpAny_bind (wpAny_of_eq (a := (Value.ref I, [])) rfl ?_)
  refine wpAny_bind (wpAny_fieldsOf hI rfl ?_)
  dsimp only [rawInt]
  refine wpAny_bind (wpAny_setEntries_of ho rfl (by rw [hE.size]; exact fits9 _ n hn) ?_)
  refine KFB.if_not (by rw [hE.size]; simp) ?_
  try dsimp only
  try simp only [Int.toNat_natCast]
  refine wpAny_bind (setNext9 hn hE ho (Nat.le_of_lt hi) ?_)
  rw [he]
  dsimp only [Option.map]
  refine wpAny_bind (wpAny_setField hI rfl (by simp) ?_)
  refine wpAny_bind (wpAny_setField (Heap.get?_update_self _ hI rfl) rfl (by simp) ?_)
  refine wpAny_pure ⟨_, rfl, ?_⟩
  have hq := hQ _ (si_obj9 (v1 := rawInt (slot9 w n (i + 1))) (v2 := rawInt ((i : Int) + 1)) hI rfl) ((Heap.SameBut.update ..).trans (Heap.SameBut.update ..))
  exact wpAny_pure hq
end
end Mine
end
theorem Mine.calm9a30 : True ∧ True := by
  w_top off
  (try walk1) <;> (first | exact True.intro | exact ⟨True.intro, True.intro⟩)

/-! part P30 -/
section
open PySem PySem.W PySem.Calls PySem.Spec PyProof.Rows
namespace Mine
theorem entry_si_iter : entryFor table "set_iterator.__iter__" = some Builtin.«dict_keyiterator.__iter__» :=
  entryFor_alias (id' := "dict_keyiterator.__iter__") (by rw [fastTable_eq_tree]; kernel_rfl) rfl canon9.2.2.2.2.2.2.2.1 (by rw [fastTable_eq_tree]; kernel_rfl)
section
variable {prog : Program} {w : World} {A : Around} {E : Value → Shared → Prop} {s : Shared} {a I v d : Addr} {n ep ep' i : Nat} {es : Array (Int × Value)} {ks : List Int} {o : Obj}

theorem si_iter {Q : Value → Shared → Prop} (hT : s.TypeIs (.ref I) "set_iterator") (h : Q (.ref I) s) : wpAny (model prog w) A (pyIter (.ref I)) Q E s := by
  refine wpAny_pyIter_slot hT slot_si_iter (wpAny_call_entry slot_si_iter hT entry_si_iter ?_ (args_si_iter _))
  show wpAny _ _ (ret (.ref I)) _ _ s
  exact wpAny_pure ⟨_, rfl, "set_iterator", _, hT, slot_si_next.lookup, h⟩

theorem si_next_end {Q : Option Value → Shared → Prop} (hh : A.handled = none) (hn : n < 128) (hE : Ent9 es n) (ho : s.heap.get? a = some (setObj9 w es ep n)) (hI : s.heap.get? I = some (siObj9 w a n ep (sub9 n).length))
    (hQ : ∀ h', Heap.ExtBut I s.heap h' → Q none { s with heap := h' }) : wpAny (model prog w) A (pyNext (.ref I)) Q E s := by
  have hT : s.TypeIs (.ref I) "set_iterator" := ⟨_, hI, rfl⟩
  unfold pyNext
  refine wpAny_bind (wpAny_attempt (wpAny_callSpecial?_slot (name := Str.ofString "__next__") hT slot_si_next (wpAny_call_entry slot_si_next hT entry_si_next ?_ (args_si_next _))))
  unfold Builtin.«set_iterator.__next__»
  refine wpAny_bind (wpAny_of_eq (a := (Value.ref I, [])) rfl ?_)
  refine wpAny_bind (wpAny_fieldsOf hI rfl ?_)
  dsimp only [rawInt]
  refine wpAny_bind (wpAny_setEntries_of ho rfl (by rw [hE.size]; exact fits9 _ n hn) ?_)
  refine KFB.if_not (by rw [hE.size]; simp) ?_
  try dsimp only
  try simp only [Int.toNat_natCast]
  refine wpAny_bind (setNext9 hn hE ho (Nat.le_refl _) ?_)
  have hsz : (shown9 w a ep es).size = (sub9 n).length := by rw [← Array.length_toList, (shown_perm9 w a ep es).length_eq, Array.length_toList, hE.size]
  rw [Array.getElem?_eq_none (by rw [hsz]; exact Nat.le_refl _)]
  dsimp only [Option.map]
  refine wpAny_bind (wpAny_setField hI rfl (by simp) ?_)
  show wpAny _ _ (newExc (.type "StopIteration") [] >>= _) _ _ _
  refine wpAny_bind ?_
  simp only [newExc, newTuple]
  refine wpAny_bind (wpAny_newObj_type ?_ (by size_fits))
  refine wpAny_bind (m := firstArgMember _ _) (wpAny_of_eq (a := Value.none) (by first | rfl | (simp only [firstArgMember]; rfl)) ?_)
  refine wpAny_newObj_type ?_ (by size_fits)
  simp only [raiseNew]
  refine wpAny_bind (wpAny_handled ?_)
  rw [show A.in1.handled = none from hh]
  refine wpAny_bind (wpAny_pure (wpAny_throw ?_))
  refine wpAny_bind (wpAny_isInstance (T := "StopIteration") (b := true) ⟨_, Heap.get?_push_size _ rfl, rfl⟩ isSubtype_stop ?_)
  exact wpAny_pure (hQ _ (((Heap.SameBut.update ..).extBut.push _).push _))

theorem walksSet (hh : A.handled = none) (hn : n < 128) (hE : Ent9 es n) (hne : a ≠ I) :
    Walks prog w A I [I, a] [I] (sub9 n).length (fun i v => ∃ e, (shown9 w a ep es)[i]? = some e ∧ v = e.2) (fun i h => h.get? I = some (siObj9 w a n ep i) ∧ h.get? a = some (setObj9 w es ep n)) where
  sub := fun b hb => by simp at hb; simp [hb]
  frame := fun _ _ _ st hk => ⟨hk I (by simp) _ st.1, hk a (by simp) _ st.2⟩
  item := fun i s Q E hi st hQ => by
    have hsz : (shown9 w a ep es).size = (sub9 n).length := by rw [← Array.length_toList, (shown_perm9 w a ep es).length_eq, Array.length_toList, hE.size]
    have he : (shown9 w a ep es)[i]? = some (shown9 w a ep es)[i] := Array.getElem?_eq_getElem (by rw [hsz]; exact hi)
    have hm : (shown9 w a ep es)[i] ∈ es.toList := (shown_perm9 w a ep es).mem_iff.mp (by rw [← Array.getElem_toList]; exact List.getElem_mem _)
    obtain ⟨t, e2⟩ := hE.2 _ hm
    refine si_next_item hn hE st.2 st.1 hi (by rw [e2]; exact fun q => by cases q) he fun h' hit' hs' => ?_
    exact hQ _ h' s.toks ⟨_, he, rfl⟩ ⟨hit', hs'.extBut a _ hne st.2⟩ fun b o hb e => hs'.extBut b o (fun h => hb (by simp [h])) e
  done := fun s Q E st hQ => si_next_end hh hn hE st.2 st.1 fun h' he' => hQ h' s.toks fun b o hb e => he' b o (fun h => hb (by simp [h])) e
  self := fun _ _ _ _ st hQ => si_iter ⟨_, st.1, rfl⟩ hQ

theorem pyIterSet9 {Q : Value → Shared → Prop} (hn : n < 128) (hE : Ent9 es n) (ho : s.heap.get? a = some (setObj9 w es ep n)) (h : Q (.ref s.heap.objs.size) { s with heap := s.heap.push (siObj9 w a n ep 0) }) :
    wpAny (model prog w) A (pyIter (.ref a)) Q E s := by
  have hT : s.TypeIs (.ref a) "set" := ⟨_, ho, rfl⟩
  have hf : (tab9 (led9 w) n).fits es.size = true := by rw [hE.size]; exact fits9 _ n hn
  refine wpAny_pyIter_slot hT slot_s_iter (wpAny_call_entry slot_s_iter hT entry_s_iter ?_ (args_s_iter _))
  unfold Builtin.«frozenset.__iter__»
  show wpAny _ _ (Builtin.Frozenset.slot0 "__iter__" ⟨[.ref a], []⟩ >>= _) _ _ _
  refine wpAny_bind (wpAny_of_eq (a := a) rfl ?_)
  refine wpAny_bind ?_
  unfold Builtin.Frozenset.sizeOf
  refine wpAny_bind (wpAny_setEntries_of ho rfl hf (wpAny_pure ?_))
  refine wpAny_bind ?_
  unfold setDrawn
  refine wpAny_bind (wpAny_setState_of ho rfl hf ?_)
  dsimp only
  refine wpAny_bind ?_
  unfold setsByText
  refine wpAny_bind (wpAny_askSetting (wpAny_pure ?_))
  refine wpAny_pure ?_
  refine KFB.if_not (by show (!(w.params.followText "set-order") && false) = false; exact Bool.and_false _) ?_
  refine wpAny_bind (wpAny_pure ?_)
  refine wpAny_bind (wpAny_setEpoch_of ho rfl hf ?_)
  unfold newFields
  refine wpAny_bind (wpAny_newObj_type (wpAny_pure ⟨_, rfl, "set_iterator", _, ⟨_, Heap.get?_push_size _ rfl, rfl⟩, slot_si_next.lookup, ?_⟩))
  have e : slot9 w n 0 = 0 := by unfold slot9; split <;> rfl
  rw [hE.size]
  have e2 : ({ cls := .type "set_iterator", data := .fields [rawInt 0, rawInt 0, .ref a, rawInt ((sub9 n).length : Nat), rawInt (ep : Nat)].toArray } : Obj) = siObj9 w a n ep 0 := by unfold siObj9; rw [e]; rfl
  rw [← e2] at h
  exact h
end
end Mine
end
theorem Mine.calm9a31 : True ∧ True := by
  w_top off
  (try walk1) <;> (first | exact True.intro | exact ⟨True.intro, True.intro⟩)

/-! part P31 -/
section
open PySem PySem.W PySem.Calls PySem.Spec PyProof.Rows
namespace Mine
theorem am_set_getattr_none : typeLookup (.type "set") "__getattr__" = pure none := by rw [typeLookup_type, builtinLookup_eq_fast]; kernel_rfl
theorem am_entry_set_getattribute : entryFor table "set.__getattribute__" = some Builtin.«object.__getattribute__» :=
  entryFor_alias (id' := "object.__getattribute__") (by rw [fastTable_eq_tree]; kernel_rfl) rfl canon9.2.2.2.2.2.2.2.2.1 (by rw [fastTable_eq_tree]; kernel_rfl)
theorem look_set_isect : typeLookup (.type "set") (Str.ofString "intersection") = pure (some (.builtin "set.intersection")) := by rw [typeLookup_type, builtinLookup_eq_fast]; kernel_rfl
theorem type_isect : typeOf (.builtin "set.intersection") = pure (.type "method_descriptor") := by show builtinType _ = _; rw [builtinType_eq_fast]; kernel_rfl
theorem look_md_get : typeLookup (.type "method_descriptor") (Str.ofString "__get__") = pure (some (.builtin "method_descriptor.__get__")) := by rw [typeLookup_type, builtinLookup_eq_fast]; kernel_rfl
theorem look_md_set : typeLookup (.type "method_descriptor") (Str.ofString "__set__") = pure none := by rw [typeLookup_type, builtinLookup_eq_fast]; kernel_rfl
theorem look_md_del : typeLookup (.type "method_descriptor") (Str.ofString "__delete__") = pure none := by rw [typeLookup_type, builtinLookup_eq_fast]; kernel_rfl

theorem spec_isect (n : Str) (r : Option Value) (h : typeLookup (.type "method_descriptor") n = pure r) : specialOf (.builtin "set.intersection") n = pure r := by
  show (typeOf (.builtin "set.intersection") >>= fun t => typeLookup t n) = _
  rw [type_isect, pure_bind]; exact h
theorem stores_isect : Builtin.ObjectAttr.takesStores (.builtin "set.intersection") = pure false := by
  unfold Builtin.ObjectAttr.takesStores
  have a : specialOf (.builtin "set.intersection") "__set__" = pure none := spec_isect _ _ look_md_set
  have b : specialOf (.builtin "set.intersection") "__delete__" = pure none := spec_isect _ _ look_md_del
  rw [a, pure_bind]
  show (specialOf (.builtin "set.intersection") "__delete__" >>= fun r => pure r.isSome) = _
  rw [b]; rfl
theorem slot_md_get : Slot "method_descriptor" "__get__" "method_descriptor.__get__" :=
  .of (owner := "method_descriptor") (n := "__get__") (by rw [typeLookup_type, builtinLookup_eq_fast]; kernel_rfl) (by decide +kernel) (by decide +kernel) (by decide +kernel)
    (by first | exact .inl (by decide +kernel) | exact .inr (by decide +kernel)) (by rw [isSubtype_type]; kernel_rfl)
theorem entry_md_get : entryFor table "method_descriptor.__get__" = some Builtin.«method_descriptor.__get__» := entryFor_of_tree (by kernel_rfl)
theorem args_md_get (a b c : Value) : argsOk "method_descriptor.__get__" ⟨[a, b, c], []⟩ := by unfold argsOk; kernel_rfl
theorem told_isect : Manifest.toldItsClass.contains "set.intersection" = false := by decide +kernel
theorem owner_isect : (kfb_private% "ownerAndName") "set.intersection" = ("set", "intersection") := by first | decide +kernel | kernel_rfl
section
variable {prog : Program} {w : World} {A : Around} {E : Value → Shared → Prop} {s : Shared} {a I v d : Addr} {n ep ep' i : Nat} {es : Array (Int × Value)} {ks : List Int} {o : Obj}

theorem getattribute_isect9 {u : Tok} {P : PySem.Fin → Shared → Prop} (ho : s.heap.get? a = some (setObj9 w es ep n))
    (h : P (.done (.ret (.ref s.heap.objs.size))) { s with heap := s.heap.push { cls := .type "builtin_function_or_method", data := .fields #[.builtin "set.intersection", .ref a] } }) :
    wpAny (model prog w) A (Builtin.«object.__getattribute__» ⟨[.ref a, .str (Str.ofString "intersection") u], []⟩) P E s := by
  have hT : s.TypeIs (.ref a) "set" := ⟨_, ho, rfl⟩
  unfold Builtin.«object.__getattribute__»
  refine wpAny_bind (wpAny_of_eq (a := (Value.ref a, [Value.str (Str.ofString "intersection") u])) rfl ?_)
  dsimp only
  refine wpAny_bind (wpAny_of_eq (a := Str.ofString "intersection") rfl ?_)
  refine wpAny_bind (wpAny_typeOf hT ?_)
  refine wpAny_bind ?_
  unfold Builtin.ObjectAttr.find
  refine wpAny_bind (wpAny_of_eq look_set_isect ?_)
  refine wpAny_bind (m := Builtin.ObjectAttr.getOf _) (wpAny_of_eq (a := some (.builtin "method_descriptor.__get__")) (spec_isect _ _ look_md_get) ?_)
  refine wpAny_bind ?_
  show wpAny _ _ (Builtin.ObjectAttr.takesStores (.builtin "set.intersection") >>= _) _ _ _
  refine wpAny_bind (wpAny_of_eq stores_isect ?_)
  refine KFB.if_not rfl ?_
  refine wpAny_pure ?_
  dsimp only
  unfold Builtin.ObjectAttr.ownThenClass
  refine wpAny_bind ?_
  unfold Builtin.ObjectAttr.inOwnDict
  dsimp only
  unfold Builtin.ObjectAttr.ownDict
  have hld : ∀ {α : Type} {f : Obj → Sem α} {Q : α → Shared → Prop}, wpAny (model prog w) A (f (setObj9 w es ep n)) Q E s → wpAny (model prog w) A (loadHead a >>= f) Q E s := fun h => nd_load ho h
  refine wpAny_bind (hld ?_)
  show wpAny _ _ (instanceDict a false) _ _ _
  unfold instanceDict
  refine hld ?_
  refine wpAny_pure ?_
  refine wpAny_pure ?_
  dsimp only
  refine wpAny_bind (wpAny_of_eq (a := ()) rfl ?_)
  unfold Builtin.ObjectAttr.byTheClass
  refine wpAny_bind (wpAny_rule (wpAny_pure ?_))
  dsimp only
  unfold Builtin.ObjectAttr.bindTo
  dsimp only
  refine wpAny_bind (wpAny_holding (wpAny_call_entry slot_md_get type_isect entry_md_get ?_ (args_md_get _ _ _)))
  unfold Builtin.«method_descriptor.__get__»
  refine wpAny_bind (wpAny_of_eq (a := (.builtin "set.intersection", some (.ref a), some (.type "set"))) (by first | rfl | kernel_rfl) ?_)
  refine KFB.if_not told_isect ?_
  refine wpAny_bind ?_
  refine wpAny_bind (wpAny_of_eq (a := (Str.ofString "intersection", Value.type "set")) (by first | kernel_rfl | rfl) ?_)
  dsimp only
  refine wpAny_bind (wpAny_isInstance hT PySem.sub_set_self ?_)
  refine KFB.if_not rfl ?_
  refine wpAny_pure ?_
  unfold newFields
  exact wpAny_bind (wpAny_newObj_type (wpAny_pure ⟨_, rfl, wpAny_pure h⟩))

theorem getAttr_isect9 {Q : Value → Shared → Prop} (ho : s.heap.get? a = some (setObj9 w es ep n))
    (h : ∀ tk, Q (.ref s.heap.objs.size) { s with heap := s.heap.push { cls := .type "builtin_function_or_method", data := .fields #[.builtin "set.intersection", .ref a] }, toks := tk }) :
    wpAny (model prog w) A (getAttr (.ref a) (Str.ofString "intersection")) Q E s := by
  have hT : ∀ tk', ({ s with toks := tk' } : Shared).TypeIs (.ref a) "set" := fun _ => ⟨_, ho, rfl⟩
  unfold getAttr getAttrBy
  repeat (any_goals (first | assumption | exact hT _ | ((with_reducible show wpAny _ _ (call (Value.builtin "set.__getattribute__") _ _) _ _ _); refine wpAny_call_entry PySem.F.slot_set_getattribute (hT _) am_entry_set_getattribute (getattribute_isect9 ho ⟨_, rfl, ?_⟩) (PySem.F.args_set_getattribute_2 _ _)) | wp_step))
  refine wpAny_of_eq PySem.F.slot_set_getattribute.lookup ?_
  dsimp only
  refine KFB.if_not (by show (onTheHeap (.type "set") && _) = false; decide) ?_
  unfold getAttrByItsOwn
  refine wpAny_bind (wpAny_of_eq (a := none) (by show hookBefore (.type "set") = _; rfl) ?_)
  dsimp only [Option.toList]
  refine wpAny_bind (wpAny_attempt (wpAny_holding ?_))
  unfold callGetattribute
  refine KFB.if_not rfl ?_
  unfold boundAndCalled
  refine wpAny_bind (wpAny_of_eq (PySem.F.slot_set_getattribute.bind _) ?_)
  dsimp only [List.cons_append, List.nil_append]
  refine wpAny_call_entry PySem.F.slot_set_getattribute (hT _) am_entry_set_getattribute (getattribute_isect9 ho ⟨_, rfl, ?_⟩) (PySem.F.args_set_getattribute_2 _ _)
  dsimp only
  refine wpAny_of_eq (a := Value.ref s.heap.objs.size) rfl (h _)

end
end Mine
end
theorem Mine.calm9a32 : True ∧ True := by
  w_top off
  (try walk1) <;> (first | exact True.intro | exact ⟨True.intro, True.intro⟩)

/-! part P32 -/
section
open PySem PySem.W PySem.Calls PySem.Spec PyProof.Rows
namespace Mine
theorem entry_il : entryFor table "frozenset.intersection.loop" = some Builtin.«frozenset.intersection.loop» := entryFor_of_tree (by kernel_rfl)
theorem plain_il : plainId "frozenset.intersection.loop" = true := by decide +kernel
theorem entry_si : entryFor table "set.intersection" = some Builtin.«frozenset.intersection» :=
  entryFor_alias (id' := "frozenset.intersection") (by rw [fastTable_eq_tree]; kernel_rfl) rfl canon9.2.2.2.2.2.2.2.2.2.1 (by rw [fastTable_eq_tree]; kernel_rfl)
theorem plain_si : plainId "set.intersection" = true := by decide +kernel
theorem sig_si : Manifest.signature? "set.intersection" = some ⟨.positional, "set.intersection", "intersection", .self, [⟨"others", .varPos, false⟩]⟩ := by
  rw [signature?_of (id := "set.intersection") (n := ['n', 'o', 'i', 't', 'c', 'e', 's', 'r', 'e', 't', 'n', 'i']) (o := ['t', 'e', 's']) (by kernel_rfl) PySem.F.owner_set]; kernel_rfl
theorem kind_si : builtinKind "set.intersection" = some .method := by decide +kernel
theorem var_si : Manifest.varargsMethods.contains "set.intersection" = false := by decide +kernel
theorem last_set : Bind.lastOf "set" = "set" := by first | decide +kernel | kernel_rfl
theorem last_si : Bind.lastOf "set.intersection" = "intersection" := by first | decide +kernel | kernel_rfl
theorem sub_set_module : isSubtype (.type "set") (.type "module") = pure false := by rw [isSubtype_type]; kernel_rfl
theorem sub_set_type : isSubtype (.type "set") (.type "type") = pure false := by rw [isSubtype_type]; kernel_rfl
theorem margs_si (x y : Value) : Bind.checkArgs "set.intersection" ⟨.positional, "set.intersection", "intersection", .self, [⟨"others", .varPos, false⟩]⟩ ⟨[x, y], []⟩ = pure () := by
  first | kernel_rfl | (unfold Bind.checkArgs; kernel_rfl)
theorem check_si9 {prog : Program} {w : World} {A : Around} {E : Value → Shared → Prop} {s : Shared} {S n ep : Nat} {es : Array (Int × Value)} {y : Value} {Q : Unit → Shared → Prop} (ho : s.heap.get? S = some (setObj9 w es ep n)) (h : Q () s) : wpAny (model prog w) A (checkBoundCall "set.intersection" ⟨[.ref S, y], []⟩) Q E s := by
  have hT : s.TypeIs (.ref S) "set" := ⟨_, ho, rfl⟩
  unfold checkBoundCall
  rw [sig_si, kind_si]
  dsimp only
  refine KFB.if_not rfl ?_
  refine wpAny_bind (wpAny_isInstance hT sub_set_module ?_)
  refine KFB.if_not (by rw [var_si]; rfl) ?_
  refine wpAny_bind ?_
  unfold isType
  refine nd_load ho (wpAny_pure ?_)
  refine KFB.if_not rfl ?_
  refine wpAny_bind (wpAny_typeOf hT ?_)
  dsimp only
  rw [last_set, last_si, show (toString "set" ++ toString "." ++ toString "intersection") = "set.intersection" from by decide]
  exact wpAny_of_eq (margs_si _ _) h
theorem sub_dk_set : isSubtype (.type "dict_keys") (.type "set") = pure false := by rw [isSubtype_type]; kernel_rfl
theorem sub_dk_fs : isSubtype (.type "dict_keys") (.type "frozenset") = pure false := by rw [isSubtype_type]; kernel_rfl
theorem fil_le9 {p q : Nat → Bool} : ∀ l : List Nat, (∀ x ∈ l, p x = true → q x = true) → (l.filter p).length ≤ (l.filter q).length
  | [], _ => Nat.le_refl _
  | x :: r, h => by
    have ih := fil_le9 r fun y hy => h y (.tail _ hy)
    cases hp : p x with
    | false =>
      rw [List.filter_cons_of_neg (p := p) (by rw [hp]; decide)]
      cases hq : q x with
      | false => rw [List.filter_cons_of_neg (p := q) (by rw [hq]; decide)]; exact ih
      | true => rw [List.filter_cons_of_pos hq]; exact Nat.le_succ_of_le ih
    | true => rw [List.filter_cons_of_pos hp, List.filter_cons_of_pos (h x (.head _) hp)]; exact Nat.succ_le_succ ih
theorem fil_eq9 {p q : Nat → Bool} : ∀ l : List Nat, (∀ x ∈ l, p x = true → q x = true) → (l.filter q).length ≤ (l.filter p).length → ∀ x ∈ l, q x = true → p x = true
  | [], _, _ => fun _ hx => nomatch hx
  | x :: r, h, hl => by
    have le := fil_le9 r fun y hy => h y (.tail _ hy)
    cases hp : p x with
    | false =>
      cases hq : q x with
      | false =>
        rw [List.filter_cons_of_neg (p := q) (by rw [hq]; decide), List.filter_cons_of_neg (p := p) (by rw [hp]; decide)] at hl
        intro y hy hqy
        rcases List.mem_cons.mp hy with rfl | hy
        · rw [hq] at hqy; cases hqy
        · exact fil_eq9 r (fun z hz => h z (.tail _ hz)) hl y hy hqy
      | true =>
        rw [List.filter_cons_of_neg (p := p) (by rw [hp]; decide), List.filter_cons_of_pos hq, List.length_cons] at hl
        omega
    | true =>
      rw [List.filter_cons_of_pos hp, List.filter_cons_of_pos (h x (.head _) hp), List.length_cons, List.length_cons] at hl
      intro y hy hqy
      rcases List.mem_cons.mp hy with rfl | hy
      · exact hp
      · exact fil_eq9 r (fun z hz => h z (.tail _ hz)) (by omega) y hy hqy
theorem bit_hi9 {n j : Nat} (hn : n < 128) (hj : ¬ j < 7) : n.testBit j = false :=
  Nat.testBit_lt_two_pow (Nat.lt_of_lt_of_le hn (Nat.pow_le_pow_right (n := 2) (i := 7) (j := j) (by decide) (by omega)))
theorem sub_and9 : ∀ n < 128, ∀ N < 128, (∀ j < 7, N.testBit j = true → n.testBit j = true) → N &&& n = N := by
  intro n _ N hN h
  refine Nat.eq_of_testBit_eq fun j => ?_
  rw [Nat.testBit_and]
  by_cases hj : j < 7
  · cases e : N.testBit j with
    | false => rfl
    | true => rw [h j hj e]; rfl
  · rw [bit_hi9 hN hj]; rfl
theorem full9 : ∀ n < 128, ∀ N < 128, N &&& n = N → (sub9 n).length ≤ (sub9 N).length → N = n := by
  intro n hn N hN ha hl
  refine Nat.eq_of_testBit_eq fun j => ?_
  have sub : ∀ i, N.testBit i = true → n.testBit i = true := fun i hi => by
    rw [← ha, Nat.testBit_and, Bool.and_eq_true] at hi; exact hi.2
  by_cases hj : j < 7
  · have back := fil_eq9 (List.range 7) (fun x _ => sub x) hl j (List.mem_range.mpr hj)
    cases e : n.testBit j with
    | true => exact back e
    | false =>
      cases e' : N.testBit j with
      | false => rfl
      | true => rw [sub j e'] at e; cases e
  · rw [bit_hi9 hN hj, bit_hi9 hn hj]

section
variable {prog : Program} {w : World} {A : Around} {E : Value → Shared → Prop} {s : Shared} {S r v d : Addr} {n ep : Nat} {ks ls : List Int} {oS : Obj}

theorem isLoop9 {I : Addr} {fp : List Addr} {P : Nat → Value → Prop} {St : Nat → Heap → Prop} {R : Result → Shared → Prop} (W : Walks prog w A.in1 I fp [I] ls.length P St) (hval : ∀ i x, P i x → ∃ t k, ls[i]? = some k ∧ x = .int k t) (hsm : sm ls) (hrf : r ∉ fp) (hSI : S ≠ I) (hSr : S ≠ r) (hS : SetIs9 w oS n) :
    ∀ (k i : Nat) (s : Shared) (o : Obj) (N : Nat), ls.length - i = k → i ≤ ls.length → St i s.heap → s.heap.get? S = some oS → s.heap.get? r = some o → SetIs9 w o N → (∀ j < 7, N.testBit j = (n.testBit j && decide ((j : Int) ∈ ls.take i))) →
      (∀ h' tk o' N', h'.get? r = some o' → SetIs9 w o' N' → (∀ j < 7, N'.testBit j = (n.testBit j && decide ((j : Int) ∈ ls))) → (∀ b o, b ≠ r → b ≠ I → s.heap.get? b = some o → h'.get? b = some o) → R (.ok (.ret .none)) { s with heap := h', toks := tk }) →
      codeAny (model prog w) A (.builtin "frozenset.intersection.loop" ⟨[.ref S, .ref I, .ref r], []⟩) R s := by
  have hrI : r ≠ I := fun e => hrf (W.sub r (by rw [e]; exact .head _))
  intro k
  induction k with
  | zero =>
    intro i s o N hk hi hst hoS ho hN hb hR
    have hin : i = ls.length := by omega
    subst hin
    refine codeAny_builtin entry_il ?_
    rw [Around.under_plainId plain_il _]
    show wpAny _ A.in1 (pyNext (.ref I) >>= _) _ _ s
    refine wpAny_bind (W.done s _ _ hst fun h' tk hk' => ?_)
    show wpAny _ A.in1 (ret Value.none) _ _ _
    rw [List.take_length] at hb
    exact wpAny_pure (hR h' tk o N (hk' r o (by simpa using hrI) ho) hN hb fun b o hbr hbI e => hk' b o (by simpa using hbI) e)
  | succ k ih =>
    intro i s o N hk hi hst hoS ho hN hb hR
    have hlt : i < ls.length := by omega
    refine codeAny_builtin entry_il ?_
    rw [Around.under_plainId plain_il _]
    show wpAny _ A.in1 (pyNext (.ref I) >>= _) _ _ s
    refine wpAny_bind (W.item i s _ _ hlt hst fun x h' tk hP hst' hk' => ?_)
    obtain ⟨t, j, hj, rfl⟩ := hval i x hP
    have hjm := hsm j (List.mem_of_getElem? hj)
    obtain ⟨kk, rfl⟩ : ∃ kk : Nat, j = (kk : Int) := ⟨j.toNat, by omega⟩
    have hoS' := hk' S oS (by simpa using hSI) hoS
    have ho' := hk' r o (by simpa using hrI) ho
    have htake : ls.take (i + 1) = ls.take i ++ [(kk : Int)] := by rw [List.take_add_one, hj]; rfl
    dsimp only
    refine wpAny_bind (wpAny_holding (wpAny_pyHash_int ?_))
    refine wpAny_bind (wpAny_holding (setFind9 (k := kk) hS hoS' (by omega) fun q hq => ?_))
    by_cases hbit : n.testBit kk = true
    · rw [hbit] at hq
      rw [hq]
      simp only [if_true]
      refine wpAny_bind (wpAny_holding (setAddHashed9 (k := kk) hN ho' (by omega) fun b h2 o2 hsb ho2 hS2 => ?_))
      have hb2 : ∀ j < 7, (with9 N kk).testBit j = (n.testBit j && decide ((j : Int) ∈ ls.take (i + 1))) := fun j hj7 => by
        rw [sub_bit9 N hN.1 kk (by omega) j hj7, hb j hj7, htake]
        by_cases e1 : j = kk
        · subst e1; rw [hbit]; simp
        · have e2 : ((j : Int) = (kk : Int)) = False := by simp; omega
          cases n.testBit j <;> simp [e1, e2]
      have hoS2 := hsb.extBut S oS hSr hoS'
      unfold Builtin.Frozenset.sizeOf
      obtain ⟨hn2, es2, ep2, rfl, hE2⟩ := id hS2
      obtain ⟨hnS, esS, epS, rfl, hES⟩ := id hS
      refine wpAny_bind (wpAny_bind (wpAny_setEntries_of ho2 rfl (by rw [hE2.size]; exact fits9 _ _ hn2) (wpAny_pure ?_)))
      refine wpAny_bind (wpAny_bind (wpAny_setEntries_of hoS2 rfl (by rw [hES.size]; exact fits9 _ _ hnS) (wpAny_pure ?_)))
      rw [hE2.size, hES.size]
      have hkeep : ∀ b o, b ≠ r → b ≠ I → s.heap.get? b = some o → h2.get? b = some o := fun b o hbr hbI e => hsb.extBut b o hbr (hk' b o (by simpa using hbI) e)
      refine wpAny_ite_split (fun hge => ?_) (fun _ => ?_)
      · refine wpAny_bind (wpAny_rule ?_)
        have e3 : with9 N kk = n := full9 n hnS _ hn2 (sub_and9 n hnS _ hn2 fun j hj7 hbj => by rw [hb2 j hj7] at hbj; exact (Bool.and_eq_true_iff.mp hbj).1) hge
        refine wpAny_pure (hR h2 _ _ _ ho2 hS2 (fun j hj7 => ?_) hkeep)
        have := hb2 j hj7
        rw [e3] at this ⊢
        rw [this]
        cases hnj : n.testBit j with
        | false => rfl
        | true =>
          rw [hnj, Bool.true_and] at this
          have hm := List.mem_of_mem_take (of_decide_eq_true this.symm)
          rw [decide_eq_true hm, ← this]
          rfl
      · refine wpAny_pure ⟨plainId_quiet plain_il _, ih (i + 1) _ _ _ (by omega) hlt (W.frame _ _ _ hst' fun b hb o e => hsb.extBut b o (fun q => hrf (q ▸ hb)) e) hoS2 ho2 hS2 hb2 fun h3 tk3 o3 N3 ho3 hS3 hb3 hk3 => ?_⟩
        exact hR h3 tk3 o3 N3 ho3 hS3 hb3 fun b o hbr hbI e => hk3 b o hbr hbI (hkeep b o hbr hbI e)
    · have hbit' : n.testBit kk = false := by simpa using hbit
      rw [hbit'] at hq
      rw [hq]
      simp only [Bool.false_eq_true, if_false]
      refine wpAny_pure ⟨plainId_quiet plain_il _, ih (i + 1) _ o N (by omega) hlt hst' hoS' ho' hN (fun j hj7 => ?_) fun h3 tk3 o3 N3 ho3 hS3 hb3 hk3 => ?_⟩
      · rw [hb j hj7, htake]
        by_cases e1 : j = kk
        · subst e1; rw [hbit']; simp
        · have e2 : ((j : Int) = (kk : Int)) = False := by simp; omega
          cases n.testBit j <;> simp [e2]
      · exact hR h3 tk3 o3 N3 ho3 hS3 hb3 fun b o hbr hbI e => hk3 b o hbr hbI (hk' b o (by simpa using hbI) e)

end
end Mine
end
theorem Mine.calm9a33 : True ∧ True := by
  w_top off
  (try walk1) <;> (first | exact True.intro | exact ⟨True.intro, True.intro⟩)

/-! part P33 -/
section
open PySem PySem.W PySem.Calls PySem.Spec PyProof.Rows
namespace Mine
section
variable {prog : Program} {w : World} {A : Around} {E : Value → Shared → Prop} {s : Shared} {S r v d : Addr} {n ep : Nat} {ks ls : List Int} {oS : Obj}

/-- `S.intersection(v)`, the bound method being called -/
theorem callIsect9 {bm : Addr} {es : Array (Int × Value)} {epS : Nat} {Q : Value → Shared → Prop} (hh : A.handled = none) (hb : s.heap.get? bm = some { cls := .type "builtin_function_or_method", data := .fields #[.builtin "set.intersection", .ref S] })
    (hn : n < 128) (hE : Ent9 es n) (hoS : s.heap.get? S = some (setObj9 w es epS n)) (hv : KdlKeysView s.heap v d) (hm : s.heap.DictAt (intKind prog w) d (kv ls) ep) (sl : sm ls)
    (h : ∀ h' tk r o' N, (∀ b o, s.heap.get? b = some o → h'.get? b = some o) → h'.get? r = some o' → s.heap.objs.size ≤ r → SetIs9 w o' N → (∀ j < 7, N.testBit j = (n.testBit j && decide ((j : Int) ∈ ls))) → Q (.ref r) { s with heap := h', toks := tk }) :
    wpAny (model prog w) A (call (.ref bm) [.ref v]) Q E s := by
  have hTS : s.TypeIs (.ref S) "set" := ⟨_, hoS, rfl⟩
  refine wpAny_call (codeAny_of_tree ?_)
  show wpAny _ A.in1 (callAny (.ref bm) ⟨[.ref v], []⟩) _ _ s
  simp only [callAny]
  refine wpAny_bind (wpAny_load hb ?_)
  simp only [show (Value.type "builtin_function_or_method" == Value.type "method" || Value.type "builtin_function_or_method" == Value.type "builtin_function_or_method" || Value.type "builtin_function_or_method" == Value.type "method-wrapper") = true by decide, if_true]
  refine KFB.if_so (by decide) ?_
  refine wpAny_bind (check_si9 hoS ?_)
  refine wpAny_bind (wpAny_pure (wpAny_pure ?_))
  refine ⟨plainId_quiet plain_si _, codeAny_builtin entry_si ?_⟩
  rw [Around.under_plainId plain_si _]
  unfold Builtin.«frozenset.intersection»
  refine wpAny_bind (wpAny_of_eq (a := (S, [Value.ref v])) rfl ?_)
  refine KFB.if_not rfl ?_
  have hvS : v ≠ S := by
    rintro rfl
    obtain ⟨ov, e, hc, _⟩ := hv
    rw [hoS] at e; cases e
    exact absurd (show Value.type "set" = Value.type "dict_keys" from hc) (by decide)
  dsimp only
  simp only [List.forIn_cons, List.forIn_nil]
  refine wpAny_bind (wpAny_bind (wpAny_bind (wpAny_holding (wpAny_bind (wpAny_of_eq (a := S) rfl ?_)))))
  unfold Builtin.Frozenset.intersection
  refine KFB.if_not (by simpa using hvS) ?_
  refine wpAny_bind ?_
  unfold Builtin.Frozenset.baseOf
  refine wpAny_bind (wpAny_isInstance hTS PySem.sub_set_self (wpAny_pure ?_))
  simp only [if_true]
  refine wpAny_bind (newSet9 fun o hS0 => ?_)
  have kp₁ : ∀ b o₂, s.heap.get? b = some o₂ → (s.heap.push o).get? b = some o₂ := fun b o₂ e => Heap.get?_push_of_some _ e
  have ho : (s.heap.push o).get? s.heap.objs.size = some o := Heap.get?_push_size _ (by obtain ⟨_, _, _, rfl, _⟩ := hS0; rfl)
  have hv1 : KdlKeysView (s.heap.push o) v d := by obtain ⟨ov, e, q⟩ := hv; exact ⟨ov, kp₁ _ _ e, q⟩
  have hm1 := hm.at' (h' := s.heap.push o) fun o e => kp₁ _ _ e
  have lS : S < s.heap.objs.size := Heap.lt_size hoS
  have ld := hm.lt_size
  have hsz : (s.heap.push o).objs.size = s.heap.objs.size + 1 := Heap.size_push ..
  refine wpAny_bind (wpAny_of_eq (a := s.heap.objs.size) rfl ?_)
  refine wpAny_bind (wpAny_holding ?_)
  refine wpAny_bind ?_
  unfold Builtin.Frozenset.isAnySet
  refine wpAny_bind (wpAny_isInstance (s := { s with heap := s.heap.push o }) hv1.typeIs sub_dk_set ?_)
  show wpAny _ _ (isInstance (.ref v) (.type "frozenset")) _ _ _
  refine wpAny_isInstance (s := { s with heap := s.heap.push o }) hv1.typeIs sub_dk_fs ?_
  refine KFB.if_not rfl ?_
  refine wpAny_bind (kdl_pyIter_keys (s := { s with heap := s.heap.push o }) (knd := intKind prog w) hv1 hm1 ?_)
  have kp₂ : ∀ b o₂, (s.heap.push o).get? b = some o₂ → ((s.heap.push o).push { cls := .type "dict_keyiterator", data := .fields #[.ref d, .int 0 0, .int (kv ls).length 0, .int ep 0] }).get? b = some o₂ := fun b o₂ e => Heap.get?_push_of_some _ e
  have hvl : (kv ls).length = ls.length := by unfold kv; exact List.length_map ..
  have W := Walks.dictKeys (prog := prog) (w := w) (A := A.in1.in1) (knd := intKind prog w) hh (s.heap.objs.size + 1) d (Nat.ne_of_lt (Nat.lt_succ_of_lt ld)) (kv ls) ep
  rw [hvl] at W
  show wpAny _ _ (runValue (.builtin "frozenset.intersection.loop" ⟨[.ref S, .ref (s.heap.push o).objs.size, .ref s.heap.objs.size], []⟩) >>= _) _ _ _
  rw [hsz]
  refine wpAny_bind (wpAny_runValue (isLoop9 (A := A.in1) W (keyP ls) sl ?_ (Nat.ne_of_lt (Nat.lt_succ_of_lt lS)) (Nat.ne_of_lt lS) ⟨hn, es, epS, rfl, hE⟩ ls.length 0 _ o 0 rfl (Nat.zero_le _) ?_ (kp₂ _ _ (kp₁ _ _ hoS)) (kp₂ _ _ ho) hS0 (fun j _ => by simp) fun h' tk o' N ho' hS' hb hk => ?_))
  · simp only [List.mem_cons, List.not_mem_nil, or_false, not_or]
    exact ⟨Nat.ne_of_lt (Nat.lt_succ_self _), Nat.ne_of_gt ld⟩
  · refine ⟨⟨{ cls := .type "dict_keyiterator", data := .fields #[.ref d, .int 0 0, .int (kv ls).length 0, .int ep 0] }, ?_, rfl, by rw [← hvl]; rfl⟩, hm1.at' fun o e => kp₂ _ _ e⟩
    have := Heap.get?_push_size (h := s.heap.push o) (o := { cls := .type "dict_keyiterator", data := .fields #[.ref d, .int 0 0, .int (kv ls).length 0, .int ep 0] }) rfl
    rw [hsz] at this
    exact this
  · refine wpAny_pure (wpAny_pure (wpAny_pure (wpAny_pure (wpAny_pure ?_))))
    exact h h' tk _ o' _ (fun b o₂ e => hk b o₂ (Nat.ne_of_lt (Heap.lt_size e)) (Nat.ne_of_lt (Nat.lt_succ_of_lt (Heap.lt_size e))) (kp₂ _ _ (kp₁ _ _ e))) ho' (Nat.le_refl _) hS' hb

theorem slot_dk_rand : Slot "dict_keys" (dunderR "and") "dict_keys.__rand__" :=
  .of (owner := "dict_keys") (n := "__rand__") (by rw [typeLookup_type, builtinLookup_eq_fast]; kernel_rfl) (by decide +kernel) (by decide +kernel) (by decide +kernel)
    (by first | exact .inl (by decide +kernel) | exact .inr (by decide +kernel)) (by rw [isSubtype_type]; kernel_rfl)
theorem entry_dk_rand : entryFor table "dict_keys.__rand__" = some Builtin.«dict_items.__rand__» :=
  entryFor_alias (id' := "dict_items.__rand__") (by rw [fastTable_eq_tree]; kernel_rfl) rfl canon9.2.2.2.2.2.2.2.2.2.2.1 (by rw [fastTable_eq_tree]; kernel_rfl)
theorem args_dk_rand (a b : Value) : argsOk "dict_keys.__rand__" ⟨[a, b], []⟩ := by
  unfold argsOk; rw [signature?_of (id := "dict_keys.__rand__") (n := ['_', '_', 'd', 'n', 'a', 'r', '_', '_']) (o := ['s', 'y', 'e', 'k', '_', 't', 'c', 'i', 'd']) (by kernel_rfl) kdl_owner_keys]; kernel_rfl

/-- the loop over a set's members, from where the new set is made -/
theorem andTailS9 {es : Array (Int × Value)} {epS : Nat} {R : Result → Shared → Prop} (hh : A.handled = none) (hn : n < 128) (hE : Ent9 es n) (hoS : s.heap.get? S = some (setObj9 w es epS n)) (hv : KdlKeysView s.heap v d) (hm : s.heap.DictAt (intKind prog w) d (kv ks) ep)
    (h : ∀ h' tk r o' N, (∀ b o, s.heap.get? b = some o → h'.get? b = some o) → h'.get? r = some o' → s.heap.objs.size ≤ r → SetIs9 w o' N → (∀ j < 7, N.testBit j = (n.testBit j && decide ((j : Int) ∈ ks))) → R (.ok (.ret (.ref r))) { s with heap := h', toks := tk }) :
    wpAny (model prog w) A.in1 (do
      let result ← newSet (.type "set")
      again (.builtin "dict_items.__and__.loop" ⟨[.ref v, ← holding [result] (pyIter (.ref S)), result], []⟩))
      (fun fin s' => match fin with | .done f => R (.ok f) s' | .again c' => c'.quiet = true ∧ codeAny (model prog w) A c' R s') (fun e s' => R (.error e) s') s := by
  refine wpAny_bind (newSet9 fun o hS => ?_)
  have kp₁ : ∀ b o₂, s.heap.get? b = some o₂ → (s.heap.push o).get? b = some o₂ := fun b o₂ e => Heap.get?_push_of_some _ e
  have ho : (s.heap.push o).get? s.heap.objs.size = some o := Heap.get?_push_size _ (by obtain ⟨_, _, _, rfl, _⟩ := hS; rfl)
  have hv1 : KdlKeysView (s.heap.push o) v d := by obtain ⟨ov, e, q⟩ := hv; exact ⟨ov, kp₁ _ _ e, q⟩
  have hm1 := hm.at' (h' := s.heap.push o) fun o e => kp₁ _ _ e
  have lv : v < s.heap.objs.size := by obtain ⟨_, e, _⟩ := hv; exact Heap.lt_size e
  have ld := hm.lt_size
  have lS := Heap.lt_size hoS
  have hsz : (s.heap.push o).objs.size = s.heap.objs.size + 1 := Heap.size_push ..
  refine wpAny_bind (wpAny_holding (pyIterSet9 (s := { s with heap := s.heap.push o }) hn hE (kp₁ _ _ hoS) ?_))
  have kp₂ : ∀ b o₂, (s.heap.push o).get? b = some o₂ → ((s.heap.push o).push (siObj9 w S n epS 0)).get? b = some o₂ := fun b o₂ e => Heap.get?_push_of_some _ e
  have W := walksSet (prog := prog) (w := w) (A := A.in1) (I := s.heap.objs.size + 1) hh hn hE (ep := epS) (Nat.ne_of_lt (Nat.lt_succ_of_lt lS))
  have hls : ((shown9 w S epS es).toList.map (·.1)).length = (sub9 n).length := by rw [List.length_map, (shown_perm9 w S epS es).length_eq, Array.length_toList, hE.size]
  have hmem : ∀ e, e ∈ (shown9 w S epS es).toList ↔ e ∈ es.toList := fun e => (shown_perm9 w S epS es).mem_iff
  have sl : sm ((shown9 w S epS es).toList.map (·.1)) := fun k hk => by
    obtain ⟨e, he, rfl⟩ := List.mem_map.mp hk
    obtain ⟨i, hi, e1, _⟩ := hE.mem ((hmem e).mp he)
    have := (small9 n hn i hi).1
    rw [e1]; omega
  rw [← hls] at W
  have hP : ∀ (i : Nat) (x : Value), (∃ e : Int × Value, (shown9 w S epS es)[i]? = some e ∧ x = e.2) → ∃ t k, ((shown9 w S epS es).toList.map (·.1))[i]? = some k ∧ x = Value.int k t := by
    rintro i x ⟨e, he, rfl⟩
    have hm : e ∈ (shown9 w S epS es).toList := by rw [← Array.getElem?_toList] at he; exact List.mem_of_getElem? he
    obtain ⟨t, e2⟩ := hE.2 e ((hmem e).mp hm)
    refine ⟨t, e.1, ?_, e2⟩
    rw [List.getElem?_map, Array.getElem?_toList, he]; rfl
  show wpAny _ _ (again (.builtin "dict_items.__and__.loop" ⟨[.ref v, .ref (s.heap.push o).objs.size, .ref s.heap.objs.size], []⟩)) _ _ _
  rw [hsz]
  refine wpAny_pure ⟨plainId_quiet plain_and_loop _, andLoop9 (ks := ks) (ep := ep) W hP sl ?_ (Nat.ne_of_lt (Nat.lt_succ_of_lt lv)) (Nat.ne_of_lt (Nat.lt_succ_of_lt ld)) (Nat.ne_of_lt lv) (Nat.ne_of_lt ld) _ 0 _ o 0 rfl (Nat.zero_le _) ?_ ?_ ?_ (kp₂ _ _ ho) hS fun h' tk o' ho' hS' hk => ?_⟩
  · simp only [List.mem_cons, List.not_mem_nil, or_false, not_or]
    exact ⟨Nat.ne_of_lt (Nat.lt_succ_self _), Nat.ne_of_gt lS⟩
  · refine ⟨?_, kp₂ _ _ (kp₁ _ _ hoS)⟩
    have := Heap.get?_push_size (h := s.heap.push o) (o := siObj9 w S n epS 0) rfl
    rw [hsz] at this
    exact this
  · obtain ⟨ov, e, q⟩ := hv1; exact ⟨ov, kp₂ _ _ e, q⟩
  · exact hm1.at' fun o e => kp₂ _ _ e
  · refine h h' tk _ o' _ (fun b o₂ e => hk b o₂ (Nat.ne_of_lt (Heap.lt_size e)) (Nat.ne_of_lt (Nat.lt_succ_of_lt (Heap.lt_size e))) (kp₂ _ _ (kp₁ _ _ e))) ho' (Nat.le_refl _) hS' fun j hj => ?_
    rw [List.drop_zero, andL_bit9 (by decide) sl j hj, Nat.zero_testBit, Bool.false_or]
    have : ((j : Int) ∈ (shown9 w S epS es).toList.map (·.1)) ↔ n.testBit j = true := by
      constructor
      · intro hk
        obtain ⟨e, he, e1⟩ := List.mem_map.mp hk
        obtain ⟨i, hi, e2, _⟩ := hE.mem ((hmem e).mp he)
        have : i = j := by omega
        subst this
        exact (small9 n hn i hi).2
      · intro hb
        have h1 : (j : Int) ∈ es.toList.map (·.1) := by rw [hE.keys]; exact List.mem_map_of_mem (has9 n hn j hj hb)
        obtain ⟨e, he, e1⟩ := List.mem_map.mp h1
        exact List.mem_map.mpr ⟨e, (hmem e).mpr he, e1⟩
    by_cases e1 : n.testBit j = true
    · rw [e1, Bool.true_and]; by_cases e2 : (j : Int) ∈ ks <;> simp [e2, this.mpr e1]
    · have e1' : n.testBit j = false := by simpa using e1
      rw [e1', Bool.false_and]; exact decide_eq_false fun q => e1 (this.mp q.1)

/-- `v.__rand__(S)` of a view and a set -/
theorem rand_9 {Q : Value → Shared → Prop} (hh : A.handled = none) (hS : SetIs9 w oS n) (hoS : s.heap.get? S = some oS) (hv : KdlKeysView s.heap v d) (hm : s.heap.DictAt (intKind prog w) d (kv ls) ep) (l7 : ls.length ≤ 7) (sl : sm ls)
    (h : ∀ h' tk r o' N, (∀ b o, s.heap.get? b = some o → h'.get? b = some o) → h'.get? r = some o' → s.heap.objs.size ≤ r → SetIs9 w o' N → (∀ j < 7, N.testBit j = (n.testBit j && decide ((j : Int) ∈ ls))) → Q (.ref r) { s with heap := h', toks := tk }) :
    wpAny (model prog w) A (call (.builtin "dict_keys.__rand__") [.ref v, .ref S]) Q E s := by
  have hS₀ := hS
  obtain ⟨hn, es, epS, rfl, hE⟩ := hS
  have hTS : ∀ tk, ({ s with toks := tk } : Shared).TypeIs (.ref S) "set" := fun _ => ⟨_, hoS, rfl⟩
  refine wpAny_call (codeAny_call_builtin slot_dk_rand.plain entry_dk_rand (slot_dk_rand.check _ _ _ _ _ _ _ _ hv.typeIs (args_dk_rand _ _) ?_))
  show wpAny _ _ (Builtin.Dict_items.slot1 "__rand__" ⟨[.ref v, .ref S], []⟩ >>= _) _ _ _
  refine wpAny_bind (wpAny_of_eq (a := (Value.ref v, Value.ref S)) rfl ?_)
  show wpAny _ _ (Builtin.Dict_items.isSetLikeView (.ref S) >>= _) _ _ s
  refine wpAny_bind (setLike_set9 ⟨_, hoS, rfl⟩ ?_)
  simp only [Bool.false_eq_true, if_false]
  refine wpAny_bind (lenV9 hv hm l7 fun tk1 => ?_)
  refine wpAny_bind (wpAny_typeOf (hTS tk1) ?_)
  refine KFB.if_so (by decide) ?_
  refine wpAny_bind (lenS9 (s := { s with toks := tk1 }) hoS hS₀ fun tk2 => ?_)
  refine wpAny_ite_split (fun _ => ?_) (fun _ => ?_)
  · refine wpAny_bind (wpAny_rule ?_)
    refine wpAny_bind (getAttr_isect9 (s := { s with toks := tk2 }) hoS fun tk3 => ?_)
    have kp₁ : ∀ b o₂, s.heap.get? b = some o₂ → (s.heap.push { cls := .type "builtin_function_or_method", data := .fields #[.builtin "set.intersection", .ref S] }).get? b = some o₂ := fun b o₂ e => Heap.get?_push_of_some _ e
    refine wpAny_bind (show wpAny _ _ (call (.ref s.heap.objs.size) [.ref v]) _ _ _ from callIsect9 (s := { s with heap := s.heap.push { cls := .type "builtin_function_or_method", data := .fields #[.builtin "set.intersection", .ref S] }, toks := tk3 }) hh (Heap.get?_push_size _ rfl) hn hE (kp₁ _ _ hoS) (by obtain ⟨ov, e, q⟩ := hv; exact ⟨ov, kp₁ _ _ e, q⟩) (hm.at' fun o e => kp₁ _ _ e) sl fun h' tk r o' N hk hr hsz hS' hb => ?_)
    refine wpAny_pure (h h' tk r o' N (fun b o e => hk b o (kp₁ b o e)) hr ?_ hS' hb)
    have : (s.heap.push { cls := .type "builtin_function_or_method", data := .fields #[.builtin "set.intersection", .ref S] }).objs.size = s.heap.objs.size + 1 := Heap.size_push ..
    have hsz' : (s.heap.push { cls := .type "builtin_function_or_method", data := .fields #[.builtin "set.intersection", .ref S] }).objs.size ≤ r := hsz
    rw [this] at hsz'
    exact Nat.le_of_succ_le hsz'
  · refine wpAny_bind (setLike_set9 (hTS tk2) ?_)
    refine KFB.if_not rfl ?_
    refine andTailS9 (s := { s with toks := tk2 }) (R := fun r s' => match r with | .ok (.ret v) => Q v s' | .ok _ => False | .error e => E e s') hh hn hE hoS hv hm fun h' tk r o' N hk hr hsz hS' hb => ?_
    exact h h' tk r o' N hk hr hsz hS' hb
end
end Mine
end
theorem Mine.calm9a34 : True ∧ True := by
  w_top off
  (try walk1) <;> (first | exact True.intro | exact ⟨True.intro, True.intro⟩)

/-! part P34 -/
section
open PySem PySem.W PySem.Calls PySem.Spec PyProof.Rows
namespace Mine
theorem fillsI_set_and : fillsInplaceSlot (.type "set") "and" false = pure true := by
  unfold fillsInplaceSlot
  show (typeLookup (.type "set") (dunderI "and") >>= fun fi => pure (fi.isSome && !isSeqSlot fi)) = pure true
  rw [PySem.F.slot_set_iand.lookup]; rfl
theorem fills_set_and : fillsNumberSlot (.type "set") "and" = pure true :=
  fillsNumberSlot_of (id := "set.__and__") (r := some (.builtin "set.__rand__")) (by rw [typeLookup_type, builtinLookup_eq_fast]; kernel_rfl) (by decide +kernel) (by rw [typeLookup_type, builtinLookup_eq_fast]; kernel_rfl)
theorem entry_set_and : entryFor table "set.__and__" = some Builtin.«frozenset.__and__» :=
  entryFor_alias (id' := "frozenset.__and__") (by rw [fastTable_eq_tree]; kernel_rfl) rfl canon9.2.2.2.2.2.2.2.2.2.2.2 (by rw [fastTable_eq_tree]; kernel_rfl)
section
variable {prog : Program} {w : World} {A : Around} {E : Value → Shared → Prop} {s : Shared} {S r v d : Addr} {n ep : Nat} {ks ls : List Int} {oS : Obj}

theorem notSet_dk9 {Q : Bool → Shared → Prop} (hT : s.TypeIs (.ref v) "dict_keys") (h : Q false s) : wpAny (model prog w) A (Builtin.Frozenset.isAnySet (.ref v)) Q E s := by
  unfold Builtin.Frozenset.isAnySet
  refine wpAny_bind (wpAny_isInstance hT sub_dk_set ?_)
  show wpAny _ _ (isInstance (.ref v) (.type "frozenset")) _ _ _
  exact wpAny_isInstance hT sub_dk_fs h
theorem isSet_9 {Q : Bool → Shared → Prop} (hT : s.TypeIs (.ref v) "set") (h : Q true s) : wpAny (model prog w) A (Builtin.Frozenset.isAnySet (.ref v)) Q E s := by
  unfold Builtin.Frozenset.isAnySet
  refine wpAny_bind (wpAny_isInstance hT PySem.sub_set_self ?_)
  exact wpAny_pure h

theorem iandS_9 {Q : Value → Shared → Prop} (hh : A.handled = none) (hS : SetIs9 w oS n) (hoS : s.heap.get? S = some oS) (hv : KdlKeysView s.heap v d) (hm : s.heap.DictAt (intKind prog w) d (kv ls) ep) (l7 : ls.length ≤ 7) (sl : sm ls)
    (h : ∀ h' tk r o' N, (∀ b o, s.heap.get? b = some o → h'.get? b = some o) → h'.get? r = some o' → s.heap.objs.size ≤ r → SetIs9 w o' N → (∀ j < 7, N.testBit j = (n.testBit j && decide ((j : Int) ∈ ls))) → Q (.ref r) { s with heap := h', toks := tk }) :
    wpAny (model prog w) A (inplaceOp .BitAnd (.ref S) (.ref v)) Q E s := by
  have hTS : s.TypeIs (.ref S) "set" := by obtain ⟨_, _, _, rfl, _⟩ := hS; exact ⟨_, hoS, rfl⟩
  unfold inplaceOp
  refine wpAny_holding ?_
  dsimp only [Operator.info]
  refine wpAny_bind (wpAny_typeOf hTS ?_)
  refine wpAny_bind (wpAny_of_eq (a := true) fillsI_set_and ?_)
  refine KFB.if_so rfl ?_
  refine wpAny_bind (wpAny_tryMethod_declines hTS PySem.F.slot_set_iand (wpAny_call_entry PySem.F.slot_set_iand hTS PySem.F.entry_set_iand ?_ (PySem.F.args_set_iand_2 _ _)))
  show wpAny _ _ (Builtin.Frozenset.slot1 "__iand__" ⟨[.ref S, .ref v], []⟩ >>= _) _ _ _
  refine wpAny_bind (wpAny_of_eq (a := (Value.ref S, Value.ref v)) rfl ?_)
  show wpAny _ _ (Builtin.Frozenset.isAnySet (.ref v) >>= _) _ _ _
  refine wpAny_bind (notSet_dk9 hv.typeIs ?_)
  refine KFB.if_so rfl ?_
  refine wpAny_bind (wpAny_rule ?_)
  refine wpAny_pure ⟨_, rfl, rfl, ?_⟩
  dsimp only
  refine wpAny_bind ?_
  simp only [binaryOp1]
  refine wpAny_bind (wpAny_typeOf hTS (wpAny_bind (wpAny_typeOf hv.typeIs (wpAny_bind (wpAny_of_eq fills_set_and ?_)))))
  have hne : (Value.type "set" == Value.type "dict_keys") = false := by decide
  simp only [hne, Bool.false_eq_true, if_false]
  refine wpAny_bind (wpAny_of_eq fills_dk_and ?_)
  simp only [Bool.and_self, if_true]
  refine wpAny_bind (wpAny_of_eq sub_dk_set ?_)
  have hpy : numberSlotInPython (.type "set") "and" = pure false := rfl
  simp only [Bool.false_eq_true, if_false, pure_bind, Bool.not_false, Bool.and_self, if_true, hpy]
  simp only [tryMethod]
  refine wpAny_bind (wpAny_bind (wpAny_callSpecial?_slot hTS PySem.F.slot_set_and (wpAny_call_entry PySem.F.slot_set_and hTS entry_set_and ?_ (PySem.F.args_set_and_2 _ _))))
  show wpAny _ _ (Builtin.Frozenset.slot1 "__and__" ⟨[.ref S, .ref v], []⟩ >>= _) _ _ _
  refine wpAny_bind (wpAny_of_eq (a := (Value.ref S, Value.ref v)) rfl ?_)
  dsimp only
  simp only [Bool.false_eq_true, if_false]
  refine wpAny_bind ?_
  refine wpAny_bind (isSet_9 hTS ?_)
  show wpAny _ _ (Builtin.Frozenset.isAnySet (.ref v)) _ _ _
  refine notSet_dk9 hv.typeIs ?_
  refine KFB.if_so rfl ?_
  refine wpAny_bind (wpAny_rule ?_)
  refine wpAny_pure ⟨_, rfl, ?_⟩
  dsimp only
  refine wpAny_pure ?_
  dsimp only
  refine wpAny_bind (wpAny_bind (wpAny_callSpecial?_slot hv.typeIs slot_dk_rand (rand_9 hh hS hoS hv hm l7 sl fun h' tk r o' N hk hr hsz hS' hb => ?_)))
  dsimp only
  refine wpAny_pure ?_
  dsimp only
  refine wpAny_bind (wpAny_rule ?_)
  refine wpAny_pure ?_
  dsimp only
  exact wpAny_pure (h h' tk r o' N hk hr hsz hS' hb)

theorem mem_addI9 {ks : List Int} {i x : Int} : x ∈ addI ks i ↔ x ∈ ks ∨ x = i := by
  unfold addI; split
  · rename_i h; exact ⟨.inl, fun q => q.elim id fun e => e ▸ h⟩
  · rw [List.mem_append, List.mem_singleton]
theorem mem_addA9 {x : Int} : ∀ {ns ks : List Int}, x ∈ addA ks ns ↔ x ∈ ks ∨ x ∈ ns
  | [], ks => by simp [addA]
  | n :: r, ks => by
    have := mem_addA9 (x := x) (ns := r) (ks := addI ks n)
    show x ∈ addA (addI ks n) r ↔ _
    rw [this, mem_addI9, List.mem_cons, or_assoc]

theorem fkSetLoop9 {l dd : Addr} {es : Array (Int × Value)} {epS : Nat} {P : PUnit → Shared → Prop} (hn : n < 128) (hE : Ent9 es n) (hld : l ≠ dd) :
    ∀ (L : List (Int × Value)) (s : Shared) (ds : List Int), (∀ e ∈ L, ∃ i : Nat, i < 7 ∧ e.1 = (i : Int) ∧ ∃ t, e.2 = .int (i : Nat) t) → ds.length + L.length ≤ 20 → s.heap.DictOf (intKind prog w) dd (kv ds) → s.heap.get? l = some (setObj9 w es epS n) →
      (∀ h' tk, h'.DictOf (intKind prog w) dd (kv (addA ds (L.map (·.1)))) → (∀ b o, b ≠ dd → s.heap.get? b = some o → h'.get? b = some o) → P PUnit.unit { s with heap := h', toks := tk }) →
      wpAny (model prog w) A (forIn L PUnit.unit fun (x : Int × Value) (_ : PUnit) => do
          let a ← Builtin.Dict.addrOf (.ref dd)
          holding [x.snd] (dictSetHashed a x.snd x.fst Value.none)
          let e ← setEpoch l
          if (e != epS) = true then do
              unsupported "dict.fromkeys:source-changed-during-callback"
              pure (ForInStep.yield PUnit.unit)
            else pure (ForInStep.yield PUnit.unit)) P E s := by
  have hf : (tab9 (led9 w) n).fits es.size = true := by rw [hE.size]; exact fits9 _ n hn
  intro L
  induction L with
  | nil => intro s ds _ _ hd _ k; rw [List.forIn_nil]; exact wpAny_pure (k s.heap s.toks hd fun _ _ _ e => e)
  | cons e r ih =>
    intro s ds he hsz hd hl k
    obtain ⟨h, v⟩ := e
    obtain ⟨i, hi, e1, t, e2⟩ := he _ (.head _)
    dsimp only at e1 e2
    subst e2
    have e3 : h = (intKind prog w).hash (i : Int) := e1.trans (hash9 i hi).symm
    subst e3
    rw [List.forIn_cons]
    simp only [List.length_cons] at hsz
    refine wpAny_bind (wpAny_bind (wpAny_of_eq (a := dd) rfl ?_))
    have hkl : (kv ds).length ≤ sizeLine := by unfold kv; rw [List.length_map, sizeLine_eq]; omega
    refine wpAny_bind (wpAny_holding (wpAny_dictSetHashed_pairs (knd := intKind prog w) (k := (i : Int)) (hsz := hkl) (intKind_is _ _ _ _) hd fun h2 hd2 hs2 => ?_))
    rw [stored_kv] at hd2
    have hl2 := hs2.extBut l _ hld hl
    refine wpAny_bind (wpAny_setEpoch_of hl2 rfl hf ?_)
    refine KFB.if_not (by simp) ?_
    refine wpAny_pure ?_
    refine ih _ (addI ds i) (fun e he' => he e (.tail _ he')) (by have := addI_length ds i; omega) hd2 hl2 fun h3 tk3 hd3 hk3 => ?_
    refine k h3 tk3 ?_ fun b o hb e => hk3 b o hb (hs2.extBut b o hb e)
    have hh : (intKind prog w).hash (i : Int) = (i : Int) := hash9 i hi
    show h3.DictOf (intKind prog w) dd (kv (addA (addI ds ((intKind prog w).hash (i : Int))) (r.map (·.1))))
    rw [hh]
    exact hd3

/-- what `dict.fromkeys` makes of a set -/
theorem fk9_set {o : Obj} (hS : SetIs9 w o n) : Fk9 prog w o (fun rs => rs.Nodup ∧ sm rs ∧ ∀ j : Nat, j < 7 → ((j : Int) ∈ rs ↔ n.testBit j = true)) := by
  obtain ⟨hn, es, epS, rfl, hE⟩ := hS
  intro s A l Q E hh ho k
  have hT : s.TypeIs (.ref l) "set" := ⟨_, ho, rfl⟩
  refine codeAny_builtin entry_fk ?_
  rw [Around.under_plainId plain_fk _]
  unfold Builtin.«dict.fromkeys»
  refine wpAny_bind (wpAny_of_eq (a := true) isty_dict (KFB.if_not rfl ?_))
  refine wpAny_bind (wpAny_of_eq (a := true) isSubtype_dict_dict (KFB.if_not rfl ?_))
  refine KFB.if_not rfl ?_
  refine wpAny_bind (wpAny_rule (wpAny_bind (wpAny_pure ?_)))
  dsimp only
  refine wpAny_bind (callDict0 fun h' hd' e' => ?_)
  subst e'
  have hlt := Heap.lt_size ho
  have ho' : (s.heap.push { cls := .type "dict", data := .dict #[] }).get? l = some (setObj9 w es epS n) := Heap.get?_push_of_some _ ho
  have hT' : Shared.TypeIs { s with heap := s.heap.push { cls := .type "dict", data := .dict #[] } } (.ref l) "set" := ⟨_, ho', rfl⟩
  have hf : (tab9 (led9 w) n).fits es.size = true := by rw [hE.size]; exact fits9 _ n hn
  refine wpAny_holding (wpAny_bind (wpAny_typeOf hT' ?_))
  refine wpAny_bind (wpAny_typeOf (T := "dict") hd'.typeIs ?_)
  refine KFB.if_not (by decide) ?_
  refine wpAny_bind (wpAny_typeOf (T := "dict") hd'.typeIs ?_)
  refine KFB.if_so (by decide) ?_
  refine wpAny_bind (wpAny_rule ?_)
  refine wpAny_bind (wpAny_of_eq (a := l) rfl ?_)
  refine wpAny_bind (wpAny_setEpoch_of ho' rfl hf ?_)
  refine wpAny_bind (setWalk9 hn hE ho' ?_)
  rw [← Array.forIn_toList]
  have hmem : ∀ e, e ∈ (shown9 w l epS es).toList ↔ e ∈ es.toList := fun e => (shown_perm9 w l epS es).mem_iff
  refine wpAny_bind (fkSetLoop9 hn hE (Nat.ne_of_lt hlt) _ _ [] (fun e he => ?_) ?_ hd' ho' fun h3 tk3 hd3 hk3 => ?_)
  · obtain ⟨i, hi, e1, t, e2⟩ := hE.mem ((hmem e).mp he)
    exact ⟨i, (small9 n hn i hi).1, e1, t, e2⟩
  · have h1 : (shown9 w l epS es).toList.length = (sub9 n).length := by rw [(shown_perm9 w l epS es).length_eq, Array.length_toList, hE.size]
    have := len9 n hn
    rw [h1]
    show 0 + _ ≤ 20
    omega
  · refine wpAny_pure (k h3 tk3 _ ⟨?_, ?_, ?_⟩ hd3 fun b o e => hk3 b o (Nat.ne_of_lt (Heap.lt_size e)) (Heap.get?_push_of_some _ e))
    · obtain ⟨o3, _, hd3'⟩ := Heap.dictOf_iff.mp hd3
      exact isd_nodup hd3'
    · intro x hx
      rcases mem_addA9.mp hx with hx | hx
      · cases hx
      obtain ⟨e, he, rfl⟩ := List.mem_map.mp hx
      obtain ⟨i, hi, e1, _⟩ := hE.mem ((hmem e).mp he)
      have := (small9 n hn i hi).1
      rw [e1]; omega
    · intro j hj
      rw [mem_addA9]
      constructor
      · rintro (hx | hx)
        · cases hx
        obtain ⟨e, he, e2⟩ := List.mem_map.mp hx
        obtain ⟨i, hi, e1, _⟩ := hE.mem ((hmem e).mp he)
        have : i = j := by omega
        subst this
        exact (small9 n hn i hi).2
      · intro hb
        have h1 : (j : Int) ∈ es.toList.map (·.1) := by rw [hE.keys]; exact List.mem_map_of_mem (has9 n hn j hj hb)
        obtain ⟨e, he, e1⟩ := List.mem_map.mp h1
        exact .inr (List.mem_map.mpr ⟨e, (hmem e).mpr he, e1⟩)
end
end Mine
end
theorem Mine.calm9a35 : True ∧ True := by
  w_top off
  (try walk1) <;> (first | exact True.intro | exact ⟨True.intro, True.intro⟩)

/-! part P35 -/
section
open PySem PySem.W PySem.Calls PySem.Spec PyProof.Rows
namespace Mine
theorem fill9t : PySem.Challenge.rw_fs0001_01 = PySem.Challenge.rw_fs0001_01 ∧ ∀ (w : World) h, (hd.heap_39 w.params).In h → True := by
  k_fill
  exact ⟨rfl, fun _ _ _ => trivial⟩

theorem peek1_push {α : Type} {K : Frag} {M : Model} {A : Around} {E : Value → Shared → Prop} {Q : α → Shared → Prop} {s : Shared} {o : Obj} {r : Addr → α} (X : K.In s.heap)
    (q : Q (r s.heap.objs.size) { s with heap := s.heap.push o }) :
    ∀ (t : Sem α) (g : Addr → Option α), peek1 K ⟨M.prog, M.w.params⟩ t = some (o, g) → (∀ D, g D = some (r D)) → wpAny M A t Q E s := by
  intro t
  induction t with
  | rule _ k ih => intro g e hg Γ p hΓ; exact ih () g e hg Γ p hΓ
  | point _ k ih => intro g e hg Γ p hΓ; exact ih () g e hg Γ p hΓ
  | ask k ih => intro g e hg Γ p hΓ; exact ih _ g e hg Γ p hΓ
  | load a _ k ih =>
    intro g e hg Γ p hΓ
    simp only [peek1] at e
    split at e
    · rename_i ob ho; exact ⟨ob, X _ _ ho, ih ob g e hg Γ p hΓ⟩
    · cases e
  | alloc ob k _ =>
    intro g e hg
    have e : some (ob, fun D => peek K ⟨M.prog, M.w.params⟩ (k D)) = some (o, g) := e
    obtain ⟨e1, e2⟩ := Prod.mk.inj (Option.some.inj e)
    subst e1
    subst e2
    have X' : K.In (s.heap.push ob) := X.keeps fun b x hb => Heap.get?_push_of_some _ hb
    show wpAny M A (alloc ob >>= k) Q E s
    refine wpAny_bind (wpAny_alloc ?_)
    exact (Looks.of_peek (M := M) (h := s.heap.push ob) X' (hg s.heap.objs.size)).here (s := { s with heap := s.heap.push ob }) q
  | _ => intro g e; cases e

section
variable {prog : Program} {w : World} {p : Program} {loose : List Str} {mean : ExcName → Option Value} {mg mb : Str → Option Value} {A A₀ : Around} {env : Env} {outer : List Env} {base h₀ : Heap} {L : Addr} {m : Str → Option Value} {s : Shared} {sub : List (Addr × Obj)} {Q E : Value → Shared → Prop}
  {R : Result → Shared → Prop} {name qual : Str} {params : Arguments} {body : List Stmt} {scope : Scope} {dV kV doc pm cdv ct oc : Value} {an od : Option Addr} {osl : Array (Option Value)} {f : Addr} {args : Args} {vs : List Value} {binds : Addr → List (Str × Value)} {g₁ : Addr → Option (List (Str × Value))}

/-- a def with a rest parameter is entered -/
theorem enter9R (c : Mine.Cl w p loose mean mg mb A env outer A₀ base h₀ L s.heap m) (N : News h₀ L s.heap sub)
    (ho : (hd.heap_39 w.params).lookup f = some ⟨oc, od, .func (fnOf name qual params body scope dV kV doc pm an cdv ct), osl⟩) (hcd : codeIn (hd.heap_39 w.params) cdv qual = true) (hroom : A.depth < recursionLimit)
    (hv : args.pos.drop (params.posonlyargs.length + params.args.length) = vs)
    (hp : peek1 (hd.heap_39 w.params) ⟨prog, w.params⟩ (bindArgs (fnOf name qual params body scope dV kV doc pm an cdv ct) args) = some (({ cls := .type "tuple", data := .seq vs.toArray } : Obj), g₁))
    (hg : ∀ D, g₁ D = some (binds D)) (hloc : ∀ D, ∀ y ∈ binds D, scope.names.lookup y.1 = some .local)
    (h : ∀ D g L' h₁, Fr g L' h₁ (fun y => (binds D).reverse.lookup y) → News g L' h₁ ((D, ({ cls := .type "tuple", data := .seq vs.toArray } : Obj)) :: sub) → Below A base (env :: outer) g → (hd.heap_39 w.params).In g → Top p loose mean mg mb g →
      (∀ b o, s.heap.get? b = some o → b ∉ sub.map (·.1) → g.get? b = some o) → s.heap.objs.size ≤ L' → (∀ p ∈ sub, p.1 < D) →
      wpAny (model prog w) (A.deeper (envOf qual scope L' f cdv)) (execs body (envOf qual scope L' f cdv))
        (fun fl s' => R (.ok (.ret (match fl with | .ret v => v | _ => .none))) s')
        (fun e s' => wpAny (model prog w) (A.deeper (envOf qual scope L' f cdv)) (leaving (envOf qual scope L' f cdv) e) (fun _ s'' => R (.error e) s'') (fun e' s'' => R (.error e') s'') s')
        { s with heap := h₁, toks := s.toks + (binds s.heap.objs.size).length })
    (hcell : ∀ x ∈ scope.names, x.2 ≠ .cell) (hco : scope.isCoroutine = false) (hgen : scope.isGenerator = false) (hk : scope.kind = .function) : codeAny (model prog w) A (.call (.ref f) args) R s := by
  have _ := hv
  have X := c.X.keeps fun b o e => c.F.keep b o (c.B.stays b o e)
  refine codeAny_call_function (fd := fnOf name qual params body scope dV kV doc pm an cdv ct) (body := body) hroom (X _ _ ho) rfl hco hgen rfl (codeRec_of X hcd) ?_
  refine peek1_push (o := ({ cls := .type "tuple", data := .seq vs.toArray } : Obj)) X (r := binds) ?_ _ g₁ hp hg
  have F₁ := c.F.push ({ cls := .type "tuple", data := .seq vs.toArray } : Obj)
  have N₁ := News.push c.F N ({ cls := .type "tuple", data := .seq vs.toArray } : Obj) rfl
  have kp₁ : ∀ b o, s.heap.get? b = some o → (s.heap.push ({ cls := .type "tuple", data := .seq vs.toArray } : Obj)).get? b = some o := fun b o e => Heap.get?_push_of_some _ e
  have c₁ : Mine.Cl w p loose mean mg mb A env outer A₀ base h₀ L ({ s with heap := s.heap.push ({ cls := .type "tuple", data := .seq vs.toArray } : Obj) } : Shared).heap m := Cl.re c F₁
  obtain ⟨BG, st⟩ := ground9 (s := { s with heap := s.heap.push ({ cls := .type "tuple", data := .seq vs.toArray } : Obj) }) c₁ N₁
  have hsz : (s.heap.push ({ cls := .type "tuple", data := .seq vs.toArray } : Obj)).objs.size = s.heap.objs.size + 1 := Heap.size_push ..
  refine wpAny_newFunctionEnv hcell (hloc _) (fun h₁ hns₀ hsb₀ => ⟨((c₁.T.keeps c₁.B.stays).nolimit.keeps c₁.F.keep).fresh _ hsb₀, codeAny_func ?_⟩) hk
  have hk₁ : ∀ b o, (s.heap.push ({ cls := .type "tuple", data := .seq vs.toArray } : Obj)).get? b = some o → h₁.get? b = some o := fun b o e => hsb₀.extBut b o (Nat.ne_of_lt (Heap.lt_size e)) (Heap.get?_push_of_some _ e)
  refine h s.heap.objs.size _ _ h₁ ⟨hns₀, fun b o e => hk₁ b o (of_hideAll _ e), Nat.le_of_eq (hideAll_size _ _)⟩
    (fun p hp => ⟨hk₁ _ _ (N₁ p hp).1, Nat.ne_of_lt (Heap.lt_size (N₁ p hp).1), hideAll_none _ (List.mem_map_of_mem hp)⟩) BG (c.X.keeps st) (c.T.keeps st) (fun b o e q => hideAll_get _ (kp₁ b o e) ?_) ?_ (fun p hp => Heap.lt_size (N p hp).1)
  · rw [List.map_cons, List.mem_cons, not_or]
    exact ⟨Nat.ne_of_lt (Heap.lt_size e), q⟩
  · show s.heap.objs.size ≤ (s.heap.push _).objs.size
    rw [hsz]; exact Nat.le_succ _
end
end Mine
end
theorem Mine.calm9a36 : True ∧ True := by
  w_top off
  (try walk1) <;> (first | exact True.intro | exact ⟨True.intro, True.intro⟩)

/-! part P36 -/
section
open PySem PySem.W PySem.Calls PySem.Spec PyProof.Rows
namespace Mine
theorem fill9u : PySem.Challenge.rw_fs0001_01 = PySem.Challenge.rw_fs0001_01 ∧ ∀ (w : World) h, (hd.heap_39 w.params).In h → True := by
  k_fill
  exact ⟨rfl, fun _ _ _ => trivial⟩
section
variable {prog : Program} {w : World} {p : Program} {loose : List Str} {mean : ExcName → Option Value} {mg mb : Str → Option Value} {A A₀ : Around} {env : Env} {outer : List Env} {base h₀ : Heap} {L : Addr} {m : Str → Option Value} {s : Shared} {sub : List (Addr × Obj)} {Q E : Value → Shared → Prop}
  {R : Result → Shared → Prop} {x d : Addr} {ks : List Int}

theorem tupFrom9 {value slice : Expr} {t : Addr} {v₀ : Value} {zs : List Value} {u : Tok} (F : Fr h₀ L s.heap m) (N : News h₀ L s.heap sub) (ht : (t, ({ cls := .type "tuple", data := .seq (v₀ :: zs).toArray } : Obj)) ∈ sub) (hz : zs.length ≤ 100)
    (h : ∀ D h', Fr h₀ L h' m → News h₀ L h' ((D, { cls := .type "tuple", data := .seq zs.toArray }) :: sub) → (∀ p ∈ sub, p.1 < D) → Q (.ref D) { s with heap := h' })
    (hs : subscripted slice false (.ref t) (.ref s.heap.objs.size) = operate [.ref s.heap.objs.size, .ref t] (getItem (.ref t) (.ref s.heap.objs.size)) := by with_unfolding_all rfl)
    (hg : ∀ r, letTemporaryGo value (.ref t) r = pure () := by intro _; with_unfolding_all rfl) :
    wpAny (model prog w) A (subscriptTail value slice (.ref t) (.ref s.heap.objs.size)) Q E { s with heap := s.heap.push { cls := .type "slice", data := .fields #[.int 1 u, .none, .none] } } := by
  have hT9 : IsTup s.heap t (v₀ :: zs).toArray := ⟨_, (N _ ht).1, rfl, _, rfl⟩
  exact slice_tuple_from (a := 1) F N hT9 (by decide) (by simp) (fun h1 F1 N1 => h _ _ F1 N1 fun p hp => Nat.lt_succ_of_lt (Heap.lt_size (N p hp).1)) hs hg (by simp; rw [sizeLine_eq]; omega)

local macro_rules | `(tactic| walk_at "inplaceOp BitAnd ref ref") => `(tactic| (k_here; refine stop9 ?_))
local macro_rules | `(tactic| walk_at "call ref") => `(tactic| (k_here; refine stop9 ?_))
local macro_rules | `(tactic| walk_at "subscriptTail Name Slice ref ref") => `(tactic| (k_here; refine stop9 ?_))

local macro_rules | `(tactic| walk_at "exec For") => `(tactic| (k_here; refine stop9 ?_))
local macro_rules | `(tactic| walk_at "eval Name") => `(tactic| (k_here; k_dflt (refine ld (by k_asm) (by with_reducible assumption) ?_)))

/-- what tmp is after so many turns -/
def Tm9 (w : World) (d : Addr) (ks : List Int) (others : List (List Int)) (i : Nat) (oT : Obj) : Prop :=
  if i = 0 then oT = { cls := .type "dict_keys", data := .fields #[.ref d] } else ∃ N, SetIs9 w oT N ∧ ∀ j < 7, N.testBit j = decide ((j : Int) ∈ ks ∧ ∀ ns ∈ others.take i, (j : Int) ∈ ns)

/-- one turn's `tmp &= v` -/
theorem turn9 {T v dT dv : Addr} {oT : Obj} {o ov : Obj} {ks ns : List Int} {others : List (List Int)} {i : Nat} {news : List (Addr × Obj)} {g : Heap} {L' : Addr} {m' : Str → Option Value} (hh : A.handled = none) (F : Fr g L' s.heap m') (N : News g L' s.heap news) (hT : (T, oT) ∈ news) (hv : (v, ({ cls := .type "dict_keys", data := .fields #[.ref dv] } : Obj)) ∈ news)
    (hd : (dT, o) ∈ news) (ho : o.IsDictOf (intKind prog w) (kv ks)) (hdv : (dv, ov) ∈ news) (hov : ov.IsDictOf (intKind prog w) (kv ns)) (hi : others[i]? = some ns) (tm : Tm9 w dT ks others i oT) (sk : sm ks) (sn : sm ns)
    (k : ∀ h' tk r oR, Fr g L' h' m' → News g L' h' ((r, oR) :: news) → (∀ p ∈ news, p.1 < r) → Stop8 (Tm9 w dT ks others (i + 1) oR) → Q (.ref r) { s with heap := h', toks := tk }) :
    wpAny (model prog w) A (inplaceOp .BitAnd (.ref T) (.ref v)) Q E s := by
  have hk7 := small_len (isd_nodup ho) sk
  have hn7 := small_len (isd_nodup hov) sn
  obtain ⟨ep, ha⟩ := KdkAt.of ho
  obtain ⟨ep2, ha2⟩ := KdkAt.of hov
  have hm := ha.dictAt (N _ hd).1
  have hm2 := ha2.dictAt (N _ hdv).1
  have hview : KdlKeysView s.heap v dv := ⟨_, (N _ hv).1, rfl, rfl⟩
  have hTo := (N _ hT).1
  unfold Tm9 at tm
  by_cases h0 : i = 0
  · subst h0
    rw [if_pos rfl] at tm
    subst tm
    refine iand2_9 hh ⟨_, hTo, rfl, rfl⟩ hm hview hm2 hk7 hn7 sk sn fun h' tk r oR M hk hr hsz hS hb => ?_
    obtain ⟨F', N'⟩ := led_new F N hk hr hsz
    refine k h' tk r oR F' N' (fun p hp => Nat.lt_of_lt_of_le (Heap.lt_size (N p hp).1) hsz) ⟨?_⟩
    unfold Tm9
    rw [if_neg (by omega)]
    refine ⟨M, hS, fun j hj => ?_⟩
    rw [hb j hj]
    have : others.take (0 + 1) = [ns] := by rw [List.take_add_one, hi]; rfl
    rw [this]
    simp
  · rw [if_neg h0] at tm
    obtain ⟨M₀, hS₀, hb₀⟩ := tm
    refine iandS_9 hh hS₀ hTo hview hm2 hn7 sn fun h' tk r oR M hk hr hsz hS hb => ?_
    obtain ⟨F', N'⟩ := led_new F N hk hr hsz
    refine k h' tk r oR F' N' (fun p hp => Nat.lt_of_lt_of_le (Heap.lt_size (N p hp).1) hsz) ⟨?_⟩
    unfold Tm9
    rw [if_neg (by omega)]
    refine ⟨M, hS, fun j hj => ?_⟩
    rw [hb j hj, hb₀ j hj]
    have : others.take (i + 1) = others.take i ++ [ns] := by rw [List.take_add_one, hi]; rfl
    rw [this]
    rw [Bool.eq_iff_iff]
    simp only [Bool.and_eq_true, decide_eq_true_eq, List.mem_append, List.mem_singleton]
    constructor
    · rintro ⟨⟨q1, q2⟩, q3⟩
      exact ⟨q1, fun l hl => hl.elim (q2 l) fun e => e ▸ q3⟩
    · rintro ⟨q1, q2⟩
      exact ⟨⟨q1, fun l hl => q2 l (.inl hl)⟩, q2 ns (.inr rfl)⟩

abbrev sN : Str := Str.ofString "s"
abbrev tmpN : Str := Str.ofString "tmp"
abbrev clsN : Str := Str.ofString "cls"

theorem interFor9 {g : Heap} {L' D2 v dT : Addr} {m₀ : Str → Option Value} {env' : Env} {body : List Stmt} {QF : Flow → Shared → Prop} {items : List Value} {others : List (List Int)} (led : List (Addr × Obj)) (hh : A.handled = none)
    (F : Fr g L' s.heap m₀) (htmp : m₀ tmpN = some (.ref v)) (hcls : m₀ clsN = some (.ref 217)) (N : News g L' s.heap led) (hD : (D2, ({ cls := .type "tuple", data := .seq items.toArray } : Obj)) ∈ led) (hv : (v, ({ cls := .type "dict_keys", data := .fields #[.ref dT] } : Obj)) ∈ led)
    (step : ∀ i y h tk m' T oT oI, items[i]? = some y → Fr g L' h m' → m' tmpN = some (.ref T) → m' clsN = some (.ref 217) → News g L' h ((s.heap.objs.size, oI) :: (T, oT) :: led) → Tm9 w dT ks others i oT →
      wpAny (model prog w) A (storeName env' sN y) (fun _ s₃ => wpAny (model prog w) A (execs body env') (fun fl s₄ => Stop8 (fl = .next ∧ ∃ h' tk' m'' r oR, s₄ = { s with heap := h', toks := tk' } ∧ Fr g L' h' m'' ∧ m'' tmpN = some (.ref r) ∧ m'' clsN = some (.ref 217) ∧
        News g L' h' ((r, oR) :: (s.heap.objs.size, oI) :: (T, oT) :: led) ∧ s.heap.objs.size < r ∧ Tm9 w dT ks others (i + 1) oR)) (fun _ _ => False) s₃) (fun _ _ => False) { s with heap := h, toks := tk })
    (done : ∀ h tk m' T oT, Fr g L' h m' → m' tmpN = some (.ref T) → m' clsN = some (.ref 217) → News g L' h ((T, oT) :: led) → Tm9 w dT ks others items.length oT → QF .next { s with heap := h, toks := tk }) :
    wpAny (model prog w) A (pyIter (.ref D2)) (WalkAt9 prog w A env' sN body QF) E s := by
  have hTup : s.heap.IsTuple D2 items.toArray := ⟨_, (N _ hD).1, rfl, _, rfl⟩
  have ltD := Heap.lt_size (N _ hD).1
  refine wpAny_pyIter_tuple hTup ?_
  have kp1 : ∀ b o, s.heap.get? b = some o → (s.heap.push { cls := .type "tuple_iterator", data := .fields #[.ref D2, .int 0 0] }).get? b = some o := fun b o e => Heap.get?_push_of_some _ e
  have W := Walks.tuple (prog := prog) (w := w) (A := A) hh s.heap.objs.size D2 (Nat.ne_of_lt ltD) items.toArray
  have hnew : (s.heap.push { cls := .type "tuple_iterator", data := .fields #[.ref D2, .int 0 0] }).get? s.heap.objs.size = some { cls := .type "tuple_iterator", data := .fields #[.ref D2, .int 0 0] } := Heap.get?_push_size _ rfl
  have hIg : g.get? s.heap.objs.size = none := by
    cases hq : g.get? s.heap.objs.size with
    | none => rfl
    | some o' => exact absurd (Heap.lt_size (F.keep _ _ hq)) (Nat.lt_irrefl _)
  have hIL : s.heap.objs.size ≠ L' := Nat.ne_of_gt F.ns.lt
  refine ⟨s.heap.objs.size, _, _, _, _, fun i h => ∃ m' T oT, Fr g L' h m' ∧ m' tmpN = some (.ref T) ∧ m' clsN = some (.ref 217) ∧ News g L' h ((T, oT) :: led) ∧ T ≠ s.heap.objs.size ∧ Tm9 w dT ks others i oT, rfl, W, ⟨⟨_, hnew, rfl, rfl⟩, hTup.at fun o e => kp1 _ o e⟩,
    ⟨m₀, v, { cls := .type "dict_keys", data := .fields #[.ref dT] }, F.push _, htmp, hcls, ?_, Nat.ne_of_lt (Heap.lt_size (N _ hv).1), by unfold Tm9; rw [if_pos rfl]⟩, ?_, ?_, ?_⟩
  · intro p hp
    rcases List.mem_cons.mp hp with rfl | hp
    · exact ⟨kp1 _ _ (N _ hv).1, (N _ hv).2⟩
    · exact ⟨kp1 _ _ (N p hp).1, (N p hp).2⟩
  · rintro i h h' ⟨m', T, oT, F', a, b, N', hTI, tm⟩ hk
    refine ⟨m', T, oT, ⟨?_, fun b o e => hk b o (fun q => by rw [q, hIg] at e; cases e) (F'.keep b o e), F'.above⟩, a, b, fun p hp => ⟨hk _ _ ?_ (N' p hp).1, (N' p hp).2⟩, hTI, tm⟩
    · obtain ⟨oL, es, ep, hL, r⟩ := F'.ns
      exact ⟨oL, es, ep, hk _ _ (Ne.symm hIL) hL, r⟩
    · rcases List.mem_cons.mp hp with rfl | hp
      · exact hTI
      · exact Nat.ne_of_lt (Heap.lt_size (N p hp).1)
  · rintro i y h tk hi hP hst ⟨m', T, oT, F', a, b, N', hTI, tm⟩
    obtain ⟨⟨oI, hoI, hI2⟩, hT2⟩ := hst
    have N2 : News g L' h ((s.heap.objs.size, oI) :: (T, oT) :: led) := by
      intro p hp
      rcases List.mem_cons.mp hp with rfl | hp
      · exact ⟨hoI, hIL, hIg⟩
      · exact N' p hp
    have hy : items[i]? = some y := by simpa using hP
    refine wpAny_mono (step i y h tk m' T oT oI hy F' a b N2 tm) (fun _ s₃ h₃ => wpAny_mono h₃ (fun fl s₄ h₄ => ?_) fun _ _ z => z) fun _ _ z => z
    obtain ⟨⟨rfl, h', tk', m'', r, oR, rfl, F3, a3, b3, N3, hlt, tm3⟩⟩ := h₄
    refine ⟨rfl, h', tk', rfl, ⟨⟨oI, (N3 _ (.tail _ (.head _))).1, hI2⟩, ?_⟩, m'', r, oR, F3, a3, b3, fun p hp => ?_, Nat.ne_of_gt hlt, tm3⟩
    · obtain ⟨o2, e2, r2⟩ := hT2
      have := N2 _ (.tail _ (.tail _ hD))
      have e3 := (N3 _ (.tail _ (.tail _ (.tail _ hD)))).1
      rw [this.1] at e2
      exact ⟨o2, e3.trans e2, r2⟩
    · rcases List.mem_cons.mp hp with rfl | hp
      · exact N3 _ (.head _)
      · exact N3 p (.tail _ (.tail _ (.tail _ hp)))
  · rintro h tk ⟨m', T, oT, F', a, b, N', hTI, tm⟩
    have e : items.toArray.size = items.length := by simp
    rw [e] at tm
    exact done h tk m' T oT F' a b N' tm

end
end Mine
end
theorem Mine.calm9a37 : True ∧ True := by
  w_top off
  (try walk1) <;> (first | exact True.intro | exact ⟨True.intro, True.intro⟩)

/-! part P37 -/
section
open PySem PySem.W PySem.Calls PySem.Spec PyProof.Rows
namespace Mine
theorem fill9v : PySem.Challenge.rw_fs0001_01 = PySem.Challenge.rw_fs0001_01 ∧ ∀ (w : World) h, (hd.heap_39 w.params).In h → True := by
  k_fill
  exact ⟨rfl, fun _ _ _ => trivial⟩
section
variable {prog : Program} {w : World} {p : Program} {loose : List Str} {mean : ExcName → Option Value} {mg mb : Str → Option Value} {A A₀ : Around} {env : Env} {outer : List Env} {base h₀ : Heap} {L : Addr} {m : Str → Option Value} {s : Shared} {sub : List (Addr × Obj)} {Q E : Value → Shared → Prop}
  {R : Result → Shared → Prop} {x d : Addr} {ks : List Int}

theorem mem_skip {α : Type} {p a b : α} {l : List α} (h : p ∈ a :: l) : p ∈ a :: b :: l := by
  rcases List.mem_cons.mp h with rfl | h
  · exact .head _
  · exact .tail _ (.tail _ h)
theorem mem_of_bits9 {rs ks : List Int} {others : List (List Int)} {M : Nat} (sr : sm rs) (sk : sm ks) (hr : ∀ j : Nat, j < 7 → ((j : Int) ∈ rs ↔ M.testBit j = true)) (hb : ∀ j < 7, M.testBit j = decide ((j : Int) ∈ ks ∧ ∀ ns ∈ others, (j : Int) ∈ ns)) (i : Int) : i ∈ rs ↔ i ∈ ks ∧ ∀ ns ∈ others, i ∈ ns := by
  have key : ∀ j : Nat, j < 7 → ((j : Int) ∈ rs ↔ (j : Int) ∈ ks ∧ ∀ ns ∈ others, (j : Int) ∈ ns) := fun j hj => by rw [hr j hj, hb j hj, decide_eq_true_eq]
  constructor
  · intro h
    have h1 := sr i h
    have := key i.toNat (by omega)
    rw [show ((i.toNat : Nat) : Int) = i by omega] at this
    exact this.mp h
  · rintro ⟨h, h2⟩
    have h1 := sk i h
    have := key i.toNat (by omega)
    rw [show ((i.toNat : Nat) : Int) = i by omega] at this
    exact this.mpr ⟨h, h2⟩
local macro_rules | `(tactic| walk_at "inplaceOp BitAnd ref ref") => `(tactic| (k_here; refine stop9 ?_))
local macro_rules | `(tactic| walk_at "call ref") => `(tactic| (k_here; refine stop9 ?_))
local macro_rules | `(tactic| walk_at "subscriptTail Name Slice ref ref") => `(tactic| (k_here; refine stop9 ?_))
local macro_rules | `(tactic| walk_at "exec For") => `(tactic| (k_here; refine stop9 ?_))
local macro_rules | `(tactic| walk_at "pyIter ref") => `(tactic| (k_here; refine stop9 ?_))
local macro_rules | `(tactic| walk_at "eval Name") => `(tactic| (k_here; k_dflt (refine ld (by k_asm) (by (first | with_reducible assumption | rfl | (show ite _ _ _ = _; rw [if_neg (by decide)]; first | with_reducible assumption | (show ite _ _ _ = _; rw [if_neg (by decide)]; with_reducible assumption)))) ?_)))

set_option maxHeartbeats 1000000 in
theorem inter2_code {y dy : Addr} {ns : List Int} (c : Mine.Cl w p loose mean mg mb A env outer A₀ base h₀ L s.heap m) (O : OSN prog w h₀ L s.heap x d ks) (Oy : OSN prog w h₀ L s.heap y dy ns) (hdep : A.depth + 20 < recursionLimit)
    (k : ∀ x' d' h' tk' rs, Kp [] s.heap h' → NewOS prog w s.heap h' x' d' rs → (∀ i, i ∈ rs ↔ i ∈ ks ∧ i ∈ ns) → R (.ok (.ret (.ref x'))) { s with heap := h', toks := tk' }) :
    codeAny (model prog w) A (.call (.ref 204) ⟨[.ref 217, .ref x, .ref y], []⟩) R s := by
  obtain ⟨dx, hs, tk, n, o, N0, ho, lo, h7s⟩ := O
  obtain ⟨dxy, hsy, tky, ny, oy, Ny, hoy, loy, h7t⟩ := Oy
  have a1 := neN (apart_x N0 (.head _) (.tail _ (.tail _ (.head _))) ho)
  have a2 := neN (apart_d N0 (.tail _ (.head _)) (.tail _ (.tail _ (.head _))) ho)
  have N : News h₀ L s.heap [(x, instObj 217 dx), (dx, dictOf [⟨hs, .str (Str.ofString "_data") tk, .ref d⟩] n), (d, o), (y, instObj 217 dxy), (dxy, dictOf [⟨hsy, .str (Str.ofString "_data") tky, .ref dy⟩] ny), (dy, oy)] := fun p hp => by
    rcases List.mem_append.mp (show p ∈ [(x, instObj 217 dx), (dx, dictOf [⟨hs, .str (Str.ofString "_data") tk, .ref d⟩] n), (d, o)] ++ [(y, instObj 217 dxy), (dxy, dictOf [⟨hsy, .str (Str.ofString "_data") tky, .ref dy⟩] ny), (dy, oy)] from hp) with hp | hp
    · exact N0 p hp
    · exact Ny p hp
  have hk7 := small_len (isd_nodup ho) h7s
  have hn7 := small_len (isd_nodup hoy) h7t
  k_dflt (refine' enter9R c N ?k6 ?k7 ?k8 ?kV ?kP ?kG ?kB ?_ ?c5 ?c2 ?c3 ?c4; (case k6 => k_is); (case k7 => k_is); (case k8 => omega); (case kV => kl_lit); (case kP => exact rfl); (case kG => exact fun _ => rfl); (case kB => exact fun _ => locs rfl); (case c5 => decide); (case c2 => exact rfl); (case c3 => exact rfl); (case c4 => exact rfl); k_whole; intro D' g' L' h' F' N' B' X' T' keep' above' l1; (try k_lt l1); (try dsimp only); (try k_fold))
  refine with_cd c B' F' rfl rfl fun cd => ?_
  k_steps
  unfold Stop9
  refine wpAny_noRaise (for_walk9 ?_)
  k_steps
  unfold Stop9
  (with_reducible rename News _ _ _ _ => N9); (with_reducible rename Fr _ _ _ _ => F9)
  refine tupFrom9 F9 N9 (.tail _ (.head _)) (by simp) (fun D2 h1 F1 N1 l2 => ?_)
  k_lt l2
  refine interFor9 (ks := ks) (dT := d) (others := [ns]) _ (by exact c.hh) F1 (by (first | with_reducible assumption | rfl | (show ite _ _ _ = _; rw [if_neg (by decide)]; first | with_reducible assumption | (show ite _ _ _ = _; rw [if_neg (by decide)]; with_reducible assumption)))) (by rfl) N1 (by k_mem) (by k_mem) ?_ ?_
  · rintro i v h tk m' T oT oI hi F3 ht hc N3 tm
    have hi0 : i = 0 := by have := (List.getElem?_eq_some_iff.mp hi).1; simp at this; omega
    subst hi0
    cases hi
    k_steps
    (with_reducible rename News _ _ _ _ => N4); (with_reducible rename Fr _ _ _ _ => F4)
    refine wpAny_loadName_local (by rfl) (by rfl) F4.ns (by (first | with_reducible assumption | rfl | (show ite _ _ _ = _; rw [if_neg (by decide)]; first | with_reducible assumption | (show ite _ _ _ = _; rw [if_neg (by decide)]; with_reducible assumption)))) ?_
    k_steps
    unfold Stop9
    (with_reducible rename News _ _ _ _ => N5); (with_reducible rename Fr _ _ _ _ => F5)
    refine turn9 (others := [ns]) (i := 0) (by exact c.hh) F5 N5 (.tail _ (.tail _ (.head _))) (.head _) (.tail _ (.tail _ (.tail _ (.tail _ (.tail _ (.tail _ (.tail _ (.tail _ (.head _))))))))) ho (.tail _ (.tail _ (.tail _ (.tail _ (.tail _ (.tail _ (.tail _ (.tail _ (.tail _ (.tail _ (.tail _ (.head _)))))))))))) hoy rfl tm h7s h7t (fun h5 tk5 r oR F6 N6 l6 tm6 => ?_)
    k_steps
    (with_reducible rename News _ _ _ _ => N7); (with_reducible rename Fr _ _ _ _ => F7)
    exact ⟨rfl, _, _, _, r, oR, rfl, F7, by (first | with_reducible assumption | rfl | (show ite _ _ _ = _; rw [if_neg (by decide)]; first | with_reducible assumption | (show ite _ _ _ = _; rw [if_neg (by decide)]; with_reducible assumption))), by (first | with_reducible assumption | rfl | (show ite _ _ _ = _; rw [if_neg (by decide)]; first | with_reducible assumption | (show ite _ _ _ = _; rw [if_neg (by decide)]; with_reducible assumption))), fun p hp => N7 p (mem_skip hp), l6 _ (.tail _ (.head _)), tm6.out⟩
  · rintro h tk m' T oT F3 ht hc N3 tm
    obtain ⟨M, hS, hb⟩ : ∃ M, SetIs9 w oT M ∧ ∀ j < 7, M.testBit j = decide ((j : Int) ∈ ks ∧ ∀ l ∈ [ns], (j : Int) ∈ l) := by
      unfold Tm9 at tm
      rw [if_neg (by simp)] at tm
      exact tm
    k_steps
    unfold Stop9
    have c3 := Cl.re cd F3
    refine wpAny_call (cls_code (s := { s with heap := h, toks := tk }) c3 (fun p hp => N3 p (by rw [List.mem_singleton.mp hp]; exact .head _)) (fk9_set hS) (fun rs hr => hr.2.1) (by show A.depth + 1 + 8 < _; omega) fun x' d' h6 tk6 rs hk6 hr O6 => ?_)
    have F6 : Fr g' L' h6 _ := ⟨F3.ns.keeps fun b o e => hk6 b o (by simp) e, fun b o e => hk6 b o (by simp) (F3.keep b o e), F3.above⟩
    k_steps
    have hk3 := kp_of (ch := []) keep' F3 N N3 (by simp)
    have hsz : s.heap.objs.size ≤ h.objs.size := Nat.le_of_lt (Nat.lt_of_le_of_lt above' F3.ns.lt)
    refine k x' d' _ _ rs (fun b o hb e => hk6 b o hb (hk3 b o hb e)) (O6.mono hsz) fun i => ?_
    rw [mem_of_bits9 hr.2.1 h7s hr.2.2 hb]
    simp

set_option maxHeartbeats 1000000 in
theorem inter3_code {y dy z dz : Addr} {ns ls : List Int} (c : Mine.Cl w p loose mean mg mb A env outer A₀ base h₀ L s.heap m) (O : OSN prog w h₀ L s.heap x d ks) (Oy : OSN prog w h₀ L s.heap y dy ns) (Oz : OSN prog w h₀ L s.heap z dz ls) (hdep : A.depth + 20 < recursionLimit)
    (k : ∀ x' d' h' tk' rs, Kp [] s.heap h' → NewOS prog w s.heap h' x' d' rs → (∀ i, i ∈ rs ↔ i ∈ ks ∧ i ∈ ns ∧ i ∈ ls) → R (.ok (.ret (.ref x'))) { s with heap := h', toks := tk' }) :
    codeAny (model prog w) A (.call (.ref 204) ⟨[.ref 217, .ref x, .ref y, .ref z], []⟩) R s := by
  obtain ⟨dx, hs, tk, n, o, N0, ho, lo, h7s⟩ := O
  obtain ⟨dxy, hsy, tky, ny, oy, Ny, hoy, loy, h7t⟩ := Oy
  have a1 := neN (apart_x N0 (.head _) (.tail _ (.tail _ (.head _))) ho)
  have a2 := neN (apart_d N0 (.tail _ (.head _)) (.tail _ (.tail _ (.head _))) ho)
  have N : News h₀ L s.heap [(x, instObj 217 dx), (dx, dictOf [⟨hs, .str (Str.ofString "_data") tk, .ref d⟩] n), (d, o), (y, instObj 217 dxy), (dxy, dictOf [⟨hsy, .str (Str.ofString "_data") tky, .ref dy⟩] ny), (dy, oy)] := fun p hp => by
    rcases List.mem_append.mp (show p ∈ [(x, instObj 217 dx), (dx, dictOf [⟨hs, .str (Str.ofString "_data") tk, .ref d⟩] n), (d, o)] ++ [(y, instObj 217 dxy), (dxy, dictOf [⟨hsy, .str (Str.ofString "_data") tky, .ref dy⟩] ny), (dy, oy)] from hp) with hp | hp
    · exact N0 p hp
    · exact Ny p hp
  obtain ⟨dxz, hsz', tkz, nz, oz, Nz, hoz, loz, h7z⟩ := Oz
  have N9' := N
  clear N
  have N : News h₀ L s.heap [(x, instObj 217 dx), (dx, dictOf [⟨hs, .str (Str.ofString "_data") tk, .ref d⟩] n), (d, o), (y, instObj 217 dxy), (dxy, dictOf [⟨hsy, .str (Str.ofString "_data") tky, .ref dy⟩] ny), (dy, oy), (z, instObj 217 dxz), (dxz, dictOf [⟨hsz', .str (Str.ofString "_data") tkz, .ref dz⟩] nz), (dz, oz)] := fun p hp => by
    rcases List.mem_append.mp (show p ∈ [(x, instObj 217 dx), (dx, dictOf [⟨hs, .str (Str.ofString "_data") tk, .ref d⟩] n), (d, o), (y, instObj 217 dxy), (dxy, dictOf [⟨hsy, .str (Str.ofString "_data") tky, .ref dy⟩] ny), (dy, oy)] ++ [(z, instObj 217 dxz), (dxz, dictOf [⟨hsz', .str (Str.ofString "_data") tkz, .ref dz⟩] nz), (dz, oz)] from hp) with hp | hp
    · exact N9' p hp
    · exact Nz p hp
  clear N9'
  have hk7 := small_len (isd_nodup ho) h7s
  have hn7 := small_len (isd_nodup hoy) h7t
  k_dflt (refine' enter9R c N ?k6 ?k7 ?k8 ?kV ?kP ?kG ?kB ?_ ?c5 ?c2 ?c3 ?c4; (case k6 => k_is); (case k7 => k_is); (case k8 => omega); (case kV => kl_lit); (case kP => exact rfl); (case kG => exact fun _ => rfl); (case kB => exact fun _ => locs rfl); (case c5 => decide); (case c2 => exact rfl); (case c3 => exact rfl); (case c4 => exact rfl); k_whole; intro D' g' L' h' F' N' B' X' T' keep' above' l1; (try k_lt l1); (try dsimp only); (try k_fold))
  refine with_cd c B' F' rfl rfl fun cd => ?_
  k_steps
  unfold Stop9
  refine wpAny_noRaise (for_walk9 ?_)
  k_steps
  unfold Stop9
  (with_reducible rename News _ _ _ _ => N9); (with_reducible rename Fr _ _ _ _ => F9)
  refine tupFrom9 F9 N9 (.tail _ (.head _)) (by simp) (fun D2 h1 F1 N1 l2 => ?_)
  k_lt l2
  refine interFor9 (ks := ks) (dT := d) (others := [ns, ls]) _ (by exact c.hh) F1 (by (first | with_reducible assumption | rfl | (show ite _ _ _ = _; rw [if_neg (by decide)]; first | with_reducible assumption | (show ite _ _ _ = _; rw [if_neg (by decide)]; with_reducible assumption)))) (by rfl) N1 (by k_mem) (by k_mem) ?_ ?_
  · rintro i v h tk m' T oT oI hi F3 ht hc N3 tm
    have hi0 : i = 0 ∨ i = 1 := by have := (List.getElem?_eq_some_iff.mp hi).1; simp at this; omega
    rcases hi0 with rfl | rfl
    · cases hi
      k_steps
      (with_reducible rename News _ _ _ _ => N4); (with_reducible rename Fr _ _ _ _ => F4)
      refine wpAny_loadName_local (by rfl) (by rfl) F4.ns (by (first | with_reducible assumption | rfl | (show ite _ _ _ = _; rw [if_neg (by decide)]; first | with_reducible assumption | (show ite _ _ _ = _; rw [if_neg (by decide)]; with_reducible assumption)))) ?_
      k_steps
      unfold Stop9
      (with_reducible rename News _ _ _ _ => N5); (with_reducible rename Fr _ _ _ _ => F5)
      refine turn9 (others := [ns, ls]) (i := 0) (by exact c.hh) F5 N5 (.tail _ (.tail _ (.head _))) (.head _) (.tail _ (.tail _ (.tail _ (.tail _ (.tail _ (.tail _ (.tail _ (.tail _ (.head _))))))))) ho (.tail _ (.tail _ (.tail _ (.tail _ (.tail _ (.tail _ (.tail _ (.tail _ (.tail _ (.tail _ (.tail _ (.head _)))))))))))) hoy rfl tm h7s h7t (fun h5 tk5 r oR F6 N6 l6 tm6 => ?_)
      k_steps
      (with_reducible rename News _ _ _ _ => N7); (with_reducible rename Fr _ _ _ _ => F7)
      exact ⟨rfl, _, _, _, r, oR, rfl, F7, by (first | with_reducible assumption | rfl | (show ite _ _ _ = _; rw [if_neg (by decide)]; first | with_reducible assumption | (show ite _ _ _ = _; rw [if_neg (by decide)]; with_reducible assumption))), by (first | with_reducible assumption | rfl | (show ite _ _ _ = _; rw [if_neg (by decide)]; first | with_reducible assumption | (show ite _ _ _ = _; rw [if_neg (by decide)]; with_reducible assumption))), fun p hp => N7 p (mem_skip hp), l6 _ (.tail _ (.head _)), tm6.out⟩
    · cases hi
      k_steps
      (with_reducible rename News _ _ _ _ => N4); (with_reducible rename Fr _ _ _ _ => F4)
      refine wpAny_loadName_local (by rfl) (by rfl) F4.ns (by (first | with_reducible assumption | rfl | (show ite _ _ _ = _; rw [if_neg (by decide)]; first | with_reducible assumption | (show ite _ _ _ = _; rw [if_neg (by decide)]; with_reducible assumption)))) ?_
      k_steps
      unfold Stop9
      (with_reducible rename News _ _ _ _ => N5); (with_reducible rename Fr _ _ _ _ => F5)
      refine turn9 (others := [ns, ls]) (i := 1) (by exact c.hh) F5 N5 (.tail _ (.tail _ (.head _))) (.head _) (.tail _ (.tail _ (.tail _ (.tail _ (.tail _ (.tail _ (.tail _ (.tail _ (.head _))))))))) ho (.tail _ (.tail _ (.tail _ (.tail _ (.tail _ (.tail _ (.tail _ (.tail _ (.tail _ (.tail _ (.tail _ (.tail _ (.tail _ (.tail _ (.head _))))))))))))))) hoz rfl tm h7s h7z (fun h5 tk5 r oR F6 N6 l6 tm6 => ?_)
      k_steps
      (with_reducible rename News _ _ _ _ => N7); (with_reducible rename Fr _ _ _ _ => F7)
      exact ⟨rfl, _, _, _, r, oR, rfl, F7, by (first | with_reducible assumption | rfl | (show ite _ _ _ = _; rw [if_neg (by decide)]; first | with_reducible assumption | (show ite _ _ _ = _; rw [if_neg (by decide)]; with_reducible assumption))), by (first | with_reducible assumption | rfl | (show ite _ _ _ = _; rw [if_neg (by decide)]; first | with_reducible assumption | (show ite _ _ _ = _; rw [if_neg (by decide)]; with_reducible assumption))), fun p hp => N7 p (mem_skip hp), l6 _ (.tail _ (.head _)), tm6.out⟩
  · rintro h tk m' T oT F3 ht hc N3 tm
    obtain ⟨M, hS, hb⟩ : ∃ M, SetIs9 w oT M ∧ ∀ j < 7, M.testBit j = decide ((j : Int) ∈ ks ∧ ∀ l ∈ [ns, ls], (j : Int) ∈ l) := by
      unfold Tm9 at tm
      rw [if_neg (by simp)] at tm
      exact tm
    k_steps
    unfold Stop9
    have c3 := Cl.re cd F3
    refine wpAny_call (cls_code (s := { s with heap := h, toks := tk }) c3 (fun p hp => N3 p (by rw [List.mem_singleton.mp hp]; exact .head _)) (fk9_set hS) (fun rs hr => hr.2.1) (by show A.depth + 1 + 8 < _; omega) fun x' d' h6 tk6 rs hk6 hr O6 => ?_)
    have F6 : Fr g' L' h6 _ := ⟨F3.ns.keeps fun b o e => hk6 b o (by simp) e, fun b o e => hk6 b o (by simp) (F3.keep b o e), F3.above⟩
    k_steps
    have hk3 := kp_of (ch := []) keep' F3 N N3 (by simp)
    have hsz : s.heap.objs.size ≤ h.objs.size := Nat.le_of_lt (Nat.lt_of_le_of_lt above' F3.ns.lt)
    refine k x' d' _ _ rs (fun b o hb e => hk6 b o hb (hk3 b o hb e)) (O6.mono hsz) fun i => ?_
    rw [mem_of_bits9 hr.2.1 h7s hr.2.2 hb]
    simp
end
end Mine
end
theorem Mine.calm9a38 : True ∧ True := by
  w_top off
  (try walk1) <;> (first | exact True.intro | exact ⟨True.intro, True.intro⟩)

/-! part P38 -/
section
open PySem PySem.W PySem.Calls PySem.Spec PyProof.Rows PyProof.Rows.LCg
namespace Mine

/-- the same, where the new list is stored under a local name of the frame L before the block's variables go -/
def AsgAt9 (prog : Program) (w : World) (A : Around) (elt : Expr) (ifs : List Expr) (x : Str) (scope : Scope) (cl : List (Str × Addr)) (env : Env) (y : Str) (h₀ : Heap) (Q : Flow → Shared → Prop) (it : Value) (s₂ : Shared) : Prop :=
  ∃ (I : Addr) (fp : List Addr) (n : Nat) (P : Nat → Value → Prop) (St : Nat → Heap → Prop) (Inv : Addr → Addr → Nat → List Value → Heap → Prop) (m : Str → Option Value), it = .ref I ∧ Walks prog w A I fp [I] n P St ∧ n ≤ sizeLine ∧ St 0 s₂.heap ∧ (∀ b ∈ fp, b < s₂.heap.objs.size) ∧
    (∀ C D h, s₂.heap.objs.size ≤ C → s₂.heap.objs.size ≤ D → (∀ b o, s₂.heap.get? b = some o → h.get? b = some o) → Inv C D 0 [] h) ∧
    (∀ C D i ys h h', Inv C D i ys h → (∀ b o, b ≠ I → b ≠ C → b ≠ D → b ≠ env.locals → h.get? b = some o → h'.get? b = some o) → Inv C D i ys h') ∧
    (∀ C D i ys y h tk m₂, i < n → P i y → s₂.heap.objs.size ≤ C → s₂.heap.objs.size ≤ D → C < h.objs.size → D < h.objs.size → I < h.objs.size → h.Ns C m₂ → m₂ x = some y → (∀ b o, b ≠ I → s₂.heap.get? b = some o → h.get? b = some o) → Inv C D i ys h →
      Turn9 prog w A (compEnvC scope cl C env) elt ifs { s₂ with heap := h, toks := tk } fun b v h' => Inv C D (i + 1) (if b = true then ys ++ [v] else ys) h') ∧
    Fr h₀ env.locals s₂.heap m ∧ h₀.get? I = none ∧ I ≠ env.locals ∧
    (∀ C D ys h tk, s₂.heap.objs.size ≤ D → (∀ b o, b ≠ I → b ≠ env.locals → s₂.heap.get? b = some o → h.get? b = some o) → Fr h₀ env.locals h (fun z => if z = y then some (.ref D) else m z) → Inv C D n ys h → h.get? D = some (lst ys) → Q .next { s₂ with heap := h, toks := tk })

section
variable {prog : Program} {w : World} {A : Around} {s : Shared} {env : Env} {Q : Flow → Shared → Prop} {E : Value → Shared → Prop} {elt iter : Expr} {ifs : List Expr} {x y : Str} {px py : Pos} {scope : Scope} {cl : List (Str × Addr)} {pos spos : Pos} {h₀ : Heap}

theorem asg9 (hsw : swapsWith (.ListComp elt [⟨.Name x px, iter, ifs, 0⟩] scope pos) (some (.Name y py)) spos.line env = pure true)
    (hclos : closureFor scope env = pure cl) (hcell : ∀ y ∈ scope.names, y.2 ≠ .cell) (hkind : scope.kind = .function)
    (hnames : ∀ y ∈ scope.names, y.2 = .local → scope.names.lookup y.1 = some .local) (hx : scope.names.lookup x = some .local)
    (hy : env.kindOf y = some .local) (hp : (env.scope.kind == .class || (env.scope.kind == .module && env.locals != env.globals)) = false)
    (h : wpAny (model prog w) A (eval iter env) (fun xv s₁ => wpAny (model prog w) A (pyIter xv) (AsgAt9 prog w A elt ifs x scope cl env y h₀ Q) E s₁) E s)
    (hs : ∀ x, foldedSetIterable iter env x = pure x := by intro _; rfl) :
    wpAny (model prog w) A (exec (.Assign [.Name y py] (.ListComp elt [⟨.Name x px, iter, ifs, 0⟩] scope pos) spos) env) Q E s := by
  rw [exec_Assign_Name_used _ _ _ _ hsw]
  refine wpAny_bind (wpAny_standAt (wpAny_bind ?_))
  show wpAny _ A (do let _ ← comprehension (.ListComp elt [⟨.Name x px, iter, ifs, 0⟩] scope pos) scope env _ (newList []) false (eval iter env) (some (assign (.Name y py) env))) _ _ s
  refine wpAny_bind (wpAny_mono (wpAny_comprehension_free (use := some (assign (.Name y py) env)) (Q := fun _ s' => Q .next s') rfl hs hclos hkind hnames
    (wpAny_mono h (fun xv s₁ h₁ => wpAny_mono h₁ (fun it s₂ h₂ => ?_) fun _ _ e => e) fun _ _ e => e)) (fun _ s' hq => wpAny_pure (wpAny_pure hq)) fun _ _ e => e)
  obtain ⟨I, fp, n, P, St, Inv, m, rfl, W, hsz, hst, hfp, inv0, stable, turn, F, hI₀, hIL, done⟩ := h₂
  refine wpAny_newObj_type (wpAny_newFunctionEnv hcell (by intro y hy; simp at hy) (fun h₁ hns₁ hsb₁ => ?_) hkind)
  dsimp only at hns₁ hsb₁ ⊢
  generalize hH2 : s₂.heap.push { cls := .type "list", dict := none, data := .seq ([] : List Value).toArray } = H2 at hns₁ hsb₁ ⊢
  have hC : H2.objs.size = s₂.heap.objs.size + 1 := by rw [← hH2, Heap.size_push]
  have hDC : s₂.heap.objs.size ≠ H2.objs.size := by rw [hC]; exact Nat.ne_of_lt (Nat.lt_succ_self _)
  have below : ∀ b, b < s₂.heap.objs.size → b ≠ H2.objs.size ∧ b ≠ s₂.heap.objs.size := fun b hb => ⟨by rw [hC]; exact Nat.ne_of_lt (Nat.lt_succ_of_lt hb), Nat.ne_of_lt hb⟩
  have hDf : s₂.heap.objs.size ∉ fp := fun hm => Nat.lt_irrefl _ (hfp _ hm)
  have hCf : H2.objs.size ∉ fp := fun hm => by have := hfp _ hm; rw [hC] at this; exact Nat.lt_irrefl _ (Nat.lt_of_succ_lt this)
  have hIf : I ∈ fp := W.sub I (List.mem_singleton.mpr rfl)
  have hIlt : I < s₂.heap.objs.size := hfp I hIf
  have old : ∀ b o, s₂.heap.get? b = some o → h₁.get? b = some o := fun b o e => hsb₁.extBut b o (below b (Heap.lt_size e)).1 (Heap.get?_push_of_some _ (hH2 ▸ Heap.get?_push_of_some _ e))
  have hacc : h₁.get? s₂.heap.objs.size = some (lst []) := hsb₁.extBut _ _ hDC (Heap.get?_push_of_some _ (hH2 ▸ Heap.get?_push_size _ rfl))
  have hst₁ : St 0 h₁ := W.frame _ _ _ hst fun b _ o e => old b o e
  have hCI : I ≠ H2.objs.size := (below I hIlt).1
  have hDI : I ≠ s₂.heap.objs.size := (below I hIlt).2
  have leC : s₂.heap.objs.size ≤ H2.objs.size := by rw [hC]; exact Nat.le_succ _
  have hs1 : s₂.heap.objs.size ≤ h₁.objs.size := by
    have := hns₁.lt
    exact Nat.le_trans leC (Nat.le_of_lt this)
  have loop : ∀ s₃ : Shared, s₃ = { s₂ with heap := h₁, toks := s₂.toks + ([] : List (Str × Value)).length } →
      codeAny (model prog w) A (.compLoop (.ListComp elt [⟨.Name x px, iter, ifs, 0⟩] scope pos) 0 (.ref I) (.ref s₂.heap.objs.size) (compEnvC scope cl H2.objs.size env))
        (compPost (model prog w) A E (some (assign (.Name y py) env)) (fun _ s' => Q .next s') (.ref s₂.heap.objs.size) H2.objs.size) s₃ := by
    rintro s₃ rfl
    refine codeAny_compLoop_tests
      (fun k s' => ∃ h' tk i ys m', s' = { s₂ with heap := h', toks := tk } ∧ i ≤ n ∧ k = n + 1 - i ∧ ys.length ≤ i ∧ St i h' ∧ h'.Ns H2.objs.size m' ∧ h'.get? s₂.heap.objs.size = some (lst ys) ∧ I < h'.objs.size ∧
        (∀ b o, b ≠ I → s₂.heap.get? b = some o → h'.get? b = some o) ∧ Inv H2.objs.size s₂.heap.objs.size i ys h') ?_ (n + 1)
      ⟨h₁, _, 0, [], _, rfl, Nat.zero_le _, rfl, Nat.le_refl _, hst₁, hns₁, hacc, Nat.lt_of_lt_of_le hIlt hs1, fun b o _ e => old b o e, inv0 _ _ _ leC (Nat.le_refl _) old⟩
    rintro k s' ⟨h', tk, i, ys, m', rfl, hi, rfl, hyl, hst', hn', hD', hIh, kp', inv'⟩
    by_cases hlt : i < n
    · refine W.item i _ _ _ hlt hst' fun v h₂ tk₂ hPv hst₂ hk₂ => ?_
      have hD₂ : h₂.get? s₂.heap.objs.size = some (lst ys) := hk₂ _ _ (by simpa using Ne.symm hDI) hD'
      refine wpAny_assign_Name (wpAny_storeName_local (lookup_relabel_local hx) (hn'.at' fun o e => hk₂ _ o (by simpa using Ne.symm hCI) e) (fun h₃ hn₃ hs₃ => ?_) (by simp [compEnvC, relabel, hkind]))
      have hst₃ : St (i + 1) h₃ := W.frame _ _ _ hst₂ fun b hb o e => hs₃.extBut b o (fun q => hCf (by have q' : b = H2.objs.size := q; rw [← q']; exact hb)) e
      have hD₃ : h₃.get? s₂.heap.objs.size = some (lst ys) := hs₃.extBut _ _ hDC hD₂
      have inv₃ : Inv H2.objs.size s₂.heap.objs.size i ys h₃ := stable _ _ _ _ _ _ inv' fun b o a1 a2 a3 _ e => hs₃.extBut b o a2 (hk₂ b o (by simpa using a1) e)
      have kp₃ : ∀ b o, b ≠ I → s₂.heap.get? b = some o → h₃.get? b = some o := fun b o hb e => hs₃.extBut b o (below b (Heap.lt_size e)).1 (hk₂ b o (by simpa using hb) (kp' b o hb e))
      have hI₃ : I < h₃.objs.size := by
        have := Heap.lt_size hD₃
        exact Nat.lt_trans hIlt this
      refine wpAny_mono (turn _ _ i ys v h₃ _ _ hlt hPv leC (Nat.le_refl _) hn₃.lt (Heap.lt_size hD₃) hI₃ hn₃ (by simp) kp₃ inv₃) (fun ok s₄ h₄ => ?_) fun _ _ e => e.elim
      have step : ∀ (h4 : Heap) (b : Bool) (v' : Value), (∀ b o, h₃.get? b = some o → h4.get? b = some o) → Inv H2.objs.size s₂.heap.objs.size (i + 1) (if b = true then ys ++ [v'] else ys) h4 →
          St (i + 1) h4 ∧ h4.Ns H2.objs.size (fun z => if z = x then some v else m' z) ∧ h4.get? s₂.heap.objs.size = some (lst ys) ∧ I < h4.objs.size ∧ (∀ b o, b ≠ I → s₂.heap.get? b = some o → h4.get? b = some o) := by
        intro h4 b v' hk4 _
        have hD4 := hk4 _ _ hD₃
        exact ⟨W.frame _ _ _ hst₃ fun b _ o e => hk4 b o e, hn₃.at' fun o e => hk4 _ o e, hD4, Nat.lt_trans hIlt (Heap.lt_size hD4), fun b o hb e => hk4 b o (kp₃ b o hb e)⟩
      cases ok with
      | false =>
        obtain ⟨h4, tk4, rfl, hk4, inv4⟩ := h₄
        obtain ⟨a1, a2, a3, a4, a5⟩ := step h4 false .none hk4 inv4
        exact ⟨n + 1 - (i + 1), by omega, h4, tk4, i + 1, ys, _, rfl, hlt, rfl, Nat.le_succ_of_le hyl, a1, a2, a3, a4, a5, inv4⟩
      | true =>
        refine wpAny_mono h₄ (fun y s₅ h₅ => ?_) fun _ _ e => e.elim
        obtain ⟨h4, tk4, rfl, hk4, inv4⟩ := h₅
        obtain ⟨a1, a2, a3, a4, a5⟩ := step h4 true y hk4 inv4
        refine append_at (hsz := by show ys.toArray.size ≤ sizeLine; rw [List.size_toArray]; exact Nat.le_trans hyl (Nat.le_trans hi hsz)) a3 fun h₅ hs₅ hD₅ => ?_
        refine ⟨n + 1 - (i + 1), by omega, h₅, tk4, i + 1, ys ++ [y], _, rfl, hlt, rfl, by rw [List.length_append, List.length_singleton]; omega, W.frame _ _ _ a1 fun b hb o e => hs₅.extBut b o (fun q => hDf (q ▸ hb)) e,
          a2.sameBut hs₅ (Ne.symm hDC), hD₅.trans (congrArg some (lst_snoc ys y)), Nat.lt_trans hIlt (Heap.lt_size hD₅), fun b o hb e => hs₅.extBut b o (below b (Heap.lt_size e)).2 (a5 b o hb e), stable _ _ _ _ _ _ inv4 fun b o _ _ hb _ e => hs₅.extBut b o hb e⟩
    · obtain rfl : i = n := Nat.le_antisymm hi (Nat.not_lt.mp hlt)
      refine W.done _ _ _ hst' fun h₂ tk₂ hk₂ => ?_
      have kp₂ : ∀ b o, b ≠ I → s₂.heap.get? b = some o → h₂.get? b = some o := fun b o hb e => hk₂ b o (by simpa using hb) (kp' b o hb e)
      have hLlt : env.locals < s₂.heap.objs.size := F.ns.lt
      have F₂ : Fr h₀ env.locals h₂ m := ⟨F.ns.at' fun o e => kp₂ _ o (Ne.symm hIL) e, fun b o e => kp₂ b o (fun q => by rw [q, hI₀] at e; cases e) (F.keep b o e), F.above⟩
      have hCn : h₂.Ns H2.objs.size m' := hn'.at' fun o e => hk₂ _ o (by simpa using Ne.symm hCI) e
      have hCL : H2.objs.size ≠ env.locals := Ne.symm (below _ hLlt).1
      have hDL : s₂.heap.objs.size ≠ env.locals := Ne.symm (below _ hLlt).2
      have hD₂ : h₂.get? s₂.heap.objs.size = some (lst ys) := hk₂ _ _ (by simpa using Ne.symm hDI) hD'
      show wpAny _ A (assign (.Name y py) env (.ref s₂.heap.objs.size)) _ _ _
      refine wpAny_assign_Name (wpAny_storeName_local hy F₂.ns (fun h₃ hn₃ hs₃ => ?_) hp)
      have hL₀ : h₀.get? env.locals = none := Heap.get?_none_of_le F₂.above
      have F₃ : Fr h₀ env.locals h₃ (fun z => if z = y then some (.ref s₂.heap.objs.size) else m z) := ⟨hn₃, fun b o e => hs₃.extBut b o (fun q => by rw [q, hL₀] at e; cases e) (F₂.keep b o e), F₂.above⟩
      refine ⟨m', hCn.sameBut hs₃ hCL, fun h₄ hs₄ => ?_⟩
      have hC₀ : h₀.get? H2.objs.size = none := by
        cases q : h₀.get? H2.objs.size with
        | none => rfl
        | some o' => exact absurd (Heap.lt_size (F.keep _ _ q)) (Nat.not_lt.mpr leC)
      refine done H2.objs.size _ ys h₄ _ (Nat.le_refl _) (fun b o hb hbL e => hs₄.extBut b o (below b (Heap.lt_size e)).1 (hs₃.extBut b o hbL (kp₂ b o hb e))) (F₃.change hs₄ hCL hC₀)
        (stable _ _ _ _ _ _ inv' fun b o a1 a2 a3 a4 e => hs₄.extBut b o a2 (hs₃.extBut b o a4 (hk₂ b o (by simpa using a1) e)))
        (hs₄.extBut _ _ hDC (hs₃.extBut _ _ hDL hD₂))
  exact codeAny_compStart_list (loop _ rfl) (W.self 0 _ _ _ hst₁ (loop _ rfl))
end
end Mine
end
theorem Mine.calm9a39 : True ∧ True := by
  w_top off
  (try walk1) <;> (first | exact True.intro | exact ⟨True.intro, True.intro⟩)

/-! part P39 -/
section
open PySem PySem.W PySem.Calls PySem.Spec PyProof.Rows PyProof.Rows.LCg
namespace Mine

/-- so many new objects have been made, each with its own places -/
def ObjInv9 (PF : Nat → Addr → List Addr → Heap → Prop) (n0 I L C D : Addr) (i : Nat) (ys : List Value) (h : Heap) : Prop :=
  ys.length = i ∧ ∃ fps : List (List Addr), fps.length = i ∧ (∀ j v, ys[j]? = some v → ∃ a fp, fps[j]? = some fp ∧ v = .ref a ∧ PF j a fp h) ∧
    (∀ fp ∈ fps, ∀ b ∈ fp, (b ≠ I ∧ b ≠ C ∧ b ≠ D ∧ b ≠ L) ∧ n0 ≤ b ∧ ∃ o, h.get? b = some o) ∧ fps.Pairwise fun f g => ∀ b ∈ f, b ∉ g

def Stays9 (PF : Nat → Addr → List Addr → Heap → Prop) : Prop := ∀ j a fp h h', PF j a fp h → (∀ b ∈ fp, ∀ o, h.get? b = some o → h'.get? b = some o) → PF j a fp h'

theorem objInv_nil {PF : Nat → Addr → List Addr → Heap → Prop} {n0 I L C D : Addr} {h : Heap} : ObjInv9 PF n0 I L C D 0 [] h := ⟨rfl, [], rfl, fun _ _ e => (nomatch e), fun _ e => (nomatch e), List.Pairwise.nil⟩
theorem objInv_stable {PF : Nat → Addr → List Addr → Heap → Prop} (hs : Stays9 PF) {n0 I L C D : Addr} {i : Nat} {ys : List Value} {h h' : Heap} (x : ObjInv9 PF n0 I L C D i ys h) (hk : ∀ b o, b ≠ I → b ≠ C → b ≠ D → b ≠ L → h.get? b = some o → h'.get? b = some o) : ObjInv9 PF n0 I L C D i ys h' := by
  obtain ⟨h1, fps, h2, h3, h4, h5⟩ := x
  have key : ∀ fp ∈ fps, ∀ b ∈ fp, ∀ o, h.get? b = some o → h'.get? b = some o := fun fp hf b hb o e => by
    obtain ⟨⟨a1, a2, a3, a4⟩, _⟩ := h4 fp hf b hb
    exact hk b o a1 a2 a3 a4 e
  refine ⟨h1, fps, h2, fun j v e => ?_, fun fp hf b hb => ?_, h5⟩
  · obtain ⟨a, fp, e1, e2, e3⟩ := h3 j v e
    exact ⟨a, fp, e1, e2, hs _ _ _ _ _ e3 (key fp (List.mem_of_getElem? e1))⟩
  · obtain ⟨a1, a2, o, e⟩ := h4 fp hf b hb
    exact ⟨a1, a2, o, key fp hf b hb o e⟩
theorem objInv_snoc {PF : Nat → Addr → List Addr → Heap → Prop} (hs : Stays9 PF) {n0 I L C D : Addr} {i : Nat} {ys : List Value} {h h' : Heap} {a : Addr} {fp : List Addr} (x : ObjInv9 PF n0 I L C D i ys h) (hk : ∀ b o, h.get? b = some o → h'.get? b = some o)
    (hI : I < h.objs.size) (hC : C < h.objs.size) (hD : D < h.objs.size) (hL : L < h.objs.size) (h0 : n0 ≤ h.objs.size) (hf : ∀ b ∈ fp, h.objs.size ≤ b ∧ ∃ o, h'.get? b = some o) (hp : PF i a fp h') : ObjInv9 PF n0 I L C D (i + 1) (ys ++ [.ref a]) h' := by
  have lt4 : ∀ fps : List (List Addr), (∀ f ∈ fps, ∀ b ∈ f, (b ≠ I ∧ b ≠ C ∧ b ≠ D ∧ b ≠ L) ∧ n0 ≤ b ∧ ∃ o, h.get? b = some o) → ∀ f ∈ fps, ∀ b ∈ f, b < h.objs.size := fun fps h4 f hf b hb => by
    obtain ⟨_, _, o, e⟩ := h4 f hf b hb
    exact Heap.lt_size e
  obtain ⟨h1, fps, h2, h3, h4, h5⟩ := objInv_stable hs x fun b o _ _ _ _ e => hk b o e
  have h4' := x.2
  obtain ⟨h1, fps, h2, h3, h4, h5⟩ := x
  have key : ∀ fp ∈ fps, ∀ b ∈ fp, ∀ o, h.get? b = some o → h'.get? b = some o := fun _ _ b _ o e => hk b o e
  refine ⟨by rw [List.length_append, h1]; rfl, fps ++ [fp], by rw [List.length_append, h2]; rfl, fun j v e => ?_, fun f hf' b hb => ?_, ?_⟩
  · rcases Nat.lt_or_ge j ys.length with hj | hj
    · rw [List.getElem?_append_left hj] at e
      obtain ⟨a', fp', e1, e2, e3⟩ := h3 j v e
      exact ⟨a', fp', by rw [List.getElem?_append_left (by omega)]; exact e1, e2, hs _ _ _ _ _ e3 (key _ (List.mem_of_getElem? e1))⟩
    · rw [List.getElem?_append_right hj] at e
      have hj0 : j - ys.length = 0 := by
        have := (List.getElem?_eq_some_iff.mp e).1
        simp at this; omega
      rw [hj0] at e
      have ev : v = .ref a := by simpa using e.symm
      have ej : j = i := by omega
      subst ej
      exact ⟨a, fp, by rw [List.getElem?_append_right (by omega), h2, Nat.sub_self]; rfl, ev, hp⟩
  · rcases List.mem_append.mp hf' with hf' | hf'
    · obtain ⟨a1, a2, o, e⟩ := h4 f hf' b hb
      exact ⟨a1, a2, o, hk b o e⟩
    · rw [List.mem_singleton.mp hf'] at hb
      obtain ⟨g1, g2⟩ := hf b hb
      exact ⟨⟨Nat.ne_of_gt (Nat.lt_of_lt_of_le hI g1), Nat.ne_of_gt (Nat.lt_of_lt_of_le hC g1), Nat.ne_of_gt (Nat.lt_of_lt_of_le hD g1), Nat.ne_of_gt (Nat.lt_of_lt_of_le hL g1)⟩, Nat.le_trans h0 g1, g2⟩
  · rw [List.pairwise_append]
    refine ⟨h5, List.pairwise_singleton _ _, fun f hf' g hg b hb hb2 => ?_⟩
    rw [List.mem_singleton.mp hg] at hb2
    exact absurd (lt4 fps h4 f hf' b hb) (Nat.not_lt.mpr (hf b hb2).1)

section
variable {prog : Program} {w : World} {A : Around} {s : Shared} {env : Env} {elt : Expr} {x y : Str} {scope : Scope} {cl : List (Str × Addr)} {h₀ : Heap} {m : Str → Option Value} {PF : Nat → Addr → List Addr → Heap → Prop} {l : Addr} {its : List Value}

/-- what one element's tree must show -/
def Made9 (PF : Nat → Addr → List Addr → Heap → Prop) (i : Nat) (s : Shared) (h : Heap) (v : Value) (s₄ : Shared) : Prop :=
  ∃ a fp h' tk', v = .ref a ∧ s₄ = { s with heap := h', toks := tk' } ∧ (∀ b o, h.get? b = some o → h'.get? b = some o) ∧ (∀ b ∈ fp, h.objs.size ≤ b ∧ ∃ o, h'.get? b = some o) ∧ PF i a fp h'

theorem objsComp9 {Q : Value → Shared → Prop} {E : Value → Shared → Prop} {L : Addr} (hl : s.heap.IsList l its.toArray) (hn : its.length ≤ 100) (hh : A.handled = none) (hL : L < s.heap.objs.size) (hs : Stays9 PF)
    (turn : ∀ C i y h tk m₂, its[i]? = some y → h.Ns C m₂ → m₂ x = some y → (∀ b o, s.heap.get? b = some o → h.get? b = some o) → s.heap.objs.size ≤ C →
      wpAny (model prog w) A (eval elt (compEnvC scope cl C env)) (fun v s₄ => Stop8 (Made9 PF i s h v s₄)) (fun _ _ => False) { s with heap := h, toks := tk })
    (done : ∀ D h tk ys I C, (∀ b o, s.heap.get? b = some o → h.get? b = some o) → h.get? D = some (lst ys) → s.heap.objs.size ≤ D → ObjInv9 PF s.heap.objs.size I L C D its.length ys h → Q (.ref D) { s with heap := h, toks := tk }) :
    wpAny (model prog w) A (pyIter (.ref l)) (CompAt9 prog w A elt [] x scope cl env Q) E s := by
  have hlt : l < s.heap.objs.size := by obtain ⟨_, e, _⟩ := hl; exact Heap.lt_size e
  refine wpAny_pyIter_list hl ?_
  have W := Walks.list (prog := prog) (w := w) (A := A) hh s.heap.objs.size l (Nat.ne_of_lt hlt) its.toArray
  have hsz : (s.heap.push { cls := .type "list_iterator", data := .fields #[.ref l, .int 0 0] }).objs.size = s.heap.objs.size + 1 := Heap.size_push ..
  have hle : s.heap.objs.size ≤ (s.heap.push { cls := .type "list_iterator", data := .fields #[.ref l, .int 0 0] }).objs.size := by rw [hsz]; exact Nat.le_succ _
  have hk₁ : ∀ b o, s.heap.get? b = some o → (s.heap.push { cls := .type "list_iterator", data := .fields #[.ref l, .int 0 0] }).get? b = some o := fun b o e => Heap.get?_push_of_some _ e
  have kp : ∀ h : Heap, (∀ b o, b ≠ s.heap.objs.size → (s.heap.push { cls := .type "list_iterator", data := .fields #[.ref l, .int 0 0] }).get? b = some o → h.get? b = some o) → ∀ b o, s.heap.get? b = some o → h.get? b = some o := fun h hk b o e => hk b o (Nat.ne_of_lt (Heap.lt_size e)) (hk₁ b o e)
  refine ⟨s.heap.objs.size, _, _, _, _, ObjInv9 PF s.heap.objs.size s.heap.objs.size L, rfl, W, ?_, ⟨⟨_, Heap.get?_push_size _ rfl, rfl, rfl⟩, hl.push _⟩, ?_, fun _ _ _ _ _ _ => objInv_nil, fun C D i ys h h' hi hk => objInv_stable hs hi fun b o a1 a2 a3 _ e => hk b o a1 a2 a3 e, ?_, ?_⟩
  · show its.toArray.size ≤ sizeLine
    rw [List.size_toArray, sizeLine_eq]; omega
  · intro b hb
    show b < (s.heap.push _).objs.size
    rw [hsz]
    rcases List.mem_cons.mp hb with rfl | hb
    · exact Nat.lt_succ_self _
    · rw [List.mem_singleton.mp hb]; exact Nat.lt_succ_of_lt hlt
  · intro C D i ys y h tk m₂ hi hP hC hD hCl hDl hIl hns hx hk hinv
    have hsC : s.heap.objs.size ≤ C := Nat.le_trans hle hC
    refine turn_nil9 ?_
    refine wpAny_mono (turn C i y h tk m₂ (by simpa using hP) hns hx (kp h hk) hsC) (fun v s₄ h₄ => ?_) fun _ _ e => e
    obtain ⟨⟨a, fp, h', tk', rfl, rfl, hk', hf, hp⟩⟩ := h₄
    exact ⟨h', tk', rfl, hk', objInv_snoc hs hinv hk' hIl hCl hDl (Nat.lt_trans hL (Nat.lt_of_lt_of_le (Nat.lt_of_le_of_lt hsC hCl) (Nat.le_refl _))) (Nat.le_of_lt (Nat.lt_of_le_of_lt hsC hCl)) hf hp⟩
  · intro C D ys h tk hD hk hinv hg
    have e : its.toArray.size = its.length := by simp
    rw [e] at hinv
    exact done D h tk ys _ C (kp h hk) hg (Nat.le_trans hle hD) hinv

theorem objsAsg9 {Q : Flow → Shared → Prop} {E : Value → Shared → Prop} (hl : s.heap.IsList l its.toArray) (hn : its.length ≤ 100) (hh : A.handled = none) (F : Fr h₀ env.locals s.heap m) (hs : Stays9 PF)
    (turn : ∀ C i y h tk m₂, its[i]? = some y → h.Ns C m₂ → m₂ x = some y → (∀ b o, s.heap.get? b = some o → h.get? b = some o) → s.heap.objs.size ≤ C →
      wpAny (model prog w) A (eval elt (compEnvC scope cl C env)) (fun v s₄ => Stop8 (Made9 PF i s h v s₄)) (fun _ _ => False) { s with heap := h, toks := tk })
    (done : ∀ D h tk ys I C, (∀ b o, b ≠ env.locals → s.heap.get? b = some o → h.get? b = some o) → Fr h₀ env.locals h (fun z => if z = y then some (.ref D) else m z) → h.get? D = some (lst ys) → s.heap.objs.size ≤ D → ObjInv9 PF s.heap.objs.size I env.locals C D its.length ys h → Q .next { s with heap := h, toks := tk }) :
    wpAny (model prog w) A (pyIter (.ref l)) (AsgAt9 prog w A elt [] x scope cl env y h₀ Q) E s := by
  have hlt : l < s.heap.objs.size := by obtain ⟨_, e, _⟩ := hl; exact Heap.lt_size e
  have hL := F.ns.lt
  refine wpAny_pyIter_list hl ?_
  have W := Walks.list (prog := prog) (w := w) (A := A) hh s.heap.objs.size l (Nat.ne_of_lt hlt) its.toArray
  have hsz : (s.heap.push { cls := .type "list_iterator", data := .fields #[.ref l, .int 0 0] }).objs.size = s.heap.objs.size + 1 := Heap.size_push ..
  have hle : s.heap.objs.size ≤ (s.heap.push { cls := .type "list_iterator", data := .fields #[.ref l, .int 0 0] }).objs.size := by rw [hsz]; exact Nat.le_succ _
  have hk₁ : ∀ b o, s.heap.get? b = some o → (s.heap.push { cls := .type "list_iterator", data := .fields #[.ref l, .int 0 0] }).get? b = some o := fun b o e => Heap.get?_push_of_some _ e
  have kp : ∀ h : Heap, (∀ b o, b ≠ s.heap.objs.size → (s.heap.push { cls := .type "list_iterator", data := .fields #[.ref l, .int 0 0] }).get? b = some o → h.get? b = some o) → ∀ b o, s.heap.get? b = some o → h.get? b = some o := fun h hk b o e => hk b o (Nat.ne_of_lt (Heap.lt_size e)) (hk₁ b o e)
  have hIg : h₀.get? s.heap.objs.size = none := by
    cases hq : h₀.get? s.heap.objs.size with
    | none => rfl
    | some o' => exact absurd (Heap.lt_size (F.keep _ _ hq)) (Nat.lt_irrefl _)
  refine ⟨s.heap.objs.size, _, _, _, _, ObjInv9 PF s.heap.objs.size s.heap.objs.size env.locals, m, rfl, W, ?_, ⟨⟨_, Heap.get?_push_size _ rfl, rfl, rfl⟩, hl.push _⟩, ?_, fun _ _ _ _ _ _ => objInv_nil, fun C D i ys h h' hi hk => objInv_stable hs hi hk, ?_, F.push _, hIg, Nat.ne_of_gt hL, ?_⟩
  · show its.toArray.size ≤ sizeLine
    rw [List.size_toArray, sizeLine_eq]; omega
  · intro b hb
    show b < (s.heap.push _).objs.size
    rw [hsz]
    rcases List.mem_cons.mp hb with rfl | hb
    · exact Nat.lt_succ_self _
    · rw [List.mem_singleton.mp hb]; exact Nat.lt_succ_of_lt hlt
  · intro C D i ys y h tk m₂ hi hP hC hD hCl hDl hIl hns hx hk hinv
    have hsC : s.heap.objs.size ≤ C := Nat.le_trans hle hC
    refine turn_nil9 ?_
    refine wpAny_mono (turn C i y h tk m₂ (by simpa using hP) hns hx (kp h hk) hsC) (fun v s₄ h₄ => ?_) fun _ _ e => e
    obtain ⟨⟨a, fp, h', tk', rfl, rfl, hk', hf, hp⟩⟩ := h₄
    exact ⟨h', tk', rfl, hk', objInv_snoc hs hinv hk' hIl hCl hDl (Nat.lt_trans hL (Nat.lt_of_le_of_lt hsC hCl)) (Nat.le_of_lt (Nat.lt_of_le_of_lt hsC hCl)) hf hp⟩
  · intro C D ys h tk hD hk hF hinv hg
    have e : its.toArray.size = its.length := by simp
    rw [e] at hinv
    exact done D h tk ys _ C (fun b o hb e => hk b o (Nat.ne_of_lt (Heap.lt_size e)) hb (hk₁ b o e)) hF hg (Nat.le_trans hle hD) hinv
end
end Mine
end
theorem Mine.calm9a40 : True ∧ True := by
  w_top off
  (try walk1) <;> (first | exact True.intro | exact ⟨True.intro, True.intro⟩)

/-! part P40 -/
section
open PySem PySem.W PySem.Calls PySem.Spec PyProof.Rows PyProof.Rows.LCg
namespace Mine
/-! the law's own block and the statements that are left after so many, read off the row's program -/
def fnBody9 : Stmt → List Stmt
  | .FunctionDef _ _ b .. => b
  | _ => []
def fnScope9 (d : Scope) : Stmt → Scope
  | .FunctionDef (scope := sc) .. => sc
  | _ => d
/-- a term by what it is to be: the proof finds the term -/
def pick9 {α : Type} {a : α} (l : α) (_ : a = l) : α := l
noncomputable def lawFn : Stmt := PySem.Challenge.pw_fs0001_01.main.body.getD 8 (.Pass ⟨0, 0, 0, 0⟩)
set_option maxHeartbeats 4000000 in
noncomputable def lawR0 : List Stmt := pick9 (a := fnBody9 lawFn) _ (by
  unfold lawFn PySem.Challenge.pw_fs0001_01
  dsimp only [List.getD, List.getElem?_cons_succ, List.getElem?_cons_zero, Option.getD_some, fnBody9])
set_option maxHeartbeats 4000000 in
noncomputable def lawScope : Scope := pick9 (a := fnScope9 { kind := .function, names := [], isGenerator := false, isCoroutine := false } lawFn) _ (by
  unfold lawFn PySem.Challenge.pw_fs0001_01
  dsimp only [List.getD, List.getElem?_cons_succ, List.getElem?_cons_zero, Option.getD_some, fnScope9])
noncomputable def lawR1 : List Stmt := pick9 (a := lawR0.tail) _ (by
  unfold lawR0 pick9
  dsimp only [List.tail])
noncomputable def lawR2 : List Stmt := pick9 (a := lawR1.tail) _ (by
  unfold lawR1 pick9
  dsimp only [List.tail])
noncomputable def lawR3 : List Stmt := pick9 (a := lawR2.tail) _ (by
  unfold lawR2 pick9
  dsimp only [List.tail])
noncomputable def lawR4 : List Stmt := pick9 (a := lawR3.tail) _ (by
  unfold lawR3 pick9
  dsimp only [List.tail])
noncomputable def lawR5 : List Stmt := pick9 (a := lawR4.tail) _ (by
  unfold lawR4 pick9
  dsimp only [List.tail])
noncomputable def lawR6 : List Stmt := pick9 (a := lawR5.tail) _ (by
  unfold lawR5 pick9
  dsimp only [List.tail])
noncomputable def lawR7 : List Stmt := pick9 (a := lawR6.tail) _ (by
  unfold lawR6 pick9
  dsimp only [List.tail])
noncomputable def lawR8 : List Stmt := pick9 (a := lawR7.tail) _ (by
  unfold lawR7 pick9
  dsimp only [List.tail])
noncomputable def lawR9 : List Stmt := pick9 (a := lawR8.tail) _ (by
  unfold lawR8 pick9
  dsimp only [List.tail])
noncomputable def lawR10 : List Stmt := pick9 (a := lawR9.tail) _ (by
  unfold lawR9 pick9
  dsimp only [List.tail])
noncomputable def lawR11 : List Stmt := pick9 (a := lawR10.tail) _ (by
  unfold lawR10 pick9
  dsimp only [List.tail])
noncomputable def lawR12 : List Stmt := pick9 (a := lawR11.tail) _ (by
  unfold lawR11 pick9
  dsimp only [List.tail])
noncomputable def lawR13 : List Stmt := pick9 (a := lawR12.tail) _ (by
  unfold lawR12 pick9
  dsimp only [List.tail])
theorem fill9x : PySem.Challenge.rw_fs0001_01 = PySem.Challenge.rw_fs0001_01 ∧ ∀ (w : World) h, (hd.heap_39 w.params).In h → True := by
  k_fill
  exact ⟨rfl, fun _ _ _ => trivial⟩

/-- the law's frame -/
noncomputable abbrev lawEnv (L fa : Addr) (cd : Value) : Env := envOfC (Str.ofString "law") lawScope L fa cd

/-- the held lists and sets of a caller, as the comprehensions make them -/
def PFl (nss : List (List Int)) (j : Nat) (a : Addr) (fp : List Addr) (h : Heap) : Prop := fp = [a] ∧ ∃ vs n ns, h.get? a = some (listOf vs.toArray n) ∧ nss[j]? = some ns ∧ IntsAre vs ns
theorem pfl_stays (nss : List (List Int)) : Stays9 (PFl nss) := by
  rintro j a fp h h' ⟨rfl, vs, n, ns, e, r⟩ hk
  exact ⟨rfl, vs, n, ns, hk a (.head _) _ e, r⟩
def PFs (prog : Program) (w : World) (nss : List (List Int)) (j : Nat) (a : Addr) (fp : List Addr) (h : Heap) : Prop :=
  ∃ dx d hs tk n o ns, fp = [a, dx, d] ∧ h.get? a = some (instObj 217 dx) ∧ h.get? dx = some (dictOf [⟨hs, .str (Str.ofString "_data") tk, .ref d⟩] n) ∧ h.get? d = some o ∧ nss[j]? = some ns ∧ o.IsDictOf (intKind prog w) (kv ns) ∧ (d == sysModules) = false ∧ sm ns
theorem pfs_stays (prog : Program) (w : World) (nss : List (List Int)) : Stays9 (PFs prog w nss) := by
  rintro j a fp h h' ⟨dx, d, hs, tk, n, o, ns, rfl, e1, e2, e3, r⟩ hk
  exact ⟨dx, d, hs, tk, n, o, ns, rfl, hk _ (.head _) _ e1, hk _ (.tail _ (.head _)) _ e2, hk _ (.tail _ (.tail _ (.head _))) _ e3, r⟩
end Mine
end
theorem Mine.calm9a41 : True ∧ True := by
  w_top off
  (try walk1) <;> (first | exact True.intro | exact ⟨True.intro, True.intro⟩)

/-! part P41 -/
section
open PySem PySem.W PySem.Calls PySem.Spec PyProof.Rows PyProof.Rows.LCg
namespace Mine
theorem fill9y : PySem.Challenge.rw_fs0001_01 = PySem.Challenge.rw_fs0001_01 ∧ ∀ (w : World) h, (hd.heap_39 w.params).In h → True := by
  k_fill
  exact ⟨rfl, fun _ _ _ => trivial⟩

theorem IntsAre.take : ∀ {vs : List Value} {ns : List Int} (k : Nat), IntsAre vs ns → IntsAre (vs.take k) (ns.take k)
  | _, _, 0, _ => by simp; exact .nil
  | _, _, _ + 1, .nil => .nil
  | _, _, k + 1, .cons n t r => .cons n t (IntsAre.take k r)
theorem IntsAre.drop : ∀ {vs : List Value} {ns : List Int} (k : Nat), IntsAre vs ns → IntsAre (vs.drop k) (ns.drop k)
  | _, _, 0, h => h
  | _, _, _ + 1, .nil => .nil
  | _, _, k + 1, .cons _ _ r => IntsAre.drop k r

section
variable {prog : Program} {w : World} {p : Program} {loose : List Str} {mean : ExcName → Option Value} {mg mb : Str → Option Value} {A A₀ : Around} {env : Env} {outer : List Env} {base h₀ : Heap} {L : Addr} {m : Str → Option Value} {s : Shared} {news : List (Addr × Obj)} {Q E : Value → Shared → Prop}

/-- a slice of a list of ints -/
theorem sliceI9 {value slice : Expr} {l : Addr} {vs : List Value} {ns : List Int} {vl vu : Value} {lo hi : Option Int} (F : Fr h₀ L s.heap m) (N : News h₀ L s.heap news) (hl : s.heap.IsList l vs.toArray) (hi' : IntsAre vs ns) (hn : ns.length ≤ 100) (pl : IsPart vl lo) (pu : IsPart vu hi)
    (h : ∀ D ws h', Fr h₀ L h' m → News h₀ L h' ((D, listOf (List.toArray ws) 0) :: news) → (∀ p ∈ news, p.1 < D) → IntsAre ws ((ns.drop (kms_lo lo ns.length)).take (kms_hi hi ns.length - kms_lo lo ns.length)) → Q (.ref D) { s with heap := h' })
    (hs : subscripted slice false (.ref l) (.ref s.heap.objs.size) = operate [.ref s.heap.objs.size, .ref l] (getItem (.ref l) (.ref s.heap.objs.size)) := by with_unfolding_all rfl) (ht : ∀ r, letTemporaryGo value (.ref l) r = pure () := by intro _; with_unfolding_all rfl) :
    wpAny (model prog w) A (subscriptTail value slice (.ref l) (.ref s.heap.objs.size)) Q E { s with heap := s.heap.push { cls := .type "slice", data := .fields #[vl, vu, .none] } } := by
  have e : vs.length = ns.length := hi'.length
  refine kmk_slice F N hl pl pu (fun D h' F' N' l1 => ?_) hs ht (by rw [List.size_toArray, sizeLine_eq]; omega)
  rw [kms_pick_eq] at N'
  refine h D (kms_pick vs lo hi) h' F' N' l1 ?_
  unfold kms_pick
  rw [e]
  exact IntsAre.take _ (IntsAre.drop _ hi')
theorem lsn_of {l : Addr} {vs : List Value} {n : Nat} {ns : List Int} {h h1 : Heap} {m1 : Str → Option Value} (F : Fr h₀ L h1 m1) (hl : h.get? l = some (listOf vs.toArray n)) (hi : IntsAre vs ns) (hs : h1.objs.size ≤ l) : LSN h₀ L h l ns := by
  refine ⟨listOf vs.toArray n, vs, fun p hp => ?_, ⟨rfl, n, rfl⟩, hi⟩
  rw [List.mem_singleton.mp hp]
  refine ⟨hl, Nat.ne_of_gt (Nat.lt_of_lt_of_le F.ns.lt hs), ?_⟩
  cases q : h₀.get? l with
  | none => rfl
  | some o => exact absurd (Heap.lt_size (F.keep _ _ q)) (Nat.not_lt.mpr hs)

/-- a held list of held lists of ints -/
def LL9 (h₀ : Heap) (L : Addr) (h : Heap) (dl : Addr) (nss : List (List Int)) : Prop :=
  ∃ as : List Addr, as.length = nss.length ∧ News h₀ L h [(dl, lst (as.map Value.ref))] ∧ ∀ (j : Nat) (a : Addr) (ns : List Int), as[j]? = some a → nss[j]? = some ns → LSN h₀ L h a ns
theorem LL9.kp {h h' : Heap} {dl : Addr} {nss : List (List Int)} (O : LL9 h₀ L h dl nss) (hk : ∀ b o, b ≠ L → h.get? b = some o → h'.get? b = some o) : LL9 h₀ L h' dl nss := by
  obtain ⟨as, h1, N, h2⟩ := O
  refine ⟨as, h1, fun p hp => ⟨hk _ _ (N p hp).2.1 (N p hp).1, (N p hp).2⟩, fun j a ns e1 e2 => ?_⟩
  obtain ⟨o, vs, N', r⟩ := h2 j a ns e1 e2
  exact ⟨o, vs, fun p hp => ⟨hk _ _ (N' p hp).2.1 (N' p hp).1, (N' p hp).2⟩, r⟩
theorem LSN.kpL {h h' : Heap} {l : Addr} {ns : List Int} (O : LSN h₀ L h l ns) (hk : ∀ b o, b ≠ L → h.get? b = some o → h'.get? b = some o) : LSN h₀ L h' l ns := by
  obtain ⟨o, vs, N', r⟩ := O
  exact ⟨o, vs, fun p hp => ⟨hk _ _ (N' p hp).2.1 (N' p hp).1, (N' p hp).2⟩, r⟩
theorem refs9 : ∀ {ys : List Value}, (∀ v ∈ ys, ∃ a, v = Value.ref a) → ∃ as : List Addr, ys = as.map Value.ref
  | [], _ => ⟨[], rfl⟩
  | v :: r, h => by
    obtain ⟨a, e⟩ := h v (.head _)
    obtain ⟨as, e2⟩ := refs9 (ys := r) fun u hu => h u (.tail _ hu)
    exact ⟨a :: as, by rw [e, e2]; rfl⟩
theorem ll_of {h h1 : Heap} {m1 : Str → Option Value} {dl I C : Addr} {ys : List Value} {nss : List (List Int)} {n : Nat} (F : Fr h₀ L h1 m1) (x : ObjInv9 (PFl nss) h1.objs.size I L C dl n ys h) (hn : n = nss.length) (hD : h.get? dl = some (lst ys)) (hs : h1.objs.size ≤ dl) : LL9 h₀ L h dl nss := by
  obtain ⟨h2, fps, h3, h4, h5, h6⟩ := x
  obtain ⟨as, rfl⟩ := refs9 (ys := ys) fun v hv => by
    obtain ⟨j, hj⟩ := List.mem_iff_getElem?.mp hv
    obtain ⟨a, fp, _, e, _⟩ := h4 j v hj
    exact ⟨a, e⟩
  have fresh : ∀ b, h1.objs.size ≤ b → b ≠ L ∧ h₀.get? b = none := fun b hb => by
    refine ⟨Nat.ne_of_gt (Nat.lt_of_lt_of_le F.ns.lt hb), ?_⟩
    cases q : h₀.get? b with
    | none => rfl
    | some o => exact absurd (Heap.lt_size (F.keep _ _ q)) (Nat.not_lt.mpr hb)
  refine ⟨as, by rw [← hn, ← h2, List.length_map], fun p hp => ?_, fun j a ns e1 e2 => ?_⟩
  · rw [List.mem_singleton.mp hp]; exact ⟨hD, fresh _ hs⟩
  · obtain ⟨a', fp, e3, e4, rfl, vs, k, ns', e5, e6, e7⟩ := h4 j (.ref a) (by rw [List.getElem?_map, e1]; rfl)
    cases e4
    rw [e2] at e6; cases e6
    obtain ⟨_, hb, _⟩ := h5 _ (List.mem_of_getElem? e3) a (.head _)
    exact lsn_of F e5 e7 hb

abbrev nScript : Str := Str.ofString "script"
abbrev nNumbers : Str := Str.ofString "numbers"
abbrev nDrawn : Str := Str.ofString "drawn"

local macro_rules | `(tactic| walk_at "call ref") => `(tactic| (k_here; refine stop9 ?_))
local macro_rules | `(tactic| walk_at "eval Name") => `(tactic| (k_here; k_dflt (refine nameX_L (cl := cellsFrom (_ + 1) lawScope.names []) (by k_asm) (by (first | with_reducible assumption | rfl | (show ite _ _ _ = _; rw [if_neg (by decide)]; with_reducible assumption))) ?_)))
local macro_rules | `(tactic| walk_at "eval Name") => `(tactic| (k_here; (with_reducible show wpAny _ _ (eval (Expr.Name _ _) (compEnvC _ _ _ _)) _ _ _); k_dflt (first
  | refine ldOwn9 (by assumption) (by assumption) ?_
  | (refine' ldCell9 ?hc ?hx ?_; (case hx => exact rfl); (case hc => assumption))
  | refine LCgL.ld_global (by k_asm) (by k_asm) (by k_asm) (by k_is) ?_
  | refine LCgL.ld_built (by k_asm) (by k_asm) (by k_asm) (by k_is) (by boot_by_name) (by decide) ?_)))
local macro_rules | `(tactic| walk_at "exec Assign cons ListComp") => `(tactic| (k_here; refine stop9 ?_))
local macro_rules | `(tactic| walk_at "pyIter") => `(tactic| (k_here; refine stop9 ?_))
local macro_rules | `(tactic| walk_at "subscriptTail Name Slice ref ref") => `(tactic| (k_here; refine stop9 ?_))

set_option maxHeartbeats 1000000 in
theorem law0 {fa : Addr} {cd : Value} {l : Addr} {vs : List Value} {ns : List Int} {cells : List (Addr × Obj)} {QF : Flow → Shared → Prop} (c : Mine.Cl w p loose mean mg mb A (lawEnv L fa cd) [] A₀ base h₀ L s.heap m) (hm : m nScript = some (.ref l)) (hl : h₀.IsList l vs.toArray) (hi : IntsAre vs ns) (hn : ns.length ≤ 100)
    (N : News h₀ L s.heap cells) (hdep : A.depth + 60 < recursionLimit)
    (next : ∀ h tk m' nl, Fr h₀ L h m' → m' nNumbers = some (.ref nl) → News h₀ L h cells → LSN h₀ L h nl ((List.range 16).map (numOf ns)) → wpAny (model prog w) A (execs lawR1 (lawEnv L fa cd)) QF E { s with heap := h, toks := tk }) :
    wpAny (model prog w) A (execs lawR0 (lawEnv L fa cd)) QF E s := by
  have X := c.X.keeps c.B.stays
  have T := c.T.keeps c.B.stays
  have F := c.F
  unfold lawR0 pick9
  k_steps
  unfold Stop9
  refine wpAny_call (numbers_code c (hl.at fun o e => F.keep _ o e) hi hn (by omega) fun h1 tk1 l1 vs1 hk1 hg1 hs1 hi1 => ?_)
  obtain ⟨F1, N1⟩ := led_new F N hk1.all hg1 hs1
  refine storeX_L (cl := cellsFrom (L + 1) lawScope.names []) F1 N1 (fun h2 F2 N2 => ?_)
  exact next h2 _ _ l1 F2 rfl (fun p hp => N2 p (.tail _ hp)) ⟨_, vs1, fun p hp => N2 p (by rw [List.mem_singleton.mp hp]; exact .head _), ⟨rfl, _, rfl⟩, hi1⟩

set_option maxHeartbeats 1000000 in
theorem law1 {fa : Addr} {cd : Value} {nl : Addr} {nums : List Int} {cells : List (Addr × Obj)} {QF : Flow → Shared → Prop} (c : Mine.Cl w p loose mean mg mb A (lawEnv L fa cd) [] A₀ base h₀ L s.heap m) (hm : m nNumbers = some (.ref nl)) (O : LSN h₀ L s.heap nl nums) (hn : nums.length ≤ 100)
    (N : News h₀ L s.heap cells) (hdep : A.depth + 60 < recursionLimit)
    (next : ∀ h tk m' dl, Fr h₀ L h m' → m' nDrawn = some (.ref dl) → m' nNumbers = some (.ref nl) → News h₀ L h cells → LSN h₀ L h nl nums → LL9 h₀ L h dl ((nums.take 3).map drawnOf) → wpAny (model prog w) A (execs lawR2 (lawEnv L fa cd)) QF E { s with heap := h, toks := tk }) :
    wpAny (model prog w) A (execs lawR1 (lawEnv L fa cd)) QF E s := by
  have X := c.X.keeps c.B.stays
  have T := c.T.keeps c.B.stays
  have F := c.F
  obtain ⟨o, vs, Nl, hos, hi⟩ := O
  have N1 : News h₀ L s.heap ((nl, o) :: cells) := fun p hp => by
    rcases List.mem_cons.mp hp with rfl | hp
    · exact Nl _ (.head _)
    · exact N p hp
  have hnl : s.heap.IsList nl vs.toArray := hos.at (Nl _ (.head _)).1
  unfold lawR1 pick9
  k_steps
  unfold Stop9
  k_dflt (refine asg9 (h₀ := h₀) (by first | rfl | kernel_rfl) (by rfl) (by decide) (by rfl) (by decide) (by rfl) (by rfl) (by rfl) ?_)
  k_steps
  unfold Stop9
  refine sliceI9 F N1 hnl hi hn .none (.int 3 _) (fun D ws h1 F1 N2 l1 hi2 => ?_)
  have e3 : (nums.drop (kms_lo none nums.length)).take (kms_hi (some 3) nums.length - kms_lo none nums.length) = nums.take 3 := by
    show (nums.drop 0).take (min 3 nums.length - 0) = _
    rw [List.drop_zero, Nat.sub_zero, ← List.take_take, List.take_length]
  rw [e3] at hi2
  have hws : ws.length = (nums.take 3).length := hi2.length
  refine objsAsg9 (PF := PFl ((nums.take 3).map drawnOf)) ⟨_, (N2 _ (.head _)).1, rfl, _, rfl⟩ (by rw [hws]; exact Nat.le_trans (List.length_take_le 3 nums) (by decide)) (by exact c.hh) F1 (pfl_stays _) ?_ ?_
  · intro C i y h tk m₂ hiy hns hx hk hC
    have hy : ∃ k t, (nums.take 3)[i]? = some k ∧ y = .int k t := by
      obtain ⟨t, k, e1, e2⟩ := listP hi2 i y (by simpa using hiy)
      exact ⟨k, t, e1, e2⟩
    obtain ⟨k, t, hk3, rfl⟩ := hy
    have Fh := Fr.kp9 F1 hk
    k_steps
    unfold Stop9
    refine wpAny_call (drawn_code (s := { s with heap := h, toks := tk }) (Cl.re c Fh) (by omega) fun h5 tk5 l5 vs5 hk5 hg5 hs5 hi5 => ?_)
    exact ⟨⟨l5, [l5], h5, tk5, rfl, rfl, hk5.all, fun b hb => by rw [List.mem_singleton.mp hb]; exact ⟨hs5, _, hg5⟩, rfl, vs5, _, _, hg5, by rw [List.getElem?_map, hk3]; rfl, hi5⟩⟩
  · intro D2 h tk ys I C hk F2 hD2 hs2 inv
    refine next h tk _ D2 F2 rfl (by (first | with_reducible assumption | rfl | (show ite _ _ _ = _; rw [if_neg (by decide)]; with_reducible assumption))) (fun p hp => ?_) ?_ (ll_of F1 inv (by rw [hws, List.length_map]) hD2 hs2)
    · have z := N2 p (.tail _ (.tail _ hp))
      exact ⟨hk _ _ z.2.1 z.1, z.2⟩
    · have z := N2 _ (.tail _ (.head _))
      exact ⟨o, vs, fun p hp => by rw [List.mem_singleton.mp hp]; exact ⟨hk _ _ z.2.1 z.1, z.2⟩, hos, hi⟩
end
end Mine
end
theorem Mine.calm9a42 : True ∧ True := by
  w_top off
  (try walk1) <;> (first | exact True.intro | exact ⟨True.intro, True.intro⟩)

/-! part P42 -/
section
open PySem PySem.W PySem.Calls PySem.Spec PyProof.Rows PyProof.Rows.LCg
namespace Mine
theorem fill9z : PySem.Challenge.rw_fs0001_01 = PySem.Challenge.rw_fs0001_01 ∧ ∀ (w : World) h, (hd.heap_39 w.params).In h → True := by
  k_fill
  exact ⟨rfl, fun _ _ _ => trivial⟩

section
variable {prog : Program} {w : World} {p : Program} {loose : List Str} {mean : ExcName → Option Value} {mg mb : Str → Option Value} {A A₀ : Around} {env : Env} {outer : List Env} {base h₀ : Heap} {L : Addr} {m : Str → Option Value} {s : Shared} {news : List (Addr × Obj)} {Q E : Value → Shared → Prop}

/-- the law's three cells: rows, one, more -/
def CL9 (h₀ : Heap) (L : Addr) (h : Heap) (rv ov mv : Option Value) : Prop :=
  ∃ o1 o2 o3, News h₀ L h [(L + 1 + 1 + 1, o3), (L + 1 + 1, o2), (L + 1, o1)] ∧ o1.data = .cell rv ∧ o2.data = .cell ov ∧ o3.data = .cell mv
theorem CL9.kp {h h' : Heap} {rv ov mv : Option Value} (O : CL9 h₀ L h rv ov mv) (hk : ∀ b o, b ≠ L → h.get? b = some o → h'.get? b = some o) : CL9 h₀ L h' rv ov mv := by
  obtain ⟨o1, o2, o3, N, r⟩ := O
  exact ⟨o1, o2, o3, fun p hp => ⟨hk _ _ (N p hp).2.1 (N p hp).1, (N p hp).2⟩, r⟩

theorem LSN.kpC {h h' : Heap} {l b₀ : Addr} {ns : List Int} {oc : Obj} {v : Option Value} (O : LSN h₀ L h l ns) (hc : h.get? b₀ = some oc) (hd : oc.data = .cell v) (hk : ∀ b o, b ≠ b₀ → h.get? b = some o → h'.get? b = some o) : LSN h₀ L h' l ns := by
  obtain ⟨o, vs, N', ⟨c1, n, d1⟩, r⟩ := O
  refine ⟨o, vs, fun p hp => ⟨hk _ _ ?_ (N' p hp).1, (N' p hp).2⟩, ⟨c1, n, d1⟩, r⟩
  rw [List.mem_singleton.mp hp]
  rintro rfl
  have := (N' _ (.head _)).1
  simp only at this
  rw [hc] at this; cases this
  rw [d1] at hd; cases hd
theorem LL9.kpC {h h' : Heap} {dl b₀ : Addr} {nss : List (List Int)} {oc : Obj} {v : Option Value} (O : LL9 h₀ L h dl nss) (hc : h.get? b₀ = some oc) (hd : oc.data = .cell v) (hk : ∀ b o, b ≠ b₀ → h.get? b = some o → h'.get? b = some o) : LL9 h₀ L h' dl nss := by
  obtain ⟨as, h1, N, h2⟩ := O
  refine ⟨as, h1, fun p hp => ⟨hk _ _ ?_ (N p hp).1, (N p hp).2⟩, fun j a ns e1 e2 => LSN.kpC (h2 j a ns e1 e2) hc hd hk⟩
  rw [List.mem_singleton.mp hp]
  rintro rfl
  have := (N _ (.head _)).1
  simp only at this
  rw [hc] at this; cases this
  cases hd

theorem asgN9 {x : Str} {value : Expr} {pos' pos : Pos} {env : Env} {QF : Flow → Shared → Prop} (hs : swapsWith value (some (.Name x pos')) pos.line env = pure false)
    (h : wpAny (model prog w) A (eval value env) (fun v s₁ => wpAny (model prog w) A (bindName env x v) (fun _ s₂ => QF .next s₂) E s₁) E s) : wpAny (model prog w) A (exec (.Assign [.Name x pos'] value pos) env) QF E s := by
  have e : exec (.Assign [.Name x pos'] value pos) env = (do
      standAt pos
      if ← swapsWith value (some (.Name x pos')) pos.line env then
        evalThenUse value env (assign (.Name x pos') env)
        return .next
      let v ← eval value env
      standAt pos'
      bindName env x v
      pure .next) := rfl
  rw [e, hs]
  refine wpAny_bind (wpAny_standAt (wpAny_bind (wpAny_pure ?_)))
  simp only [Bool.false_eq_true, if_false]
  exact wpAny_bind (wpAny_mono h (fun v s₁ h₁ => wpAny_bind (wpAny_standAt (wpAny_bind (wpAny_mono h₁ (fun _ _ z => wpAny_pure z) fun _ _ z => z)))) fun _ _ z => z)

abbrev nRows : Str := Str.ofString "rows"
local macro_rules | `(tactic| walk_at "call ref") => `(tactic| (k_here; refine stop9 ?_))
local macro_rules | `(tactic| walk_at "eval Name") => `(tactic| (k_here; k_dflt (refine nameX_L (cl := cellsFrom (_ + 1) lawScope.names []) (by k_asm) (by (first | with_reducible assumption | rfl | (show ite _ _ _ = _; rw [if_neg (by decide)]; with_reducible assumption))) ?_)))
local macro_rules | `(tactic| walk_at "eval Name") => `(tactic| (k_here; (with_reducible show wpAny _ _ (eval (Expr.Name _ _) (compEnvC _ _ _ _)) _ _ _); k_dflt (first
  | refine ldOwn9 (by assumption) (by assumption) ?_
  | (refine' ldCell9 ?hc ?hx ?_; (case hx => exact rfl); (case hc => assumption))
  | refine LCgL.ld_global (by k_asm) (by k_asm) (by k_asm) (by k_is) ?_
  | refine LCgL.ld_built (by k_asm) (by k_asm) (by k_asm) (by k_is) (by boot_by_name) (by decide) ?_)))
local macro_rules | `(tactic| walk_at "exec Assign cons ListComp") => `(tactic| (k_here; refine stop9 ?_))
local macro_rules | `(tactic| walk_at "pyIter") => `(tactic| (k_here; refine stop9 ?_))

theorem store_rows9 {fa : Addr} {cd : Value} {v : Value} {rv ov mv : Option Value} {QU : Unit → Shared → Prop} (F : Fr h₀ L s.heap m) (C : CL9 h₀ L s.heap rv ov mv)
    (h : ∀ h', Fr h₀ L h' m → CL9 h₀ L h' (some v) ov mv → (∀ b o, b ≠ L + 1 → s.heap.get? b = some o → h'.get? b = some o) → QU () { s with heap := h' }) : wpAny (model prog w) A (storeName (lawEnv L fa cd) nRows v) QU E s := by
  obtain ⟨o1, o2, o3, N, d1, d2, d3⟩ := C
  have hmem := N _ (.tail _ (.tail _ (.head _)))
  refine wpAny_storeName_cell (c := L + 1) (by rfl) (by rfl) (by rfl) ⟨o1, hmem.1, d1⟩ fun h' hv hs => ?_
  obtain ⟨o', ho', hd'⟩ := hv
  refine h h' ⟨F.ns.sameBut hs (Ne.symm hmem.2.1), fun b ob e => (hs.2 b (fun q => ?_)).trans (F.keep b ob e), F.above⟩ ⟨o', o2, o3, ?_, hd', d2, d3⟩ fun b o hb e => (hs.2 b hb).trans e
  · rw [q, hmem.2.2] at e; cases e
  · intro p hp
    rcases List.mem_cons.mp hp with rfl | hp
    · have z := N _ (.head _); exact ⟨(hs.2 _ (Nat.ne_of_gt (Nat.lt_succ_of_lt (Nat.lt_succ_self _)))).trans z.1, z.2⟩
    rcases List.mem_cons.mp hp with rfl | hp
    · have z := N _ (.tail _ (.head _)); exact ⟨(hs.2 _ (Nat.ne_of_gt (Nat.lt_succ_self _))).trans z.1, z.2⟩
    · rw [List.mem_singleton.mp hp]; exact ⟨ho', hmem.2⟩

set_option maxHeartbeats 1000000 in
theorem law2 {fa : Addr} {cd : Value} {nl dl : Addr} {nums : List Int} {nss : List (List Int)} {QF : Flow → Shared → Prop} (c : Mine.Cl w p loose mean mg mb A (lawEnv L fa cd) [] A₀ base h₀ L s.heap m) (hm : m nDrawn = some (.ref dl)) (O : LSN h₀ L s.heap nl nums) (OD : LL9 h₀ L s.heap dl nss) (hn : nss.length ≤ 100) (hnn : ∀ ns ∈ nss, ns.length ≤ 40)
    (C : CL9 h₀ L s.heap none none none) (hdep : A.depth + 60 < recursionLimit)
    (next : ∀ h tk rl, Fr h₀ L h m → CL9 h₀ L h (some (.ref rl)) none none → LSN h₀ L h nl nums → LL9 h₀ L h dl nss → LL9 h₀ L h rl (nss.map (addA [])) → wpAny (model prog w) A (execs lawR3 (lawEnv L fa cd)) QF E { s with heap := h, toks := tk }) :
    wpAny (model prog w) A (execs lawR2 (lawEnv L fa cd)) QF E s := by
  have X := c.X.keeps c.B.stays
  have T := c.T.keeps c.B.stays
  have F := c.F
  obtain ⟨o1, o2, o3, NC, d1, d2, d3⟩ := C
  obtain ⟨as, has, ND, hD⟩ := OD
  unfold lawR2 pick9
  k_steps
  unfold Stop9
  refine asgN9 (by first | rfl | kernel_rfl) ?_
  k_dflt (refine comp9 (by rfl) (by decide) (by rfl) (by decide) (by rfl) ?_)
  k_steps
  unfold Stop9
  have hlen : (as.map Value.ref).length = nss.length := by rw [List.length_map, has]
  refine objsComp9 (L := L) (PF := PFl (nss.map (addA []))) ⟨_, (ND _ (.head _)).1, rfl, _, rfl⟩ (by rw [hlen]; exact hn) (by exact c.hh) F.ns.lt (pfl_stays _) ?_ ?_
  · intro C i y h tk m₂ hiy hns hx hk hC
    have hlt : i < nss.length := by rw [← hlen]; exact (List.getElem?_eq_some_iff.mp hiy).1
    have hj : nss[i]? = some nss[i] := List.getElem?_eq_getElem hlt
    obtain ⟨a, ha, rfl⟩ : ∃ a, as[i]? = some a ∧ y = .ref a := by
      rw [List.getElem?_map] at hiy
      obtain ⟨a, h1, h2⟩ := Option.map_eq_some_iff.mp hiy
      exact ⟨a, h1, h2.symm⟩
    have Fh := Fr.kp9 F hk
    k_steps
    unfold Stop9
    refine wpAny_call (row_code (s := { s with heap := h, toks := tk }) (Cl.re c Fh) ((hD i a _ ha hj).kp hk) (hnn _ (List.getElem_mem hlt)) (by omega) fun h5 tk5 l5 vs5 n5 hk5 hg5 hs5 hi5 => ?_)
    exact ⟨⟨l5, [l5], h5, tk5, rfl, rfl, hk5.all, fun b hb => by rw [List.mem_singleton.mp hb]; exact ⟨hs5, _, hg5⟩, rfl, vs5, n5, _, hg5, by rw [List.getElem?_map, hj]; rfl, hi5⟩⟩
  · intro D2 h tk ys I C hk hD2 hs2 inv
    have F2 := Fr.kp9 F hk
    have C2 : CL9 h₀ L h none none none := CL9.kp ⟨o1, o2, o3, NC, d1, d2, d3⟩ fun b o _ e => hk b o e
    have hc1 := hk _ _ (NC _ (.tail _ (.tail _ (.head _)))).1
    have L2 := ll_of F inv (by rw [hlen, List.length_map]) hD2 hs2
    refine wpAny_bindName (store_rows9 (s := { s with heap := h, toks := tk }) F2 C2 fun h3 F3 C3 hk3 => ?_)
    exact next h3 tk D2 F3 C3 (LSN.kpC (O.kp hk) hc1 d1 hk3) (LL9.kpC (LL9.kp ⟨as, has, ND, hD⟩ fun b o _ e => hk b o e) hc1 d1 hk3) (LL9.kpC L2 hc1 d1 hk3)
end
end Mine
end
theorem Mine.calm9a43 : True ∧ True := by
  w_top off
  (try walk1) <;> (first | exact True.intro | exact ⟨True.intro, True.intro⟩)

/-! part P43 -/
section
open PySem PySem.W PySem.Calls PySem.Spec PyProof.Rows PyProof.Rows.LCg
namespace Mine
theorem fill9aa : PySem.Challenge.rw_fs0001_01 = PySem.Challenge.rw_fs0001_01 ∧ ∀ (w : World) h, (hd.heap_39 w.params).In h → True := by
  k_fill
  exact ⟨rfl, fun _ _ _ => trivial⟩

section
variable {prog : Program} {w : World} {p : Program} {loose : List Str} {mean : ExcName → Option Value} {mg mb : Str → Option Value} {A A₀ : Around} {env : Env} {outer : List Env} {base h₀ : Heap} {L : Addr} {m : Str → Option Value} {s : Shared} {news : List (Addr × Obj)} {Q E : Value → Shared → Prop}

abbrev nA : Str := Str.ofString "a"
abbrev nB : Str := Str.ofString "b"
abbrev nC : Str := Str.ofString "c"
local macro_rules | `(tactic| walk_at "call ref") => `(tactic| (k_here; refine stop9 ?_))
local macro_rules | `(tactic| walk_at "eval Name") => `(tactic| (k_here; k_dflt (refine nameX_L (cl := cellsFrom (_ + 1) lawScope.names []) (by k_asm) (by (first | with_reducible assumption | rfl | (show ite _ _ _ = _; rw [if_neg (by decide)]; with_reducible assumption))) ?_)))
local macro_rules | `(tactic| walk_at "eval Name") => `(tactic| (k_here; (with_reducible show wpAny _ _ (eval (Expr.Name _ _) (compEnvC _ _ _ _)) _ _ _); k_dflt (first
  | refine ldOwn9 (by assumption) (by assumption) ?_
  | (refine' ldCell9 ?hc ?hx ?_; (case hx => exact rfl); (case hc => assumption))
  | refine LCgL.ld_global (by k_asm) (by k_asm) (by k_asm) (by k_is) ?_
  | refine LCgL.ld_built (by k_asm) (by k_asm) (by k_asm) (by k_is) (by boot_by_name) (by decide) ?_)))
local macro_rules | `(tactic| walk_at "exec Assign cons Tuple") => `(tactic| (k_here; refine stop9 ?_))
local macro_rules | `(tactic| walk_at "exec Assign cons ListComp") => `(tactic| (k_here; refine stop9 ?_))
local macro_rules | `(tactic| walk_at "pyIter") => `(tactic| (k_here; refine stop9 ?_))

theorem OSN.kpL {h h' : Heap} {x d : Addr} {ks : List Int} (O : OSN prog w h₀ L h x d ks) (hk : ∀ b o, b ≠ L → h.get? b = some o → h'.get? b = some o) : OSN prog w h₀ L h' x d ks := by
  obtain ⟨dx, hs, tk, n, o, N, r⟩ := O
  exact ⟨dx, hs, tk, n, o, fun p hp => ⟨hk _ _ (N p hp).2.1 (N p hp).1, (N p hp).2⟩, r⟩
theorem kpNs {h h' : Heap} {cells : List (Addr × Obj)} (N : News h₀ L h cells) (hk : ∀ b o, b ≠ L → h.get? b = some o → h'.get? b = some o) : News h₀ L h' cells := fun p hp => ⟨hk _ _ (N p hp).2.1 (N p hp).1, (N p hp).2⟩

theorem os1_of {h1 h : Heap} {m1 : Str → Option Value} {I C D : Addr} {nss : List (List Int)} {ks : List Int} {v : Value} {j : Nat} {fps : List (List Addr)} {ys : List Value} (F : Fr h₀ L h1 m1)
    (h4 : ∀ j v, ys[j]? = some v → ∃ a fp, fps[j]? = some fp ∧ v = .ref a ∧ PFs prog w nss j a fp h)
    (h5 : ∀ fp ∈ fps, ∀ b ∈ fp, (b ≠ I ∧ b ≠ C ∧ b ≠ D ∧ b ≠ L) ∧ h1.objs.size ≤ b ∧ ∃ o, h.get? b = some o) (hj : ys[j]? = some v) (hk : nss[j]? = some ks) :
    ∃ a d fp, v = .ref a ∧ OSN prog w h₀ L h a d ks ∧ fps[j]? = some fp ∧ d ∈ fp := by
  obtain ⟨a, fp, e1, rfl, dx, d, hs, tk, n, o, ns, rfl, g1, g2, g3, e2, e3, e4, e5⟩ := h4 j v hj
  rw [hk] at e2; cases e2
  have hm := List.mem_of_getElem? e1
  have fresh : ∀ b ∈ [a, dx, d], b ≠ L ∧ h₀.get? b = none := fun b hb => by
    obtain ⟨⟨_, _, _, q⟩, z, _⟩ := h5 _ hm b hb
    refine ⟨q, ?_⟩
    cases q : h₀.get? b with
    | none => rfl
    | some o => exact absurd (Heap.lt_size (F.keep _ _ q)) (Nat.not_lt.mpr z)
  refine ⟨a, d, _, rfl, ⟨dx, hs, tk, n, o, fun p hp => ?_, e3, e4, e5⟩, e1, .tail _ (.tail _ (.head _))⟩
  rcases List.mem_cons.mp hp with rfl | hp
  · exact ⟨g1, fresh _ (.head _)⟩
  rcases List.mem_cons.mp hp with rfl | hp
  · exact ⟨g2, fresh _ (.tail _ (.head _))⟩
  · rw [List.mem_singleton.mp hp]; exact ⟨g3, fresh _ (.tail _ (.tail _ (.head _)))⟩

theorem pw9 {fps : List (List Addr)} {i j : Nat} {f g : List Addr} {x y : Addr} (h : fps.Pairwise fun f g => ∀ b ∈ f, b ∉ g) (hij : i < j) (hi : fps[i]? = some f) (hj : fps[j]? = some g) (hx : x ∈ f) (hy : y ∈ g) : x ≠ y := by
  rintro rfl
  obtain ⟨hi', rfl⟩ := List.getElem?_eq_some_iff.mp hi
  obtain ⟨hj', rfl⟩ := List.getElem?_eq_some_iff.mp hj
  exact List.pairwise_iff_getElem.mp h i j hi' hj' hij x hx hy

theorem os3_of {h1 h : Heap} {m1 : Str → Option Value} {I C D : Addr} {ys : List Value} {k0 k1 k2 : List Int} (F : Fr h₀ L h1 m1) (x : ObjInv9 (PFs prog w [k0, k1, k2]) h1.objs.size I L C D 3 ys h) :
    ∃ a da b db c dc, ys = [.ref a, .ref b, .ref c] ∧ OSN prog w h₀ L h a da k0 ∧ OSN prog w h₀ L h b db k1 ∧ OSN prog w h₀ L h c dc k2 ∧ da ≠ db ∧ da ≠ dc ∧ db ≠ dc := by
  obtain ⟨h2, fps, h3, h4, h5, h6⟩ := x
  obtain ⟨v0, v1, v2, rfl⟩ : ∃ v0 v1 v2, ys = [v0, v1, v2] := by
    match ys, h2 with
    | [v0, v1, v2], _ => exact ⟨v0, v1, v2, rfl⟩
  obtain ⟨a, da, f0, rfl, O0, g0, q0⟩ := os1_of (j := 0) F h4 h5 rfl rfl
  obtain ⟨b, db, f1, rfl, O1, g1, q1⟩ := os1_of (j := 1) F h4 h5 rfl rfl
  obtain ⟨c, dc, f2, rfl, O2, g2, q2⟩ := os1_of (j := 2) F h4 h5 rfl rfl
  exact ⟨a, da, b, db, c, dc, rfl, O0, O1, O2, pw9 h6 (by decide) g0 g1 q0 q1, pw9 h6 (by decide) g0 g2 q0 q2, pw9 h6 (by decide) g1 g2 q1 q2⟩

/-- a store to a local name, with what stays -/
theorem storeL9 {fa : Addr} {cd : Value} {x : Str} {v : Value} {QU : Unit → Shared → Prop} (F : Fr h₀ L s.heap m)
    (h : ∀ h', Fr h₀ L h' (fun y => if y = x then some v else m y) → (∀ b o, b ≠ L → s.heap.get? b = some o → h'.get? b = some o) → QU () { s with heap := h', toks := s.toks + 1 })
    (hx : (lawEnv L fa cd).kindOf x = some .local := by rfl) : wpAny (model prog w) A (storeName (lawEnv L fa cd) x v) QU E s :=
  wpAny_storeName_local hx F.ns (fun h' hn hs => h h' (F.set hn hs) fun b o hb e => (hs.2 b hb).trans e) rfl
theorem unpackL9 {elts : List Expr} {k : Nat} {pos : Pos} {l : Addr} {items : Array Value} {QU : Unit → Shared → Prop} (hl : s.heap.IsList l items) (hh : A.handled = none) (hn : (assignEach elts env).length = items.size)
    (hstar : (assignEach elts env).findIdx? (·.1) = none) (h : ∀ h', (∀ b o, s.heap.get? b = some o → h'.get? b = some o) → wpAny (model prog w) A (assignInOrder ((assignEach elts env).map (·.2)) items.toList) QU E { s with heap := h' }) :
    wpAny (model prog w) A (assign (.Tuple elts k pos) env (.ref l)) QU E s := by
  rw [assign_Tuple]
  refine wpAny_bind (wpAny_standAt ?_)
  unfold unpack
  rw [hn, hstar]
  exact wpAny_bind (wpAny_holding (kun_itemsOf hh hl fun h' he => h h' fun b o e => he b o (Nat.ne_of_lt (Heap.lt_size e)) e))

set_option maxHeartbeats 400000 in
theorem law3 {fa : Addr} {cd : Value} {dl : Addr} {n0 n1 n2 : List Int} {QF : Flow → Shared → Prop} (c : Mine.Cl w p loose mean mg mb A (lawEnv L fa cd) [] A₀ base h₀ L s.heap m) (hm : m nDrawn = some (.ref dl)) (OD : LL9 h₀ L s.heap dl [n0, n1, n2]) (hnn : ∀ ns ∈ [n0, n1, n2], ns.length ≤ 40)
    (hsm : ∀ ns ∈ [n0, n1, n2], sm (addA [] ns)) (hdep : A.depth + 60 < recursionLimit)
    (next : ∀ h tk m' a da b db c dc, Fr h₀ L h m' → m' nA = some (.ref a) → m' nB = some (.ref b) → m' nC = some (.ref c) → m' nNumbers = m nNumbers → (∀ b o, b ≠ L → s.heap.get? b = some o → h.get? b = some o) →
      OSN prog w h₀ L h a da (addA [] n0) → OSN prog w h₀ L h b db (addA [] n1) → OSN prog w h₀ L h c dc (addA [] n2) → da ≠ db → da ≠ dc → db ≠ dc → wpAny (model prog w) A (execs lawR4 (lawEnv L fa cd)) QF E { s with heap := h, toks := tk }) :
    wpAny (model prog w) A (execs lawR3 (lawEnv L fa cd)) QF E s := by
  have X := c.X.keeps c.B.stays
  have T := c.T.keeps c.B.stays
  have F := c.F
  obtain ⟨as, has, ND, hD⟩ := OD
  have hlen : (as.map Value.ref).length = 3 := by rw [List.length_map, has]; rfl
  unfold lawR3 pick9
  k_steps
  unfold Stop9
  refine Assign_Tuple ?_ (by first | rfl | kernel_rfl) (by first | rfl | kernel_rfl)
  k_dflt (refine comp9 (by rfl) (by decide) (by rfl) (by decide) (by rfl) ?_)
  k_steps
  unfold Stop9
  refine objsComp9 (L := L) (PF := PFs prog w [addA [] n0, addA [] n1, addA [] n2]) ⟨_, (ND _ (.head _)).1, rfl, _, rfl⟩ (by rw [hlen]; decide) (by exact c.hh) F.ns.lt (pfs_stays _ _ _) ?_ ?_
  · intro C i y h tk m₂ hiy hns hx hk hC
    have hlt : i < [n0, n1, n2].length := by show i < 3; rw [← hlen]; exact (List.getElem?_eq_some_iff.mp hiy).1
    have hj : [n0, n1, n2][i]? = some [n0, n1, n2][i] := List.getElem?_eq_getElem hlt
    obtain ⟨a, ha, rfl⟩ : ∃ a, as[i]? = some a ∧ y = .ref a := by
      rw [List.getElem?_map] at hiy
      obtain ⟨a, h1, h2⟩ := Option.map_eq_some_iff.mp hiy
      exact ⟨a, h1, h2.symm⟩
    have Fh := Fr.kp9 F hk
    have hmem := List.getElem_mem hlt
    generalize [n0, n1, n2][i] = ni at hj hmem
    obtain ⟨o, vs, No, hol, hiv⟩ := (hD i a _ ha hj).kp hk
    k_steps
    unfold Stop9
    refine wpAny_call (cls_code (s := { s with heap := h, toks := tk }) (Cl.re c Fh) No (fk9_list hol hiv (Nat.le_trans (hnn _ hmem) (by decide))) (fun rs e => by rw [e]; exact hsm _ hmem) (by omega) fun x d h5 tk5 rs hk5 hrs O5 => ?_)
    obtain ⟨dx, hs, t, n, o', g1, g2, g3, z1, z2, z3, r1, r2, r3⟩ := O5
    refine ⟨⟨x, [x, dx, d], h5, tk5, rfl, rfl, hk5.all, fun b hb => ?_, dx, d, hs, t, n, o', rs, rfl, g1, g2, g3, ?_, r1, r2, r3⟩⟩
    · rcases List.mem_cons.mp hb with rfl | hb
      · exact ⟨z1, _, g1⟩
      rcases List.mem_cons.mp hb with rfl | hb
      · exact ⟨z2, _, g2⟩
      · rw [List.mem_singleton.mp hb]; exact ⟨z3, _, g3⟩
    · rw [hrs]
      show ([n0, n1, n2].map (addA []))[i]? = _
      rw [List.getElem?_map, hj]; rfl
  · intro D2 h tk ys I C hk hD2 hs2 inv
    have F2 := Fr.kp9 F hk
    rw [hlen] at inv
    obtain ⟨a, da, b, db, cc, dc, rfl, O0, O1, O2, ne1, ne2, ne3⟩ := os3_of F inv
    refine unpackL9 (s := { s with heap := h, toks := tk }) (items := #[.ref a, .ref b, .ref cc]) ⟨_, hD2, rfl, _, rfl⟩ (by exact c.hh) rfl rfl fun h3 hk3 => ?_
    have F3 := Fr.kp9 F2 hk3
    refine assignInOrder_cons (wpAny_assign_Name (storeL9 F3 (fun h4 F4 hk4 => ?_)))
    refine assignInOrder_cons (wpAny_assign_Name (storeL9 F4 (fun h5 F5 hk5 => ?_)))
    refine assignInOrder_cons (wpAny_assign_Name (storeL9 F5 (fun h6 F6 hk6 => ?_)))
    refine assignInOrder_nil ?_
    have kk : ∀ b o, b ≠ L → h.get? b = some o → h6.get? b = some o := fun b o hb e => hk6 b o hb (hk5 b o hb (hk4 b o hb (hk3 b o e)))
    exact next h6 _ _ a da b db cc dc F6 (by ((try dsimp only); repeat (first | rfl | with_reducible assumption | rw [if_neg (by decide)] | rw [if_pos rfl]))) (by ((try dsimp only); repeat (first | rfl | with_reducible assumption | rw [if_neg (by decide)] | rw [if_pos rfl]))) (by ((try dsimp only); repeat (first | rfl | with_reducible assumption | rw [if_neg (by decide)] | rw [if_pos rfl]))) (by ((try dsimp only); repeat (first | rfl | with_reducible assumption | rw [if_neg (by decide)] | rw [if_pos rfl]))) (fun b o hb e => kk b o hb (hk b o e)) (O0.kpL kk) (O1.kpL kk) (O2.kpL kk) ne1 ne2 ne3
end
end Mine
end
theorem Mine.calm9a44 : True ∧ True := by
  w_top off
  (try walk1) <;> (first | exact True.intro | exact ⟨True.intro, True.intro⟩)

/-! part P44 -/
section
open PySem PySem.W PySem.Calls PySem.Spec PyProof.Rows PyProof.Rows.LCg
namespace Mine
theorem fill9ab : PySem.Challenge.rw_fs0001_01 = PySem.Challenge.rw_fs0001_01 ∧ ∀ (w : World) h, (hd.heap_39 w.params).In h → True := by
  k_fill
  exact ⟨rfl, fun _ _ _ => trivial⟩

section
variable {prog : Program} {w : World} {p : Program} {loose : List Str} {mean : ExcName → Option Value} {mg mb : Str → Option Value} {A A₀ : Around} {env : Env} {outer : List Env} {base h₀ : Heap} {L : Addr} {m : Str → Option Value} {s : Shared} {news : List (Addr × Obj)} {Q E : Value → Shared → Prop}

/-- the law's names, once and for all -/
structure Ad9 where
  (a da b db c dc nl rl r0 r1 r2 : Addr)
  (o1 o2 o3 : Obj)
  (ka kb kc nums : List Int)
/-- what the law holds while it asks -/
structure St9 (prog : Program) (w : World) (h₀ : Heap) (L : Addr) (z : Ad9) (h : Heap) : Prop where
  N : News h₀ L h [(L + 1 + 1 + 1, z.o3), (L + 1 + 1, z.o2), (L + 1, z.o1), (z.rl, lst [.ref z.r0, .ref z.r1, .ref z.r2])]
  OA : OSN prog w h₀ L h z.a z.da z.ka
  OB : OSN prog w h₀ L h z.b z.db z.kb
  OC : OSN prog w h₀ L h z.c z.dc z.kc
  R0 : LSN h₀ L h z.r0 z.ka
  R1 : LSN h₀ L h z.r1 z.kb
  R2 : LSN h₀ L h z.r2 z.kc
  NM : LSN h₀ L h z.nl z.nums
theorem St9.kpL {z : Ad9} {h h' : Heap} (S : St9 prog w h₀ L z h) (hk : ∀ b o, b ≠ L → h.get? b = some o → h'.get? b = some o) : St9 prog w h₀ L z h' :=
  ⟨kpNs S.N hk, S.OA.kpL hk, S.OB.kpL hk, S.OC.kpL hk, S.R0.kpL hk, S.R1.kpL hk, S.R2.kpL hk, S.NM.kpL hk⟩
theorem St9.kp {z : Ad9} {h h' : Heap} (S : St9 prog w h₀ L z h) (hk : ∀ b o, h.get? b = some o → h'.get? b = some o) : St9 prog w h₀ L z h' := S.kpL fun b o _ e => hk b o e
/-- .. its names -/
structure Nm9 (m : Str → Option Value) (z : Ad9) : Prop where
  a : m nA = some (.ref z.a)
  b : m nB = some (.ref z.b)
  c : m nC = some (.ref z.c)
  n : m nNumbers = some (.ref z.nl)

theorem News.os {z d : Addr} {ks : List Int} {h : Heap} (N : News h₀ L h news) (O : OSN prog w h₀ L h z d ks) : ∃ dx, News h₀ L h ((z, instObj 217 dx) :: news) := by
  obtain ⟨dx, hs, tk, n, o, N', r⟩ := O
  exact ⟨dx, fun p hp => by
    rcases List.mem_cons.mp hp with rfl | hp
    · exact N' _ (.head _)
    · exact N _ hp⟩
theorem News.osD {z d : Addr} {ks : List Int} {h : Heap} (N : News h₀ L h news) (O : OSN prog w h₀ L h z d ks) : ∃ dx hs tk n, News h₀ L h ((z, instObj 217 dx) :: (dx, dictOf [⟨hs, .str (Str.ofString "_data") tk, .ref d⟩] n) :: news) := by
  obtain ⟨dx, hs, tk, n, o, N', r⟩ := O
  exact ⟨dx, hs, tk, n, fun p hp => by
    rcases List.mem_cons.mp hp with rfl | hp
    · exact N' _ (.head _)
    rcases List.mem_cons.mp hp with rfl | hp
    · exact N' _ (.tail _ (.head _))
    · exact N _ hp⟩
theorem addA_append (ks a b : List Int) : addA ks (a ++ b) = addA (addA ks a) b := List.foldl_append
theorem addA_dup : ∀ {ns ks : List Int}, (ks ++ ns).Nodup → addA ks ns = ks ++ ns
  | [], ks, _ => by simp [addA]
  | n :: ns, ks, h => by
    have hn : n ∉ ks := fun hm => by
      rw [List.nodup_append] at h
      exact h.2.2 n hm n (.head _) rfl
    have e : addI ks n = ks ++ [n] := by unfold addI; rw [if_neg hn]
    show addA (addI ks n) ns = _
    rw [e, addA_dup (by rw [List.append_assoc]; exact h), List.append_assoc]; rfl
theorem addA_self {ks : List Int} (h : ks.Nodup) : addA [] ks = ks := addA_dup (ks := []) (by simpa using h)
theorem addA_rows {ka : List Int} (h : ka.Nodup) (kb : List Int) : addA [] (ka ++ kb) = addA ka kb := by rw [addA_append, addA_self h]
theorem concatX9 {l b : Addr} {its its2 : Array Value} {Q : Value → Shared → Prop} (hl : s.heap.IsList l its) (hb : s.heap.IsList b its2) (hz : its.size + its2.size ≤ sizeLine)
    (k : ∀ h', (∀ b o, s.heap.get? b = some o → h'.get? b = some o) → h'.get? s.heap.objs.size = some { cls := .type "list", data := .seq (its ++ its2) } → Q (.ref s.heap.objs.size) { s with heap := h' }) : wpAny (model prog w) A (binaryOp .Add (.ref l) (.ref b)) Q E s := by
  obtain ⟨⟨cls, dd, data, sl⟩, ho, hc, n, hd⟩ := hl
  obtain ⟨⟨cls2, dd2, data2, sl2⟩, ho2, hc2, n2, hd2⟩ := hb
  simp only at hc hd hc2 hd2
  subst hc hd hc2 hd2
  exact concat_meets ⟨_, ho, rfl⟩ ⟨_, ho2, rfl⟩ noFill_list_add seq_list_add PySem.F.slot_list_add PySem.F.entry_list_add (PySem.F.args_list_add_2 _ _) (list_addW l b its its2 n n2 dd dd2 sl sl2 hz) ⟨ho, ho2, k _ (fun _ _ e => Heap.get?_push_of_some _ e) (Heap.get?_push_size _ rfl)⟩
theorem concat9 {l b : Addr} {ns ms : List Int} {Q : Value → Shared → Prop} (F : Fr h₀ L s.heap m) (O : LSN h₀ L s.heap l ns) (O2 : LSN h₀ L s.heap b ms) (hz : ns.length + ms.length ≤ 1000)
    (k : ∀ D h', (∀ b o, s.heap.get? b = some o → h'.get? b = some o) → LSN h₀ L h' D (ns ++ ms) → s.heap.objs.size ≤ D → Q (.ref D) { s with heap := h' }) : wpAny (model prog w) A (binaryOp .Add (.ref l) (.ref b)) Q E s := by
  obtain ⟨o, vs, N, ho, hi⟩ := O
  obtain ⟨o2, vs2, N2, ho2, hi2⟩ := O2
  have e1 := hi.length
  have e2 := hi2.length
  have hl : s.heap.IsList l vs.toArray := ho.at (N _ (.head _)).1
  have hb : s.heap.IsList b vs2.toArray := ho2.at (N2 _ (.head _)).1
  obtain ⟨c1, n1, d1⟩ := ho
  obtain ⟨c2, n2, d2⟩ := ho2
  have N1 : News h₀ L s.heap [(l, o), (b, o2)] := fun p hp => by
    rcases List.mem_cons.mp hp with rfl | hp
    · exact N _ (.head _)
    · rw [List.mem_singleton.mp hp]; exact N2 _ (.head _)
  refine concatX9 hl hb (by rw [List.size_toArray, List.size_toArray, sizeLine_eq]; omega) fun h' hk hg => ?_
  obtain ⟨F', N'⟩ := led_new F N1 hk hg (Nat.le_refl _)
  exact k _ h' hk ⟨_, vs ++ vs2, fun p hp => by rw [List.mem_singleton.mp hp]; exact N' _ (.head _), ⟨rfl, 0, by simp⟩, hi.append hi2⟩ (Nat.le_refl _)

theorem rowItem9 {value slice : Expr} {l : Addr} {vs : List Value} {k : Int} {u : Tok} {v : Value} (N : News h₀ L s.heap news) (hm : (l, lst vs) ∈ news) (h0 : 0 ≤ k) (h1 : k < 100) (e : vs[k.toNat]? = some v) (h : Q v s)
    (hs : subscripted slice false (.ref l) (.int k u) = operate [.ref l, .int k u] (getItem (.ref l) (.int k u)) := by with_unfolding_all rfl) (hg : ∀ r, letTemporaryGo value (.ref l) r = pure () := by intro _; with_unfolding_all rfl) :
    wpAny (model prog w) A (subscriptTail value slice (.ref l) (.int k u)) Q E s :=
  item_list (items := vs.toArray) ⟨_, (N _ hm).1, rfl, _, rfl⟩ h0 (by omega) (by simpa using e) h hs hg
local macro_rules | `(tactic| walk_at "execs cons") => `(tactic| (k_here; refine stop9 ?_))
local macro_rules | `(tactic| walk_at "call ref") => `(tactic| (k_here; refine stop9 ?_))
local macro_rules | `(tactic| walk_at "eval Name") => `(tactic| (k_here; k_dflt (refine nameX_L (cl := cellsFrom (_ + 1) lawScope.names []) (by k_asm) (by (first | with_reducible assumption | rfl | (show ite _ _ _ = _; rw [if_neg (by decide)]; with_reducible assumption))) ?_)))
local macro_rules | `(tactic| walk_at "eval Name") => `(tactic| (k_here; k_dflt (refine nameX_C (cl := cellsFrom (_ + 1) lawScope.names []) (by k_asm) (by rfl) (by k_mem) (by with_reducible assumption) ?_)))
local macro_rules | `(tactic| walk_at "eval Name") => `(tactic| (k_here; (with_reducible show wpAny _ _ (eval (Expr.Name _ _) (compEnvC _ _ _ _)) _ _ _); k_dflt (first
  | refine ldOwn9 (by assumption) (by assumption) ?_
  | (refine' ldCell9 ?hc ?hx ?_; (case hx => exact rfl); (case hc => assumption))
  | refine LCgL.ld_global (by k_asm) (by k_asm) (by k_asm) (by k_is) ?_
  | refine LCgL.ld_built (by k_asm) (by k_asm) (by k_asm) (by k_is) (by boot_by_name) (by decide) ?_)))
local macro_rules | `(tactic| walk_at "subscriptTail Name Constant ref int") => `(tactic| (k_here; (with_reducible show wpAny _ _ (subscriptTail (Expr.Name _ _) (Expr.Constant _ _ _) (Value.ref _) (Value.int _ _)) _ _ _); k_dflt (refine' rowItem9 ?kN ?km ?ka ?kb ?ke ?_ ?khs ?khg; (case kN => k_asm); (case km => k_mem); (case ka => decide); (case kb => decide); (case ke => exact rfl); (case khs => with_unfolding_all rfl); (case khg => (intro _; with_unfolding_all rfl)); k_whole)))
local macro_rules | `(tactic| walk_at "pyIter") => `(tactic| (k_here; refine stop9 ?_))
local macro_rules | `(tactic| walk_at "binaryOp Add ref ref") => `(tactic| (k_here; refine stop9 ?_))

set_option maxHeartbeats 1000000 in
theorem law4 {fa : Addr} {cd : Value} {z : Ad9} {QF : Flow → Shared → Prop} (c : Mine.Cl w p loose mean mg mb A (lawEnv L fa cd) [] A₀ base h₀ L s.heap m) (nm : Nm9 m z) (S : St9 prog w h₀ L z s.heap) (hc : z.o1.data = .cell (some (.ref z.rl)))
    (hna : z.ka.Nodup) (hla : z.ka.length ≤ 10) (hlb : z.kb.length ≤ 10) (hdep : A.depth + 60 < recursionLimit) (hu : A.units + 200 < cLine)
    (next : ∀ h tk, Fr h₀ L h m → St9 prog w h₀ L z h → wpAny (model prog w) A (execs lawR5 (lawEnv L fa cd)) QF E { s with heap := h, toks := tk }) :
    wpAny (model prog w) A (execs lawR4 (lawEnv L fa cd)) QF E s := by
  have X := c.X.keeps c.B.stays
  have T := c.T.keeps c.B.stays
  have F := c.F
  obtain ⟨n1, n2, n3, n4⟩ := nm
  obtain ⟨a, da, b, db, cc, dc, nl, rl, r0, r1, r2, o1, o2, o3, ka, kb, kc, nums⟩ := z
  dsimp only at *
  obtain ⟨dxa, hsa, tka, na, N⟩ := News.osD S.N S.OA
  obtain ⟨dxb, hsb, tkb, nb, N⟩ := News.osD N S.OB
  dsimp only at N
  unfold lawR4 pick9
  refine wpAny_execs_cons ?_
  k_steps
  unfold Stop9
  refine wpAny_call (seen_code (s := { s with heap := s.heap, toks := _ }) (Cl.re c F) S.OA S.R0 (by omega) (by omega) fun h1 tk1 hk1 => ?_)
  replace S := S.kp hk1.all; replace F := Fr.kp9 F hk1.all; replace N := News.kp9 N hk1.all
  k_steps
  unfold Stop9
  refine wpAny_call (seen_code (s := { s with heap := h1, toks := _ }) (Cl.re c F) S.OB S.R1 (by omega) (by omega) fun h2 tk2 hk2 => ?_)
  replace S := S.kp hk2.all; replace F := Fr.kp9 F hk2.all; replace N := News.kp9 N hk2.all
  k_steps
  unfold Stop9
  refine wpAny_call (or_code (s := { s with heap := h2, toks := _ }) (Cl.re c F) S.OA S.OB (by omega) fun x3 d3 h3 tk3 hk3 O3 => ?_)
  dsimp only [PySem.W.CmpBack]
  replace O3 := O3.osn F
  replace S := S.kp hk3.all; replace F := Fr.kp9 F hk3.all; replace N := News.kp9 N hk3.all
  k_steps
  unfold Stop9
  refine concat9 (s := { s with heap := h3, toks := _ }) F S.R0 S.R1 (by show ka.length + kb.length ≤ _; omega) fun D4 h4 hk4 OD4 _ => ?_
  replace O3 := O3.kp hk4
  replace S := S.kp hk4; replace F := Fr.kp9 F hk4; replace N := News.kp9 N hk4
  k_steps
  unfold Stop9
  refine wpAny_call (row_code (s := { s with heap := h4, toks := _ }) (Cl.re c F) OD4 (by rw [List.length_append]; show ka.length + kb.length ≤ _; omega) (by omega) fun h5 tk5 l5 vs5 n5 hk5 hg5 hs5 hi5 => ?_)
  replace O3 := O3.kp hk5.all
  have O5 := lsn_of F hg5 hi5 hs5
  rw [addA_rows hna] at O5
  replace S := S.kp hk5.all; replace F := Fr.kp9 F hk5.all; replace N := News.kp9 N hk5.all
  k_steps
  unfold Stop9
  refine wpAny_call (seen_code (s := { s with heap := h5, toks := _ }) (Cl.re c F) O3 O5 (by omega) (by omega) fun h6 tk6 hk6 => ?_)
  clear O3 O5
  replace S := S.kp hk6.all; replace F := Fr.kp9 F hk6.all; replace N := News.kp9 N hk6.all
  k_steps
  unfold Stop9
  refine wpAny_call (union_code (s := { s with heap := h6, toks := _ }) (Cl.re c F) S.OA S.OB (by omega) fun x7 d7 h7 tk7 hk7 O7 => ?_)
  replace O7 := O7.osn F
  replace S := S.kp hk7.all; replace F := Fr.kp9 F hk7.all; replace N := News.kp9 N hk7.all
  k_steps
  unfold Stop9
  refine concat9 (s := { s with heap := h7, toks := _ }) F S.R0 S.R1 (by show ka.length + kb.length ≤ _; omega) fun D8 h8 hk8 OD8 _ => ?_
  replace O7 := O7.kp hk8
  replace S := S.kp hk8; replace F := Fr.kp9 F hk8; replace N := News.kp9 N hk8
  k_steps
  unfold Stop9
  refine wpAny_call (row_code (s := { s with heap := h8, toks := _ }) (Cl.re c F) OD8 (by rw [List.length_append]; show ka.length + kb.length ≤ _; omega) (by omega) fun h9 tk9 l9 vs9 n9 hk9 hg9 hs9 hi9 => ?_)
  replace O7 := O7.kp hk9.all
  have O9 := lsn_of F hg9 hi9 hs9
  rw [addA_rows hna] at O9
  replace S := S.kp hk9.all; replace F := Fr.kp9 F hk9.all; replace N := News.kp9 N hk9.all
  k_steps
  unfold Stop9
  refine wpAny_call (seen_code (s := { s with heap := h9, toks := _ }) (Cl.re c F) O7 O9 (by omega) (by omega) fun h10 tk10 hk10 => ?_)
  clear O7 O9
  replace S := S.kp hk10.all; replace F := Fr.kp9 F hk10.all; replace N := News.kp9 N hk10.all
  k_steps
  exact next _ _ F S
end
end Mine
end
theorem Mine.calm9a45 : True ∧ True := by
  w_top off
  (try walk1) <;> (first | exact True.intro | exact ⟨True.intro, True.intro⟩)

/-! part P45 -/
section
open PySem PySem.W PySem.Calls PySem.Spec PyProof.Rows PyProof.Rows.LCg
namespace Mine
theorem fill9ac : PySem.Challenge.rw_fs0001_01 = PySem.Challenge.rw_fs0001_01 ∧ ∀ (w : World) h, (hd.heap_39 w.params).In h → True := by
  k_fill
  exact ⟨rfl, fun _ _ _ => trivial⟩

section
variable {prog : Program} {w : World} {p : Program} {loose : List Str} {mean : ExcName → Option Value} {mg mb : Str → Option Value} {A A₀ : Around} {env : Env} {outer : List Env} {base h₀ : Heap} {L : Addr} {m : Str → Option Value} {s : Shared} {news : List (Addr × Obj)} {Q E : Value → Shared → Prop}

theorem lsn_lst {l : Addr} {vs : List Value} {ns : List Int} {h h1 : Heap} {m1 : Str → Option Value} (F : Fr h₀ L h1 m1) (hl : h.get? l = some (lst vs)) (hi : IntsAre vs ns) (hs : h1.objs.size ≤ l) : LSN h₀ L h l ns := by
  refine ⟨lst vs, vs, fun p hp => ?_, ⟨rfl, _, rfl⟩, hi⟩
  rw [List.mem_singleton.mp hp]
  refine ⟨hl, Nat.ne_of_gt (Nat.lt_of_lt_of_le F.ns.lt hs), ?_⟩
  cases q : h₀.get? l with
  | none => rfl
  | some o => exact absurd (Heap.lt_size (F.keep _ _ q)) (Nat.not_lt.mpr hs)
theorem outA_eq : ∀ {ns ks : List Int}, outA ks ns = ks.filter fun k => decide (k ∉ ns)
  | [], ks => by
    show ks = _
    rw [List.filter_eq_self.mpr]; intro a _; simp
  | n :: ns, ks => by
    show outA (outI ks n) ns = _
    rw [outA_eq]
    unfold outI
    rw [List.filter_filter]
    congr 1
    funext k
    simp [Bool.and_comm]
theorem fm_filter (g : Int → Bool) : ∀ ks : List Int, ks.filterMap (fun k => if g k = true then some k else none) = ks.filter g
  | [] => rfl
  | k :: ks => by
    rw [List.filterMap_cons, List.filter_cons, fm_filter g ks]
    cases g k <;> rfl
theorem same_self (ks : List Int) : sameS ks ks = true := sameS_iff.mpr fun _ => Iff.rfl
local macro_rules | `(tactic| walk_at "execs cons") => `(tactic| (k_here; refine stop9 ?_))
local macro_rules | `(tactic| walk_at "call ref") => `(tactic| (k_here; refine stop9 ?_))
local macro_rules | `(tactic| walk_at "eval Name") => `(tactic| (k_here; k_dflt (refine nameX_L (cl := cellsFrom (_ + 1) lawScope.names []) (by k_asm) (by (first | with_reducible assumption | rfl | (show ite _ _ _ = _; rw [if_neg (by decide)]; with_reducible assumption))) ?_)))
local macro_rules | `(tactic| walk_at "eval Name") => `(tactic| (k_here; k_dflt (refine nameX_C (cl := cellsFrom (_ + 1) lawScope.names []) (by k_asm) (by rfl) (by k_mem) (by with_reducible assumption) ?_)))
local macro_rules | `(tactic| walk_at "eval Name") => `(tactic| (k_here; (with_reducible show wpAny _ _ (eval (Expr.Name _ _) (compEnvC _ _ _ _)) _ _ _); k_dflt (first
  | refine ldOwn9 (by assumption) (by assumption) ?_
  | (refine' ldCell9 ?hc ?hx ?_; (case hx => exact rfl); (case hc => assumption))
  | refine LCgL.ld_global (by k_asm) (by k_asm) (by k_asm) (by k_is) ?_
  | refine LCgL.ld_built (by k_asm) (by k_asm) (by k_asm) (by k_is) (by boot_by_name) (by decide) ?_)))
local macro_rules | `(tactic| walk_at "subscriptTail Name Constant ref int") => `(tactic| (k_here; (with_reducible show wpAny _ _ (subscriptTail (Expr.Name _ _) (Expr.Constant _ _ _) (Value.ref _) (Value.int _ _)) _ _ _); k_dflt (refine' rowItem9 ?kN ?km ?ka ?kb ?ke ?_ ?khs ?khg; (case kN => k_asm); (case km => k_mem); (case ka => decide); (case kb => decide); (case ke => exact rfl); (case khs => with_unfolding_all rfl); (case khg => (intro _; with_unfolding_all rfl)); k_whole)))
local macro_rules | `(tactic| walk_at "pyIter") => `(tactic| (k_here; refine stop9 ?_))
local macro_rules | `(tactic| walk_at "binaryOp Add ref ref") => `(tactic| (k_here; refine stop9 ?_))

local macro_rules | `(tactic| walk_at "compareOp Eq ref ref") => `(tactic| (k_here; (with_reducible show wpAny _ _ (compareOp CmpOp.Eq (Value.ref _) (Value.ref _)) _ _ _); (refine cmp_ofEq ?_); k_dflt (refine' cmp_K ?k1 ?k2 ?k3 ?k4 ?k5 ?k6 ?k7 ?k8 ?_; (case k1 => assumption); (case k2 => k_asm); (case k3 => k_asm); (case k4 => k_inst); (case k5 => k_typeOf); (case k6 => k_is); (case k7 => k_is); (case k8 => k_is); k_whole)))
local macro_rules | `(tactic| walk_at "eval ListComp") => `(tactic| (k_here; refine stop9 ?_))
local macro_rules | `(tactic| walk_at "compareOp NotIn int ref") => `(tactic| (k_here; refine stop9 ?_))
local macro_rules | `(tactic| walk_at "compareOp In int ref") => `(tactic| (k_here; refine stop9 ?_))

set_option maxHeartbeats 1000000 in
theorem law5 {fa : Addr} {cd : Value} {z : Ad9} {QF : Flow → Shared → Prop} (c : Mine.Cl w p loose mean mg mb A (lawEnv L fa cd) [] A₀ base h₀ L s.heap m) (nm : Nm9 m z) (S : St9 prog w h₀ L z s.heap) (hc : z.o1.data = .cell (some (.ref z.rl)))
    (hla : z.ka.length ≤ 10) (hlb : z.kb.length ≤ 10) (hdep : A.depth + 60 < recursionLimit) (hu : A.units + 200 < cLine)
    (next : ∀ h tk, Fr h₀ L h m → St9 prog w h₀ L z h → wpAny (model prog w) A (execs lawR6 (lawEnv L fa cd)) QF E { s with heap := h, toks := tk }) :
    wpAny (model prog w) A (execs lawR5 (lawEnv L fa cd)) QF E s := by
  have X := c.X.keeps c.B.stays
  have T := c.T.keeps c.B.stays
  have F := c.F
  have hun : A.units < cLine := by omega
  obtain ⟨n1, n2, n3, n4⟩ := nm
  obtain ⟨a, da, b, db, cc, dc, nl, rl, r0, r1, r2, o1, o2, o3, ka, kb, kc, nums⟩ := z
  dsimp only at *
  obtain ⟨dxa, hsa, tka, na, N⟩ := News.osD S.N S.OA
  obtain ⟨dxb, hsb, tkb, nb, N⟩ := News.osD N S.OB
  dsimp only at N
  unfold lawR5 pick9
  refine wpAny_execs_cons ?_
  k_steps
  unfold Stop9
  refine wpAny_call (sub_code (s := { s with heap := s.heap, toks := _ }) (Cl.re c F) S.OA S.OB (by omega) fun x1 d1 h1 tk1 hk1 O1 => ?_)
  dsimp only [PySem.W.CmpBack]
  replace O1 := O1.osn F
  replace S := S.kp hk1.all; replace F := Fr.kp9 F hk1.all; replace N := News.kp9 N hk1.all
  k_steps
  unfold Stop9
  k_dflt (refine comp9 (by rfl) (by decide) (by rfl) (by decide) (by rfl) ?_)
  k_steps
  unfold Stop9
  obtain ⟨ol, vs, Nl, hol, hiv⟩ := id S.R0
  refine listComp9 (s := { s with heap := h1, toks := _ }) (hol.at (Nl _ (.head _)).1) hiv (by show ka.length ≤ _; omega) (by exact c.hh) (fun k => if decide (k ∉ kb) = true then some k else none) (fun C j t h tk m₂ hj hns hx hk hC => turn_one9 ?_) (fun D2 h2 tk2 vs2 hk2 hD2 hs2 hi2 => ?_)
  · have Fh := Fr.kp9 F hk
    have Nh := News.kp9 N hk
    have cell : h.IsCell (L + 1) (some (.ref rl)) := ⟨_, (Nh _ (.tail _ (.tail _ (.tail _ (.tail _ (.tail _ (.tail _ (.head _)))))))).1, hc⟩
    k_steps
    unfold Stop9
    obtain ⟨ob, vsb, Nb, hob, hib⟩ := S.R1.kp hk
    have hlb' : h.IsList r1 vsb.toArray := hob.at (Nb _ (.head _)).1
    refine ninL9 hlb' hib ?_
    clear Nb
    show wpAny _ _ (truthy (.bool (decide (j ∉ kb)))) _ _ _
    by_cases hjb : j ∈ kb
    · rw [decide_eq_false (not_not_intro hjb)]
      k_steps
      exact ⟨⟨h, _, rfl, fun b o e => e, rfl⟩⟩
    · rw [decide_eq_true hjb]
      k_steps
      refine ⟨?_⟩
      rw [if_pos rfl]
      k_steps
      exact ⟨⟨h, _, rfl, fun b o e => e, rfl, _, rfl⟩⟩
  · rw [fm_filter (fun k => decide (k ∉ kb)), ← outA_eq] at hi2
    have O2 := lsn_lst F hD2 hi2 hs2
    replace O1 := O1.kp hk2
    replace S := S.kp hk2; replace F := Fr.kp9 F hk2; replace N := News.kp9 N hk2
    clear Nl
    k_steps
    unfold Stop9
    refine wpAny_call (seen_code (s := { s with heap := h2, toks := _ }) (Cl.re c F) O1 O2 (by omega) (by omega) fun h3 tk3 hk3 => ?_)
    clear O1 O2
    replace S := S.kp hk3.all; replace F := Fr.kp9 F hk3.all; replace N := News.kp9 N hk3.all
    k_steps
    unfold Stop9
    refine wpAny_call (sub_code (s := { s with heap := h3, toks := _ }) (Cl.re c F) S.OA S.OB (by omega) fun x4 d4 h4 tk4 hk4 O4 => ?_)
    dsimp only [PySem.W.CmpBack]
    replace O4 := O4.osn F
    replace S := S.kp hk4.all; replace F := Fr.kp9 F hk4.all; replace N := News.kp9 N hk4.all
    k_steps
    unfold Stop9
    refine wpAny_call (difference_code (s := { s with heap := h4, toks := _ }) (Cl.re c F) S.OA S.OB (by omega) fun x5 d5 h5 tk5 hk5 O5 => ?_)
    replace O4 := O4.kp hk5.all
    replace O5 := O5.osn F
    replace S := S.kp hk5.all; replace F := Fr.kp9 F hk5.all; replace N := News.kp9 N hk5.all
    obtain ⟨dx4, hs4, tt4, n4', N⟩ := News.osD N O4
    obtain ⟨dx5, hs5, tt5, n5', N⟩ := News.osD N O5
    dsimp only
    k_steps
    unfold Stop9
    refine wpAny_call (eq_code (s := { s with heap := h5, toks := _ }) (Cl.re c F) O4 O5 (by omega) (by omega) fun h6 tk6 hk6 => ?_)
    rw [same_self]
    dsimp only [PySem.W.CmpBack]
    clear O4 O5
    replace S := S.kp hk6.all; replace F := Fr.kp9 F hk6.all; replace N := News.kp9 N hk6.all
    k_steps
    exact next _ _ F S
end
end Mine
end
theorem Mine.calm9a46 : True ∧ True := by
  w_top off
  (try walk1) <;> (first | exact True.intro | exact ⟨True.intro, True.intro⟩)

/-! part P46 -/
section
open PySem PySem.W PySem.Calls PySem.Spec PyProof.Rows PyProof.Rows.LCg
namespace Mine
theorem fill9ad : PySem.Challenge.rw_fs0001_01 = PySem.Challenge.rw_fs0001_01 ∧ ∀ (w : World) h, (hd.heap_39 w.params).In h → True := by
  k_fill
  exact ⟨rfl, fun _ _ _ => trivial⟩

section
variable {prog : Program} {w : World} {p : Program} {loose : List Str} {mean : ExcName → Option Value} {mg mb : Str → Option Value} {A A₀ : Around} {env : Env} {outer : List Env} {base h₀ : Heap} {L : Addr} {m : Str → Option Value} {s : Shared} {news : List (Addr × Obj)} {Q E : Value → Shared → Prop}

theorem perm_mem9 {a b : List Int} (ha : a.Nodup) (hb : b.Nodup) (h : ∀ x, x ∈ a ↔ x ∈ b) : a.Perm b := by
  rw [List.perm_iff_count]
  intro x
  rw [ha.count, hb.count]
  by_cases hx : x ∈ a
  · rw [if_pos hx, if_pos ((h x).mp hx)]
  · rw [if_neg hx, if_neg fun z => hx ((h x).mpr z)]
/-- everything that the caller has made, as a ledger: what a walk of the kit keeps, all stays -/
@[irreducible] def all9 (h₀ : Heap) (L : Addr) (h : Heap) : List (Addr × Obj) := (List.range h.objs.size).filterMap fun b => if b = L then none else match h₀.get? b with
  | some _ => none
  | none => (h.get? b).map fun o => (b, o)
theorem all9_mem {h : Heap} {p : Addr × Obj} : p ∈ all9 h₀ L h ↔ h.get? p.1 = some p.2 ∧ p.1 ≠ L ∧ h₀.get? p.1 = none := by
  unfold all9
  rw [List.mem_filterMap]
  constructor
  · rintro ⟨b, _, e⟩
    by_cases hb : b = L
    · rw [if_pos hb] at e; cases e
    rw [if_neg hb] at e
    cases q : h₀.get? b with
    | some o => rw [q] at e; cases e
    | none =>
      rw [q] at e
      obtain ⟨o, e1, rfl⟩ := Option.map_eq_some_iff.mp e
      exact ⟨e1, hb, q⟩
  · rintro ⟨e1, e2, e3⟩
    refine ⟨p.1, List.mem_range.mpr (Heap.lt_size e1), ?_⟩
    rw [if_neg e2, e3, e1]; rfl
theorem all9_news {h : Heap} (N : News h₀ L h news) : News h₀ L h (news ++ all9 h₀ L h) := fun p hp => by
  rcases List.mem_append.mp hp with hp | hp
  · exact N p hp
  · exact all9_mem.mp hp
theorem all9_keep {h h' : Heap} {m' : Str → Option Value} (F : Fr h₀ L h m) (F' : Fr h₀ L h' m') (N' : News h₀ L h' news) (hs : ∀ p ∈ all9 h₀ L h, p ∈ news) : ∀ b o, b ≠ L → h.get? b = some o → h'.get? b = some o := fun b o hb e => by
  cases q : h₀.get? b with
  | some o' =>
    have e' := F.keep _ _ q
    rw [e] at e'; cases e'
    exact F'.keep _ _ q
  | none => exact (N' (b, o) (hs _ (all9_mem.mpr ⟨e, hb, q⟩))).1

local macro_rules | `(tactic| walk_at "execs cons") => `(tactic| (k_here; refine stop9 ?_))
local macro_rules | `(tactic| walk_at "call ref") => `(tactic| (k_here; refine stop9 ?_))
local macro_rules | `(tactic| walk_at "eval Name") => `(tactic| (k_here; k_dflt (refine nameX_L (cl := cellsFrom (_ + 1) lawScope.names []) (by k_asm) (by (first | with_reducible assumption | rfl | (show ite _ _ _ = _; rw [if_neg (by decide)]; with_reducible assumption))) ?_)))
local macro_rules | `(tactic| walk_at "eval Name") => `(tactic| (k_here; k_dflt (refine nameX_C (cl := cellsFrom (_ + 1) lawScope.names []) (by k_asm) (by rfl) (by k_mem) (by with_reducible assumption) ?_)))
local macro_rules | `(tactic| walk_at "eval Name") => `(tactic| (k_here; (with_reducible show wpAny _ _ (eval (Expr.Name _ _) (compEnvC _ _ _ _)) _ _ _); k_dflt (first
  | refine ldOwn9 (by assumption) (by assumption) ?_
  | (refine' ldCell9 ?hc ?hx ?_; (case hx => exact rfl); (case hc => assumption))
  | refine LCgL.ld_global (by k_asm) (by k_asm) (by k_asm) (by k_is) ?_
  | refine LCgL.ld_built (by k_asm) (by k_asm) (by k_asm) (by k_is) (by boot_by_name) (by decide) ?_)))
local macro_rules | `(tactic| walk_at "subscriptTail Name Constant ref int") => `(tactic| (k_here; (with_reducible show wpAny _ _ (subscriptTail (Expr.Name _ _) (Expr.Constant _ _ _) (Value.ref _) (Value.int _ _)) _ _ _); k_dflt (refine' rowItem9 ?kN ?km ?ka ?kb ?ke ?_ ?khs ?khg; (case kN => k_asm); (case km => k_mem); (case ka => decide); (case kb => decide); (case ke => exact rfl); (case khs => with_unfolding_all rfl); (case khg => (intro _; with_unfolding_all rfl)); k_whole)))
local macro_rules | `(tactic| walk_at "pyIter") => `(tactic| (k_here; refine stop9 ?_))
local macro_rules | `(tactic| walk_at "binaryOp Add ref ref") => `(tactic| (k_here; refine stop9 ?_))

local macro_rules | `(tactic| walk_at "compareOp Eq ref ref") => `(tactic| (k_here; (with_reducible show wpAny _ _ (compareOp CmpOp.Eq (Value.ref _) (Value.ref _)) _ _ _); (refine cmp_ofEq ?_); k_dflt (refine' cmp_K ?k1 ?k2 ?k3 ?k4 ?k5 ?k6 ?k7 ?k8 ?_; (case k1 => assumption); (case k2 => k_asm); (case k3 => k_asm); (case k4 => k_inst); (case k5 => k_typeOf); (case k6 => k_is); (case k7 => k_is); (case k8 => k_is); k_whole)))
local macro_rules | `(tactic| walk_at "eval ListComp") => `(tactic| (k_here; refine stop9 ?_))
local macro_rules | `(tactic| walk_at "compareOp NotIn int ref") => `(tactic| (k_here; refine stop9 ?_))
local macro_rules | `(tactic| walk_at "compareOp In int ref") => `(tactic| (k_here; refine stop9 ?_))

local macro_rules | `(tactic| walk_at "call builtin:sorted") => `(tactic| (k_here; refine stop9 ?_))
local macro_rules | `(tactic| walk_at "compareOp NotEq ref ref") => `(tactic| (k_here; refine stop9 ?_))

set_option maxHeartbeats 1000000 in
theorem law6 {fa : Addr} {cd : Value} {z : Ad9} {QF : Flow → Shared → Prop} (c : Mine.Cl w p loose mean mg mb A (lawEnv L fa cd) [] A₀ base h₀ L s.heap m) (nm : Nm9 m z) (S : St9 prog w h₀ L z s.heap) (hc : z.o1.data = .cell (some (.ref z.rl)))
    (hna : z.ka.Nodup) (hla : z.ka.length ≤ 10) (hlb : z.kb.length ≤ 10) (hdep : A.depth + 60 < recursionLimit) (hu : A.units + 200 < cLine)
    (next : ∀ h tk, Fr h₀ L h m → St9 prog w h₀ L z h → wpAny (model prog w) A (execs lawR7 (lawEnv L fa cd)) QF E { s with heap := h, toks := tk }) :
    wpAny (model prog w) A (execs lawR6 (lawEnv L fa cd)) QF E s := by
  have X := c.X.keeps c.B.stays
  have T := c.T.keeps c.B.stays
  have F := c.F
  have hun : A.units < cLine := by omega
  obtain ⟨n1, n2, n3, n4⟩ := nm
  obtain ⟨a, da, b, db, cc, dc, nl, rl, r0, r1, r2, o1, o2, o3, ka, kb, kc, nums⟩ := z
  dsimp only at *
  have N := all9_news S.N
  dsimp only [List.cons_append, List.nil_append] at N
  unfold lawR6 pick9
  refine wpAny_execs_cons ?_
  have F0 := F
  k_steps
  unfold Stop9
  (with_reducible rename News _ _ _ _ => N1); (with_reducible rename Fr _ _ _ _ => F1)
  have hk1 := all9_keep F0 F1 N1 (by (intro _ hp; repeat (first | exact hp | refine List.Mem.tail _ ?_)))
  refine call_meth N1 (.head _) ?_
  replace S := S.kpL hk1
  refine inter3_code (s := { s with heap := _, toks := _ }) (Cl.re c F1) S.OA S.OB S.OC (by omega) fun x2 d2 h2 tk2 rs hk2 O2 hrs => ?_
  replace O2 := O2.osn F1
  replace S := S.kp hk2.all
  replace F := Fr.kp9 F1 hk2.all
  clear F0 F1 N1 hk1
  replace N := all9_news S.N
  dsimp only [List.cons_append, List.nil_append] at N ⊢
  k_steps
  unfold Stop9
  refine sortedOS9 (s := { s with heap := h2, toks := _ }) (Cl.re c F) O2 (by omega) fun D3 h3 tk3 vs3 ns3 n3' hk3 hg3 hs3 hi3 p3 so3 => ?_
  have O3 := lsn_of F hg3 hi3 hs3
  have nd2 := OSN.nodup (s := { s with heap := h2 }) O2
  clear O2
  replace S := S.kp hk3
  replace F := Fr.kp9 F hk3
  replace N := all9_news S.N
  dsimp only [List.cons_append, List.nil_append] at N ⊢
  k_steps
  unfold Stop9
  k_dflt (refine comp9 (by rfl) (by decide) (by rfl) (by decide) (by rfl) ?_)
  k_steps
  unfold Stop9
  obtain ⟨ol, vs, Nl, hol, hiv⟩ := id S.R0
  refine listComp9 (s := { s with heap := h3, toks := _ }) (hol.at (Nl _ (.head _)).1) hiv (by show ka.length ≤ _; omega) (by exact c.hh) (fun k => if decide (k ∈ kb ∧ k ∈ kc) = true then some k else none) (fun C j t h tk m₂ hj hns hx hk hC => turn_one9 ?_) (fun D4 h4 tk4 vs4 hk4 hD4 hs4 hi4 => ?_)
  · have Fh := Fr.kp9 F hk
    have Nh := News.kp9 N hk
    have cell : h.IsCell (L + 1) (some (.ref rl)) := ⟨_, (Nh _ (.tail _ (.tail _ (.head _)))).1, hc⟩
    clear Nl
    k_steps
    unfold Stop9
    obtain ⟨ob, vsb, Nb, hob, hib⟩ := S.R1.kp hk
    have hlb' : h.IsList r1 vsb.toArray := hob.at (Nb _ (.head _)).1
    refine inL9 hlb' hib ?_
    clear Nb
    show wpAny _ _ (truthy (.bool (decide (j ∈ kb)))) _ _ _
    by_cases hjb : j ∈ kb
    · rw [decide_eq_true hjb]
      k_steps
      unfold Stop9
      obtain ⟨ob, vsb, Nb, hob, hib⟩ := S.R2.kp hk
      have hlc' : h.IsList r2 vsb.toArray := hob.at (Nb _ (.head _)).1
      refine inL9 hlc' hib ?_
      clear Nb
      show wpAny _ _ (truthy (.bool (decide (j ∈ kc)))) _ _ _
      by_cases hjc : j ∈ kc
      · rw [decide_eq_true hjc]
        have e9 : decide (j ∈ kb ∧ j ∈ kc) = true := decide_eq_true ⟨hjb, hjc⟩
        rw [e9]
        k_steps
        refine ⟨?_⟩
        rw [if_pos rfl]
        k_steps
        exact ⟨⟨h, _, rfl, fun b o e => e, rfl, _, rfl⟩⟩
      · rw [decide_eq_false hjc]
        have e9 : decide (j ∈ kb ∧ j ∈ kc) = false := decide_eq_false fun q => hjc q.2
        rw [e9]
        k_steps
        exact ⟨⟨h, _, rfl, fun b o e => e, rfl⟩⟩
    · rw [decide_eq_false hjb]
      have e9 : decide (j ∈ kb ∧ j ∈ kc) = false := decide_eq_false fun q => hjb q.1
      rw [e9]
      k_steps
      exact ⟨⟨h, _, rfl, fun b o e => e, rfl⟩⟩
  · rw [fm_filter (fun k => decide (k ∈ kb ∧ k ∈ kc))] at hi4
    have O4 := lsn_lst F hD4 hi4 hs4
    replace O3 := O3.kp hk4
    replace S := S.kp hk4
    replace F := Fr.kp9 F hk4
    obtain ⟨o4, v4, N4, ho4, hi4'⟩ := O4
    replace N := all9_news S.N
    dsimp only [List.cons_append, List.nil_append] at N ⊢
    have F4 := F
    clear Nl
    k_steps
    unfold Stop9
    refine kso_sorted (s := { s with heap := h4, toks := _ }) F (all9_news N4) (ho4.at (N4 _ (.head _)).1) hi4' (Nat.lt_of_le_of_lt (List.length_filter_le _ _) (by show ka.length < _; omega)) fun D5 vs5 ns5 n5 h5 F5 N5 _ hi5 _ p5 so5 _ => ?_
    have hk5 := all9_keep F4 F5 N5 (by (intro _ hp; repeat (first | exact hp | refine List.Mem.tail _ ?_)))
    obtain ⟨o3', v3, N3, ho3, hi3'⟩ := O3.kpL hk5
    replace S := S.kpL hk5
    have en : ns3 = ns5 := List.Perm.eq_of_pairwise (fun x y _ _ h1 h2 => Int.le_antisymm h1 h2) so3 so5 (p3.trans ((perm_mem9 nd2 (List.Pairwise.filter _ hna) fun x => by rw [hrs, List.mem_filter, decide_eq_true_iff]).trans p5.symm))
    have hD5 := (N5 _ (.head _)).1
    clear N4 N N5 F4 F
    have N := all9_news S.N
    dsimp only [List.cons_append, List.nil_append] at N ⊢
    have hl3 : h5.IsList D3 v3.toArray := ho3.at (N3 _ (.head _)).1
    clear N3
    k_steps
    unfold Stop9
    refine ke_ne_ints hl3 ⟨_, hD5, rfl, _, rfl⟩ hi3' hi5 (by omega) ?_
    rw [decide_eq_true en]
    k_steps
    exact next _ _ F5 S
end
end Mine
end
theorem Mine.calm9a47 : True ∧ True := by
  w_top off
  (try walk1) <;> (first | exact True.intro | exact ⟨True.intro, True.intro⟩)

/-! part P47 -/
section
open PySem PySem.W PySem.Calls PySem.Spec PyProof.Rows PyProof.Rows.LCg
namespace Mine
theorem fill9ae : PySem.Challenge.rw_fs0001_01 = PySem.Challenge.rw_fs0001_01 ∧ ∀ (w : World) h, (hd.heap_39 w.params).In h → True := by
  k_fill
  exact ⟨rfl, fun _ _ _ => trivial⟩

section
variable {prog : Program} {w : World} {p : Program} {loose : List Str} {mean : ExcName → Option Value} {mg mb : Str → Option Value} {A A₀ : Around} {env : Env} {outer : List Env} {base h₀ : Heap} {L : Addr} {m : Str → Option Value} {s : Shared} {news : List (Addr × Obj)} {Q E : Value → Shared → Prop}

abbrev nEvery : Str := Str.ofString "every"
theorem News.hd {h : Heap} {p : Addr × Obj} {l : List (Addr × Obj)} (N : News h₀ L h (p :: l)) : News h₀ L h [p] := fun q hq => by rw [List.mem_singleton.mp hq]; exact N _ (.head _)
theorem News.cc {h : Heap} {p : Addr × Obj} {l : List (Addr × Obj)} (M : News h₀ L h [p]) (N : News h₀ L h l) : News h₀ L h (p :: l) := fun q hq => by
  rcases List.mem_cons.mp hq with rfl | hq
  · exact M _ (.head _)
  · exact N _ hq
theorem mem_outA9 {x : Int} {ks ns : List Int} : x ∈ outA ks ns ↔ x ∈ ks ∧ x ∉ ns := by rw [outA_eq, List.mem_filter, decide_eq_true_iff]
local macro_rules | `(tactic| walk_at "execs cons") => `(tactic| (k_here; refine stop9 ?_))
local macro_rules | `(tactic| walk_at "call ref") => `(tactic| (k_here; refine stop9 ?_))
local macro_rules | `(tactic| walk_at "eval Name") => `(tactic| (k_here; k_dflt (refine nameX_L (cl := cellsFrom (_ + 1) lawScope.names []) (by k_asm) (by (first | with_reducible assumption | rfl | (show ite _ _ _ = _; rw [if_neg (by decide)]; with_reducible assumption))) ?_)))
local macro_rules | `(tactic| walk_at "eval Name") => `(tactic| (k_here; k_dflt (refine nameX_C (cl := cellsFrom (_ + 1) lawScope.names []) (by k_asm) (by rfl) (by k_mem) (by with_reducible assumption) ?_)))
local macro_rules | `(tactic| walk_at "eval Name") => `(tactic| (k_here; (with_reducible show wpAny _ _ (eval (Expr.Name _ _) (compEnvC _ _ _ _)) _ _ _); k_dflt (first
  | refine ldOwn9 (by assumption) (by assumption) ?_
  | (refine' ldCell9 ?hc ?hx ?_; (case hx => exact rfl); (case hc => assumption))
  | refine LCgL.ld_global (by k_asm) (by k_asm) (by k_asm) (by k_is) ?_
  | refine LCgL.ld_built (by k_asm) (by k_asm) (by k_asm) (by k_is) (by boot_by_name) (by decide) ?_)))
local macro_rules | `(tactic| walk_at "subscriptTail Name Constant ref int") => `(tactic| (k_here; (with_reducible show wpAny _ _ (subscriptTail (Expr.Name _ _) (Expr.Constant _ _ _) (Value.ref _) (Value.int _ _)) _ _ _); k_dflt (refine' rowItem9 ?kN ?km ?ka ?kb ?ke ?_ ?khs ?khg; (case kN => k_asm); (case km => k_mem); (case ka => decide); (case kb => decide); (case ke => exact rfl); (case khs => with_unfolding_all rfl); (case khg => (intro _; with_unfolding_all rfl)); k_whole)))
local macro_rules | `(tactic| walk_at "pyIter") => `(tactic| (k_here; refine stop9 ?_))
local macro_rules | `(tactic| walk_at "binaryOp Add ref ref") => `(tactic| (k_here; refine stop9 ?_))

local macro_rules | `(tactic| walk_at "compareOp Eq ref ref") => `(tactic| (k_here; (with_reducible show wpAny _ _ (compareOp CmpOp.Eq (Value.ref _) (Value.ref _)) _ _ _); (refine cmp_ofEq ?_); k_dflt (refine' cmp_K ?k1 ?k2 ?k3 ?k4 ?k5 ?k6 ?k7 ?k8 ?_; (case k1 => assumption); (case k2 => k_asm); (case k3 => k_asm); (case k4 => k_inst); (case k5 => k_typeOf); (case k6 => k_is); (case k7 => k_is); (case k8 => k_is); k_whole)))
local macro_rules | `(tactic| walk_at "eval ListComp") => `(tactic| (k_here; refine stop9 ?_))
local macro_rules | `(tactic| walk_at "compareOp NotIn int ref") => `(tactic| (k_here; refine stop9 ?_))
local macro_rules | `(tactic| walk_at "compareOp In int ref") => `(tactic| (k_here; refine stop9 ?_))

local macro_rules | `(tactic| walk_at "call builtin:sorted") => `(tactic| (k_here; refine stop9 ?_))
local macro_rules | `(tactic| walk_at "compareOp NotEq ref ref") => `(tactic| (k_here; refine stop9 ?_))

set_option maxHeartbeats 2000000 in
theorem law7 {fa : Addr} {cd : Value} {z : Ad9} {QF : Flow → Shared → Prop} (c : Mine.Cl w p loose mean mg mb A (lawEnv L fa cd) [] A₀ base h₀ L s.heap m) (nm : Nm9 m z) (S : St9 prog w h₀ L z s.heap) (hc : z.o1.data = .cell (some (.ref z.rl)))
    (hdep : A.depth + 60 < recursionLimit) (hu : A.units + 200 < cLine)
    (next : ∀ h tk m' x d, Fr h₀ L h m' → Nm9 m' z → m' nEvery = some (.ref x) → OSN prog w h₀ L h x d (addA (addA z.ka z.kb) z.kc) → St9 prog w h₀ L z h → wpAny (model prog w) A (execs lawR8 (lawEnv L fa cd)) QF E { s with heap := h, toks := tk }) :
    wpAny (model prog w) A (execs lawR7 (lawEnv L fa cd)) QF E s := by
  have X := c.X.keeps c.B.stays
  have T := c.T.keeps c.B.stays
  have F := c.F
  have hun : A.units < cLine := by omega
  obtain ⟨n1, n2, n3, n4⟩ := nm
  obtain ⟨a, da, b, db, cc, dc, nl, rl, r0, r1, r2, o1, o2, o3, ka, kb, kc, nums⟩ := z
  have OA : OSN prog w h₀ L s.heap a da ka := S.OA
  have OB : OSN prog w h₀ L s.heap b db kb := S.OB
  have OC : OSN prog w h₀ L s.heap cc dc kc := S.OC
  dsimp only at *
  have N := S.N
  (try clear N)
  obtain ⟨_, _, _, _, NN1⟩ := News.osD S.N OA
  obtain ⟨_, _, _, _, NN2⟩ := News.osD NN1 OB
  obtain ⟨_, _, _, _, NN3⟩ := News.osD NN2 OC
  have N := all9_news NN3
  clear NN1 NN2 NN3
  dsimp only [List.cons_append, List.nil_append] at N
  unfold lawR7 pick9
  refine wpAny_execs_cons ?_
  k_steps
  unfold Stop9
  refine wpAny_call (or_code (s := { s with heap := _, toks := _ }) (Cl.re c F) OA OB (by omega) fun x1 d1 h1 tk1 hk1 O1 => ?_)
  dsimp only [PySem.W.CmpBack]
  replace O1 := NewOS.osn O1 F
  replace OA := OSN.kp OA hk1.all
  replace OB := OSN.kp OB hk1.all
  replace OC := OSN.kp OC hk1.all
  replace S := St9.kp S hk1.all
  replace F := Fr.kp9 F hk1.all
  clear hk1
  (try clear N)
  obtain ⟨_, _, _, _, NN1⟩ := News.osD S.N OA
  obtain ⟨_, _, _, _, NN2⟩ := News.osD NN1 OB
  obtain ⟨_, _, _, _, NN3⟩ := News.osD NN2 OC
  obtain ⟨_, _, _, _, NN4⟩ := News.osD NN3 O1
  have N := all9_news NN4
  clear NN1 NN2 NN3 NN4
  dsimp only [List.cons_append, List.nil_append] at N
  k_steps
  unfold Stop9
  refine wpAny_call (or_code (s := { s with heap := _, toks := _ }) (Cl.re c F) O1 OC (by omega) fun x2 d2 h2 tk2 hk2 O2 => ?_)
  dsimp only [PySem.W.CmpBack]
  replace O2 := NewOS.osn O2 F
  clear O1
  replace OA := OSN.kp OA hk2.all
  replace OB := OSN.kp OB hk2.all
  replace OC := OSN.kp OC hk2.all
  replace S := St9.kp S hk2.all
  replace F := Fr.kp9 F hk2.all
  clear hk2
  (try clear N)
  obtain ⟨_, _, _, _, NN1⟩ := News.osD S.N OA
  obtain ⟨_, _, _, _, NN2⟩ := News.osD NN1 OB
  obtain ⟨_, _, _, _, NN3⟩ := News.osD NN2 OC
  obtain ⟨_, _, _, _, NN4⟩ := News.osD NN3 O2
  have N := all9_news NN4
  clear NN1 NN2 NN3 NN4
  dsimp only [List.cons_append, List.nil_append] at N
  have F0 := Stop8.mk F
  k_steps
  unfold Stop9
  (with_reducible rename News _ _ _ _ => N1); (with_reducible rename Fr _ _ _ _ => F1)
  have hkQ := all9_keep F0.out F1 N1 (by (intro _ hp; repeat (first | exact hp | refine List.Mem.tail _ ?_)))
  exact next _ _ _ _ _ F1 ⟨by ((try dsimp only); repeat (first | rfl | with_reducible assumption | rw [if_neg (by decide)] | rw [if_pos rfl])), by ((try dsimp only); repeat (first | rfl | with_reducible assumption | rw [if_neg (by decide)] | rw [if_pos rfl])), by ((try dsimp only); repeat (first | rfl | with_reducible assumption | rw [if_neg (by decide)] | rw [if_pos rfl])), by ((try dsimp only); repeat (first | rfl | with_reducible assumption | rw [if_neg (by decide)] | rw [if_pos rfl]))⟩ (by ((try dsimp only); repeat (first | rfl | with_reducible assumption | rw [if_neg (by decide)] | rw [if_pos rfl]))) (OSN.kpL O2 hkQ) (St9.kpL S hkQ)
end
end Mine
end
theorem Mine.calm9a48 : True ∧ True := by
  w_top off
  (try walk1) <;> (first | exact True.intro | exact ⟨True.intro, True.intro⟩)

/-! part P48 -/
section
open PySem PySem.W PySem.Calls PySem.Spec PyProof.Rows PyProof.Rows.LCg
namespace Mine
theorem fill9af : PySem.Challenge.rw_fs0001_01 = PySem.Challenge.rw_fs0001_01 ∧ ∀ (w : World) h, (hd.heap_39 w.params).In h → True := by
  k_fill
  exact ⟨rfl, fun _ _ _ => trivial⟩

section
variable {prog : Program} {w : World} {p : Program} {loose : List Str} {mean : ExcName → Option Value} {mg mb : Str → Option Value} {A A₀ : Around} {env : Env} {outer : List Env} {base h₀ : Heap} {L : Addr} {m : Str → Option Value} {s : Shared} {news : List (Addr × Obj)} {Q E : Value → Shared → Prop}

local macro_rules | `(tactic| walk_at "execs cons") => `(tactic| (k_here; refine stop9 ?_))
local macro_rules | `(tactic| walk_at "call ref") => `(tactic| (k_here; refine stop9 ?_))
local macro_rules | `(tactic| walk_at "eval Name") => `(tactic| (k_here; k_dflt (refine nameX_L (cl := cellsFrom (_ + 1) lawScope.names []) (by k_asm) (by (first | with_reducible assumption | rfl | (show ite _ _ _ = _; rw [if_neg (by decide)]; with_reducible assumption))) ?_)))
local macro_rules | `(tactic| walk_at "eval Name") => `(tactic| (k_here; k_dflt (refine nameX_C (cl := cellsFrom (_ + 1) lawScope.names []) (by k_asm) (by rfl) (by k_mem) (by with_reducible assumption) ?_)))
local macro_rules | `(tactic| walk_at "eval Name") => `(tactic| (k_here; (with_reducible show wpAny _ _ (eval (Expr.Name _ _) (compEnvC _ _ _ _)) _ _ _); k_dflt (first
  | refine ldOwn9 (by assumption) (by assumption) ?_
  | (refine' ldCell9 ?hc ?hx ?_; (case hx => exact rfl); (case hc => assumption))
  | refine LCgL.ld_global (by k_asm) (by k_asm) (by k_asm) (by k_is) ?_
  | refine LCgL.ld_built (by k_asm) (by k_asm) (by k_asm) (by k_is) (by boot_by_name) (by decide) ?_)))
local macro_rules | `(tactic| walk_at "subscriptTail Name Constant ref int") => `(tactic| (k_here; (with_reducible show wpAny _ _ (subscriptTail (Expr.Name _ _) (Expr.Constant _ _ _) (Value.ref _) (Value.int _ _)) _ _ _); k_dflt (refine' rowItem9 ?kN ?km ?ka ?kb ?ke ?_ ?khs ?khg; (case kN => k_asm); (case km => k_mem); (case ka => decide); (case kb => decide); (case ke => exact rfl); (case khs => with_unfolding_all rfl); (case khg => (intro _; with_unfolding_all rfl)); k_whole)))
local macro_rules | `(tactic| walk_at "pyIter") => `(tactic| (k_here; refine stop9 ?_))
local macro_rules | `(tactic| walk_at "binaryOp Add ref ref") => `(tactic| (k_here; refine stop9 ?_))

local macro_rules | `(tactic| walk_at "compareOp Eq ref ref") => `(tactic| (k_here; (with_reducible show wpAny _ _ (compareOp CmpOp.Eq (Value.ref _) (Value.ref _)) _ _ _); (refine cmp_ofEq ?_); k_dflt (refine' cmp_K ?k1 ?k2 ?k3 ?k4 ?k5 ?k6 ?k7 ?k8 ?_; (case k1 => assumption); (case k2 => k_asm); (case k3 => k_asm); (case k4 => k_inst); (case k5 => k_typeOf); (case k6 => k_is); (case k7 => k_is); (case k8 => k_is); k_whole)))
local macro_rules | `(tactic| walk_at "eval ListComp") => `(tactic| (k_here; refine stop9 ?_))
local macro_rules | `(tactic| walk_at "compareOp NotIn int ref") => `(tactic| (k_here; refine stop9 ?_))
local macro_rules | `(tactic| walk_at "compareOp In int ref") => `(tactic| (k_here; refine stop9 ?_))

local macro_rules | `(tactic| walk_at "call builtin:sorted") => `(tactic| (k_here; refine stop9 ?_))
local macro_rules | `(tactic| walk_at "compareOp NotEq ref ref") => `(tactic| (k_here; refine stop9 ?_))

set_option maxHeartbeats 2000000 in
theorem law8 {fa : Addr} {cd : Value} {z : Ad9} {QF : Flow → Shared → Prop} {x d : Addr} (nE : m nEvery = some (.ref x)) (OE : OSN prog w h₀ L s.heap x d (addA (addA z.ka z.kb) z.kc)) (c : Mine.Cl w p loose mean mg mb A (lawEnv L fa cd) [] A₀ base h₀ L s.heap m) (nm : Nm9 m z) (S : St9 prog w h₀ L z s.heap) (hc : z.o1.data = .cell (some (.ref z.rl)))
    (hdep : A.depth + 60 < recursionLimit) (hu : A.units + 200 < cLine)
    (next : ∀ h tk, Fr h₀ L h m → St9 prog w h₀ L z h → wpAny (model prog w) A (execs lawR9 (lawEnv L fa cd)) QF E { s with heap := h, toks := tk }) :
    wpAny (model prog w) A (execs lawR8 (lawEnv L fa cd)) QF E s := by
  have X := c.X.keeps c.B.stays
  have T := c.T.keeps c.B.stays
  have F := c.F
  have hun : A.units < cLine := by omega
  obtain ⟨n1, n2, n3, n4⟩ := nm
  obtain ⟨a, da, b, db, cc, dc, nl, rl, r0, r1, r2, o1, o2, o3, ka, kb, kc, nums⟩ := z
  have OA : OSN prog w h₀ L s.heap a da ka := S.OA
  have OB : OSN prog w h₀ L s.heap b db kb := S.OB
  have OC : OSN prog w h₀ L s.heap cc dc kc := S.OC
  dsimp only at *
  have N := S.N
  (try clear N)
  obtain ⟨_, _, _, _, NN1⟩ := News.osD S.N OA
  obtain ⟨_, _, _, _, NN2⟩ := News.osD NN1 OB
  obtain ⟨_, _, _, _, NN3⟩ := News.osD NN2 OC
  obtain ⟨_, _, _, _, NN4⟩ := News.osD NN3 OE
  have N := all9_news NN4
  clear NN1 NN2 NN3 NN4
  dsimp only [List.cons_append, List.nil_append] at N
  unfold lawR8 pick9
  refine wpAny_execs_cons ?_
  have F0 := Stop8.mk F
  k_steps
  unfold Stop9
  (with_reducible rename News _ _ _ _ => N1); (with_reducible rename Fr _ _ _ _ => F1)
  have hkQ := all9_keep F0.out F1 N1 (by (intro _ hp; repeat (first | exact hp | refine List.Mem.tail _ ?_)))
  replace OA := OSN.kpL OA hkQ
  replace OB := OSN.kpL OB hkQ
  replace OC := OSN.kpL OC hkQ
  replace OE := OSN.kpL OE hkQ
  replace S := St9.kpL S hkQ
  have M1 := News.hd N1
  clear hkQ F0
  (try clear F)
  have F := F1
  clear F1
  (try clear N1)
  refine call_meth M1 (.head _) ?_
  refine inter2_code (s := { s with heap := _, toks := _ }) (Cl.re c F) OA OB (by omega) fun x1 d1 h1 tk1 rs1 hk1 O1 hrs1 => ?_
  clear M1
  dsimp only [PySem.W.CmpBack]
  replace O1 := NewOS.osn O1 F
  replace OA := OSN.kp OA hk1.all
  replace OB := OSN.kp OB hk1.all
  replace OC := OSN.kp OC hk1.all
  replace OE := OSN.kp OE hk1.all
  replace S := St9.kp S hk1.all
  replace F := Fr.kp9 F hk1.all
  clear hk1
  (try clear N)
  obtain ⟨_, _, _, _, NN1⟩ := News.osD S.N OA
  obtain ⟨_, _, _, _, NN2⟩ := News.osD NN1 OB
  obtain ⟨_, _, _, _, NN3⟩ := News.osD NN2 OC
  obtain ⟨_, _, _, _, NN4⟩ := News.osD NN3 OE
  obtain ⟨_, _, _, _, NN5⟩ := News.osD NN4 O1
  have N := all9_news NN5
  clear NN1 NN2 NN3 NN4 NN5
  dsimp only [List.cons_append, List.nil_append] at N
  k_steps
  unfold Stop9
  refine wpAny_call (sub_code (s := { s with heap := _, toks := _ }) (Cl.re c F) OE O1 (by omega) fun x2 d2 h2 tk2 hk2 O2 => ?_)
  dsimp only [PySem.W.CmpBack]
  replace O2 := NewOS.osn O2 F
  clear O1
  replace OA := OSN.kp OA hk2.all
  replace OB := OSN.kp OB hk2.all
  replace OC := OSN.kp OC hk2.all
  replace OE := OSN.kp OE hk2.all
  replace S := St9.kp S hk2.all
  replace F := Fr.kp9 F hk2.all
  clear hk2
  (try clear N)
  obtain ⟨_, _, _, _, NN1⟩ := News.osD S.N OA
  obtain ⟨_, _, _, _, NN2⟩ := News.osD NN1 OB
  obtain ⟨_, _, _, _, NN3⟩ := News.osD NN2 OC
  obtain ⟨_, _, _, _, NN4⟩ := News.osD NN3 OE
  obtain ⟨_, _, _, _, NN5⟩ := News.osD NN4 O2
  have N := all9_news NN5
  clear NN1 NN2 NN3 NN4 NN5
  dsimp only [List.cons_append, List.nil_append] at N
  k_steps
  unfold Stop9
  refine wpAny_call (sub_code (s := { s with heap := _, toks := _ }) (Cl.re c F) OE OA (by omega) fun x3 d3 h3 tk3 hk3 O3 => ?_)
  dsimp only [PySem.W.CmpBack]
  replace O3 := NewOS.osn O3 F
  replace OA := OSN.kp OA hk3.all
  replace OB := OSN.kp OB hk3.all
  replace OC := OSN.kp OC hk3.all
  replace OE := OSN.kp OE hk3.all
  replace O2 := OSN.kp O2 hk3.all
  replace S := St9.kp S hk3.all
  replace F := Fr.kp9 F hk3.all
  clear hk3
  (try clear N)
  obtain ⟨_, _, _, _, NN1⟩ := News.osD S.N OA
  obtain ⟨_, _, _, _, NN2⟩ := News.osD NN1 OB
  obtain ⟨_, _, _, _, NN3⟩ := News.osD NN2 OC
  obtain ⟨_, _, _, _, NN4⟩ := News.osD NN3 OE
  obtain ⟨_, _, _, _, NN5⟩ := News.osD NN4 O2
  obtain ⟨_, _, _, _, NN6⟩ := News.osD NN5 O3
  have N := all9_news NN6
  clear NN1 NN2 NN3 NN4 NN5 NN6
  dsimp only [List.cons_append, List.nil_append] at N
  k_steps
  unfold Stop9
  refine wpAny_call (sub_code (s := { s with heap := _, toks := _ }) (Cl.re c F) OE OB (by omega) fun x4 d4 h4 tk4 hk4 O4 => ?_)
  dsimp only [PySem.W.CmpBack]
  replace O4 := NewOS.osn O4 F
  replace OA := OSN.kp OA hk4.all
  replace OB := OSN.kp OB hk4.all
  replace OC := OSN.kp OC hk4.all
  replace OE := OSN.kp OE hk4.all
  replace O2 := OSN.kp O2 hk4.all
  replace O3 := OSN.kp O3 hk4.all
  replace S := St9.kp S hk4.all
  replace F := Fr.kp9 F hk4.all
  clear hk4
  (try clear N)
  obtain ⟨_, _, _, _, NN1⟩ := News.osD S.N OA
  obtain ⟨_, _, _, _, NN2⟩ := News.osD NN1 OB
  obtain ⟨_, _, _, _, NN3⟩ := News.osD NN2 OC
  obtain ⟨_, _, _, _, NN4⟩ := News.osD NN3 OE
  obtain ⟨_, _, _, _, NN5⟩ := News.osD NN4 O2
  obtain ⟨_, _, _, _, NN6⟩ := News.osD NN5 O3
  obtain ⟨_, _, _, _, NN7⟩ := News.osD NN6 O4
  have N := all9_news NN7
  clear NN1 NN2 NN3 NN4 NN5 NN6 NN7
  dsimp only [List.cons_append, List.nil_append] at N
  k_steps
  unfold Stop9
  refine wpAny_call (or_code (s := { s with heap := _, toks := _ }) (Cl.re c F) O3 O4 (by omega) fun x5 d5 h5 tk5 hk5 O5 => ?_)
  dsimp only [PySem.W.CmpBack]
  replace O5 := NewOS.osn O5 F
  clear O3
  clear O4
  replace OA := OSN.kp OA hk5.all
  replace OB := OSN.kp OB hk5.all
  replace OC := OSN.kp OC hk5.all
  replace OE := OSN.kp OE hk5.all
  replace O2 := OSN.kp O2 hk5.all
  replace S := St9.kp S hk5.all
  replace F := Fr.kp9 F hk5.all
  clear hk5
  (try clear N)
  obtain ⟨_, _, _, _, NN1⟩ := News.osD S.N OA
  obtain ⟨_, _, _, _, NN2⟩ := News.osD NN1 OB
  obtain ⟨_, _, _, _, NN3⟩ := News.osD NN2 OC
  obtain ⟨_, _, _, _, NN4⟩ := News.osD NN3 OE
  obtain ⟨_, _, _, _, NN5⟩ := News.osD NN4 O2
  obtain ⟨_, _, _, _, NN6⟩ := News.osD NN5 O5
  have N := all9_news NN6
  clear NN1 NN2 NN3 NN4 NN5 NN6
  dsimp only [List.cons_append, List.nil_append] at N
  k_steps
  unfold Stop9
  refine wpAny_call (eq_code (s := { s with heap := _, toks := _ }) (Cl.re c F) O2 O5 (by omega) (by omega) fun h6 tk6 hk6 => ?_)
  rw [show sameS (outA (addA (addA ka kb) kc) rs1) (addA (outA (addA (addA ka kb) kc) ka) (outA (addA (addA ka kb) kc) kb)) = true from sameS_iff.mpr fun i => by
    simp only [hrs1, mem_addA9, mem_outA9]
    by_cases ia : i ∈ ka <;> by_cases ib : i ∈ kb <;> by_cases ic : i ∈ kc <;> simp [ia, ib, ic]]
  dsimp only [PySem.W.CmpBack]
  clear O2
  clear O5
  replace OA := OSN.kp OA hk6.all
  replace OB := OSN.kp OB hk6.all
  replace OC := OSN.kp OC hk6.all
  replace OE := OSN.kp OE hk6.all
  replace S := St9.kp S hk6.all
  replace F := Fr.kp9 F hk6.all
  clear hk6
  (try clear N)
  obtain ⟨_, _, _, _, NN1⟩ := News.osD S.N OA
  obtain ⟨_, _, _, _, NN2⟩ := News.osD NN1 OB
  obtain ⟨_, _, _, _, NN3⟩ := News.osD NN2 OC
  obtain ⟨_, _, _, _, NN4⟩ := News.osD NN3 OE
  have N := all9_news NN4
  clear NN1 NN2 NN3 NN4
  dsimp only [List.cons_append, List.nil_append] at N
  k_steps
  unfold Stop9
  refine wpAny_call (or_code (s := { s with heap := _, toks := _ }) (Cl.re c F) OA OB (by omega) fun x7 d7 h7 tk7 hk7 O7 => ?_)
  dsimp only [PySem.W.CmpBack]
  replace O7 := NewOS.osn O7 F
  replace OA := OSN.kp OA hk7.all
  replace OB := OSN.kp OB hk7.all
  replace OC := OSN.kp OC hk7.all
  replace OE := OSN.kp OE hk7.all
  replace S := St9.kp S hk7.all
  replace F := Fr.kp9 F hk7.all
  clear hk7
  (try clear N)
  obtain ⟨_, _, _, _, NN1⟩ := News.osD S.N OA
  obtain ⟨_, _, _, _, NN2⟩ := News.osD NN1 OB
  obtain ⟨_, _, _, _, NN3⟩ := News.osD NN2 OC
  obtain ⟨_, _, _, _, NN4⟩ := News.osD NN3 OE
  obtain ⟨_, _, _, _, NN5⟩ := News.osD NN4 O7
  have N := all9_news NN5
  clear NN1 NN2 NN3 NN4 NN5
  dsimp only [List.cons_append, List.nil_append] at N
  k_steps
  unfold Stop9
  refine wpAny_call (sub_code (s := { s with heap := _, toks := _ }) (Cl.re c F) OE O7 (by omega) fun x8 d8 h8 tk8 hk8 O8 => ?_)
  dsimp only [PySem.W.CmpBack]
  replace O8 := NewOS.osn O8 F
  clear O7
  replace OA := OSN.kp OA hk8.all
  replace OB := OSN.kp OB hk8.all
  replace OC := OSN.kp OC hk8.all
  replace OE := OSN.kp OE hk8.all
  replace S := St9.kp S hk8.all
  replace F := Fr.kp9 F hk8.all
  clear hk8
  (try clear N)
  obtain ⟨_, _, _, _, NN1⟩ := News.osD S.N OA
  obtain ⟨_, _, _, _, NN2⟩ := News.osD NN1 OB
  obtain ⟨_, _, _, _, NN3⟩ := News.osD NN2 OC
  obtain ⟨_, _, _, _, NN4⟩ := News.osD NN3 OE
  obtain ⟨_, _, _, _, NN5⟩ := News.osD NN4 O8
  have N := all9_news NN5
  clear NN1 NN2 NN3 NN4 NN5
  dsimp only [List.cons_append, List.nil_append] at N
  have F0 := Stop8.mk F
  k_steps
  unfold Stop9
  (with_reducible rename News _ _ _ _ => N1); (with_reducible rename Fr _ _ _ _ => F1)
  have hkQ := all9_keep F0.out F1 N1 (by (intro _ hp; repeat (first | exact hp | refine List.Mem.tail _ ?_)))
  replace OA := OSN.kpL OA hkQ
  replace OB := OSN.kpL OB hkQ
  replace OC := OSN.kpL OC hkQ
  replace OE := OSN.kpL OE hkQ
  replace O8 := OSN.kpL O8 hkQ
  replace S := St9.kpL S hkQ
  have M2 := News.hd N1
  clear hkQ F0
  (try clear F)
  have F := F1
  clear F1
  (try clear N1)
  refine wpAny_call (sub_code (s := { s with heap := _, toks := _ }) (Cl.re c F) OE OA (by omega) fun x9 d9 h9 tk9 hk9 O9 => ?_)
  dsimp only [PySem.W.CmpBack]
  replace O9 := NewOS.osn O9 F
  replace OA := OSN.kp OA hk9.all
  replace OB := OSN.kp OB hk9.all
  replace OC := OSN.kp OC hk9.all
  replace OE := OSN.kp OE hk9.all
  replace O8 := OSN.kp O8 hk9.all
  replace S := St9.kp S hk9.all
  replace M2 := News.kp9 M2 hk9.all
  replace F := Fr.kp9 F hk9.all
  clear hk9
  (try clear N)
  obtain ⟨_, _, _, _, NN1⟩ := News.osD S.N OA
  obtain ⟨_, _, _, _, NN2⟩ := News.osD NN1 OB
  obtain ⟨_, _, _, _, NN3⟩ := News.osD NN2 OC
  obtain ⟨_, _, _, _, NN4⟩ := News.osD NN3 OE
  obtain ⟨_, _, _, _, NN5⟩ := News.osD NN4 O8
  obtain ⟨_, _, _, _, NN6⟩ := News.osD NN5 O9
  have NN7 := News.cc M2 NN6
  have N := all9_news NN7
  clear NN1 NN2 NN3 NN4 NN5 NN6 NN7
  dsimp only [List.cons_append, List.nil_append] at N
  k_steps
  unfold Stop9
  refine wpAny_call (sub_code (s := { s with heap := _, toks := _ }) (Cl.re c F) OE OB (by omega) fun x10 d10 h10 tk10 hk10 O10 => ?_)
  dsimp only [PySem.W.CmpBack]
  replace O10 := NewOS.osn O10 F
  replace OA := OSN.kp OA hk10.all
  replace OB := OSN.kp OB hk10.all
  replace OC := OSN.kp OC hk10.all
  replace OE := OSN.kp OE hk10.all
  replace O8 := OSN.kp O8 hk10.all
  replace O9 := OSN.kp O9 hk10.all
  replace S := St9.kp S hk10.all
  replace M2 := News.kp9 M2 hk10.all
  replace F := Fr.kp9 F hk10.all
  clear hk10
  (try clear N)
  obtain ⟨_, _, _, _, NN1⟩ := News.osD S.N OA
  obtain ⟨_, _, _, _, NN2⟩ := News.osD NN1 OB
  obtain ⟨_, _, _, _, NN3⟩ := News.osD NN2 OC
  obtain ⟨_, _, _, _, NN4⟩ := News.osD NN3 OE
  obtain ⟨_, _, _, _, NN5⟩ := News.osD NN4 O8
  obtain ⟨_, _, _, _, NN6⟩ := News.osD NN5 O9
  obtain ⟨_, _, _, _, NN7⟩ := News.osD NN6 O10
  have NN8 := News.cc M2 NN7
  have N := all9_news NN8
  clear NN1 NN2 NN3 NN4 NN5 NN6 NN7 NN8
  dsimp only [List.cons_append, List.nil_append] at N
  k_steps
  unfold Stop9
  refine call_meth M2 (.head _) ?_
  refine inter2_code (s := { s with heap := _, toks := _ }) (Cl.re c F) O9 O10 (by omega) fun x11 d11 h11 tk11 rs11 hk11 O11 hrs11 => ?_
  clear M2
  dsimp only [PySem.W.CmpBack]
  replace O11 := NewOS.osn O11 F
  clear O9
  clear O10
  replace OA := OSN.kp OA hk11.all
  replace OB := OSN.kp OB hk11.all
  replace OC := OSN.kp OC hk11.all
  replace OE := OSN.kp OE hk11.all
  replace O8 := OSN.kp O8 hk11.all
  replace S := St9.kp S hk11.all
  replace F := Fr.kp9 F hk11.all
  clear hk11
  (try clear N)
  obtain ⟨_, _, _, _, NN1⟩ := News.osD S.N OA
  obtain ⟨_, _, _, _, NN2⟩ := News.osD NN1 OB
  obtain ⟨_, _, _, _, NN3⟩ := News.osD NN2 OC
  obtain ⟨_, _, _, _, NN4⟩ := News.osD NN3 OE
  obtain ⟨_, _, _, _, NN5⟩ := News.osD NN4 O8
  obtain ⟨_, _, _, _, NN6⟩ := News.osD NN5 O11
  have N := all9_news NN6
  clear NN1 NN2 NN3 NN4 NN5 NN6
  dsimp only [List.cons_append, List.nil_append] at N
  k_steps
  unfold Stop9
  refine wpAny_call (eq_code (s := { s with heap := _, toks := _ }) (Cl.re c F) O8 O11 (by omega) (by omega) fun h12 tk12 hk12 => ?_)
  rw [show sameS (outA (addA (addA ka kb) kc) (addA ka kb)) rs11 = true from sameS_iff.mpr fun i => by
    simp only [hrs1, hrs11, mem_addA9, mem_outA9]
    by_cases ia : i ∈ ka <;> by_cases ib : i ∈ kb <;> by_cases ic : i ∈ kc <;> simp [ia, ib, ic]]
  dsimp only [PySem.W.CmpBack]
  clear O8
  clear O11
  replace OA := OSN.kp OA hk12.all
  replace OB := OSN.kp OB hk12.all
  replace OC := OSN.kp OC hk12.all
  replace OE := OSN.kp OE hk12.all
  replace S := St9.kp S hk12.all
  replace F := Fr.kp9 F hk12.all
  clear hk12
  (try clear N)
  obtain ⟨_, _, _, _, NN1⟩ := News.osD S.N OA
  obtain ⟨_, _, _, _, NN2⟩ := News.osD NN1 OB
  obtain ⟨_, _, _, _, NN3⟩ := News.osD NN2 OC
  obtain ⟨_, _, _, _, NN4⟩ := News.osD NN3 OE
  have N := all9_news NN4
  clear NN1 NN2 NN3 NN4
  dsimp only [List.cons_append, List.nil_append] at N
  k_steps
  unfold Stop9
  exact next _ _ F S
end
end Mine
end
theorem Mine.calm9a49 : True ∧ True := by
  w_top off
  (try walk1) <;> (first | exact True.intro | exact ⟨True.intro, True.intro⟩)

/-! part P49 -/
section
open PySem PySem.W PySem.Calls PySem.Spec PyProof.Rows PyProof.Rows.LCg
namespace Mine
theorem fill9ag : PySem.Challenge.rw_fs0001_01 = PySem.Challenge.rw_fs0001_01 ∧ ∀ (w : World) h, (hd.heap_39 w.params).In h → True := by
  k_fill
  exact ⟨rfl, fun _ _ _ => trivial⟩

section
variable {prog : Program} {w : World} {p : Program} {loose : List Str} {mean : ExcName → Option Value} {mg mb : Str → Option Value} {A A₀ : Around} {env : Env} {outer : List Env} {base h₀ : Heap} {L : Addr} {m : Str → Option Value} {s : Shared} {news : List (Addr × Obj)} {Q E : Value → Shared → Prop}

local macro_rules | `(tactic| walk_at "execs cons") => `(tactic| (k_here; refine stop9 ?_))
local macro_rules | `(tactic| walk_at "call ref") => `(tactic| (k_here; refine stop9 ?_))
local macro_rules | `(tactic| walk_at "eval Name") => `(tactic| (k_here; k_dflt (refine nameX_L (cl := cellsFrom (_ + 1) lawScope.names []) (by k_asm) (by (first | with_reducible assumption | rfl | (show ite _ _ _ = _; rw [if_neg (by decide)]; with_reducible assumption))) ?_)))
local macro_rules | `(tactic| walk_at "eval Name") => `(tactic| (k_here; k_dflt (refine nameX_C (cl := cellsFrom (_ + 1) lawScope.names []) (by k_asm) (by rfl) (by k_mem) (by with_reducible assumption) ?_)))
local macro_rules | `(tactic| walk_at "eval Name") => `(tactic| (k_here; (with_reducible show wpAny _ _ (eval (Expr.Name _ _) (compEnvC _ _ _ _)) _ _ _); k_dflt (first
  | refine ldOwn9 (by assumption) (by assumption) ?_
  | (refine' ldCell9 ?hc ?hx ?_; (case hx => exact rfl); (case hc => assumption))
  | refine LCgL.ld_global (by k_asm) (by k_asm) (by k_asm) (by k_is) ?_
  | refine LCgL.ld_built (by k_asm) (by k_asm) (by k_asm) (by k_is) (by boot_by_name) (by decide) ?_)))
local macro_rules | `(tactic| walk_at "subscriptTail Name Constant ref int") => `(tactic| (k_here; (with_reducible show wpAny _ _ (subscriptTail (Expr.Name _ _) (Expr.Constant _ _ _) (Value.ref _) (Value.int _ _)) _ _ _); k_dflt (refine' rowItem9 ?kN ?km ?ka ?kb ?ke ?_ ?khs ?khg; (case kN => k_asm); (case km => k_mem); (case ka => decide); (case kb => decide); (case ke => exact rfl); (case khs => with_unfolding_all rfl); (case khg => (intro _; with_unfolding_all rfl)); k_whole)))
local macro_rules | `(tactic| walk_at "pyIter") => `(tactic| (k_here; refine stop9 ?_))
local macro_rules | `(tactic| walk_at "binaryOp Add ref ref") => `(tactic| (k_here; refine stop9 ?_))

local macro_rules | `(tactic| walk_at "compareOp Eq ref ref") => `(tactic| (k_here; (with_reducible show wpAny _ _ (compareOp CmpOp.Eq (Value.ref _) (Value.ref _)) _ _ _); (refine cmp_ofEq ?_); k_dflt (refine' cmp_K ?k1 ?k2 ?k3 ?k4 ?k5 ?k6 ?k7 ?k8 ?_; (case k1 => assumption); (case k2 => k_asm); (case k3 => k_asm); (case k4 => k_inst); (case k5 => k_typeOf); (case k6 => k_is); (case k7 => k_is); (case k8 => k_is); k_whole)))
local macro_rules | `(tactic| walk_at "eval ListComp") => `(tactic| (k_here; refine stop9 ?_))
local macro_rules | `(tactic| walk_at "compareOp NotIn int ref") => `(tactic| (k_here; refine stop9 ?_))
local macro_rules | `(tactic| walk_at "compareOp In int ref") => `(tactic| (k_here; refine stop9 ?_))

local macro_rules | `(tactic| walk_at "call builtin:sorted") => `(tactic| (k_here; refine stop9 ?_))
local macro_rules | `(tactic| walk_at "compareOp NotEq ref ref") => `(tactic| (k_here; refine stop9 ?_))

set_option maxHeartbeats 2000000 in
theorem law10 {fa : Addr} {cd : Value} {z : Ad9} {QF : Flow → Shared → Prop} (c : Mine.Cl w p loose mean mg mb A (lawEnv L fa cd) [] A₀ base h₀ L s.heap m) (nm : Nm9 m z) (S : St9 prog w h₀ L z s.heap) (hc : z.o1.data = .cell (some (.ref z.rl)))
    (hdep : A.depth + 60 < recursionLimit) (hu : A.units + 200 < cLine)
    (next : ∀ h tk, Fr h₀ L h m → St9 prog w h₀ L z h → wpAny (model prog w) A (execs lawR11 (lawEnv L fa cd)) QF E { s with heap := h, toks := tk }) :
    wpAny (model prog w) A (execs lawR10 (lawEnv L fa cd)) QF E s := by
  have X := c.X.keeps c.B.stays
  have T := c.T.keeps c.B.stays
  have F := c.F
  have hun : A.units < cLine := by omega
  obtain ⟨n1, n2, n3, n4⟩ := nm
  obtain ⟨a, da, b, db, cc, dc, nl, rl, r0, r1, r2, o1, o2, o3, ka, kb, kc, nums⟩ := z
  have OA : OSN prog w h₀ L s.heap a da ka := S.OA
  have OB : OSN prog w h₀ L s.heap b db kb := S.OB
  have OC : OSN prog w h₀ L s.heap cc dc kc := S.OC
  dsimp only at *
  have N := S.N
  (try clear N)
  obtain ⟨_, _, _, _, NN1⟩ := News.osD S.N OA
  obtain ⟨_, _, _, _, NN2⟩ := News.osD NN1 OB
  obtain ⟨_, _, _, _, NN3⟩ := News.osD NN2 OC
  have N := all9_news NN3
  clear NN1 NN2 NN3
  dsimp only [List.cons_append, List.nil_append] at N
  unfold lawR10 pick9
  refine wpAny_execs_cons ?_
  k_steps
  unfold Stop9
  refine wpAny_call (or_code (s := { s with heap := _, toks := _ }) (Cl.re c F) OA OB (by omega) fun x1 d1 h1 tk1 hk1 O1 => ?_)
  dsimp only [PySem.W.CmpBack]
  replace O1 := NewOS.osn O1 F
  replace OA := OSN.kp OA hk1.all
  replace OB := OSN.kp OB hk1.all
  replace OC := OSN.kp OC hk1.all
  replace S := St9.kp S hk1.all
  replace F := Fr.kp9 F hk1.all
  clear hk1
  (try clear N)
  obtain ⟨_, _, _, _, NN1⟩ := News.osD S.N OA
  obtain ⟨_, _, _, _, NN2⟩ := News.osD NN1 OB
  obtain ⟨_, _, _, _, NN3⟩ := News.osD NN2 OC
  obtain ⟨_, _, _, _, NN4⟩ := News.osD NN3 O1
  have N := all9_news NN4
  clear NN1 NN2 NN3 NN4
  dsimp only [List.cons_append, List.nil_append] at N
  k_steps
  unfold Stop9
  refine wpAny_call (or_code (s := { s with heap := _, toks := _ }) (Cl.re c F) OB OA (by omega) fun x2 d2 h2 tk2 hk2 O2 => ?_)
  dsimp only [PySem.W.CmpBack]
  replace O2 := NewOS.osn O2 F
  replace OA := OSN.kp OA hk2.all
  replace OB := OSN.kp OB hk2.all
  replace OC := OSN.kp OC hk2.all
  replace O1 := OSN.kp O1 hk2.all
  replace S := St9.kp S hk2.all
  replace F := Fr.kp9 F hk2.all
  clear hk2
  (try clear N)
  obtain ⟨_, _, _, _, NN1⟩ := News.osD S.N OA
  obtain ⟨_, _, _, _, NN2⟩ := News.osD NN1 OB
  obtain ⟨_, _, _, _, NN3⟩ := News.osD NN2 OC
  obtain ⟨_, _, _, _, NN4⟩ := News.osD NN3 O1
  obtain ⟨_, _, _, _, NN5⟩ := News.osD NN4 O2
  have N := all9_news NN5
  clear NN1 NN2 NN3 NN4 NN5
  dsimp only [List.cons_append, List.nil_append] at N
  k_steps
  unfold Stop9
  refine wpAny_call (eq_code (s := { s with heap := _, toks := _ }) (Cl.re c F) O1 O2 (by omega) (by omega) fun h3 tk3 hk3 => ?_)
  rw [show sameS (addA ka kb) (addA kb ka) = true from sameS_iff.mpr fun i => by
    simp only [mem_addA9, mem_outA9]
    by_cases ia : i ∈ ka <;> by_cases ib : i ∈ kb <;> by_cases ic : i ∈ kc <;> simp [ia, ib, ic]]
  dsimp only [PySem.W.CmpBack]
  clear O1
  clear O2
  replace OA := OSN.kp OA hk3.all
  replace OB := OSN.kp OB hk3.all
  replace OC := OSN.kp OC hk3.all
  replace S := St9.kp S hk3.all
  replace F := Fr.kp9 F hk3.all
  clear hk3
  (try clear N)
  obtain ⟨_, _, _, _, NN1⟩ := News.osD S.N OA
  obtain ⟨_, _, _, _, NN2⟩ := News.osD NN1 OB
  obtain ⟨_, _, _, _, NN3⟩ := News.osD NN2 OC
  have N := all9_news NN3
  clear NN1 NN2 NN3
  dsimp only [List.cons_append, List.nil_append] at N
  have F0 := Stop8.mk F
  k_steps
  unfold Stop9
  (with_reducible rename News _ _ _ _ => N1); (with_reducible rename Fr _ _ _ _ => F1)
  have hkQ := all9_keep F0.out F1 N1 (by (intro _ hp; repeat (first | exact hp | refine List.Mem.tail _ ?_)))
  replace OA := OSN.kpL OA hkQ
  replace OB := OSN.kpL OB hkQ
  replace OC := OSN.kpL OC hkQ
  replace S := St9.kpL S hkQ
  have M1 := News.hd N1
  clear hkQ F0
  (try clear F)
  have F := F1
  clear F1
  (try clear N1)
  refine wpAny_call (or_code (s := { s with heap := _, toks := _ }) (Cl.re c F) OB OC (by omega) fun x4 d4 h4 tk4 hk4 O4 => ?_)
  dsimp only [PySem.W.CmpBack]
  replace O4 := NewOS.osn O4 F
  replace OA := OSN.kp OA hk4.all
  replace OB := OSN.kp OB hk4.all
  replace OC := OSN.kp OC hk4.all
  replace S := St9.kp S hk4.all
  replace M1 := News.kp9 M1 hk4.all
  replace F := Fr.kp9 F hk4.all
  clear hk4
  (try clear N)
  obtain ⟨_, _, _, _, NN1⟩ := News.osD S.N OA
  obtain ⟨_, _, _, _, NN2⟩ := News.osD NN1 OB
  obtain ⟨_, _, _, _, NN3⟩ := News.osD NN2 OC
  obtain ⟨_, _, _, _, NN4⟩ := News.osD NN3 O4
  have NN5 := News.cc M1 NN4
  have N := all9_news NN5
  clear NN1 NN2 NN3 NN4 NN5
  dsimp only [List.cons_append, List.nil_append] at N
  k_steps
  unfold Stop9
  refine call_meth M1 (.head _) ?_
  refine inter2_code (s := { s with heap := _, toks := _ }) (Cl.re c F) OA O4 (by omega) fun x5 d5 h5 tk5 rs5 hk5 O5 hrs5 => ?_
  clear M1
  dsimp only [PySem.W.CmpBack]
  replace O5 := NewOS.osn O5 F
  clear O4
  replace OA := OSN.kp OA hk5.all
  replace OB := OSN.kp OB hk5.all
  replace OC := OSN.kp OC hk5.all
  replace S := St9.kp S hk5.all
  replace F := Fr.kp9 F hk5.all
  clear hk5
  (try clear N)
  obtain ⟨_, _, _, _, NN1⟩ := News.osD S.N OA
  obtain ⟨_, _, _, _, NN2⟩ := News.osD NN1 OB
  obtain ⟨_, _, _, _, NN3⟩ := News.osD NN2 OC
  obtain ⟨_, _, _, _, NN4⟩ := News.osD NN3 O5
  have N := all9_news NN4
  clear NN1 NN2 NN3 NN4
  dsimp only [List.cons_append, List.nil_append] at N
  have F0 := Stop8.mk F
  k_steps
  unfold Stop9
  (with_reducible rename News _ _ _ _ => N1); (with_reducible rename Fr _ _ _ _ => F1)
  have hkQ := all9_keep F0.out F1 N1 (by (intro _ hp; repeat (first | exact hp | refine List.Mem.tail _ ?_)))
  replace OA := OSN.kpL OA hkQ
  replace OB := OSN.kpL OB hkQ
  replace OC := OSN.kpL OC hkQ
  replace O5 := OSN.kpL O5 hkQ
  replace S := St9.kpL S hkQ
  have M2 := News.hd N1
  clear hkQ F0
  (try clear F)
  have F := F1
  clear F1
  (try clear N1)
  refine call_meth M2 (.head _) ?_
  refine inter2_code (s := { s with heap := _, toks := _ }) (Cl.re c F) OA OB (by omega) fun x6 d6 h6 tk6 rs6 hk6 O6 hrs6 => ?_
  clear M2
  dsimp only [PySem.W.CmpBack]
  replace O6 := NewOS.osn O6 F
  replace OA := OSN.kp OA hk6.all
  replace OB := OSN.kp OB hk6.all
  replace OC := OSN.kp OC hk6.all
  replace O5 := OSN.kp O5 hk6.all
  replace S := St9.kp S hk6.all
  replace F := Fr.kp9 F hk6.all
  clear hk6
  (try clear N)
  obtain ⟨_, _, _, _, NN1⟩ := News.osD S.N OA
  obtain ⟨_, _, _, _, NN2⟩ := News.osD NN1 OB
  obtain ⟨_, _, _, _, NN3⟩ := News.osD NN2 OC
  obtain ⟨_, _, _, _, NN4⟩ := News.osD NN3 O5
  obtain ⟨_, _, _, _, NN5⟩ := News.osD NN4 O6
  have N := all9_news NN5
  clear NN1 NN2 NN3 NN4 NN5
  dsimp only [List.cons_append, List.nil_append] at N
  have F0 := Stop8.mk F
  k_steps
  unfold Stop9
  (with_reducible rename News _ _ _ _ => N1); (with_reducible rename Fr _ _ _ _ => F1)
  have hkQ := all9_keep F0.out F1 N1 (by (intro _ hp; repeat (first | exact hp | refine List.Mem.tail _ ?_)))
  replace OA := OSN.kpL OA hkQ
  replace OB := OSN.kpL OB hkQ
  replace OC := OSN.kpL OC hkQ
  replace O5 := OSN.kpL O5 hkQ
  replace O6 := OSN.kpL O6 hkQ
  replace S := St9.kpL S hkQ
  have M3 := News.hd N1
  clear hkQ F0
  (try clear F)
  have F := F1
  clear F1
  (try clear N1)
  refine call_meth M3 (.head _) ?_
  refine inter2_code (s := { s with heap := _, toks := _ }) (Cl.re c F) OA OC (by omega) fun x7 d7 h7 tk7 rs7 hk7 O7 hrs7 => ?_
  clear M3
  dsimp only [PySem.W.CmpBack]
  replace O7 := NewOS.osn O7 F
  replace OA := OSN.kp OA hk7.all
  replace OB := OSN.kp OB hk7.all
  replace OC := OSN.kp OC hk7.all
  replace O5 := OSN.kp O5 hk7.all
  replace O6 := OSN.kp O6 hk7.all
  replace S := St9.kp S hk7.all
  replace F := Fr.kp9 F hk7.all
  clear hk7
  (try clear N)
  obtain ⟨_, _, _, _, NN1⟩ := News.osD S.N OA
  obtain ⟨_, _, _, _, NN2⟩ := News.osD NN1 OB
  obtain ⟨_, _, _, _, NN3⟩ := News.osD NN2 OC
  obtain ⟨_, _, _, _, NN4⟩ := News.osD NN3 O5
  obtain ⟨_, _, _, _, NN5⟩ := News.osD NN4 O6
  obtain ⟨_, _, _, _, NN6⟩ := News.osD NN5 O7
  have N := all9_news NN6
  clear NN1 NN2 NN3 NN4 NN5 NN6
  dsimp only [List.cons_append, List.nil_append] at N
  k_steps
  unfold Stop9
  refine wpAny_call (or_code (s := { s with heap := _, toks := _ }) (Cl.re c F) O6 O7 (by omega) fun x8 d8 h8 tk8 hk8 O8 => ?_)
  dsimp only [PySem.W.CmpBack]
  replace O8 := NewOS.osn O8 F
  clear O6
  clear O7
  replace OA := OSN.kp OA hk8.all
  replace OB := OSN.kp OB hk8.all
  replace OC := OSN.kp OC hk8.all
  replace O5 := OSN.kp O5 hk8.all
  replace S := St9.kp S hk8.all
  replace F := Fr.kp9 F hk8.all
  clear hk8
  (try clear N)
  obtain ⟨_, _, _, _, NN1⟩ := News.osD S.N OA
  obtain ⟨_, _, _, _, NN2⟩ := News.osD NN1 OB
  obtain ⟨_, _, _, _, NN3⟩ := News.osD NN2 OC
  obtain ⟨_, _, _, _, NN4⟩ := News.osD NN3 O5
  obtain ⟨_, _, _, _, NN5⟩ := News.osD NN4 O8
  have N := all9_news NN5
  clear NN1 NN2 NN3 NN4 NN5
  dsimp only [List.cons_append, List.nil_append] at N
  k_steps
  unfold Stop9
  refine wpAny_call (eq_code (s := { s with heap := _, toks := _ }) (Cl.re c F) O5 O8 (by omega) (by omega) fun h9 tk9 hk9 => ?_)
  rw [show sameS rs5 (addA rs6 rs7) = true from sameS_iff.mpr fun i => by
    simp only [hrs5, hrs6, hrs7, mem_addA9, mem_outA9]
    by_cases ia : i ∈ ka <;> by_cases ib : i ∈ kb <;> by_cases ic : i ∈ kc <;> simp [ia, ib, ic]]
  dsimp only [PySem.W.CmpBack]
  clear O5
  clear O8
  replace OA := OSN.kp OA hk9.all
  replace OB := OSN.kp OB hk9.all
  replace OC := OSN.kp OC hk9.all
  replace S := St9.kp S hk9.all
  replace F := Fr.kp9 F hk9.all
  clear hk9
  (try clear N)
  obtain ⟨_, _, _, _, NN1⟩ := News.osD S.N OA
  obtain ⟨_, _, _, _, NN2⟩ := News.osD NN1 OB
  obtain ⟨_, _, _, _, NN3⟩ := News.osD NN2 OC
  have N := all9_news NN3
  clear NN1 NN2 NN3
  dsimp only [List.cons_append, List.nil_append] at N
  k_steps
  unfold Stop9
  exact next _ _ F S
end
end Mine
end
theorem Mine.calm9a50 : True ∧ True := by
  w_top off
  (try walk1) <;> (first | exact True.intro | exact ⟨True.intro, True.intro⟩)

/-! part P50 -/
section
open PySem PySem.W PySem.Calls PySem.Spec PyProof.Rows PyProof.Rows.LCg
namespace Mine
theorem fill9ah : PySem.Challenge.rw_fs0001_01 = PySem.Challenge.rw_fs0001_01 ∧ ∀ (w : World) h, (hd.heap_39 w.params).In h → True := by
  k_fill
  exact ⟨rfl, fun _ _ _ => trivial⟩

section
variable {prog : Program} {w : World} {p : Program} {loose : List Str} {mean : ExcName → Option Value} {mg mb : Str → Option Value} {A A₀ : Around} {env : Env} {outer : List Env} {base h₀ : Heap} {L : Addr} {m : Str → Option Value} {s : Shared} {news : List (Addr × Obj)} {Q E : Value → Shared → Prop}

theorem same_sorted {ka kb ns ms : List Int} (ha : ka.Nodup) (hb : kb.Nodup) (p : ns.Perm ka) (q : ms.Perm kb) (so : ns.Pairwise (· ≤ ·)) (sp : ms.Pairwise (· ≤ ·)) : decide (ns = ms) = sameS ka kb := by
  rw [Bool.eq_iff_iff, decide_eq_true_iff, sameS_iff]
  constructor
  · rintro rfl k
    exact (p.symm.trans q).mem_iff
  · intro h
    exact List.Perm.eq_of_pairwise (fun x y _ _ h1 h2 => Int.le_antisymm h1 h2) so sp (p.trans ((perm_mem9 ha hb h).trans q.symm))
local macro_rules | `(tactic| walk_at "execs cons") => `(tactic| (k_here; refine stop9 ?_))
local macro_rules | `(tactic| walk_at "call ref") => `(tactic| (k_here; refine stop9 ?_))
local macro_rules | `(tactic| walk_at "eval Name") => `(tactic| (k_here; k_dflt (refine nameX_L (cl := cellsFrom (_ + 1) lawScope.names []) (by k_asm) (by (first | with_reducible assumption | rfl | (show ite _ _ _ = _; rw [if_neg (by decide)]; with_reducible assumption))) ?_)))
local macro_rules | `(tactic| walk_at "eval Name") => `(tactic| (k_here; k_dflt (refine nameX_C (cl := cellsFrom (_ + 1) lawScope.names []) (by k_asm) (by rfl) (by k_mem) (by with_reducible assumption) ?_)))
local macro_rules | `(tactic| walk_at "eval Name") => `(tactic| (k_here; (with_reducible show wpAny _ _ (eval (Expr.Name _ _) (compEnvC _ _ _ _)) _ _ _); k_dflt (first
  | refine ldOwn9 (by assumption) (by assumption) ?_
  | (refine' ldCell9 ?hc ?hx ?_; (case hx => exact rfl); (case hc => assumption))
  | refine LCgL.ld_global (by k_asm) (by k_asm) (by k_asm) (by k_is) ?_
  | refine LCgL.ld_built (by k_asm) (by k_asm) (by k_asm) (by k_is) (by boot_by_name) (by decide) ?_)))
local macro_rules | `(tactic| walk_at "subscriptTail Name Constant ref int") => `(tactic| (k_here; (with_reducible show wpAny _ _ (subscriptTail (Expr.Name _ _) (Expr.Constant _ _ _) (Value.ref _) (Value.int _ _)) _ _ _); k_dflt (refine' rowItem9 ?kN ?km ?ka ?kb ?ke ?_ ?khs ?khg; (case kN => k_asm); (case km => k_mem); (case ka => decide); (case kb => decide); (case ke => exact rfl); (case khs => with_unfolding_all rfl); (case khg => (intro _; with_unfolding_all rfl)); k_whole)))
local macro_rules | `(tactic| walk_at "pyIter") => `(tactic| (k_here; refine stop9 ?_))
local macro_rules | `(tactic| walk_at "binaryOp Add ref ref") => `(tactic| (k_here; refine stop9 ?_))

local macro_rules | `(tactic| walk_at "compareOp Eq ref ref") => `(tactic| (k_here; (with_reducible show wpAny _ _ (compareOp CmpOp.Eq (Value.ref _) (Value.ref _)) _ _ _); (refine cmp_ofEq ?_); k_dflt (refine' cmp_K ?k1 ?k2 ?k3 ?k4 ?k5 ?k6 ?k7 ?k8 ?_; (case k1 => assumption); (case k2 => k_asm); (case k3 => k_asm); (case k4 => k_inst); (case k5 => k_typeOf); (case k6 => k_is); (case k7 => k_is); (case k8 => k_is); k_whole)))
local macro_rules | `(tactic| walk_at "eval ListComp") => `(tactic| (k_here; refine stop9 ?_))
local macro_rules | `(tactic| walk_at "compareOp NotIn int ref") => `(tactic| (k_here; refine stop9 ?_))
local macro_rules | `(tactic| walk_at "compareOp In int ref") => `(tactic| (k_here; refine stop9 ?_))

local macro_rules | `(tactic| walk_at "call builtin:sorted") => `(tactic| (k_here; refine stop9 ?_))
local macro_rules | `(tactic| walk_at "compareOp NotEq ref ref") => `(tactic| (k_here; refine stop9 ?_))

local macro_rules | `(tactic| walk_at "compareOp Eq ref ref") => `(tactic| (k_here; (with_reducible show wpAny _ _ (compareOp CmpOp.Eq (Value.ref _) (Value.ref _)) _ _ _); first
  | ((with_reducible rename Stop8 True => mk9); refine stop9 ?_)
  | ((refine cmp_ofEq ?_); k_dflt (refine' cmp_K ?k1 ?k2 ?k3 ?k4 ?k5 ?k6 ?k7 ?k8 ?_; (case k1 => assumption); (case k2 => k_asm); (case k3 => k_asm); (case k4 => k_inst); (case k5 => k_typeOf); (case k6 => k_is); (case k7 => k_is); (case k8 => k_is); k_whole))
  | refine stop9 ?_))
local macro_rules | `(tactic| walk_at "compareOp NotEq bool bool") => `(tactic| (k_here; refine stop9 ?_))

set_option maxHeartbeats 2000000 in
theorem law9 {fa : Addr} {cd : Value} {z : Ad9} {QF : Flow → Shared → Prop} (hka : z.ka.length ≤ 10) (hkb : z.kb.length ≤ 10) (c : Mine.Cl w p loose mean mg mb A (lawEnv L fa cd) [] A₀ base h₀ L s.heap m) (nm : Nm9 m z) (S : St9 prog w h₀ L z s.heap) (hc : z.o1.data = .cell (some (.ref z.rl)))
    (hdep : A.depth + 60 < recursionLimit) (hu : A.units + 200 < cLine)
    (next : ∀ h tk, Fr h₀ L h m → St9 prog w h₀ L z h → wpAny (model prog w) A (execs lawR10 (lawEnv L fa cd)) QF E { s with heap := h, toks := tk }) :
    wpAny (model prog w) A (execs lawR9 (lawEnv L fa cd)) QF E s := by
  have X := c.X.keeps c.B.stays
  have T := c.T.keeps c.B.stays
  have F := c.F
  have hun : A.units < cLine := by omega
  obtain ⟨n1, n2, n3, n4⟩ := nm
  obtain ⟨a, da, b, db, cc, dc, nl, rl, r0, r1, r2, o1, o2, o3, ka, kb, kc, nums⟩ := z
  have OA : OSN prog w h₀ L s.heap a da ka := S.OA
  have OB : OSN prog w h₀ L s.heap b db kb := S.OB
  have OC : OSN prog w h₀ L s.heap cc dc kc := S.OC
  dsimp only at *
  have N := S.N
  (try clear N)
  obtain ⟨_, _, _, _, NN1⟩ := News.osD S.N OA
  obtain ⟨_, _, _, _, NN2⟩ := News.osD NN1 OB
  obtain ⟨_, _, _, _, NN3⟩ := News.osD NN2 OC
  have N := all9_news NN3
  clear NN1 NN2 NN3
  dsimp only [List.cons_append, List.nil_append] at N
  unfold lawR9 pick9
  refine wpAny_execs_cons ?_
  k_steps
  unfold Stop9
  refine wpAny_call (sub_code (s := { s with heap := _, toks := _ }) (Cl.re c F) OB OC (by omega) fun x1 d1 h1 tk1 hk1 O1 => ?_)
  dsimp only [PySem.W.CmpBack]
  replace O1 := NewOS.osn O1 F
  replace OA := OSN.kp OA hk1.all
  replace OB := OSN.kp OB hk1.all
  replace OC := OSN.kp OC hk1.all
  replace S := St9.kp S hk1.all
  replace F := Fr.kp9 F hk1.all
  clear hk1
  (try clear N)
  obtain ⟨_, _, _, _, NN1⟩ := News.osD S.N OA
  obtain ⟨_, _, _, _, NN2⟩ := News.osD NN1 OB
  obtain ⟨_, _, _, _, NN3⟩ := News.osD NN2 OC
  obtain ⟨_, _, _, _, NN4⟩ := News.osD NN3 O1
  have N := all9_news NN4
  clear NN1 NN2 NN3 NN4
  dsimp only [List.cons_append, List.nil_append] at N
  k_steps
  unfold Stop9
  refine wpAny_call (sub_code (s := { s with heap := _, toks := _ }) (Cl.re c F) OA O1 (by omega) fun x2 d2 h2 tk2 hk2 O2 => ?_)
  dsimp only [PySem.W.CmpBack]
  replace O2 := NewOS.osn O2 F
  clear O1
  replace OA := OSN.kp OA hk2.all
  replace OB := OSN.kp OB hk2.all
  replace OC := OSN.kp OC hk2.all
  replace S := St9.kp S hk2.all
  replace F := Fr.kp9 F hk2.all
  clear hk2
  (try clear N)
  obtain ⟨_, _, _, _, NN1⟩ := News.osD S.N OA
  obtain ⟨_, _, _, _, NN2⟩ := News.osD NN1 OB
  obtain ⟨_, _, _, _, NN3⟩ := News.osD NN2 OC
  obtain ⟨_, _, _, _, NN4⟩ := News.osD NN3 O2
  have N := all9_news NN4
  clear NN1 NN2 NN3 NN4
  dsimp only [List.cons_append, List.nil_append] at N
  k_steps
  unfold Stop9
  refine wpAny_call (sub_code (s := { s with heap := _, toks := _ }) (Cl.re c F) OA OB (by omega) fun x3 d3 h3 tk3 hk3 O3 => ?_)
  dsimp only [PySem.W.CmpBack]
  replace O3 := NewOS.osn O3 F
  replace OA := OSN.kp OA hk3.all
  replace OB := OSN.kp OB hk3.all
  replace OC := OSN.kp OC hk3.all
  replace O2 := OSN.kp O2 hk3.all
  replace S := St9.kp S hk3.all
  replace F := Fr.kp9 F hk3.all
  clear hk3
  (try clear N)
  obtain ⟨_, _, _, _, NN1⟩ := News.osD S.N OA
  obtain ⟨_, _, _, _, NN2⟩ := News.osD NN1 OB
  obtain ⟨_, _, _, _, NN3⟩ := News.osD NN2 OC
  obtain ⟨_, _, _, _, NN4⟩ := News.osD NN3 O2
  obtain ⟨_, _, _, _, NN5⟩ := News.osD NN4 O3
  have N := all9_news NN5
  clear NN1 NN2 NN3 NN4 NN5
  dsimp only [List.cons_append, List.nil_append] at N
  have F0 := Stop8.mk F
  k_steps
  unfold Stop9
  (with_reducible rename News _ _ _ _ => N1); (with_reducible rename Fr _ _ _ _ => F1)
  have hkQ := all9_keep F0.out F1 N1 (by (intro _ hp; repeat (first | exact hp | refine List.Mem.tail _ ?_)))
  replace OA := OSN.kpL OA hkQ
  replace OB := OSN.kpL OB hkQ
  replace OC := OSN.kpL OC hkQ
  replace O2 := OSN.kpL O2 hkQ
  replace O3 := OSN.kpL O3 hkQ
  replace S := St9.kpL S hkQ
  have M1 := News.hd N1
  clear hkQ F0
  (try clear F)
  have F := F1
  clear F1
  (try clear N1)
  refine call_meth M1 (.head _) ?_
  refine inter2_code (s := { s with heap := _, toks := _ }) (Cl.re c F) OA OC (by omega) fun x4 d4 h4 tk4 rs4 hk4 O4 hrs4 => ?_
  clear M1
  dsimp only [PySem.W.CmpBack]
  replace O4 := NewOS.osn O4 F
  replace OA := OSN.kp OA hk4.all
  replace OB := OSN.kp OB hk4.all
  replace OC := OSN.kp OC hk4.all
  replace O2 := OSN.kp O2 hk4.all
  replace O3 := OSN.kp O3 hk4.all
  replace S := St9.kp S hk4.all
  replace F := Fr.kp9 F hk4.all
  clear hk4
  (try clear N)
  obtain ⟨_, _, _, _, NN1⟩ := News.osD S.N OA
  obtain ⟨_, _, _, _, NN2⟩ := News.osD NN1 OB
  obtain ⟨_, _, _, _, NN3⟩ := News.osD NN2 OC
  obtain ⟨_, _, _, _, NN4⟩ := News.osD NN3 O2
  obtain ⟨_, _, _, _, NN5⟩ := News.osD NN4 O3
  obtain ⟨_, _, _, _, NN6⟩ := News.osD NN5 O4
  have N := all9_news NN6
  clear NN1 NN2 NN3 NN4 NN5 NN6
  dsimp only [List.cons_append, List.nil_append] at N
  k_steps
  unfold Stop9
  refine wpAny_call (or_code (s := { s with heap := _, toks := _ }) (Cl.re c F) O3 O4 (by omega) fun x5 d5 h5 tk5 hk5 O5 => ?_)
  dsimp only [PySem.W.CmpBack]
  replace O5 := NewOS.osn O5 F
  clear O3
  clear O4
  replace OA := OSN.kp OA hk5.all
  replace OB := OSN.kp OB hk5.all
  replace OC := OSN.kp OC hk5.all
  replace O2 := OSN.kp O2 hk5.all
  replace S := St9.kp S hk5.all
  replace F := Fr.kp9 F hk5.all
  clear hk5
  (try clear N)
  obtain ⟨_, _, _, _, NN1⟩ := News.osD S.N OA
  obtain ⟨_, _, _, _, NN2⟩ := News.osD NN1 OB
  obtain ⟨_, _, _, _, NN3⟩ := News.osD NN2 OC
  obtain ⟨_, _, _, _, NN4⟩ := News.osD NN3 O2
  obtain ⟨_, _, _, _, NN5⟩ := News.osD NN4 O5
  have N := all9_news NN5
  clear NN1 NN2 NN3 NN4 NN5
  dsimp only [List.cons_append, List.nil_append] at N
  k_steps
  unfold Stop9
  refine wpAny_call (eq_code (s := { s with heap := _, toks := _ }) (Cl.re c F) O2 O5 (by omega) (by omega) fun h6 tk6 hk6 => ?_)
  rw [show sameS (outA ka (outA kb kc)) (addA (outA ka kb) rs4) = true from sameS_iff.mpr fun i => by
    simp only [hrs4, mem_addA9, mem_outA9]
    by_cases ia : i ∈ ka <;> by_cases ib : i ∈ kb <;> by_cases ic : i ∈ kc <;> simp [ia, ib, ic]]
  dsimp only [PySem.W.CmpBack]
  clear O2
  clear O5
  replace OA := OSN.kp OA hk6.all
  replace OB := OSN.kp OB hk6.all
  replace OC := OSN.kp OC hk6.all
  replace S := St9.kp S hk6.all
  replace F := Fr.kp9 F hk6.all
  clear hk6
  (try clear N)
  obtain ⟨_, _, _, _, NN1⟩ := News.osD S.N OA
  obtain ⟨_, _, _, _, NN2⟩ := News.osD NN1 OB
  obtain ⟨_, _, _, _, NN3⟩ := News.osD NN2 OC
  have N := all9_news NN3
  clear NN1 NN2 NN3
  dsimp only [List.cons_append, List.nil_append] at N
  have hna := OSN.nodup (s := { s with heap := _ }) OA
  have hnb := OSN.nodup (s := { s with heap := _ }) OB
  k_steps
  unfold Stop9
  refine wpAny_call (eq_code (s := { s with heap := _, toks := _ }) (Cl.re c F) OA OB (by omega) (by omega) fun h20 tk20 hk20 => ?_)
  dsimp only [PySem.W.CmpBack]
  replace S := S.kp hk20.all; replace F := Fr.kp9 F hk20.all
  clear OA OB OC hk20
  (try clear N)
  have N := all9_news S.N
  dsimp only [List.cons_append, List.nil_append] at N
  have F0 := Stop8.mk F
  k_steps
  unfold Stop9
  obtain ⟨o5, v5, N5, ho5, hi5⟩ := S.R0
  refine kso_sorted (s := { s with heap := h20, toks := _ }) F (all9_news N5) (ho5.at (N5 _ (.head _)).1) hi5 (by have := hka; show ka.length < _; omega) fun D6 vs6 ns6 n6 h6 F6 N6 _ hi6 _ p6 so6 _ => ?_
  have hk6 := all9_keep F0.out F6 N6 (by (intro _ hp; repeat (first | exact hp | refine List.Mem.tail _ ?_)))
  replace S := St9.kpL S hk6
  have O6 : LSN h₀ L h6 D6 ns6 := ⟨_, vs6, News.hd N6, ⟨rfl, _, rfl⟩, hi6⟩
  clear F0 F N5 hk6 N6 hi6 hi5
  (try clear N)
  have N := all9_news S.N
  dsimp only [List.cons_append, List.nil_append] at N
  k_steps
  unfold Stop9
  obtain ⟨o7, v7, N7, ho7, hi7⟩ := S.R1
  refine kso_sorted (s := { s with heap := h6, toks := _ }) F6 (all9_news N7) (ho7.at (N7 _ (.head _)).1) hi7 (by have := hkb; show kb.length < _; omega) fun D8 vs8 ns8 n8 h8 F8 N8 _ hi8 _ p8 so8 _ => ?_
  have hk8 := all9_keep F6 F8 N8 (by (intro _ hp; repeat (first | exact hp | refine List.Mem.tail _ ?_)))
  replace S := St9.kpL S hk8
  replace O6 := LSN.kpL O6 hk8
  have hD8 := (N8 _ (.head _)).1
  obtain ⟨o9, v9, N9, ho9, hi9⟩ := O6
  have hl9 : h8.IsList D6 v9.toArray := ho9.at (N9 _ (.head _)).1
  clear N7 hk8 N8 hi7 N9
  (try clear N)
  have N := all9_news S.N
  dsimp only [List.cons_append, List.nil_append] at N
  have mk9 : Stop8 True := ⟨trivial⟩
  k_steps
  unfold Stop9
  refine ke_eq_ints hl9 ⟨_, hD8, rfl, _, rfl⟩ hi9 hi8 (by omega) ?_
  k_steps
  unfold Stop9
  refine ne_bool ?_
  rw [same_sorted hna hnb p6 p8 so6 so8, bne_self_eq_false]
  k_steps
  unfold Stop9
  exact next _ _ F8 S
end
end Mine
end
theorem Mine.calm9a51 : True ∧ True := by
  w_top off
  (try walk1) <;> (first | exact True.intro | exact ⟨True.intro, True.intro⟩)

/-! part P51 -/
section
open PySem PySem.W PySem.Calls PySem.Spec PyProof.Rows PyProof.Rows.LCg
namespace Mine
theorem fill9ai : PySem.Challenge.rw_fs0001_01 = PySem.Challenge.rw_fs0001_01 ∧ ∀ (w : World) h, (hd.heap_39 w.params).In h → True := by
  k_fill
  exact ⟨rfl, fun _ _ _ => trivial⟩

section
variable {prog : Program} {w : World} {p : Program} {loose : List Str} {mean : ExcName → Option Value} {mg mb : Str → Option Value} {A A₀ : Around} {env : Env} {outer : List Env} {base h₀ : Heap} {L : Addr} {m : Str → Option Value} {s : Shared} {news : List (Addr × Obj)} {Q E : Value → Shared → Prop}

abbrev nRow : Str := Str.ofString "row"
abbrev nKept : Str := Str.ofString "kept"
local macro_rules | `(tactic| walk_at "execs cons") => `(tactic| (k_here; refine stop9 ?_))
local macro_rules | `(tactic| walk_at "call ref") => `(tactic| (k_here; refine stop9 ?_))
local macro_rules | `(tactic| walk_at "eval Name") => `(tactic| (k_here; k_dflt (refine nameX_L (cl := cellsFrom (_ + 1) lawScope.names []) (by k_asm) (by (first | with_reducible assumption | rfl | (show ite _ _ _ = _; rw [if_neg (by decide)]; with_reducible assumption))) ?_)))
local macro_rules | `(tactic| walk_at "eval Name") => `(tactic| (k_here; k_dflt (refine nameX_C (cl := cellsFrom (_ + 1) lawScope.names []) (by k_asm) (by rfl) (by k_mem) (by with_reducible assumption) ?_)))
local macro_rules | `(tactic| walk_at "eval Name") => `(tactic| (k_here; (with_reducible show wpAny _ _ (eval (Expr.Name _ _) (compEnvC _ _ _ _)) _ _ _); k_dflt (first
  | refine ldOwn9 (by assumption) (by assumption) ?_
  | (refine' ldCell9 ?hc ?hx ?_; (case hx => exact rfl); (case hc => assumption))
  | refine LCgL.ld_global (by k_asm) (by k_asm) (by k_asm) (by k_is) ?_
  | refine LCgL.ld_built (by k_asm) (by k_asm) (by k_asm) (by k_is) (by boot_by_name) (by decide) ?_)))
local macro_rules | `(tactic| walk_at "subscriptTail Name Constant ref int") => `(tactic| (k_here; (with_reducible show wpAny _ _ (subscriptTail (Expr.Name _ _) (Expr.Constant _ _ _) (Value.ref _) (Value.int _ _)) _ _ _); k_dflt (refine' rowItem9 ?kN ?km ?ka ?kb ?ke ?_ ?khs ?khg; (case kN => k_asm); (case km => k_mem); (case ka => decide); (case kb => decide); (case ke => exact rfl); (case khs => with_unfolding_all rfl); (case khg => (intro _; with_unfolding_all rfl)); k_whole)))
local macro_rules | `(tactic| walk_at "pyIter") => `(tactic| (k_here; refine stop9 ?_))
local macro_rules | `(tactic| walk_at "binaryOp Add ref ref") => `(tactic| (k_here; refine stop9 ?_))

local macro_rules | `(tactic| walk_at "compareOp Eq ref ref") => `(tactic| (k_here; (with_reducible show wpAny _ _ (compareOp CmpOp.Eq (Value.ref _) (Value.ref _)) _ _ _); (refine cmp_ofEq ?_); k_dflt (refine' cmp_K ?k1 ?k2 ?k3 ?k4 ?k5 ?k6 ?k7 ?k8 ?_; (case k1 => assumption); (case k2 => k_asm); (case k3 => k_asm); (case k4 => k_inst); (case k5 => k_typeOf); (case k6 => k_is); (case k7 => k_is); (case k8 => k_is); k_whole)))
local macro_rules | `(tactic| walk_at "eval ListComp") => `(tactic| (k_here; refine stop9 ?_))
local macro_rules | `(tactic| walk_at "compareOp NotIn int ref") => `(tactic| (k_here; refine stop9 ?_))
local macro_rules | `(tactic| walk_at "compareOp In int ref") => `(tactic| (k_here; refine stop9 ?_))

local macro_rules | `(tactic| walk_at "call builtin:sorted") => `(tactic| (k_here; refine stop9 ?_))
local macro_rules | `(tactic| walk_at "compareOp NotEq ref ref") => `(tactic| (k_here; refine stop9 ?_))

local macro_rules | `(tactic| walk_at "subscriptTail Subscript Slice ref ref") => `(tactic| (k_here; refine stop9 ?_))
local macro_rules | `(tactic| walk_at "unpackItems ref") => `(tactic| (k_here; k_dflt (refine' unpackItemsN_ ?k1 ?k2 ?k3 ?k4 ?k5 ?_; (case k1 => k_asm); (case k2 => k_asm); (case k3 => kun_tup); (case k4 => assumption); (case k5 => exact rfl); k_whole); intro h' F' N'; (try k_sweep)))
local macro_rules | `(tactic| walk_at "subscriptTail Name Slice ref ref") => `(tactic| (k_here; refine stop9 ?_))

set_option maxHeartbeats 2000000 in
theorem law11 {fa : Addr} {cd : Value} {z : Ad9} {QF : Flow → Shared → Prop} (hka : z.ka.length ≤ 10) (c : Mine.Cl w p loose mean mg mb A (lawEnv L fa cd) [] A₀ base h₀ L s.heap m) (nm : Nm9 m z) (S : St9 prog w h₀ L z s.heap) (hc : z.o1.data = .cell (some (.ref z.rl)))
    (hdep : A.depth + 60 < recursionLimit) (hu : A.units + 200 < cLine)
    (next : ∀ h tk m' wl x d, Fr h₀ L h m' → Nm9 m' z → m' nRow = some (.ref wl) → m' nKept = some (.ref x) → LSN h₀ L h wl z.ka → OSN prog w h₀ L h x d z.ka → d ≠ z.da → St9 prog w h₀ L z h → wpAny (model prog w) A (execs lawR12 (lawEnv L fa cd)) QF E { s with heap := h, toks := tk }) :
    wpAny (model prog w) A (execs lawR11 (lawEnv L fa cd)) QF E s := by
  have X := c.X.keeps c.B.stays
  have T := c.T.keeps c.B.stays
  have F := c.F
  have hun : A.units < cLine := by omega
  obtain ⟨n1, n2, n3, n4⟩ := nm
  obtain ⟨a, da, b, db, cc, dc, nl, rl, r0, r1, r2, o1, o2, o3, ka, kb, kc, nums⟩ := z
  have OA : OSN prog w h₀ L s.heap a da ka := S.OA
  have OB : OSN prog w h₀ L s.heap b db kb := S.OB
  have OC : OSN prog w h₀ L s.heap cc dc kc := S.OC
  dsimp only at *
  have N := S.N
  (try clear N)
  obtain ⟨_, _, _, _, NN1⟩ := News.osD S.N OA
  have N := all9_news NN1
  clear NN1
  dsimp only [List.cons_append, List.nil_append] at N
  unfold lawR11 pick9
  refine wpAny_execs_cons ?_
  refine Assign_Tuple_swapped (names := [nRow, nKept]) ?_ (by first | rfl | kernel_rfl) (by first | rfl | kernel_rfl)
  have F0 := Stop8.mk F
  k_steps
  unfold Stop9
  obtain ⟨o5, v5, N5, ho5, hi5⟩ := S.R0
  refine sliceI9 (s := { s with heap := s.heap, toks := _ }) F (all9_news N5) (ho5.at (N5 _ (.head _)).1) hi5 (by have := hka; show ka.length ≤ _; omega) .none .none (fun D1 ws h1 F1 N1 _ hi1 => ?_)
  have hk1 := all9_keep F0.out F1 N1 (by (intro _ hp; repeat (first | exact hp | refine List.Mem.tail _ ?_)))
  have e1 : (ka.drop (kms_lo none ka.length)).take (kms_hi none ka.length - kms_lo none ka.length) = ka := by
    show (ka.drop 0).take (ka.length - 0) = ka
    rw [List.drop_zero, Nat.sub_zero, List.take_length]
  have O1 : LSN h₀ L h1 D1 ka := ⟨_, ws, News.hd N1, ⟨rfl, _, rfl⟩, by rw [← e1]; exact hi1⟩
  replace S := St9.kpL S hk1
  replace OA := OSN.kpL OA hk1
  clear N5 hk1 N1 hi5 hi1 F0 F
  (try clear N)
  obtain ⟨_, _, _, _, NN1⟩ := News.osD S.N OA
  have N := all9_news NN1
  clear NN1
  dsimp only [List.cons_append, List.nil_append] at N
  k_steps
  unfold Stop9
  refine wpAny_call (copy_code (s := { s with heap := _, toks := _ }) (Cl.re c F1) OA (by omega) fun x2 d2 h2 tk2 hk2 O2 => ?_)
  have hne : d2 ≠ da := NewOS.apart O2 OA
  replace O2 := NewOS.osn O2 F1
  replace O1 := LSN.kp O1 hk2.all
  replace S := S.kp hk2.all
  replace F1 := Fr.kp9 F1 hk2.all
  clear OA hk2
  (try clear N)
  have N := all9_news S.N
  dsimp only [List.cons_append, List.nil_append] at N ⊢
  have F0 := Stop8.mk F1
  have hh : A.handled = none := c.hh
  k_steps
  unfold Stop9
  (with_reducible rename News _ _ _ _ => N3); (with_reducible rename Fr _ _ _ _ => F3)
  have hkQ := all9_keep F0.out F3 N3 (by (intro _ hp; repeat (first | exact hp | refine List.Mem.tail _ ?_)))
  exact next _ _ _ _ _ _ F3 ⟨by ((try dsimp only); repeat (first | rfl | with_reducible assumption | rw [if_neg (by decide)] | rw [if_pos rfl])), by ((try dsimp only); repeat (first | rfl | with_reducible assumption | rw [if_neg (by decide)] | rw [if_pos rfl])), by ((try dsimp only); repeat (first | rfl | with_reducible assumption | rw [if_neg (by decide)] | rw [if_pos rfl])), by ((try dsimp only); repeat (first | rfl | with_reducible assumption | rw [if_neg (by decide)] | rw [if_pos rfl]))⟩ (by ((try dsimp only); repeat (first | rfl | with_reducible assumption | rw [if_neg (by decide)] | rw [if_pos rfl]))) (by ((try dsimp only); repeat (first | rfl | with_reducible assumption | rw [if_neg (by decide)] | rw [if_pos rfl]))) (LSN.kpL O1 hkQ) (OSN.kpL O2 hkQ) hne (St9.kpL S hkQ)
end
end Mine
end
theorem Mine.calm9a52 : True ∧ True := by
  w_top off
  (try walk1) <;> (first | exact True.intro | exact ⟨True.intro, True.intro⟩)

/-! part P52 -/
section
open PySem PySem.W PySem.Calls PySem.Spec PyProof.Rows PyProof.Rows.LCg
namespace Mine
theorem fill9aj : PySem.Challenge.rw_fs0001_01 = PySem.Challenge.rw_fs0001_01 ∧ ∀ (w : World) h, (hd.heap_39 w.params).In h → True := by
  k_fill
  exact ⟨rfl, fun _ _ _ => trivial⟩

section
variable {prog : Program} {w : World} {p : Program} {loose : List Str} {mean : ExcName → Option Value} {mg mb : Str → Option Value} {A A₀ : Around} {env : Env} {outer : List Env} {base h₀ : Heap} {L : Addr} {m : Str → Option Value} {s : Shared} {news : List (Addr × Obj)} {Q E : Value → Shared → Prop}

/-- what the law holds while it loops -/
structure Lp9 (prog : Program) (w : World) (h₀ : Heap) (L : Addr) (z : Ad9) (x d : Addr) (h : Heap) : Prop where
  C : ∃ o2 o3 ov mv, News h₀ L h [(L + 1 + 1 + 1, o3), (L + 1 + 1, o2), (L + 1, z.o1)] ∧ o2.data = .cell ov ∧ o3.data = .cell mv
  N : News h₀ L h [(z.rl, lst [.ref z.r0, .ref z.r1, .ref z.r2])]
  OB : OSN prog w h₀ L h z.b z.db z.kb
  OK : OSN prog w h₀ L h x d z.ka
  R0 : LSN h₀ L h z.r0 z.ka
  R1 : LSN h₀ L h z.r1 z.kb
theorem Lp9.kpL {z : Ad9} {x d : Addr} {h h' : Heap} (S : Lp9 prog w h₀ L z x d h) (hk : ∀ b o, b ≠ L → h.get? b = some o → h'.get? b = some o) : Lp9 prog w h₀ L z x d h' := by
  obtain ⟨o2, o3, ov, mv, N, r⟩ := S.C
  exact ⟨⟨o2, o3, ov, mv, kpNs N hk, r⟩, kpNs S.N hk, S.OB.kpL hk, S.OK.kpL hk, S.R0.kpL hk, S.R1.kpL hk⟩
theorem Lp9.kp {z : Ad9} {x d : Addr} {h h' : Heap} (S : Lp9 prog w h₀ L z x d h) (hk : ∀ b o, h.get? b = some o → h'.get? b = some o) : Lp9 prog w h₀ L z x d h' := S.kpL fun b o _ e => hk b o e
theorem News.app {h : Heap} {l1 l2 : List (Addr × Obj)} (N : News h₀ L h l1) (M : News h₀ L h l2) : News h₀ L h (l1 ++ l2) := fun p hp => by
  rcases List.mem_append.mp hp with hp | hp
  · exact N p hp
  · exact M p hp
local macro_rules | `(tactic| walk_at "execs cons") => `(tactic| (k_here; refine stop9 ?_))
local macro_rules | `(tactic| walk_at "call ref") => `(tactic| (k_here; refine stop9 ?_))
local macro_rules | `(tactic| walk_at "eval Name") => `(tactic| (k_here; k_dflt (refine nameX_L (cl := cellsFrom (_ + 1) lawScope.names []) (by k_asm) (by (first | with_reducible assumption | rfl | (show ite _ _ _ = _; rw [if_neg (by decide)]; with_reducible assumption))) ?_)))
local macro_rules | `(tactic| walk_at "eval Name") => `(tactic| (k_here; k_dflt (refine nameX_C (cl := cellsFrom (_ + 1) lawScope.names []) (by k_asm) (by rfl) (by k_mem) (by with_reducible assumption) ?_)))
local macro_rules | `(tactic| walk_at "eval Name") => `(tactic| (k_here; (with_reducible show wpAny _ _ (eval (Expr.Name _ _) (compEnvC _ _ _ _)) _ _ _); k_dflt (first
  | refine ldOwn9 (by assumption) (by assumption) ?_
  | (refine' ldCell9 ?hc ?hx ?_; (case hx => exact rfl); (case hc => assumption))
  | refine LCgL.ld_global (by k_asm) (by k_asm) (by k_asm) (by k_is) ?_
  | refine LCgL.ld_built (by k_asm) (by k_asm) (by k_asm) (by k_is) (by boot_by_name) (by decide) ?_)))
local macro_rules | `(tactic| walk_at "subscriptTail Name Constant ref int") => `(tactic| (k_here; (with_reducible show wpAny _ _ (subscriptTail (Expr.Name _ _) (Expr.Constant _ _ _) (Value.ref _) (Value.int _ _)) _ _ _); k_dflt (refine' rowItem9 ?kN ?km ?ka ?kb ?ke ?_ ?khs ?khg; (case kN => k_asm); (case km => k_mem); (case ka => decide); (case kb => decide); (case ke => exact rfl); (case khs => with_unfolding_all rfl); (case khg => (intro _; with_unfolding_all rfl)); k_whole)))
local macro_rules | `(tactic| walk_at "pyIter") => `(tactic| (k_here; refine stop9 ?_))
local macro_rules | `(tactic| walk_at "binaryOp Add ref ref") => `(tactic| (k_here; refine stop9 ?_))

local macro_rules | `(tactic| walk_at "compareOp Eq ref ref") => `(tactic| (k_here; (with_reducible show wpAny _ _ (compareOp CmpOp.Eq (Value.ref _) (Value.ref _)) _ _ _); (refine cmp_ofEq ?_); k_dflt (refine' cmp_K ?k1 ?k2 ?k3 ?k4 ?k5 ?k6 ?k7 ?k8 ?_; (case k1 => assumption); (case k2 => k_asm); (case k3 => k_asm); (case k4 => k_inst); (case k5 => k_typeOf); (case k6 => k_is); (case k7 => k_is); (case k8 => k_is); k_whole)))
local macro_rules | `(tactic| walk_at "eval ListComp") => `(tactic| (k_here; refine stop9 ?_))
local macro_rules | `(tactic| walk_at "compareOp NotIn int ref") => `(tactic| (k_here; refine stop9 ?_))
local macro_rules | `(tactic| walk_at "compareOp In int ref") => `(tactic| (k_here; refine stop9 ?_))

local macro_rules | `(tactic| walk_at "call builtin:sorted") => `(tactic| (k_here; refine stop9 ?_))
local macro_rules | `(tactic| walk_at "compareOp NotEq ref ref") => `(tactic| (k_here; refine stop9 ?_))

set_option maxHeartbeats 1000000 in
theorem law13 {fa : Addr} {cd : Value} {z : Ad9} {x d : Addr} {QF : Flow → Shared → Prop} (c : Mine.Cl w p loose mean mg mb A (lawEnv L fa cd) [] A₀ base h₀ L s.heap m) (nB : m nB = some (.ref z.b)) (nK : m nKept = some (.ref x)) (S : Lp9 prog w h₀ L z x d s.heap) (hc : z.o1.data = .cell (some (.ref z.rl)))
    (hdep : A.depth + 60 < recursionLimit) (hu : A.units + 200 < cLine)
    (fin : ∀ h tk, Fr h₀ L h m → QF (.ret (.bool true)) { s with heap := h, toks := tk }) :
    wpAny (model prog w) A (execs lawR13 (lawEnv L fa cd)) QF E s := by
  have X := c.X.keeps c.B.stays
  have T := c.T.keeps c.B.stays
  have F := c.F
  obtain ⟨a, da, b, db, cc, dc, nl, rl, r0, r1, r2, o1, o2', o3', ka, kb, kc, nums⟩ := z
  dsimp only at *
  obtain ⟨o2, o3, ov, mv, NC, d2, d3⟩ := S.C
  have N := News.app NC S.N
  dsimp only [List.cons_append, List.nil_append] at N
  clear NC
  unfold lawR13 pick9
  refine wpAny_execs_cons ?_
  k_steps
  unfold Stop9
  refine wpAny_call (seen_code (s := { s with heap := _, toks := _ }) (Cl.re c F) S.OK S.R0 (by omega) (by omega) fun h1 tk1 hk1 => ?_)
  replace S := S.kp hk1.all; replace F := Fr.kp9 F hk1.all; replace N := News.kp9 N hk1.all
  k_steps
  unfold Stop9
  refine wpAny_call (seen_code (s := { s with heap := _, toks := _ }) (Cl.re c F) S.OB S.R1 (by omega) (by omega) fun h2 tk2 hk2 => ?_)
  replace S := S.kp hk2.all; replace F := Fr.kp9 F hk2.all; replace N := News.kp9 N hk2.all
  k_steps
  exact fin _ _ (by first | assumption | k_asm)
end
end Mine
end
theorem Mine.calm9a53 : True ∧ True := by
  w_top off
  (try walk1) <;> (first | exact True.intro | exact ⟨True.intro, True.intro⟩)

/-! part P53 -/
section
open PySem PySem.W PySem.Calls PySem.Spec PyProof.Rows PyProof.Rows.LCg
namespace Mine
section
variable {prog : Program} {w : World} {A : Around} {env : Env} {h₀ : Heap} {L : Addr} {m : Str → Option Value} {s : Shared} {E : Value → Shared → Prop}

/-- what holds by a ledger that is apart from an iterator -/
def Ap9 (h₀ : Heap) (L I : Addr) (P : Heap → Prop) (h : Heap) : Prop := ∃ news, News h₀ L h news ∧ (∀ p ∈ news, p.1 ≠ I) ∧ ∀ h', News h₀ L h' news → P h'
theorem Ap9.get {I : Addr} {P : Heap → Prop} {h : Heap} (a : Ap9 h₀ L I P h) : P h := let ⟨_, N, _, k⟩ := a; k _ N
theorem Ap9.stable {I : Addr} {P : Heap → Prop} {h h' : Heap} (a : Ap9 h₀ L I P h) (hk : ∀ b o, b ≠ I → h.get? b = some o → h'.get? b = some o) : Ap9 h₀ L I P h' := by
  obtain ⟨news, N, hi, k⟩ := a
  exact ⟨news, fun p hp => ⟨hk _ _ (hi p hp) (N p hp).1, (N p hp).2⟩, hi, k⟩
theorem Ap9.and {I : Addr} {P R : Heap → Prop} {h : Heap} (a : Ap9 h₀ L I P h) (b : Ap9 h₀ L I R h) : Ap9 h₀ L I (fun h => P h ∧ R h) h := by
  obtain ⟨n1, N1, i1, k1⟩ := a
  obtain ⟨n2, N2, i2, k2⟩ := b
  refine ⟨n1 ++ n2, News.app N1 N2, fun p hp => ?_, fun h' N => ⟨k1 h' fun p hp => N p (List.mem_append_left _ hp), k2 h' fun p hp => N p (List.mem_append_right _ hp)⟩⟩
  rcases List.mem_append.mp hp with hp | hp
  · exact i1 p hp
  · exact i2 p hp
theorem Ap9.map {I : Addr} {P R : Heap → Prop} {h : Heap} (a : Ap9 h₀ L I P h) (f : ∀ h, P h → R h) : Ap9 h₀ L I R h := by
  obtain ⟨n1, N1, i1, k1⟩ := a
  exact ⟨n1, N1, i1, fun h' N => f h' (k1 h' N)⟩

/-- an iterator over a list -/
def IsIt9 (o : Obj) : Prop := o.cls = .type "list_iterator" ∧ ∃ fs, o.data = .fields fs
theorem ap_news {I : Addr} {h : Heap} {oI : Obj} {news : List (Addr × Obj)} (N : News h₀ L h news) (hI : h.get? I = some oI) (hn : ∀ p ∈ news, ¬ IsIt9 p.2) (hit : IsIt9 oI) : Ap9 h₀ L I (fun h => News h₀ L h news) h :=
  ⟨news, N, fun p hp q => by
    have e := (N p hp).1
    rw [q, hI] at e; cases e
    exact hn p hp hit, fun _ N => N⟩
theorem it_inst (dx : Addr) : ¬ IsIt9 (instObj 217 dx) := fun ⟨h, _⟩ => by cases h
theorem it_dict (es : List DictEntry) (n : Nat) : ¬ IsIt9 (dictOf es n) := fun ⟨_, fs, h⟩ => by cases h
theorem it_isd {o : Obj} {kvs : List (Int × Value)} (ho : o.IsDictOf (intKind prog w) kvs) : ¬ IsIt9 o := fun ⟨_, fs, h⟩ => by
  obtain ⟨es, ep, hc, hdat, _⟩ := ho
  rw [hdat] at h; cases h
theorem it_isl {o : Obj} {vs : List Value} (ho : IsL o vs) : ¬ IsIt9 o := fun ⟨_, fs, h⟩ => by
  obtain ⟨_, n, d⟩ := ho
  rw [d] at h; cases h
theorem it_cell {o : Obj} {v : Option Value} (ho : o.data = .cell v) : ¬ IsIt9 o := fun ⟨_, fs, h⟩ => by
  rw [ho] at h; cases h
theorem ap_osn {I : Addr} {h : Heap} {oI : Obj} {x d : Addr} {ks : List Int} (O : OSN prog w h₀ L h x d ks) (hI : h.get? I = some oI) (hit : IsIt9 oI) : Ap9 h₀ L I (fun h => OSN prog w h₀ L h x d ks) h := by
  obtain ⟨dx, hs, tk, n, o, N, ho, r⟩ := O
  refine (ap_news N hI (fun p hp => ?_) hit).map fun h N => ⟨dx, hs, tk, n, o, N, ho, r⟩
  rcases List.mem_cons.mp hp with rfl | hp
  · exact it_inst _
  rcases List.mem_cons.mp hp with rfl | hp
  · exact it_dict _ _
  · rw [List.mem_singleton.mp hp]; exact it_isd ho
theorem ap_lsn {I : Addr} {h : Heap} {oI : Obj} {l : Addr} {ns : List Int} (O : LSN h₀ L h l ns) (hI : h.get? I = some oI) (hit : IsIt9 oI) : Ap9 h₀ L I (fun h => LSN h₀ L h l ns) h := by
  obtain ⟨o, vs, N, ho, r⟩ := O
  refine (ap_news N hI (fun p hp => ?_) hit).map fun h N => ⟨o, vs, N, ho, r⟩
  rw [List.mem_singleton.mp hp]; exact it_isl ho
theorem ap_lp {I : Addr} {h : Heap} {oI : Obj} {z : Ad9} {x d : Addr} {v : Option Value} (S : Lp9 prog w h₀ L z x d h) (hc : z.o1.data = .cell v) (hI : h.get? I = some oI) (hit : IsIt9 oI) : Ap9 h₀ L I (fun h => Lp9 prog w h₀ L z x d h) h := by
  obtain ⟨o2, o3, ov, mv, N, d2, d3⟩ := S.C
  have c1 : Ap9 h₀ L I (fun h => News h₀ L h [(L + 1 + 1 + 1, o3), (L + 1 + 1, o2), (L + 1, z.o1)]) h := ap_news N hI (fun p hp => by
    rcases List.mem_cons.mp hp with rfl | hp
    · exact it_cell d3
    rcases List.mem_cons.mp hp with rfl | hp
    · exact it_cell d2
    · rw [List.mem_singleton.mp hp]; exact it_cell hc) hit
  have c2 : Ap9 h₀ L I (fun h => News h₀ L h [(z.rl, lst [.ref z.r0, .ref z.r1, .ref z.r2])]) h := ap_news S.N hI (fun p hp => by rw [List.mem_singleton.mp hp]; exact fun ⟨_, fs, q⟩ => by cases q) hit
  exact ((((c1.and c2).and (ap_osn S.OB hI hit)).and (ap_osn S.OK hI hit)).and ((ap_lsn S.R0 hI hit).and (ap_lsn S.R1 hI hit))).map fun h ⟨⟨⟨⟨a1, a2⟩, a3⟩, a4⟩, a5, a6⟩ => ⟨⟨o2, o3, ov, mv, a1, d2, d3⟩, a2, a3, a4, a5, a6⟩

/-- lists and iterators stay -/
def Kl9 (L : Addr) (h h' : Heap) : Prop := ∀ b o, b ≠ L → ((∃ its n, o.data = .seq its n) ∨ ∃ fs, o.data = .fields fs) → h.get? b = some o → h'.get? b = some o
theorem Kl9.of {h h' : Heap} (hk : ∀ b o, b ≠ L → h.get? b = some o → h'.get? b = some o) : Kl9 L h h' := fun b o hb _ e => hk b o hb e
theorem Kl9.trans {h1 h2 h3 : Heap} (a : Kl9 L h1 h2) (b : Kl9 L h2 h3) : Kl9 L h1 h3 := fun x o hx hd e => b x o hx hd (a x o hx hd e)

theorem ownLoop9 {α : Type} (Nm : α → (Str → Option Value) → Prop) (Fx : α → Heap → Prop) {src : Addr} {ns : List Int} {v : Str} {body : List Stmt} {Q : Flow → Shared → Prop} (O : LSN h₀ L s.heap src ns) (hn : ns.length ≤ 100) (hh : A.handled = none) (F : Fr h₀ L s.heap m) (a0 : α) (n0 : Nm a0 m) (f0 : Fx a0 s.heap)
    (mono : ∀ a h h', Fx a h → (∀ b o, b ≠ L → h.get? b = some o → h'.get? b = some o) → Fx a h')
    (apart : ∀ a I h oI, Fx a h → h.get? I = some oI → IsIt9 oI → Ap9 h₀ L I (Fx a) h)
    (step : ∀ j t h tk m' a, j ∈ ns → Fr h₀ L h m' → Nm a m' → Fx a h → wpAny (model prog w) A (storeName env v (.int j t)) (fun _ s₃ => wpAny (model prog w) A (execs body env) (fun fl s₄ => Stop8 (fl = .next ∧ ∃ h' tk' m'' a', s₄ = { s with heap := h', toks := tk' } ∧ Fr h₀ L h' m'' ∧ Nm a' m'' ∧ Fx a' h' ∧ Kl9 L h h')) (fun _ _ => False) s₃) (fun _ _ => False) { s with heap := h, toks := tk })
    (done : ∀ h tk m' a, Fr h₀ L h m' → Nm a m' → Fx a h → Q .next { s with heap := h, toks := tk }) :
    wpAny (model prog w) A (pyIter (.ref src)) (WalkAt9 prog w A env v body Q) E s := by
  obtain ⟨o, vs, N, hos, hi⟩ := O
  have hl : s.heap.IsList src vs.toArray := hos.at (N _ (.head _)).1
  have hsrcL : src ≠ L := (N _ (.head _)).2.1
  refine wpAny_pyIter_list hl ?_
  have kp1 : ∀ b o, s.heap.get? b = some o → (s.heap.push { cls := .type "list_iterator", data := .fields #[.ref src, .int 0 0] }).get? b = some o := fun b o e => Heap.get?_push_of_some _ e
  have hlt : src < s.heap.objs.size := Heap.lt_size (N _ (.head _)).1
  have hIg : h₀.get? s.heap.objs.size = none := by
    cases hq : h₀.get? s.heap.objs.size with
    | none => rfl
    | some o' => exact absurd (Heap.lt_size (F.keep _ _ hq)) (Nat.lt_irrefl _)
  have hIL : s.heap.objs.size ≠ L := Nat.ne_of_gt F.ns.lt
  have W := Walks.list (prog := prog) (w := w) (A := A) hh s.heap.objs.size src (Nat.ne_of_lt hlt) vs.toArray
  have hI0 : (s.heap.push { cls := .type "list_iterator", data := .fields #[.ref src, .int 0 0] }).get? s.heap.objs.size = some { cls := .type "list_iterator", data := .fields #[.ref src, .int 0 0] } := Heap.get?_push_size _ rfl
  refine ⟨s.heap.objs.size, _, _, _, _, fun _ h => ∃ m' a, Fr h₀ L h m' ∧ Nm a m' ∧ Ap9 h₀ L s.heap.objs.size (Fx a) h, rfl, W, ⟨⟨_, hI0, rfl, rfl⟩, hl.push _⟩, ⟨m, a0, F.push _, n0, apart _ _ _ _ (mono _ _ _ f0 fun b o _ e => kp1 b o e) hI0 ⟨rfl, _, rfl⟩⟩, ?_, ?_, ?_⟩
  · rintro i h h' ⟨m', a, F', n', x⟩ hk
    refine ⟨m', a, ⟨?_, fun b o e => hk b o (fun q => by rw [q, hIg] at e; cases e) (F'.keep b o e), F'.above⟩, n', x.stable hk⟩
    obtain ⟨oL, es, ep, hL, r⟩ := F'.ns
    exact ⟨oL, es, ep, hk _ _ (Ne.symm hIL) hL, r⟩
  · rintro i y h tk hlt' hPi hst ⟨m', a, F', n', x⟩
    obtain ⟨t, j, hj, rfl⟩ := listP hi i y (by simpa using hPi)
    refine wpAny_mono (step j t h tk m' a (List.mem_of_getElem? hj) F' n' x.get) (fun _ s₃ h₃ => wpAny_mono h₃ (fun fl s₄ h₄ => ?_) fun _ _ z => z) fun _ _ z => z
    obtain ⟨⟨rfl, h', tk', m'', a', rfl, F'', n'', x', kl⟩⟩ := h₄
    obtain ⟨⟨oI, hI, cI, dI⟩, ol, hl', cl, n, dl⟩ := id hst
    have hI' := kl _ _ hIL (.inr ⟨_, dI⟩) hI
    refine ⟨rfl, h', tk', rfl, W.frame _ _ _ hst fun b hb o₂ e => ?_, m'', a', F'', n'', apart _ _ _ _ x' hI' ⟨cI, _, dI⟩⟩
    simp only [List.mem_cons, List.not_mem_nil, or_false] at hb
    rcases hb with rfl | rfl
    · rw [hI] at e; cases e; exact hI'
    · rw [hl'] at e; cases e; exact kl _ _ hsrcL (.inl ⟨_, _, dl⟩) hl'
  · rintro h tk ⟨m', a, F', n', x⟩
    exact done h tk m' a F' n' x.get
end
end Mine
end
theorem Mine.calm9a54 : True ∧ True := by
  w_top off
  (try walk1) <;> (first | exact True.intro | exact ⟨True.intro, True.intro⟩)

/-! part P54 -/
section
open PySem PySem.W PySem.Calls PySem.Spec PyProof.Rows PyProof.Rows.LCg
namespace Mine
theorem fill9ak : PySem.Challenge.rw_fs0001_01 = PySem.Challenge.rw_fs0001_01 ∧ ∀ (w : World) h, (hd.heap_39 w.params).In h → True := by
  k_fill
  exact ⟨rfl, fun _ _ _ => trivial⟩

section
variable {prog : Program} {w : World} {p : Program} {loose : List Str} {mean : ExcName → Option Value} {mg mb : Str → Option Value} {A A₀ : Around} {env : Env} {outer : List Env} {base h₀ : Heap} {L : Addr} {m : Str → Option Value} {s : Shared} {news : List (Addr × Obj)} {Q E : Value → Shared → Prop}

abbrev nOne : Str := Str.ofString "one"
abbrev nMore : Str := Str.ofString "more"
abbrev nKind : Str := Str.ofString "kind"
abbrev nN : Str := Str.ofString "n"
noncomputable def lawBody : List Stmt := match lawR12 with
  | (.For _ _ b _ _) :: _ => b
  | _ => []
noncomputable def lawBodyB : List Stmt := lawBody.drop 1
noncomputable def lawBodyC : List Stmt := lawBody.drop 2
theorem OSN.kpC {h h' : Heap} {x d b₀ : Addr} {ks : List Int} {oc : Obj} {v : Option Value} (O : OSN prog w h₀ L h x d ks) (hc : h.get? b₀ = some oc) (hd : oc.data = .cell v) (hk : ∀ b o, b ≠ b₀ → h.get? b = some o → h'.get? b = some o) : OSN prog w h₀ L h' x d ks := by
  obtain ⟨dx, hs, tk, n, o, N, ho, r⟩ := O
  refine ⟨dx, hs, tk, n, o, fun p hp => ⟨hk _ _ ?_ (N p hp).1, (N p hp).2⟩, ho, r⟩
  rintro rfl
  have e := (N p hp).1
  rw [hc] at e; cases e
  rcases List.mem_cons.mp hp with rfl | hp
  · cases hd
  rcases List.mem_cons.mp hp with rfl | hp
  · cases hd
  · rw [List.mem_singleton.mp hp] at hd
    obtain ⟨es, ep, hc, hdat, _⟩ := ho
    rw [hdat] at hd; cases hd
theorem Kl9.ofC {h h' : Heap} {b₀ : Addr} {oc : Obj} {v : Option Value} (hc : h.get? b₀ = some oc) (hd : oc.data = .cell v) (hk : ∀ b o, b ≠ b₀ → h.get? b = some o → h'.get? b = some o) : Kl9 L h h' := fun b o _ hdat e => hk b o (fun q => by
  rw [q, hc] at e; cases e
  rcases hdat with ⟨_, _, z⟩ | ⟨_, z⟩ <;> (rw [z] at hd; cases hd)) e
/-- the loop's facts while the cells are written -/
theorem Lp9.kpC {z : Ad9} {x d b₀ : Addr} {h h' : Heap} {oc : Obj} {v : Option Value} {o2 o3 : Obj} {ov mv : Option Value} (S : Lp9 prog w h₀ L z x d h) (hc : h.get? b₀ = some oc) (hd : oc.data = .cell v) (hk : ∀ b o, b ≠ b₀ → h.get? b = some o → h'.get? b = some o)
    (N : News h₀ L h' [(L + 1 + 1 + 1, o3), (L + 1 + 1, o2), (L + 1, z.o1)]) (d2 : o2.data = .cell ov) (d3 : o3.data = .cell mv) : Lp9 prog w h₀ L z x d h' := by
  refine ⟨⟨o2, o3, ov, mv, N, d2, d3⟩, fun p hp => ⟨hk _ _ ?_ (S.N p hp).1, (S.N p hp).2⟩, S.OB.kpC hc hd hk, S.OK.kpC hc hd hk, S.R0.kpC hc hd hk, S.R1.kpC hc hd hk⟩
  rintro rfl
  have e := (S.N p hp).1
  rw [hc] at e; cases e
  rw [List.mem_singleton.mp hp] at hd; cases hd
/-- a store to one of the two cells `one` and `more` -/
theorem storeC9 {fa : Addr} {cd : Value} {y : Str} {b₀ : Addr} {v : Value} {o1 o2 o3 : Obj} {ov mv : Option Value} {QU : Unit → Shared → Prop} (F : Fr h₀ L s.heap m) (N : News h₀ L s.heap [(L + 1 + 1 + 1, o3), (L + 1 + 1, o2), (L + 1, o1)]) (d2 : o2.data = .cell ov) (d3 : o3.data = .cell mv)
    (hx : (lawEnv L fa cd).kindOf y = some .cell) (hl : (lawEnv L fa cd).cells.lookup y = some b₀) (hb : b₀ = L + 1 + 1 ∨ b₀ = L + 1 + 1 + 1)
    (h : ∀ h' oc v₀ o2' o3' ov' mv', s.heap.get? b₀ = some oc → oc.data = .cell v₀ → (∀ b o, b ≠ b₀ → s.heap.get? b = some o → h'.get? b = some o) → Fr h₀ L h' m → News h₀ L h' [(L + 1 + 1 + 1, o3'), (L + 1 + 1, o2'), (L + 1, o1)] → o2'.data = .cell ov' → o3'.data = .cell mv' →
      (b₀ = L + 1 + 1 → ov' = some v ∧ mv' = mv) → (b₀ = L + 1 + 1 + 1 → ov' = ov ∧ mv' = some v) → QU () { s with heap := h' }) : wpAny (model prog w) A (storeName (lawEnv L fa cd) y v) QU (fun _ _ => False) s := by
  have z1 := N _ (.tail _ (.tail _ (.head _))); have z2 := N _ (.tail _ (.head _)); have z3 := N _ (.head _)
  dsimp only at z1 z2 z3
  have n12 : L + 1 ≠ L + 1 + 1 := Nat.ne_of_lt (Nat.lt_succ_self _)
  have n23 : L + 1 + 1 ≠ L + 1 + 1 + 1 := Nat.ne_of_lt (Nat.lt_succ_self _)
  have n13 : L + 1 ≠ L + 1 + 1 + 1 := Nat.ne_of_lt (Nat.lt_succ_of_lt (Nat.lt_succ_self _))
  rcases hb with rfl | rfl
  · refine wpAny_storeName_cell (c := L + 1 + 1) rfl hx hl ⟨o2, z2.1, d2⟩ fun h' hv hs => ?_
    obtain ⟨o', ho', hd'⟩ := hv
    have hk : ∀ b o, b ≠ L + 1 + 1 → s.heap.get? b = some o → h'.get? b = some o := fun b o hb e => (hs.2 b hb).trans e
    refine h h' o2 _ o' o3 (some v) mv z2.1 d2 hk ⟨F.ns.sameBut hs (Ne.symm z2.2.1), fun b ob e => hk _ _ (fun q => by rw [q, z2.2.2] at e; cases e) (F.keep b ob e), F.above⟩ ?_ hd' d3 (fun _ => ⟨rfl, rfl⟩) fun q => absurd q n23
    intro p hp
    rcases List.mem_cons.mp hp with rfl | hp
    · exact ⟨hk _ _ (Ne.symm n23) z3.1, z3.2⟩
    rcases List.mem_cons.mp hp with rfl | hp
    · exact ⟨ho', z2.2⟩
    · rw [List.mem_singleton.mp hp]; exact ⟨hk _ _ n12 z1.1, z1.2⟩
  · refine wpAny_storeName_cell (c := L + 1 + 1 + 1) rfl hx hl ⟨o3, z3.1, d3⟩ fun h' hv hs => ?_
    obtain ⟨o', ho', hd'⟩ := hv
    have hk : ∀ b o, b ≠ L + 1 + 1 + 1 → s.heap.get? b = some o → h'.get? b = some o := fun b o hb e => (hs.2 b hb).trans e
    refine h h' o3 _ o2 o' ov (some v) z3.1 d3 hk ⟨F.ns.sameBut hs (Ne.symm z3.2.1), fun b ob e => hk _ _ (fun q => by rw [q, z3.2.2] at e; cases e) (F.keep b ob e), F.above⟩ ?_ d2 hd' (fun q => absurd q (Ne.symm n23)) fun _ => ⟨rfl, rfl⟩
    intro p hp
    rcases List.mem_cons.mp hp with rfl | hp
    · exact ⟨ho', z3.2⟩
    rcases List.mem_cons.mp hp with rfl | hp
    · exact ⟨hk _ _ n23 z2.1, z2.2⟩
    · rw [List.mem_singleton.mp hp]; exact ⟨hk _ _ n13 z1.1, z1.2⟩
theorem unpackT9 {elts : List Expr} {k : Nat} {pos : Pos} {l : Addr} {items : Array Value} {QU : Unit → Shared → Prop} (hl : IsTup s.heap l items) (hh : A.handled = none) (hn : (assignEach elts env).length = items.size)
    (hstar : (assignEach elts env).findIdx? (·.1) = none) (h : ∀ h', (∀ b o, s.heap.get? b = some o → h'.get? b = some o) → wpAny (model prog w) A (assignInOrder ((assignEach elts env).map (·.2)) items.toList) QU E { s with heap := h' }) :
    wpAny (model prog w) A (assign (.Tuple elts k pos) env (.ref l)) QU E s := by
  rw [assign_Tuple]
  refine wpAny_bind (wpAny_standAt ?_)
  unfold unpack
  rw [hn, hstar]
  exact wpAny_bind (wpAny_holding (unpackItems_tuple hh hl fun h' he => h h' fun b o e => he b o (Nat.ne_of_lt (Heap.lt_size e)) e))
end
end Mine
end
theorem Mine.calm9a55 : True ∧ True := by
  w_top off
  (try walk1) <;> (first | exact True.intro | exact ⟨True.intro, True.intro⟩)

/-! part P55 -/
section
open PySem PySem.W PySem.Calls PySem.Spec PyProof.Rows PyProof.Rows.LCg
namespace Mine
theorem fill9al : PySem.Challenge.rw_fs0001_01 = PySem.Challenge.rw_fs0001_01 ∧ ∀ (w : World) h, (hd.heap_39 w.params).In h → True := by
  k_fill
  exact ⟨rfl, fun _ _ _ => trivial⟩

section
variable {prog : Program} {w : World} {p : Program} {loose : List Str} {mean : ExcName → Option Value} {mg mb : Str → Option Value} {A A₀ : Around} {env : Env} {outer : List Env} {base h₀ : Heap} {L : Addr} {m : Str → Option Value} {s : Shared} {news : List (Addr × Obj)} {Q E : Value → Shared → Prop}

local macro_rules | `(tactic| walk_at "execs cons") => `(tactic| (k_here; refine stop9 ?_))
local macro_rules | `(tactic| walk_at "call ref") => `(tactic| (k_here; refine stop9 ?_))
local macro_rules | `(tactic| walk_at "eval Name") => `(tactic| (k_here; k_dflt (refine nameX_L (cl := cellsFrom (_ + 1) lawScope.names []) (by k_asm) (by (first | with_reducible assumption | rfl | (show ite _ _ _ = _; rw [if_neg (by decide)]; with_reducible assumption))) ?_)))
local macro_rules | `(tactic| walk_at "eval Name") => `(tactic| (k_here; k_dflt (refine nameX_C (cl := cellsFrom (_ + 1) lawScope.names []) (by k_asm) (by rfl) (by k_mem) (by with_reducible assumption) ?_)))
local macro_rules | `(tactic| walk_at "eval Name") => `(tactic| (k_here; (with_reducible show wpAny _ _ (eval (Expr.Name _ _) (compEnvC _ _ _ _)) _ _ _); k_dflt (first
  | refine ldOwn9 (by assumption) (by assumption) ?_
  | (refine' ldCell9 ?hc ?hx ?_; (case hx => exact rfl); (case hc => assumption))
  | refine LCgL.ld_global (by k_asm) (by k_asm) (by k_asm) (by k_is) ?_
  | refine LCgL.ld_built (by k_asm) (by k_asm) (by k_asm) (by k_is) (by boot_by_name) (by decide) ?_)))
local macro_rules | `(tactic| walk_at "subscriptTail") => `(tactic| (k_here; refine stop9 ?_))
local macro_rules | `(tactic| walk_at "subscriptTail") => `(tactic| (k_here; (with_reducible show wpAny _ _ (subscriptTail (Expr.Name _ _) (Expr.Constant _ _ _) (Value.ref _) (Value.int _ _)) _ _ _); k_dflt (refine' rowItem9 ?kN ?km ?ka ?kb ?ke ?_ ?khs ?khg; (case kN => k_asm); (case km => k_mem); (case ka => decide); (case kb => decide); (case ke => exact rfl); (case khs => with_unfolding_all rfl); (case khg => (intro _; with_unfolding_all rfl)); k_whole)))
local macro_rules | `(tactic| walk_at "pyIter") => `(tactic| (k_here; refine stop9 ?_))
local macro_rules | `(tactic| walk_at "binaryOp Add ref ref") => `(tactic| (k_here; refine stop9 ?_))

local macro_rules | `(tactic| walk_at "compareOp Eq ref ref") => `(tactic| (k_here; (with_reducible show wpAny _ _ (compareOp CmpOp.Eq (Value.ref _) (Value.ref _)) _ _ _); (refine cmp_ofEq ?_); k_dflt (refine' cmp_K ?k1 ?k2 ?k3 ?k4 ?k5 ?k6 ?k7 ?k8 ?_; (case k1 => assumption); (case k2 => k_asm); (case k3 => k_asm); (case k4 => k_inst); (case k5 => k_typeOf); (case k6 => k_is); (case k7 => k_is); (case k8 => k_is); k_whole)))
local macro_rules | `(tactic| walk_at "eval ListComp") => `(tactic| (k_here; refine stop9 ?_))
local macro_rules | `(tactic| walk_at "compareOp NotIn int ref") => `(tactic| (k_here; refine stop9 ?_))
local macro_rules | `(tactic| walk_at "compareOp In int ref") => `(tactic| (k_here; refine stop9 ?_))

local macro_rules | `(tactic| walk_at "call builtin:sorted") => `(tactic| (k_here; refine stop9 ?_))
local macro_rules | `(tactic| walk_at "compareOp NotEq ref ref") => `(tactic| (k_here; refine stop9 ?_))

local macro_rules | `(tactic| walk_at "subscriptTail Name Slice ref ref") => `(tactic| (k_here; refine stop9 ?_))
local macro_rules | `(tactic| walk_at "subscriptTail Name Constant ref int") => `(tactic| (k_here; refine stop9 ?_))
local macro_rules | `(tactic| walk_at "binaryOp Mod int int") => `(tactic| (k_here; refine stop9 ?_))
local macro_rules | `(tactic| walk_at "unpackItems ref") => `(tactic| (k_here; k_dflt (refine' unpackItemsN_ ?k1 ?k2 ?k3 ?k4 ?k5 ?_; (case k1 => k_asm); (case k2 => k_asm); (case k3 => kun_tup); (case k4 => assumption); (case k5 => exact rfl); k_whole); intro h' F' N'; (try k_sweep)))

noncomputable def lawBodyD : List Stmt := lawBody.drop 3
set_option maxHeartbeats 1000000 in
theorem turnD {fa : Addr} {cd : Value} {z : Ad9} {x d wl : Addr} {ks : List Int} {QF : Flow → Shared → Prop} (c : Mine.Cl w p loose mean mg mb A (lawEnv L fa cd) [] A₀ base h₀ L s.heap m) (hc : z.o1.data = .cell (some (.ref z.rl))) (ne1 : d ≠ z.da) (ne2 : z.da ≠ z.db)
    (n1 : m nA = some (.ref z.a)) (n2 : m nB = some (.ref z.b)) (nK : m nKept = some (.ref x)) (nR : m nRow = some (.ref wl)) (S : Lp9 prog w h₀ L z x d s.heap) (OA : OSN prog w h₀ L s.heap z.a z.da ks) (OR : LSN h₀ L s.heap wl ks)
    (hdep : A.depth + 60 < recursionLimit) (hu : A.units + 200 < cLine)
    (next : ∀ h tk m' ks' wl', Fr h₀ L h m' → m' nA = some (.ref z.a) → m' nB = some (.ref z.b) → m' nKept = some (.ref x) → m' nRow = some (.ref wl') → Lp9 prog w h₀ L z x d h → OSN prog w h₀ L h z.a z.da ks' → LSN h₀ L h wl' ks' → Kl9 L s.heap h → QF .next { s with heap := h, toks := tk }) :
    wpAny (model prog w) A (execs lawBodyD (lawEnv L fa cd)) QF (fun _ _ => False) s := by
  have X := c.X.keeps c.B.stays
  have T := c.T.keeps c.B.stays
  have F := c.F
  have hh : A.handled = none := c.hh
  have hun : A.units < cLine := by omega
  obtain ⟨a, da, b, db, cc, dc, nl, rl, r0, r1, r2, o1, o2, o3, ka, kb, kc, nums⟩ := z
  dsimp only at *
  obtain ⟨o2', o3', ov, mv, NC, d2, d3⟩ := S.C
  have N := NC
  clear NC
  unfold lawBodyD lawBody lawR12 pick9
  dsimp only [List.drop]
  refine wpAny_execs_cons ?_
  k_steps
  unfold Stop9
  refine wpAny_call (seen_code (s := { s with heap := _, toks := _ }) (Cl.re c F) OA OR (by omega) (by omega) fun h1 tk1 hk1 => ?_)
  replace S := S.kp hk1.all
  replace OA := OA.kp hk1.all
  replace OR := OR.kp hk1.all
  replace F := Fr.kp9 F hk1.all
  replace N := News.kp9 N hk1.all
  k_steps
  exact next _ _ _ _ _ F n1 n2 nK nR S OA OR (Kl9.of fun b o _ e => hk1.all b o e)

theorem FrA {h h' : Heap} {x da : Addr} {ks : List Int} (F : Fr h₀ L h m) (OA : OSN prog w h₀ L h x da ks) (hk : Kp [da] h h') : Fr h₀ L h' m := by
  obtain ⟨dx, hs, tk, n, o', N, ho, r⟩ := OA
  have z := N _ (.tail _ (.tail _ (.head _)))
  dsimp only at z
  refine ⟨?_, fun b o e => hk _ _ (by simp only [List.mem_singleton]; rintro rfl; rw [z.2.2] at e; cases e) (F.keep b o e), F.above⟩
  obtain ⟨oL, es, ep, hL, r⟩ := F.ns
  exact ⟨oL, es, ep, hk _ _ (by simp only [List.mem_singleton]; exact Ne.symm z.2.1) hL, r⟩
theorem apart_da {h : Heap} {x da b : Addr} {ks : List Int} {o : Obj} (OA : OSN prog w h₀ L h x da ks) (e : h.get? b = some o) (hn : ∀ kvs, ¬ o.IsDictOf (intKind prog w) kvs) : b ≠ da := by
  rintro rfl
  obtain ⟨dx, hs, tk, n, o', N, ho, r⟩ := OA
  have e' := (N _ (.tail _ (.tail _ (.head _)))).1
  dsimp only at e'
  rw [e] at e'; cases e'
  exact hn _ ho
theorem not_isd_seq {o : Obj} {its : Array Value} {n : Nat} (h : o.data = .seq its n) : ∀ kvs, ¬ o.IsDictOf (intKind prog w) kvs := fun kvs ⟨es, ep, hc, hd, _⟩ => by rw [h] at hd; cases hd
theorem not_isd_fields {o : Obj} {fs : Array Value} (h : o.data = .fields fs) : ∀ kvs, ¬ o.IsDictOf (intKind prog w) kvs := fun kvs ⟨es, ep, hc, hd, _⟩ => by rw [h] at hd; cases hd
theorem not_isd_cell {o : Obj} {v : Option Value} (h : o.data = .cell v) : ∀ kvs, ¬ o.IsDictOf (intKind prog w) kvs := fun kvs ⟨es, ep, hc, hd, _⟩ => by rw [h] at hd; cases hd
theorem newsA {h h' : Heap} {x da : Addr} {ks : List Int} {l : List (Addr × Obj)} (N : News h₀ L h l) (OA : OSN prog w h₀ L h x da ks) (hk : Kp [da] h h') (hl : ∀ p ∈ l, ∀ kvs, ¬ p.2.IsDictOf (intKind prog w) kvs) : News h₀ L h' l := fun p hp =>
  ⟨hk _ _ (by simpa using apart_da OA (N p hp).1 (hl p hp)) (N p hp).1, (N p hp).2⟩
theorem LSN.kpA {h h' : Heap} {x da wl : Addr} {ks ns : List Int} (O : LSN h₀ L h wl ns) (OA : OSN prog w h₀ L h x da ks) (hk : Kp [da] h h') : LSN h₀ L h' wl ns := by
  obtain ⟨o, vs, N, ⟨c1, n, d1⟩, r⟩ := O
  exact ⟨o, vs, newsA N OA hk fun p hp => by rw [List.mem_singleton.mp hp]; exact not_isd_seq d1, ⟨c1, n, d1⟩, r⟩
theorem Kl9.ofA {h h' : Heap} {x da : Addr} {ks : List Int} (OA : OSN prog w h₀ L h x da ks) (hk : Kp [da] h h') : Kl9 L h h' := fun b o _ hd e => hk _ _ (by
  simp only [List.mem_singleton]
  refine apart_da OA e ?_
  rcases hd with ⟨_, _, z⟩ | ⟨_, z⟩
  · exact not_isd_seq z
  · exact not_isd_fields z) e
theorem cellsA {h h' : Heap} {x da : Addr} {ks : List Int} {p1 p2 p3 : Obj} {v1 v2 v3 : Option Value} (N : News h₀ L h [(L + 1 + 1 + 1, p3), (L + 1 + 1, p2), (L + 1, p1)]) (d1 : p1.data = .cell v1) (d2 : p2.data = .cell v2) (d3 : p3.data = .cell v3) (OA : OSN prog w h₀ L h x da ks) (hk : Kp [da] h h') : News h₀ L h' [(L + 1 + 1 + 1, p3), (L + 1 + 1, p2), (L + 1, p1)] := newsA N OA hk fun p hp => by
  rcases List.mem_cons.mp hp with rfl | hp
  · exact not_isd_cell d3
  rcases List.mem_cons.mp hp with rfl | hp
  · exact not_isd_cell d2
  · rw [List.mem_singleton.mp hp]; exact not_isd_cell d1
theorem Lp9.kpA {z : Ad9} {a da x d : Addr} {h h' : Heap} {ks : List Int} {v : Option Value} (S : Lp9 prog w h₀ L z x d h) (hc : z.o1.data = .cell v) (OA : OSN prog w h₀ L h a da ks) (hk : Kp [da] h h') (ne1 : d ≠ da) (ne2 : da ≠ z.db) : Lp9 prog w h₀ L z x d h' := by
  obtain ⟨o2, o3, ov, mv, N, d2, d3⟩ := S.C
  exact ⟨⟨o2, o3, ov, mv, cellsA N hc d2 d3 OA hk, d2, d3⟩, newsA S.N OA hk fun p hp => by rw [List.mem_singleton.mp hp]; exact not_isd_seq rfl, S.OB.kpBut OA (Ne.symm ne2) hk, S.OK.kpBut OA ne1 hk, S.R0.kpA OA hk, S.R1.kpA OA hk⟩

set_option maxHeartbeats 2000000 in
theorem turnC0 {fa : Addr} {cd : Value} {z : Ad9} {x d wl ml : Addr} {ks : List Int} {n : Int} {t t' t1 : Tok} {p2 p3 : Obj} {QF : Flow → Shared → Prop} (c : Mine.Cl w p loose mean mg mb A (lawEnv L fa cd) [] A₀ base h₀ L s.heap m) (hc : z.o1.data = .cell (some (.ref z.rl))) (ne1 : d ≠ z.da) (ne2 : z.da ≠ z.db)
    (n1 : m nA = some (.ref z.a)) (n2 : m nB = some (.ref z.b)) (nK : m nKept = some (.ref x)) (nR : m nRow = some (.ref wl)) (S : Lp9 prog w h₀ L z x d s.heap) (OA : OSN prog w h₀ L s.heap z.a z.da ks) (OR : LSN h₀ L s.heap wl ks)
    (nk : m nKind = some (.int 0 t)) (nn : m nN = some (.int n t'))
    (NC : News h₀ L s.heap [(L + 1 + 1 + 1, p3), (L + 1 + 1, p2), (L + 1, z.o1)]) (d2 : p2.data = .cell (some (.int (n.fmod 7) t1))) (d3 : p3.data = .cell (some (.ref ml))) (OM : LSN h₀ L s.heap ml (drawnOf n))
    (hdep : A.depth + 60 < recursionLimit) (hu : A.units + 200 < cLine)
    (next : ∀ h tk m' ks' wl', Fr h₀ L h m' → m' nA = some (.ref z.a) → m' nB = some (.ref z.b) → m' nKept = some (.ref x) → m' nRow = some (.ref wl') → Lp9 prog w h₀ L z x d h → OSN prog w h₀ L h z.a z.da ks' → LSN h₀ L h wl' ks' → Kl9 L s.heap h → QF .next { s with heap := h, toks := tk }) :
    wpAny (model prog w) A (execs lawBodyC (lawEnv L fa cd)) QF (fun _ _ => False) s := by
  have X := c.X.keeps c.B.stays
  have T := c.T.keeps c.B.stays
  have F := c.F
  have hh : A.handled = none := c.hh
  have hun : A.units < cLine := by omega
  obtain ⟨a, da, b, db, cc, dc, nl, rl, r0, r1, r2, o1, o2, o3, ka, kb, kc, nums⟩ := z
  dsimp only at *
  obtain ⟨dxa, hsa, tka, na, N⟩ := News.osD NC OA
  unfold lawBodyC lawBody lawR12 pick9
  dsimp only [List.drop]
  refine wpAny_execs_cons ?_
  k_steps
  unfold Stop9
  refine wpAny_execs_cons ?_
  k_steps
  unfold Stop9
  have OR9len := OSN.len (s := { s with heap := _ }) OA
  have OR9nd := OSN.nodup (s := { s with heap := _ }) OA
  refine wpAny_call (add_code (s := { s with heap := _, toks := _ }) (Cl.re c F) OA (Int.fmod_nonneg_of_pos n (by decide)) (Int.fmod_lt_of_pos n (by decide)) (by omega) fun h1 tk1 hk1 OA1 => ?_)
  have F1 := FrA F OA hk1
  replace S := Lp9.kpA S hc OA hk1 ne1 ne2
  replace OR := OR.kpA OA hk1
  replace NC := cellsA NC hc d2 d3 OA hk1
  have kl1 := Kl9.ofA OA hk1
  clear N hk1 OA F
  have N := all9_news NC
  dsimp only [List.cons_append, List.nil_append] at N
  dsimp only
  k_steps
  unfold Stop9
  refine wpAny_execs_cons ?_
  have F0 := Stop8.mk F1
  k_steps
  unfold Stop9
  (with_reducible rename News _ _ _ _ => N2); (with_reducible rename Fr _ _ _ _ => F2)
  have hk2 := all9_keep F0.out F2 N2 (by (intro _ hp; repeat (first | exact hp | refine List.Mem.tail _ ?_)))
  have OL : LSN h₀ L _ _ [n.fmod 7] := ⟨_, [_], News.hd N2, ⟨rfl, _, rfl⟩, .cons _ _ .nil⟩
  replace OR := OR.kpL hk2
  replace S := S.kpL hk2
  replace OA1 := OA1.kpL hk2
  have kl2 := kl1.trans (Kl9.of hk2)
  have hlen := OSN.len (s := { s with heap := _ }) OA1
  have hnd := OSN.nodup (s := { s with heap := _ }) OA1
  (try clear NC)
  clear N2 F0 hk2 kl1
  (try clear F1)
  refine concat9 (s := { s with heap := _, toks := _ }) F2 OR OL (by have := OR9len; simp only [List.length_cons, List.length_nil]; omega) fun D3 h3 hk3 O3 _ => ?_
  replace S := S.kp hk3
  replace OA1 := OA1.kp hk3
  have F3 := Fr.kp9 F2 hk3
  have kl3 := kl2.trans (Kl9.of fun b o _ e => hk3 b o e)
  clear OR OL hk3 kl2 F2
  obtain ⟨_, _, _, _, NC, _, _⟩ := S.C
  have N := all9_news NC
  dsimp only [List.cons_append, List.nil_append] at N
  clear NC
  k_steps
  unfold Stop9
  refine wpAny_call (row_code (s := { s with heap := _, toks := _ }) (Cl.re c F3) O3 (by rw [List.length_append]; simp only [List.length_cons, List.length_nil]; omega) (by omega) fun h4 tk4 l4 vs4 n4 hk4 hg4 hs4 hi4 => ?_)
  have O4 := lsn_of F3 hg4 hi4 hs4
  rw [addA_rows OR9nd] at O4
  replace S := S.kp hk4.all
  replace OA1 := OA1.kp hk4.all
  have F4 := Fr.kp9 F3 hk4.all
  have kl4 := kl3.trans (Kl9.of fun b o _ e => hk4.all b o e)
  clear O3 hk4 hg4 hs4 hi4 kl3 F3 N
  obtain ⟨_, _, _, _, NC, _, _⟩ := S.C
  have N := all9_news NC
  dsimp only [List.cons_append, List.nil_append] at N
  clear NC
  have F0 := Stop8.mk F4
  k_steps
  unfold Stop9
  (with_reducible rename News _ _ _ _ => N5); (with_reducible rename Fr _ _ _ _ => F5)
  have hk5 := all9_keep F0.out F5 N5 (by (intro _ hp; repeat (first | exact hp | refine List.Mem.tail _ ?_)))
  exact turnD (s := { s with heap := _, toks := _ }) (Cl.re c F5) hc ne1 ne2 (by ((try dsimp only); repeat (first | rfl | with_reducible assumption | rw [if_neg (by decide)] | rw [if_pos rfl]))) (by ((try dsimp only); repeat (first | rfl | with_reducible assumption | rw [if_neg (by decide)] | rw [if_pos rfl]))) (by ((try dsimp only); repeat (first | rfl | with_reducible assumption | rw [if_neg (by decide)] | rw [if_pos rfl]))) (by ((try dsimp only); repeat (first | rfl | with_reducible assumption | rw [if_neg (by decide)] | rw [if_pos rfl]))) (S.kpL hk5) (OA1.kpL hk5) (O4.kpL hk5) hdep hu fun h tk m' ks' wl' z1 z2 z3 z4 z5 z6 z7 z8 z9 => next h tk m' ks' wl' z1 z2 z3 z4 z5 z6 z7 z8 ((kl4.trans (Kl9.of hk5)).trans z9)

end
end Mine
end
theorem Mine.calm9a56 : True ∧ True := by
  w_top off
  (try walk1) <;> (first | exact True.intro | exact ⟨True.intro, True.intro⟩)

/-! part P55k1 -/
section
open PySem PySem.W PySem.Calls PySem.Spec PyProof.Rows PyProof.Rows.LCg
namespace Mine
theorem fill9an : PySem.Challenge.rw_fs0001_01 = PySem.Challenge.rw_fs0001_01 ∧ ∀ (w : World) h, (hd.heap_39 w.params).In h → True := by
  k_fill
  exact ⟨rfl, fun _ _ _ => trivial⟩

section
variable {prog : Program} {w : World} {p : Program} {loose : List Str} {mean : ExcName → Option Value} {mg mb : Str → Option Value} {A A₀ : Around} {env : Env} {outer : List Env} {base h₀ : Heap} {L : Addr} {m : Str → Option Value} {s : Shared} {news : List (Addr × Obj)} {Q E : Value → Shared → Prop}

local macro_rules | `(tactic| walk_at "execs cons") => `(tactic| (k_here; refine stop9 ?_))
local macro_rules | `(tactic| walk_at "call ref") => `(tactic| (k_here; refine stop9 ?_))
local macro_rules | `(tactic| walk_at "eval Name") => `(tactic| (k_here; k_dflt (refine nameX_L (cl := cellsFrom (_ + 1) lawScope.names []) (by k_asm) (by (first | with_reducible assumption | rfl | (show ite _ _ _ = _; rw [if_neg (by decide)]; with_reducible assumption))) ?_)))
local macro_rules | `(tactic| walk_at "eval Name") => `(tactic| (k_here; k_dflt (refine nameX_C (cl := cellsFrom (_ + 1) lawScope.names []) (by k_asm) (by rfl) (by k_mem) (by with_reducible assumption) ?_)))
local macro_rules | `(tactic| walk_at "eval Name") => `(tactic| (k_here; (with_reducible show wpAny _ _ (eval (Expr.Name _ _) (compEnvC _ _ _ _)) _ _ _); k_dflt (first
  | refine ldOwn9 (by assumption) (by assumption) ?_
  | (refine' ldCell9 ?hc ?hx ?_; (case hx => exact rfl); (case hc => assumption))
  | refine LCgL.ld_global (by k_asm) (by k_asm) (by k_asm) (by k_is) ?_
  | refine LCgL.ld_built (by k_asm) (by k_asm) (by k_asm) (by k_is) (by boot_by_name) (by decide) ?_)))
local macro_rules | `(tactic| walk_at "subscriptTail") => `(tactic| (k_here; refine stop9 ?_))
local macro_rules | `(tactic| walk_at "subscriptTail") => `(tactic| (k_here; (with_reducible show wpAny _ _ (subscriptTail (Expr.Name _ _) (Expr.Constant _ _ _) (Value.ref _) (Value.int _ _)) _ _ _); k_dflt (refine' rowItem9 ?kN ?km ?ka ?kb ?ke ?_ ?khs ?khg; (case kN => k_asm); (case km => k_mem); (case ka => decide); (case kb => decide); (case ke => exact rfl); (case khs => with_unfolding_all rfl); (case khg => (intro _; with_unfolding_all rfl)); k_whole)))
local macro_rules | `(tactic| walk_at "pyIter") => `(tactic| (k_here; refine stop9 ?_))
local macro_rules | `(tactic| walk_at "binaryOp Add ref ref") => `(tactic| (k_here; refine stop9 ?_))

local macro_rules | `(tactic| walk_at "compareOp Eq ref ref") => `(tactic| (k_here; (with_reducible show wpAny _ _ (compareOp CmpOp.Eq (Value.ref _) (Value.ref _)) _ _ _); (refine cmp_ofEq ?_); k_dflt (refine' cmp_K ?k1 ?k2 ?k3 ?k4 ?k5 ?k6 ?k7 ?k8 ?_; (case k1 => assumption); (case k2 => k_asm); (case k3 => k_asm); (case k4 => k_inst); (case k5 => k_typeOf); (case k6 => k_is); (case k7 => k_is); (case k8 => k_is); k_whole)))
local macro_rules | `(tactic| walk_at "eval ListComp") => `(tactic| (k_here; refine stop9 ?_))
local macro_rules | `(tactic| walk_at "compareOp NotIn int ref") => `(tactic| (k_here; refine stop9 ?_))
local macro_rules | `(tactic| walk_at "compareOp In int ref") => `(tactic| (k_here; refine stop9 ?_))

local macro_rules | `(tactic| walk_at "call builtin:sorted") => `(tactic| (k_here; refine stop9 ?_))
local macro_rules | `(tactic| walk_at "compareOp NotEq ref ref") => `(tactic| (k_here; refine stop9 ?_))

local macro_rules | `(tactic| walk_at "subscriptTail Name Slice ref ref") => `(tactic| (k_here; refine stop9 ?_))
local macro_rules | `(tactic| walk_at "subscriptTail Name Constant ref int") => `(tactic| (k_here; refine stop9 ?_))
local macro_rules | `(tactic| walk_at "binaryOp Mod int int") => `(tactic| (k_here; refine stop9 ?_))
local macro_rules | `(tactic| walk_at "unpackItems ref") => `(tactic| (k_here; k_dflt (refine' unpackItemsN_ ?k1 ?k2 ?k3 ?k4 ?k5 ?_; (case k1 => k_asm); (case k2 => k_asm); (case k3 => kun_tup); (case k4 => assumption); (case k5 => exact rfl); k_whole); intro h' F' N'; (try k_sweep)))

set_option maxHeartbeats 2000000 in
theorem turnC1 {fa : Addr} {cd : Value} {z : Ad9} {x d wl ml : Addr} {ks : List Int} {n : Int} {t t' t1 : Tok} {p2 p3 : Obj} {QF : Flow → Shared → Prop} (c : Mine.Cl w p loose mean mg mb A (lawEnv L fa cd) [] A₀ base h₀ L s.heap m) (hc : z.o1.data = .cell (some (.ref z.rl))) (ne1 : d ≠ z.da) (ne2 : z.da ≠ z.db)
    (n1 : m nA = some (.ref z.a)) (n2 : m nB = some (.ref z.b)) (nK : m nKept = some (.ref x)) (nR : m nRow = some (.ref wl)) (S : Lp9 prog w h₀ L z x d s.heap) (OA : OSN prog w h₀ L s.heap z.a z.da ks) (OR : LSN h₀ L s.heap wl ks)
    (nk : m nKind = some (.int 1 t)) (nn : m nN = some (.int n t'))
    (NC : News h₀ L s.heap [(L + 1 + 1 + 1, p3), (L + 1 + 1, p2), (L + 1, z.o1)]) (d2 : p2.data = .cell (some (.int (n.fmod 7) t1))) (d3 : p3.data = .cell (some (.ref ml))) (OM : LSN h₀ L s.heap ml (drawnOf n))
    (hdep : A.depth + 60 < recursionLimit) (hu : A.units + 200 < cLine)
    (next : ∀ h tk m' ks' wl', Fr h₀ L h m' → m' nA = some (.ref z.a) → m' nB = some (.ref z.b) → m' nKept = some (.ref x) → m' nRow = some (.ref wl') → Lp9 prog w h₀ L z x d h → OSN prog w h₀ L h z.a z.da ks' → LSN h₀ L h wl' ks' → Kl9 L s.heap h → QF .next { s with heap := h, toks := tk }) :
    wpAny (model prog w) A (execs lawBodyC (lawEnv L fa cd)) QF (fun _ _ => False) s := by
  have X := c.X.keeps c.B.stays
  have T := c.T.keeps c.B.stays
  have F := c.F
  have hh : A.handled = none := c.hh
  have hun : A.units < cLine := by omega
  obtain ⟨a, da, b, db, cc, dc, nl, rl, r0, r1, r2, o1, o2, o3, ka, kb, kc, nums⟩ := z
  dsimp only at *
  obtain ⟨dxa, hsa, tka, na, N⟩ := News.osD NC OA
  unfold lawBodyC lawBody lawR12 pick9
  dsimp only [List.drop]
  refine wpAny_execs_cons ?_
  k_steps
  unfold Stop9
  refine wpAny_execs_cons ?_
  k_steps
  unfold Stop9
  refine wpAny_execs_cons ?_
  k_steps
  unfold Stop9
  have OR9len := OSN.len (s := { s with heap := _ }) OA
  have OR9nd := OSN.nodup (s := { s with heap := _ }) OA
  refine wpAny_call (addmany_code (s := { s with heap := _, toks := _ }) (Cl.re c F) OA OM (drawn_sm n) (by have := drawn_len n; omega) (by omega) fun h1 tk1 hk1 OA1 => ?_)
  have F1 := FrA F OA hk1
  replace S := Lp9.kpA S hc OA hk1 ne1 ne2
  replace OR := OR.kpA OA hk1
  replace OM := OM.kpA OA hk1
  replace NC := cellsA NC hc d2 d3 OA hk1
  have kl1 := Kl9.ofA OA hk1
  clear N hk1 OA F
  have N := all9_news NC
  dsimp only [List.cons_append, List.nil_append] at N
  dsimp only
  k_steps
  unfold Stop9
  refine wpAny_execs_cons ?_
  have hml := drawn_len n
  k_steps
  unfold Stop9
  refine concat9 (s := { s with heap := _, toks := _ }) F1 OR OM (by omega) fun D3 h3 hk3 O3 _ => ?_
  replace S := S.kp hk3
  replace OA1 := OA1.kp hk3
  have F3 := Fr.kp9 F1 hk3
  have kl3 := kl1.trans (Kl9.of fun b o _ e => hk3 b o e)
  clear OR OM hk3 kl1 F1
  (try clear N)
  (try clear NC)
  obtain ⟨_, _, _, _, NC, _, _⟩ := S.C
  have N := all9_news NC
  dsimp only [List.cons_append, List.nil_append] at N
  clear NC
  k_steps
  unfold Stop9
  refine wpAny_call (row_code (s := { s with heap := _, toks := _ }) (Cl.re c F3) O3 (by rw [List.length_append]; omega) (by omega) fun h4 tk4 l4 vs4 n4 hk4 hg4 hs4 hi4 => ?_)
  have O4 := lsn_of F3 hg4 hi4 hs4
  rw [addA_rows OR9nd] at O4
  replace S := S.kp hk4.all
  replace OA1 := OA1.kp hk4.all
  have F4 := Fr.kp9 F3 hk4.all
  have kl4 := kl3.trans (Kl9.of fun b o _ e => hk4.all b o e)
  clear O3 hk4 hg4 hs4 hi4 kl3 F3 N
  obtain ⟨_, _, _, _, NC, _, _⟩ := S.C
  have N := all9_news NC
  dsimp only [List.cons_append, List.nil_append] at N
  clear NC
  have F0 := Stop8.mk F4
  k_steps
  unfold Stop9
  (with_reducible rename News _ _ _ _ => N5); (with_reducible rename Fr _ _ _ _ => F5)
  have hk5 := all9_keep F0.out F5 N5 (by (intro _ hp; repeat (first | exact hp | refine List.Mem.tail _ ?_)))
  exact turnD (s := { s with heap := _, toks := _ }) (Cl.re c F5) hc ne1 ne2 (by ((try dsimp only); repeat (first | rfl | with_reducible assumption | rw [if_neg (by decide)] | rw [if_pos rfl]))) (by ((try dsimp only); repeat (first | rfl | with_reducible assumption | rw [if_neg (by decide)] | rw [if_pos rfl]))) (by ((try dsimp only); repeat (first | rfl | with_reducible assumption | rw [if_neg (by decide)] | rw [if_pos rfl]))) (by ((try dsimp only); repeat (first | rfl | with_reducible assumption | rw [if_neg (by decide)] | rw [if_pos rfl]))) (S.kpL hk5) (OA1.kpL hk5) (O4.kpL hk5) hdep hu fun h tk m' ks' wl' z1 z2 z3 z4 z5 z6 z7 z8 z9 => next h tk m' ks' wl' z1 z2 z3 z4 z5 z6 z7 z8 ((kl4.trans (Kl9.of hk5)).trans z9)

end
end Mine
end
theorem Mine.calm9a57 : True ∧ True := by
  w_top off
  (try walk1) <;> (first | exact True.intro | exact ⟨True.intro, True.intro⟩)

/-! part P57 -/
section
open PySem PySem.W PySem.Calls PySem.Spec PyProof.Rows PyProof.Rows.LCg
namespace Mine
section
variable {prog : Program} {w : World} {A : Around} {s : Shared} {env : Env} {Q : Flow → Shared → Prop} {E : Value → Shared → Prop} {elt : Expr} {ifs : List Expr} {x y : Str} {scope : Scope} {cl : List (Str × Addr)} {h₀ : Heap} {m : Str → Option Value}
/-- a comprehension of ints over a held list of ints, stored under a local name -/
theorem listAsg9 {l : Addr} {vs : List Value} {ns : List Int} (hl : s.heap.IsList l vs.toArray) (hi : IntsAre vs ns) (hn : ns.length ≤ 100) (hh : A.handled = none) (F : Fr h₀ env.locals s.heap m) (f : Int → Option Int)
    (turn : ∀ C j t h tk m₂, j ∈ ns → h.Ns C m₂ → m₂ x = some (.int j t) → (∀ b o, s.heap.get? b = some o → h.get? b = some o) → s.heap.objs.size ≤ C → Turn9 prog w A (compEnvC scope cl C env) elt ifs { s with heap := h, toks := tk } (fun b v _ => IntTurn9 (f j) b v))
    (done : ∀ D h tk vs', (∀ b o, b ≠ env.locals → s.heap.get? b = some o → h.get? b = some o) → Fr h₀ env.locals h (fun z => if z = y then some (.ref D) else m z) → h.get? D = some (lst vs') → s.heap.objs.size ≤ D → IntsAre vs' (ns.filterMap f) → Q .next { s with heap := h, toks := tk }) :
    wpAny (model prog w) A (pyIter (.ref l)) (AsgAt9 prog w A elt ifs x scope cl env y h₀ Q) E s := by
  have hlt : l < s.heap.objs.size := by obtain ⟨_, e, _⟩ := hl; exact Heap.lt_size e
  refine wpAny_pyIter_list hl ?_
  have e1 : vs.toArray.size = ns.length := by simp [hi.length]
  have W := Walks.list (prog := prog) (w := w) (A := A) hh s.heap.objs.size l (Nat.ne_of_lt hlt) vs.toArray
  rw [e1] at W
  have hsz : (s.heap.push { cls := .type "list_iterator", data := .fields #[.ref l, .int 0 0] }).objs.size = s.heap.objs.size + 1 := Heap.size_push ..
  have hle : s.heap.objs.size ≤ (s.heap.push { cls := .type "list_iterator", data := .fields #[.ref l, .int 0 0] }).objs.size := by rw [hsz]; exact Nat.le_succ _
  have hk₁ : ∀ b o, s.heap.get? b = some o → (s.heap.push { cls := .type "list_iterator", data := .fields #[.ref l, .int 0 0] }).get? b = some o := fun b o e => Heap.get?_push_of_some _ e
  have kp : ∀ h : Heap, (∀ b o, b ≠ s.heap.objs.size → (s.heap.push { cls := .type "list_iterator", data := .fields #[.ref l, .int 0 0] }).get? b = some o → h.get? b = some o) → ∀ b o, s.heap.get? b = some o → h.get? b = some o := fun h hk b o e => hk b o (Nat.ne_of_lt (Heap.lt_size e)) (hk₁ b o e)
  have hIg : h₀.get? s.heap.objs.size = none := by
    cases hq : h₀.get? s.heap.objs.size with
    | none => rfl
    | some o' => exact absurd (Heap.lt_size (F.keep _ _ hq)) (Nat.lt_irrefl _)
  refine ⟨s.heap.objs.size, _, _, _, _, fun _ _ i ys _ => IntsAre ys ((ns.take i).filterMap f), m, rfl, W, by rw [sizeLine_eq]; omega, ⟨⟨_, Heap.get?_push_size _ rfl, rfl, rfl⟩, hl.push _⟩, ?_, fun _ _ _ _ _ _ => .nil, fun _ _ _ _ _ _ h _ => h, ?_, F.push _, hIg, Nat.ne_of_gt F.ns.lt, ?_⟩
  · intro b hb
    show b < (s.heap.push _).objs.size
    rw [hsz]
    rcases List.mem_cons.mp hb with rfl | hb
    · exact Nat.lt_succ_self _
    · rw [List.mem_singleton.mp hb]; exact Nat.lt_succ_of_lt hlt
  · intro C D i ys v h tk m₂ hi' hP hC hD _ _ _ hns hx hk hinv
    obtain ⟨t, j, hj, rfl⟩ := listP hi i v (by simpa using hP)
    have T := turn C j t h tk m₂ (List.mem_of_getElem? hj) hns hx (kp h hk) (Nat.le_trans hle hC)
    have fin : ∀ b v, IntTurn9 (f j) b v → IntsAre (if b = true then ys ++ [v] else ys) ((ns.take (i + 1)).filterMap f) := by
      intro b v hg
      rw [List.take_add_one, hj, List.filterMap_append]
      unfold IntTurn9 at hg
      cases hf : f j with
      | none => rw [hf] at hg; subst hg; simpa [hf] using hinv
      | some j' =>
        rw [hf] at hg
        obtain ⟨rfl, t, rfl⟩ := hg
        simp only [if_true, Option.toList_some, List.filterMap_cons, hf, List.filterMap_nil]
        exact hinv.append (.cons j' t .nil)
    unfold Turn9 at T ⊢
    refine wpAny_mono T (fun ok s₃ h₃ => ?_) fun _ _ e => e
    cases ok with
    | false =>
      obtain ⟨h', tk', rfl, a, b⟩ := h₃
      exact ⟨h', tk', rfl, a, fin _ _ b⟩
    | true =>
      exact wpAny_mono h₃ (fun v s₄ ⟨h', tk', e, a, b⟩ => ⟨h', tk', e, a, fin _ _ b⟩) fun _ _ e => e
  · intro C D ys h tk hD hk hF hinv hg
    rw [List.take_length] at hinv
    exact done D h tk ys (fun b o hb e => hk b o (Nat.ne_of_lt (Heap.lt_size e)) hb (hk₁ b o e)) hF hg (Nat.le_trans hle hD) hinv
end
end Mine
end
theorem Mine.calm9a58 : True ∧ True := by
  w_top off
  (try walk1) <;> (first | exact True.intro | exact ⟨True.intro, True.intro⟩)

/-! part P58 -/
section
open PySem PySem.W PySem.Calls PySem.Spec PyProof.Rows PyProof.Rows.LCg
namespace Mine
theorem fill9ao : PySem.Challenge.rw_fs0001_01 = PySem.Challenge.rw_fs0001_01 ∧ ∀ (w : World) h, (hd.heap_39 w.params).In h → True := by
  k_fill
  exact ⟨rfl, fun _ _ _ => trivial⟩

section
variable {prog : Program} {w : World} {p : Program} {loose : List Str} {mean : ExcName → Option Value} {mg mb : Str → Option Value} {A A₀ : Around} {env : Env} {outer : List Env} {base h₀ : Heap} {L : Addr} {m : Str → Option Value} {s : Shared} {news : List (Addr × Obj)} {Q E : Value → Shared → Prop}

local macro_rules | `(tactic| walk_at "execs cons") => `(tactic| (k_here; refine stop9 ?_))
local macro_rules | `(tactic| walk_at "call ref") => `(tactic| (k_here; refine stop9 ?_))
local macro_rules | `(tactic| walk_at "eval Name") => `(tactic| (k_here; k_dflt (refine nameX_L (cl := cellsFrom (_ + 1) lawScope.names []) (by k_asm) (by (first | with_reducible assumption | rfl | (show ite _ _ _ = _; rw [if_neg (by decide)]; with_reducible assumption))) ?_)))
local macro_rules | `(tactic| walk_at "eval Name") => `(tactic| (k_here; k_dflt (refine nameX_C (cl := cellsFrom (_ + 1) lawScope.names []) (by k_asm) (by rfl) (by k_mem) (by with_reducible assumption) ?_)))
local macro_rules | `(tactic| walk_at "eval Name") => `(tactic| (k_here; (with_reducible show wpAny _ _ (eval (Expr.Name _ _) (compEnvC _ _ _ _)) _ _ _); k_dflt (first
  | refine ldOwn9 (by assumption) (by assumption) ?_
  | (refine' ldCell9 ?hc ?hx ?_; (case hx => exact rfl); (case hc => assumption))
  | refine LCgL.ld_global (by k_asm) (by k_asm) (by k_asm) (by k_is) ?_
  | refine LCgL.ld_built (by k_asm) (by k_asm) (by k_asm) (by k_is) (by boot_by_name) (by decide) ?_)))
local macro_rules | `(tactic| walk_at "subscriptTail") => `(tactic| (k_here; refine stop9 ?_))
local macro_rules | `(tactic| walk_at "subscriptTail") => `(tactic| (k_here; (with_reducible show wpAny _ _ (subscriptTail (Expr.Name _ _) (Expr.Constant _ _ _) (Value.ref _) (Value.int _ _)) _ _ _); k_dflt (refine' rowItem9 ?kN ?km ?ka ?kb ?ke ?_ ?khs ?khg; (case kN => k_asm); (case km => k_mem); (case ka => decide); (case kb => decide); (case ke => exact rfl); (case khs => with_unfolding_all rfl); (case khg => (intro _; with_unfolding_all rfl)); k_whole)))
local macro_rules | `(tactic| walk_at "pyIter") => `(tactic| (k_here; refine stop9 ?_))
local macro_rules | `(tactic| walk_at "binaryOp Add ref ref") => `(tactic| (k_here; refine stop9 ?_))

local macro_rules | `(tactic| walk_at "compareOp Eq ref ref") => `(tactic| (k_here; (with_reducible show wpAny _ _ (compareOp CmpOp.Eq (Value.ref _) (Value.ref _)) _ _ _); (refine cmp_ofEq ?_); k_dflt (refine' cmp_K ?k1 ?k2 ?k3 ?k4 ?k5 ?k6 ?k7 ?k8 ?_; (case k1 => assumption); (case k2 => k_asm); (case k3 => k_asm); (case k4 => k_inst); (case k5 => k_typeOf); (case k6 => k_is); (case k7 => k_is); (case k8 => k_is); k_whole)))
local macro_rules | `(tactic| walk_at "eval ListComp") => `(tactic| (k_here; refine stop9 ?_))
local macro_rules | `(tactic| walk_at "compareOp NotIn int ref") => `(tactic| (k_here; refine stop9 ?_))
local macro_rules | `(tactic| walk_at "compareOp In int ref") => `(tactic| (k_here; refine stop9 ?_))

local macro_rules | `(tactic| walk_at "call builtin:sorted") => `(tactic| (k_here; refine stop9 ?_))
local macro_rules | `(tactic| walk_at "compareOp NotEq ref ref") => `(tactic| (k_here; refine stop9 ?_))

local macro_rules | `(tactic| walk_at "subscriptTail Name Slice ref ref") => `(tactic| (k_here; refine stop9 ?_))
local macro_rules | `(tactic| walk_at "subscriptTail Name Constant ref int") => `(tactic| (k_here; refine stop9 ?_))
local macro_rules | `(tactic| walk_at "binaryOp Mod int int") => `(tactic| (k_here; refine stop9 ?_))
local macro_rules | `(tactic| walk_at "unpackItems ref") => `(tactic| (k_here; k_dflt (refine' unpackItemsN_ ?k1 ?k2 ?k3 ?k4 ?k5 ?_; (case k1 => k_asm); (case k2 => k_asm); (case k3 => kun_tup); (case k4 => assumption); (case k5 => exact rfl); k_whole); intro h' F' N'; (try k_sweep)))

local macro_rules | `(tactic| walk_at "exec Assign cons ListComp") => `(tactic| (k_here; refine stop9 ?_))
local macro_rules | `(tactic| walk_at "compareOp NotEq int int") => `(tactic| (k_here; refine stop9 ?_))

set_option maxHeartbeats 2000000 in
theorem turnC2 {fa : Addr} {cd : Value} {z : Ad9} {x d wl ml : Addr} {ks : List Int} {n : Int} {t t' t1 : Tok} {p2 p3 : Obj} {QF : Flow → Shared → Prop} (c : Mine.Cl w p loose mean mg mb A (lawEnv L fa cd) [] A₀ base h₀ L s.heap m) (hc : z.o1.data = .cell (some (.ref z.rl))) (ne1 : d ≠ z.da) (ne2 : z.da ≠ z.db)
    (n1 : m nA = some (.ref z.a)) (n2 : m nB = some (.ref z.b)) (nK : m nKept = some (.ref x)) (nR : m nRow = some (.ref wl)) (S : Lp9 prog w h₀ L z x d s.heap) (OA : OSN prog w h₀ L s.heap z.a z.da ks) (OR : LSN h₀ L s.heap wl ks)
    (nk : m nKind = some (.int 2 t)) (nn : m nN = some (.int n t'))
    (NC : News h₀ L s.heap [(L + 1 + 1 + 1, p3), (L + 1 + 1, p2), (L + 1, z.o1)]) (d2 : p2.data = .cell (some (.int (n.fmod 7) t1))) (d3 : p3.data = .cell (some (.ref ml))) (OM : LSN h₀ L s.heap ml (drawnOf n))
    (hdep : A.depth + 60 < recursionLimit) (hu : A.units + 200 < cLine)
    (next : ∀ h tk m' ks' wl', Fr h₀ L h m' → m' nA = some (.ref z.a) → m' nB = some (.ref z.b) → m' nKept = some (.ref x) → m' nRow = some (.ref wl') → Lp9 prog w h₀ L z x d h → OSN prog w h₀ L h z.a z.da ks' → LSN h₀ L h wl' ks' → Kl9 L s.heap h → QF .next { s with heap := h, toks := tk }) :
    wpAny (model prog w) A (execs lawBodyC (lawEnv L fa cd)) QF (fun _ _ => False) s := by
  have X := c.X.keeps c.B.stays
  have T := c.T.keeps c.B.stays
  have F := c.F
  have hh : A.handled = none := c.hh
  have hun : A.units < cLine := by omega
  obtain ⟨a, da, b, db, cc, dc, nl, rl, r0, r1, r2, o1, o2, o3, ka, kb, kc, nums⟩ := z
  dsimp only at *
  obtain ⟨dxa, hsa, tka, na, N⟩ := News.osD NC OA
  unfold lawBodyC lawBody lawR12 pick9
  dsimp only [List.drop]
  refine wpAny_execs_cons ?_
  k_steps
  unfold Stop9
  refine wpAny_execs_cons ?_
  k_steps
  unfold Stop9
  refine wpAny_execs_cons ?_
  k_steps
  unfold Stop9
  refine wpAny_execs_cons ?_
  k_steps
  unfold Stop9
  have OR9len := OSN.len (s := { s with heap := _ }) OA
  have OR9nd := OSN.nodup (s := { s with heap := _ }) OA
  refine wpAny_call (discard_code (s := { s with heap := _, toks := _ }) (Cl.re c F) OA (by omega) fun h1 tk1 hk1 OA1 => ?_)
  have F1 := FrA F OA hk1
  replace S := Lp9.kpA S hc OA hk1 ne1 ne2
  replace OR := OR.kpA OA hk1
  replace OM := OM.kpA OA hk1
  replace NC := cellsA NC hc d2 d3 OA hk1
  have kl1 := Kl9.ofA OA hk1
  clear N hk1 OA F
  have N := all9_news NC
  dsimp only [List.cons_append, List.nil_append] at N
  dsimp only
  k_steps
  unfold Stop9
  refine wpAny_execs_cons ?_
  k_steps
  unfold Stop9
  k_dflt (refine asg9 (h₀ := h₀) (by first | rfl | kernel_rfl) (by rfl) (by decide) (by rfl) (by decide) (by rfl) (by rfl) (by rfl) ?_)
  k_steps
  unfold Stop9
  obtain ⟨ol, vs, Nl, hol, hiv⟩ := id OR
  refine listAsg9 (s := { s with heap := h1, toks := _ }) (hol.at (Nl _ (.head _)).1) hiv (by omega) hh F1 (fun k => if decide (k ≠ n.fmod 7) = true then some k else none) (fun C j t h tk m₂ hj hns hx hk hC => turn_one9 ?_) (fun D2 h2 tk2 vs2 hk2 F2 hD2 hs2 hi2 => ?_)
  · clear Nl
    have Fh := Fr.kp9 F1 hk
    have cell : h.IsCell (L + 1 + 1) (some (.int (n.fmod 7) t1)) := ⟨_, hk _ _ (NC _ (.tail _ (.head _))).1, d2⟩
    k_steps
    unfold Stop9
    refine ne_int ?_
    rw [show (j != n.fmod 7) = decide (j ≠ n.fmod 7) from by rw [Bool.eq_iff_iff, bne_iff_ne, decide_eq_true_iff]]
    by_cases hjb : j ≠ n.fmod 7
    · rw [decide_eq_true hjb]
      k_steps
      refine ⟨?_⟩
      rw [if_pos rfl]
      k_steps
      exact ⟨⟨h, _, rfl, fun b o e => e, rfl, _, rfl⟩⟩
    · rw [decide_eq_false hjb]
      k_steps
      exact ⟨⟨h, _, rfl, fun b o e => e, rfl⟩⟩
  · rw [fm_filter (fun k => decide (k ≠ n.fmod 7))] at hi2
    have O2 := lsn_lst F1 hD2 hi2 hs2
    have e0 : outI ks (n.fmod 7) = ks.filter (fun k => decide (k ≠ n.fmod 7)) := rfl
    rw [← e0] at O2
    replace S := S.kpL hk2
    replace OA1 := OA1.kpL hk2
    have kl2 := kl1.trans (Kl9.of (L := L) hk2)
    clear Nl N
    (try clear NC)
    have hk2' := hk2
    clear hk2 F1 OR
    k_steps
    unfold Stop9
    exact turnD (s := { s with heap := _, toks := _ }) (Cl.re c F2) hc ne1 ne2 (by ((try dsimp only); repeat (first | rfl | with_reducible assumption | rw [if_neg (by decide)] | rw [if_pos rfl]))) (by ((try dsimp only); repeat (first | rfl | with_reducible assumption | rw [if_neg (by decide)] | rw [if_pos rfl]))) (by ((try dsimp only); repeat (first | rfl | with_reducible assumption | rw [if_neg (by decide)] | rw [if_pos rfl]))) (by ((try dsimp only); repeat (first | rfl | with_reducible assumption | rw [if_neg (by decide)] | rw [if_pos rfl]))) S OA1 O2 hdep hu fun h tk m' ks' wl' z1 z2 z3 z4 z5 z6 z7 z8 z9 => next h tk m' ks' wl' z1 z2 z3 z4 z5 z6 z7 z8 (kl2.trans z9)

end
end Mine
end
theorem Mine.calm9a59 : True ∧ True := by
  w_top off
  (try walk1) <;> (first | exact True.intro | exact ⟨True.intro, True.intro⟩)

/-! part P59 -/
section
open PySem PySem.W PySem.Calls PySem.Spec PyProof.Rows PyProof.Rows.LCg
namespace Mine
theorem fill9ap : PySem.Challenge.rw_fs0001_01 = PySem.Challenge.rw_fs0001_01 ∧ ∀ (w : World) h, (hd.heap_39 w.params).In h → True := by
  k_fill
  exact ⟨rfl, fun _ _ _ => trivial⟩

section
variable {prog : Program} {w : World} {p : Program} {loose : List Str} {mean : ExcName → Option Value} {mg mb : Str → Option Value} {A A₀ : Around} {env : Env} {outer : List Env} {base h₀ : Heap} {L : Addr} {m : Str → Option Value} {s : Shared} {news : List (Addr × Obj)} {Q E : Value → Shared → Prop}

local macro_rules | `(tactic| walk_at "execs cons") => `(tactic| (k_here; refine stop9 ?_))
local macro_rules | `(tactic| walk_at "call ref") => `(tactic| (k_here; refine stop9 ?_))
local macro_rules | `(tactic| walk_at "eval Name") => `(tactic| (k_here; k_dflt (refine nameX_L (cl := cellsFrom (_ + 1) lawScope.names []) (by k_asm) (by (first | with_reducible assumption | rfl | (show ite _ _ _ = _; rw [if_neg (by decide)]; with_reducible assumption))) ?_)))
local macro_rules | `(tactic| walk_at "eval Name") => `(tactic| (k_here; k_dflt (refine nameX_C (cl := cellsFrom (_ + 1) lawScope.names []) (by k_asm) (by rfl) (by k_mem) (by with_reducible assumption) ?_)))
local macro_rules | `(tactic| walk_at "eval Name") => `(tactic| (k_here; (with_reducible show wpAny _ _ (eval (Expr.Name _ _) (compEnvC _ _ _ _)) _ _ _); k_dflt (first
  | refine ldOwn9 (by assumption) (by assumption) ?_
  | (refine' ldCell9 ?hc ?hx ?_; (case hx => exact rfl); (case hc => assumption))
  | refine LCgL.ld_global (by k_asm) (by k_asm) (by k_asm) (by k_is) ?_
  | refine LCgL.ld_built (by k_asm) (by k_asm) (by k_asm) (by k_is) (by boot_by_name) (by decide) ?_)))
local macro_rules | `(tactic| walk_at "subscriptTail") => `(tactic| (k_here; refine stop9 ?_))
local macro_rules | `(tactic| walk_at "subscriptTail") => `(tactic| (k_here; (with_reducible show wpAny _ _ (subscriptTail (Expr.Name _ _) (Expr.Constant _ _ _) (Value.ref _) (Value.int _ _)) _ _ _); k_dflt (refine' rowItem9 ?kN ?km ?ka ?kb ?ke ?_ ?khs ?khg; (case kN => k_asm); (case km => k_mem); (case ka => decide); (case kb => decide); (case ke => exact rfl); (case khs => with_unfolding_all rfl); (case khg => (intro _; with_unfolding_all rfl)); k_whole)))
local macro_rules | `(tactic| walk_at "pyIter") => `(tactic| (k_here; refine stop9 ?_))
local macro_rules | `(tactic| walk_at "binaryOp Add ref ref") => `(tactic| (k_here; refine stop9 ?_))

local macro_rules | `(tactic| walk_at "compareOp Eq ref ref") => `(tactic| (k_here; (with_reducible show wpAny _ _ (compareOp CmpOp.Eq (Value.ref _) (Value.ref _)) _ _ _); (refine cmp_ofEq ?_); k_dflt (refine' cmp_K ?k1 ?k2 ?k3 ?k4 ?k5 ?k6 ?k7 ?k8 ?_; (case k1 => assumption); (case k2 => k_asm); (case k3 => k_asm); (case k4 => k_inst); (case k5 => k_typeOf); (case k6 => k_is); (case k7 => k_is); (case k8 => k_is); k_whole)))
local macro_rules | `(tactic| walk_at "eval ListComp") => `(tactic| (k_here; refine stop9 ?_))
local macro_rules | `(tactic| walk_at "compareOp NotIn int ref") => `(tactic| (k_here; refine stop9 ?_))
local macro_rules | `(tactic| walk_at "compareOp In int ref") => `(tactic| (k_here; refine stop9 ?_))

local macro_rules | `(tactic| walk_at "call builtin:sorted") => `(tactic| (k_here; refine stop9 ?_))
local macro_rules | `(tactic| walk_at "compareOp NotEq ref ref") => `(tactic| (k_here; refine stop9 ?_))

local macro_rules | `(tactic| walk_at "subscriptTail Name Slice ref ref") => `(tactic| (k_here; refine stop9 ?_))
local macro_rules | `(tactic| walk_at "subscriptTail Name Constant ref int") => `(tactic| (k_here; refine stop9 ?_))
local macro_rules | `(tactic| walk_at "binaryOp Mod int int") => `(tactic| (k_here; refine stop9 ?_))
local macro_rules | `(tactic| walk_at "unpackItems ref") => `(tactic| (k_here; k_dflt (refine' unpackItemsN_ ?k1 ?k2 ?k3 ?k4 ?k5 ?_; (case k1 => k_asm); (case k2 => k_asm); (case k3 => kun_tup); (case k4 => assumption); (case k5 => exact rfl); k_whole); intro h' F' N'; (try k_sweep)))

local macro_rules | `(tactic| walk_at "exec Assign cons ListComp") => `(tactic| (k_here; refine stop9 ?_))
local macro_rules | `(tactic| walk_at "compareOp NotEq int int") => `(tactic| (k_here; refine stop9 ?_))

set_option maxHeartbeats 2000000 in
theorem turnC5 {fa : Addr} {cd : Value} {z : Ad9} {x d wl ml : Addr} {ks : List Int} {n : Int} {t t' t1 : Tok} {p2 p3 : Obj} {QF : Flow → Shared → Prop} (c : Mine.Cl w p loose mean mg mb A (lawEnv L fa cd) [] A₀ base h₀ L s.heap m) (hc : z.o1.data = .cell (some (.ref z.rl))) (ne1 : d ≠ z.da) (ne2 : z.da ≠ z.db)
    (n1 : m nA = some (.ref z.a)) (n2 : m nB = some (.ref z.b)) (nK : m nKept = some (.ref x)) (nR : m nRow = some (.ref wl)) (S : Lp9 prog w h₀ L z x d s.heap) (OA : OSN prog w h₀ L s.heap z.a z.da ks) (OR : LSN h₀ L s.heap wl ks)
    (nk : m nKind = some (.int 5 t)) (nn : m nN = some (.int n t'))
    (NC : News h₀ L s.heap [(L + 1 + 1 + 1, p3), (L + 1 + 1, p2), (L + 1, z.o1)]) (d2 : p2.data = .cell (some (.int (n.fmod 7) t1))) (d3 : p3.data = .cell (some (.ref ml))) (OM : LSN h₀ L s.heap ml (drawnOf n))
    (hdep : A.depth + 60 < recursionLimit) (hu : A.units + 200 < cLine)
    (next : ∀ h tk m' ks' wl', Fr h₀ L h m' → m' nA = some (.ref z.a) → m' nB = some (.ref z.b) → m' nKept = some (.ref x) → m' nRow = some (.ref wl') → Lp9 prog w h₀ L z x d h → OSN prog w h₀ L h z.a z.da ks' → LSN h₀ L h wl' ks' → Kl9 L s.heap h → QF .next { s with heap := h, toks := tk }) :
    wpAny (model prog w) A (execs lawBodyC (lawEnv L fa cd)) QF (fun _ _ => False) s := by
  have X := c.X.keeps c.B.stays
  have T := c.T.keeps c.B.stays
  have F := c.F
  have hh : A.handled = none := c.hh
  have hun : A.units < cLine := by omega
  obtain ⟨a, da, b, db, cc, dc, nl, rl, r0, r1, r2, o1, o2, o3, ka, kb, kc, nums⟩ := z
  dsimp only at *
  obtain ⟨dxa, hsa, tka, na, N⟩ := News.osD NC OA
  unfold lawBodyC lawBody lawR12 pick9
  dsimp only [List.drop]
  refine wpAny_execs_cons ?_
  k_steps
  unfold Stop9
  refine wpAny_execs_cons ?_
  k_steps
  unfold Stop9
  refine wpAny_execs_cons ?_
  k_steps
  unfold Stop9
  refine wpAny_execs_cons ?_
  k_steps
  unfold Stop9
  refine wpAny_execs_cons ?_
  k_steps
  unfold Stop9
  refine wpAny_execs_cons ?_
  k_steps
  unfold Stop9
  refine wpAny_execs_cons ?_
  k_steps
  unfold Stop9
  have OR9len := OSN.len (s := { s with heap := _ }) OA
  have OR9nd := OSN.nodup (s := { s with heap := _ }) OA
  refine wpAny_call (dropL_code (s := { s with heap := _, toks := _ }) (Cl.re c F) OA OM (drawn_sm n) (by have := drawn_len n; omega) (by omega) fun h1 tk1 hk1 OA1 => ?_)
  have F1 := FrA F OA hk1
  replace S := Lp9.kpA S hc OA hk1 ne1 ne2
  replace OR := OR.kpA OA hk1
  replace OM := OM.kpA OA hk1
  replace NC := cellsA NC hc d2 d3 OA hk1
  have kl1 := Kl9.ofA OA hk1
  clear N hk1 OA F
  have N := all9_news NC
  dsimp only [List.cons_append, List.nil_append] at N
  dsimp only
  k_steps
  unfold Stop9
  refine wpAny_execs_cons ?_
  k_steps
  unfold Stop9
  k_dflt (refine asg9 (h₀ := h₀) (by first | rfl | kernel_rfl) (by rfl) (by decide) (by rfl) (by decide) (by rfl) (by rfl) (by rfl) ?_)
  k_steps
  unfold Stop9
  obtain ⟨ol, vs, Nl, hol, hiv⟩ := id OR
  refine listAsg9 (s := { s with heap := h1, toks := _ }) (hol.at (Nl _ (.head _)).1) hiv (by omega) hh F1 (fun k => if decide (k ∉ drawnOf n) = true then some k else none) (fun C j t h tk m₂ hj hns hx hk hC => turn_one9 ?_) (fun D2 h2 tk2 vs2 hk2 F2 hD2 hs2 hi2 => ?_)
  · clear Nl
    have Fh := Fr.kp9 F1 hk
    have cell : h.IsCell (L + 1 + 1 + 1) (some (.ref ml)) := ⟨_, hk _ _ (NC _ (.head _)).1, d3⟩
    k_steps
    unfold Stop9
    obtain ⟨ob, vsb, Nb, hob, hib⟩ := OM.kp hk
    have hlb' : h.IsList ml vsb.toArray := hob.at (Nb _ (.head _)).1
    clear Nb
    refine ninL9 hlb' hib ?_
    by_cases hjb : j ∉ drawnOf n
    · rw [decide_eq_true hjb]
      k_steps
      refine ⟨?_⟩
      rw [if_pos rfl]
      k_steps
      exact ⟨⟨h, _, rfl, fun b o e => e, rfl, _, rfl⟩⟩
    · rw [decide_eq_false hjb]
      k_steps
      exact ⟨⟨h, _, rfl, fun b o e => e, rfl⟩⟩
  · rw [fm_filter (fun k => decide (k ∉ drawnOf n))] at hi2
    have O2 := lsn_lst F1 hD2 hi2 hs2
    rw [← outA_eq] at O2
    replace S := S.kpL hk2
    replace OA1 := OA1.kpL hk2
    have kl2 := kl1.trans (Kl9.of (L := L) hk2)
    clear Nl N
    (try clear NC)
    have hk2' := hk2
    clear hk2 F1 OR
    k_steps
    unfold Stop9
    exact turnD (s := { s with heap := _, toks := _ }) (Cl.re c F2) hc ne1 ne2 (by ((try dsimp only); repeat (first | rfl | with_reducible assumption | rw [if_neg (by decide)] | rw [if_pos rfl]))) (by ((try dsimp only); repeat (first | rfl | with_reducible assumption | rw [if_neg (by decide)] | rw [if_pos rfl]))) (by ((try dsimp only); repeat (first | rfl | with_reducible assumption | rw [if_neg (by decide)] | rw [if_pos rfl]))) (by ((try dsimp only); repeat (first | rfl | with_reducible assumption | rw [if_neg (by decide)] | rw [if_pos rfl]))) S OA1 O2 hdep hu fun h tk m' ks' wl' z1 z2 z3 z4 z5 z6 z7 z8 z9 => next h tk m' ks' wl' z1 z2 z3 z4 z5 z6 z7 z8 (kl2.trans z9)

end
end Mine
end
theorem Mine.calm9a60 : True ∧ True := by
  w_top off
  (try walk1) <;> (first | exact True.intro | exact ⟨True.intro, True.intro⟩)

/-! part P60 -/
section
open PySem PySem.W PySem.Calls PySem.Spec PyProof.Rows PyProof.Rows.LCg
namespace Mine
theorem fill9aq : PySem.Challenge.rw_fs0001_01 = PySem.Challenge.rw_fs0001_01 ∧ ∀ (w : World) h, (hd.heap_39 w.params).In h → True := by
  k_fill
  exact ⟨rfl, fun _ _ _ => trivial⟩

section
variable {prog : Program} {w : World} {p : Program} {loose : List Str} {mean : ExcName → Option Value} {mg mb : Str → Option Value} {A A₀ : Around} {env : Env} {outer : List Env} {base h₀ : Heap} {L : Addr} {m : Str → Option Value} {s : Shared} {news : List (Addr × Obj)} {Q E : Value → Shared → Prop}

theorem addA_into (ks : List Int) : ∀ dr acc : List Int, addA ks (addA acc dr) = addA (addA ks acc) dr
  | [], acc => rfl
  | n :: dr, acc => by
    show addA ks (addA (addI acc n) dr) = addA (addI (addA ks acc) n) dr
    rw [addA_into ks dr (addI acc n)]
    congr 1
    unfold addI
    by_cases h : n ∈ acc
    · rw [if_pos h, if_pos (mem_addA9.mpr (.inr h))]
    · rw [if_neg h, addA_append]
      rfl
local macro_rules | `(tactic| walk_at "execs cons") => `(tactic| (k_here; refine stop9 ?_))
local macro_rules | `(tactic| walk_at "call ref") => `(tactic| (k_here; refine stop9 ?_))
local macro_rules | `(tactic| walk_at "eval Name") => `(tactic| (k_here; k_dflt (refine nameX_L (cl := cellsFrom (_ + 1) lawScope.names []) (by k_asm) (by (first | with_reducible assumption | rfl | (show ite _ _ _ = _; rw [if_neg (by decide)]; with_reducible assumption))) ?_)))
local macro_rules | `(tactic| walk_at "eval Name") => `(tactic| (k_here; k_dflt (refine nameX_C (cl := cellsFrom (_ + 1) lawScope.names []) (by k_asm) (by rfl) (by k_mem) (by with_reducible assumption) ?_)))
local macro_rules | `(tactic| walk_at "eval Name") => `(tactic| (k_here; (with_reducible show wpAny _ _ (eval (Expr.Name _ _) (compEnvC _ _ _ _)) _ _ _); k_dflt (first
  | refine ldOwn9 (by assumption) (by assumption) ?_
  | (refine' ldCell9 ?hc ?hx ?_; (case hx => exact rfl); (case hc => assumption))
  | refine LCgL.ld_global (by k_asm) (by k_asm) (by k_asm) (by k_is) ?_
  | refine LCgL.ld_built (by k_asm) (by k_asm) (by k_asm) (by k_is) (by boot_by_name) (by decide) ?_)))
local macro_rules | `(tactic| walk_at "subscriptTail") => `(tactic| (k_here; refine stop9 ?_))
local macro_rules | `(tactic| walk_at "subscriptTail") => `(tactic| (k_here; (with_reducible show wpAny _ _ (subscriptTail (Expr.Name _ _) (Expr.Constant _ _ _) (Value.ref _) (Value.int _ _)) _ _ _); k_dflt (refine' rowItem9 ?kN ?km ?ka ?kb ?ke ?_ ?khs ?khg; (case kN => k_asm); (case km => k_mem); (case ka => decide); (case kb => decide); (case ke => exact rfl); (case khs => with_unfolding_all rfl); (case khg => (intro _; with_unfolding_all rfl)); k_whole)))
local macro_rules | `(tactic| walk_at "pyIter") => `(tactic| (k_here; refine stop9 ?_))
local macro_rules | `(tactic| walk_at "binaryOp Add ref ref") => `(tactic| (k_here; refine stop9 ?_))

local macro_rules | `(tactic| walk_at "compareOp Eq ref ref") => `(tactic| (k_here; (with_reducible show wpAny _ _ (compareOp CmpOp.Eq (Value.ref _) (Value.ref _)) _ _ _); (refine cmp_ofEq ?_); k_dflt (refine' cmp_K ?k1 ?k2 ?k3 ?k4 ?k5 ?k6 ?k7 ?k8 ?_; (case k1 => assumption); (case k2 => k_asm); (case k3 => k_asm); (case k4 => k_inst); (case k5 => k_typeOf); (case k6 => k_is); (case k7 => k_is); (case k8 => k_is); k_whole)))
local macro_rules | `(tactic| walk_at "eval ListComp") => `(tactic| (k_here; refine stop9 ?_))
local macro_rules | `(tactic| walk_at "compareOp NotIn int ref") => `(tactic| (k_here; refine stop9 ?_))
local macro_rules | `(tactic| walk_at "compareOp In int ref") => `(tactic| (k_here; refine stop9 ?_))

local macro_rules | `(tactic| walk_at "call builtin:sorted") => `(tactic| (k_here; refine stop9 ?_))
local macro_rules | `(tactic| walk_at "compareOp NotEq ref ref") => `(tactic| (k_here; refine stop9 ?_))

local macro_rules | `(tactic| walk_at "subscriptTail Name Slice ref ref") => `(tactic| (k_here; refine stop9 ?_))
local macro_rules | `(tactic| walk_at "subscriptTail Name Constant ref int") => `(tactic| (k_here; refine stop9 ?_))
local macro_rules | `(tactic| walk_at "binaryOp Mod int int") => `(tactic| (k_here; refine stop9 ?_))
local macro_rules | `(tactic| walk_at "unpackItems ref") => `(tactic| (k_here; k_dflt (refine' unpackItemsN_ ?k1 ?k2 ?k3 ?k4 ?k5 ?_; (case k1 => k_asm); (case k2 => k_asm); (case k3 => kun_tup); (case k4 => assumption); (case k5 => exact rfl); k_whole); intro h' F' N'; (try k_sweep)))

local macro_rules | `(tactic| walk_at "exec Assign cons ListComp") => `(tactic| (k_here; refine stop9 ?_))
local macro_rules | `(tactic| walk_at "compareOp NotEq int int") => `(tactic| (k_here; refine stop9 ?_))

set_option maxHeartbeats 2000000 in
theorem turnC6 {fa : Addr} {cd : Value} {z : Ad9} {x d wl ml : Addr} {ks : List Int} {n : Int} {t t' t1 : Tok} {p2 p3 : Obj} {QF : Flow → Shared → Prop} (c : Mine.Cl w p loose mean mg mb A (lawEnv L fa cd) [] A₀ base h₀ L s.heap m) (hc : z.o1.data = .cell (some (.ref z.rl))) (ne1 : d ≠ z.da) (ne2 : z.da ≠ z.db)
    (n1 : m nA = some (.ref z.a)) (n2 : m nB = some (.ref z.b)) (nK : m nKept = some (.ref x)) (nR : m nRow = some (.ref wl)) (S : Lp9 prog w h₀ L z x d s.heap) (OA : OSN prog w h₀ L s.heap z.a z.da ks) (OR : LSN h₀ L s.heap wl ks)
    (nk : m nKind = some (.int 6 t)) (nn : m nN = some (.int n t'))
    (NC : News h₀ L s.heap [(L + 1 + 1 + 1, p3), (L + 1 + 1, p2), (L + 1, z.o1)]) (d2 : p2.data = .cell (some (.int (n.fmod 7) t1))) (d3 : p3.data = .cell (some (.ref ml))) (OM : LSN h₀ L s.heap ml (drawnOf n))
    (hdep : A.depth + 60 < recursionLimit) (hu : A.units + 200 < cLine)
    (next : ∀ h tk m' ks' wl', Fr h₀ L h m' → m' nA = some (.ref z.a) → m' nB = some (.ref z.b) → m' nKept = some (.ref x) → m' nRow = some (.ref wl') → Lp9 prog w h₀ L z x d h → OSN prog w h₀ L h z.a z.da ks' → LSN h₀ L h wl' ks' → Kl9 L s.heap h → QF .next { s with heap := h, toks := tk }) :
    wpAny (model prog w) A (execs lawBodyC (lawEnv L fa cd)) QF (fun _ _ => False) s := by
  have X := c.X.keeps c.B.stays
  have T := c.T.keeps c.B.stays
  have F := c.F
  have hh : A.handled = none := c.hh
  have hun : A.units < cLine := by omega
  obtain ⟨a, da, b, db, cc, dc, nl, rl, r0, r1, r2, o1, o2, o3, ka, kb, kc, nums⟩ := z
  dsimp only at *
  obtain ⟨dxa, hsa, tka, na, N⟩ := News.osD NC OA
  unfold lawBodyC lawBody lawR12 pick9
  dsimp only [List.drop]
  refine wpAny_execs_cons ?_
  k_steps
  unfold Stop9
  refine wpAny_execs_cons ?_
  k_steps
  unfold Stop9
  refine wpAny_execs_cons ?_
  k_steps
  unfold Stop9
  refine wpAny_execs_cons ?_
  k_steps
  unfold Stop9
  refine wpAny_execs_cons ?_
  k_steps
  unfold Stop9
  refine wpAny_execs_cons ?_
  k_steps
  unfold Stop9
  refine wpAny_execs_cons ?_
  k_steps
  unfold Stop9
  refine wpAny_execs_cons ?_
  k_steps
  refine wpAny_loadName_local (by rfl) (by rfl) F.ns n1 ?_
  k_steps
  unfold Stop9
  have OR9len := OSN.len (s := { s with heap := _ }) OA
  have OR9nd := OSN.nodup (s := { s with heap := _ }) OA
  obtain ⟨om, vm, Nm, hom, him⟩ := id OM
  refine wpAny_call (cls_code (s := { s with heap := _, toks := _ }) (Cl.re c F) Nm (fk9_list hom him (by have := drawn_len n; omega)) (fun rs e => by rw [e]; exact sm_addA sm_nil (drawn_sm n)) (by omega) fun x1 d1 h1 tk1 rs hk1 hrs O1 => ?_)
  have hne1 : d1 ≠ da := NewOS.apart O1 OA
  replace O1 := NewOS.osn O1 F
  rw [hrs] at O1
  replace S := S.kp hk1.all
  replace OR := OR.kp hk1.all
  replace OM := OM.kp hk1.all
  replace OA := OA.kp hk1.all
  replace NC := News.kp9 NC hk1.all
  have F1 := Fr.kp9 F hk1.all
  have kl0 : Kl9 L s.heap h1 := Kl9.of fun b o _ e => hk1.all b o e
  clear Nm hk1 F N hrs rs
  obtain ⟨_, _, _, _, N1⟩ := News.osD NC OA
  obtain ⟨_, _, _, _, N⟩ := News.osD N1 O1
  clear N1
  dsimp only
  k_steps
  unfold Stop9
  refine wpAny_call (ior_code (s := { s with heap := _, toks := _ }) (Cl.re c F1) OA O1 hne1 (by omega) fun h2 tk2 hk2 OA1 => ?_)
  dsimp only [PySem.W.CmpBack]
  rw [addA_into] at OA1
  replace OA1 : OSN prog w h₀ L h2 a da (addA ks (drawnOf n)) := OA1
  have F2 := FrA F1 OA hk2
  replace S := Lp9.kpA S hc OA hk2 ne1 ne2
  replace OR := OR.kpA OA hk2
  replace OM := OM.kpA OA hk2
  replace NC := cellsA NC hc d2 d3 OA hk2
  have kl1' := kl0.trans (Kl9.ofA OA hk2)
  clear N hk2 OA F1 O1 kl0
  have N := all9_news NC
  dsimp only [List.cons_append, List.nil_append] at N
  have F0 := Stop8.mk F2
  have NC0 := Stop8.mk NC
  k_steps
  unfold Stop9
  (with_reducible rename News _ _ _ _ => N3); (with_reducible rename Fr _ _ _ _ => F1)
  have hk3 := all9_keep F0.out F1 N3 (by (intro _ hp; repeat (first | exact hp | refine List.Mem.tail _ ?_)))
  replace S := S.kpL hk3
  replace OR := OR.kpL hk3
  replace OM := OM.kpL hk3
  replace OA1 := OA1.kpL hk3
  (try clear NC)
  have NC := kpNs NC0.out hk3
  have kl1 := kl1'.trans (Kl9.of hk3)
  clear N3 F0 hk3 kl1' NC0
  (try clear N)
  have N := all9_news NC
  dsimp only [List.cons_append, List.nil_append] at N
  refine wpAny_execs_cons ?_
  have hml := drawn_len n
  have hrow : (fun y => if y = nA then some (Value.ref a) else m y) nRow = some (Value.ref wl) := by ((try dsimp only); repeat (first | rfl | with_reducible assumption | rw [if_neg (by decide)] | rw [if_pos rfl]))
  k_steps
  unfold Stop9
  refine concat9 (s := { s with heap := _, toks := _ }) F1 OR OM (by omega) fun D3 h3 hk3 O3 _ => ?_
  replace S := S.kp hk3
  replace OA1 := OA1.kp hk3
  have F3 := Fr.kp9 F1 hk3
  have kl3 := kl1.trans (Kl9.of fun b o _ e => hk3 b o e)
  clear OR OM hk3 kl1 F1
  (try clear N)
  (try clear NC)
  obtain ⟨_, _, _, _, NC, _, _⟩ := S.C
  have N := all9_news NC
  dsimp only [List.cons_append, List.nil_append] at N
  clear NC
  k_steps
  unfold Stop9
  refine wpAny_call (row_code (s := { s with heap := _, toks := _ }) (Cl.re c F3) O3 (by rw [List.length_append]; omega) (by omega) fun h4 tk4 l4 vs4 n4 hk4 hg4 hs4 hi4 => ?_)
  have O4 := lsn_of F3 hg4 hi4 hs4
  rw [addA_rows OR9nd] at O4
  replace S := S.kp hk4.all
  replace OA1 := OA1.kp hk4.all
  have F4 := Fr.kp9 F3 hk4.all
  have kl4 := kl3.trans (Kl9.of fun b o _ e => hk4.all b o e)
  clear O3 hk4 hg4 hs4 hi4 kl3 F3 N
  obtain ⟨_, _, _, _, NC, _, _⟩ := S.C
  have N := all9_news NC
  dsimp only [List.cons_append, List.nil_append] at N
  clear NC
  have F0 := Stop8.mk F4
  k_steps
  unfold Stop9
  (with_reducible rename News _ _ _ _ => N5); (with_reducible rename Fr _ _ _ _ => F5)
  have hk5 := all9_keep F0.out F5 N5 (by (intro _ hp; repeat (first | exact hp | refine List.Mem.tail _ ?_)))
  exact turnD (s := { s with heap := _, toks := _ }) (Cl.re c F5) hc ne1 ne2 (by ((try dsimp only); repeat (first | rfl | with_reducible assumption | rw [if_neg (by decide)] | rw [if_pos rfl]))) (by ((try dsimp only); repeat (first | rfl | with_reducible assumption | rw [if_neg (by decide)] | rw [if_pos rfl]))) (by ((try dsimp only); repeat (first | rfl | with_reducible assumption | rw [if_neg (by decide)] | rw [if_pos rfl]))) (by ((try dsimp only); repeat (first | rfl | with_reducible assumption | rw [if_neg (by decide)] | rw [if_pos rfl]))) (S.kpL hk5) (OA1.kpL hk5) (O4.kpL hk5) hdep hu fun h tk m' ks' wl' z1 z2 z3 z4 z5 z6 z7 z8 z9 => next h tk m' ks' wl' z1 z2 z3 z4 z5 z6 z7 z8 ((kl4.trans (Kl9.of hk5)).trans z9)

end
end Mine
end
theorem Mine.calm9a61 : True ∧ True := by
  w_top off
  (try walk1) <;> (first | exact True.intro | exact ⟨True.intro, True.intro⟩)

/-! part P61 -/
section
open PySem PySem.W PySem.Calls PySem.Spec PyProof.Rows PyProof.Rows.LCg
namespace Mine
theorem fill9ar : PySem.Challenge.rw_fs0001_01 = PySem.Challenge.rw_fs0001_01 ∧ ∀ (w : World) h, (hd.heap_39 w.params).In h → True := by
  k_fill
  exact ⟨rfl, fun _ _ _ => trivial⟩

section
variable {prog : Program} {w : World} {p : Program} {loose : List Str} {mean : ExcName → Option Value} {mg mb : Str → Option Value} {A A₀ : Around} {env : Env} {outer : List Env} {base h₀ : Heap} {L : Addr} {m : Str → Option Value} {s : Shared} {news : List (Addr × Obj)} {Q E : Value → Shared → Prop}

local macro_rules | `(tactic| walk_at "execs cons") => `(tactic| (k_here; refine stop9 ?_))
local macro_rules | `(tactic| walk_at "call ref") => `(tactic| (k_here; refine stop9 ?_))
local macro_rules | `(tactic| walk_at "eval Name") => `(tactic| (k_here; k_dflt (refine nameX_L (cl := cellsFrom (_ + 1) lawScope.names []) (by k_asm) (by (first | with_reducible assumption | rfl | (show ite _ _ _ = _; rw [if_neg (by decide)]; with_reducible assumption))) ?_)))
local macro_rules | `(tactic| walk_at "eval Name") => `(tactic| (k_here; k_dflt (refine nameX_C (cl := cellsFrom (_ + 1) lawScope.names []) (by k_asm) (by rfl) (by k_mem) (by with_reducible assumption) ?_)))
local macro_rules | `(tactic| walk_at "eval Name") => `(tactic| (k_here; (with_reducible show wpAny _ _ (eval (Expr.Name _ _) (compEnvC _ _ _ _)) _ _ _); k_dflt (first
  | refine ldOwn9 (by assumption) (by assumption) ?_
  | (refine' ldCell9 ?hc ?hx ?_; (case hx => exact rfl); (case hc => assumption))
  | refine LCgL.ld_global (by k_asm) (by k_asm) (by k_asm) (by k_is) ?_
  | refine LCgL.ld_built (by k_asm) (by k_asm) (by k_asm) (by k_is) (by boot_by_name) (by decide) ?_)))
local macro_rules | `(tactic| walk_at "subscriptTail") => `(tactic| (k_here; refine stop9 ?_))
local macro_rules | `(tactic| walk_at "subscriptTail") => `(tactic| (k_here; (with_reducible show wpAny _ _ (subscriptTail (Expr.Name _ _) (Expr.Constant _ _ _) (Value.ref _) (Value.int _ _)) _ _ _); k_dflt (refine' rowItem9 ?kN ?km ?ka ?kb ?ke ?_ ?khs ?khg; (case kN => k_asm); (case km => k_mem); (case ka => decide); (case kb => decide); (case ke => exact rfl); (case khs => with_unfolding_all rfl); (case khg => (intro _; with_unfolding_all rfl)); k_whole)))
local macro_rules | `(tactic| walk_at "pyIter") => `(tactic| (k_here; refine stop9 ?_))
local macro_rules | `(tactic| walk_at "binaryOp Add ref ref") => `(tactic| (k_here; refine stop9 ?_))

local macro_rules | `(tactic| walk_at "compareOp Eq ref ref") => `(tactic| (k_here; (with_reducible show wpAny _ _ (compareOp CmpOp.Eq (Value.ref _) (Value.ref _)) _ _ _); (refine cmp_ofEq ?_); k_dflt (refine' cmp_K ?k1 ?k2 ?k3 ?k4 ?k5 ?k6 ?k7 ?k8 ?_; (case k1 => assumption); (case k2 => k_asm); (case k3 => k_asm); (case k4 => k_inst); (case k5 => k_typeOf); (case k6 => k_is); (case k7 => k_is); (case k8 => k_is); k_whole)))
local macro_rules | `(tactic| walk_at "eval ListComp") => `(tactic| (k_here; refine stop9 ?_))
local macro_rules | `(tactic| walk_at "compareOp NotIn int ref") => `(tactic| (k_here; refine stop9 ?_))
local macro_rules | `(tactic| walk_at "compareOp In int ref") => `(tactic| (k_here; refine stop9 ?_))

local macro_rules | `(tactic| walk_at "call builtin:sorted") => `(tactic| (k_here; refine stop9 ?_))
local macro_rules | `(tactic| walk_at "compareOp NotEq ref ref") => `(tactic| (k_here; refine stop9 ?_))

local macro_rules | `(tactic| walk_at "subscriptTail Name Slice ref ref") => `(tactic| (k_here; refine stop9 ?_))
local macro_rules | `(tactic| walk_at "subscriptTail Name Constant ref int") => `(tactic| (k_here; refine stop9 ?_))
local macro_rules | `(tactic| walk_at "binaryOp Mod int int") => `(tactic| (k_here; refine stop9 ?_))
local macro_rules | `(tactic| walk_at "unpackItems ref") => `(tactic| (k_here; k_dflt (refine' unpackItemsN_ ?k1 ?k2 ?k3 ?k4 ?k5 ?_; (case k1 => k_asm); (case k2 => k_asm); (case k3 => kun_tup); (case k4 => assumption); (case k5 => exact rfl); k_whole); intro h' F' N'; (try k_sweep)))

local macro_rules | `(tactic| walk_at "exec Assign cons ListComp") => `(tactic| (k_here; refine stop9 ?_))
local macro_rules | `(tactic| walk_at "compareOp NotEq int int") => `(tactic| (k_here; refine stop9 ?_))

set_option maxHeartbeats 2000000 in
theorem turnC3 {fa : Addr} {cd : Value} {z : Ad9} {x d wl ml : Addr} {ks : List Int} {n : Int} {t t' t1 : Tok} {p2 p3 : Obj} {QF : Flow → Shared → Prop} (c : Mine.Cl w p loose mean mg mb A (lawEnv L fa cd) [] A₀ base h₀ L s.heap m) (hc : z.o1.data = .cell (some (.ref z.rl))) (ne1 : d ≠ z.da) (ne2 : z.da ≠ z.db)
    (n1 : m nA = some (.ref z.a)) (n2 : m nB = some (.ref z.b)) (nK : m nKept = some (.ref x)) (nR : m nRow = some (.ref wl)) (S : Lp9 prog w h₀ L z x d s.heap) (OA : OSN prog w h₀ L s.heap z.a z.da ks) (OR : LSN h₀ L s.heap wl ks)
    (nk : m nKind = some (.int 3 t)) (nn : m nN = some (.int n t'))
    (NC : News h₀ L s.heap [(L + 1 + 1 + 1, p3), (L + 1 + 1, p2), (L + 1, z.o1)]) (d2 : p2.data = .cell (some (.int (n.fmod 7) t1))) (d3 : p3.data = .cell (some (.ref ml))) (OM : LSN h₀ L s.heap ml (drawnOf n))
    (hdep : A.depth + 60 < recursionLimit) (hu : A.units + 200 < cLine)
    (next : ∀ h tk m' ks' wl', Fr h₀ L h m' → m' nA = some (.ref z.a) → m' nB = some (.ref z.b) → m' nKept = some (.ref x) → m' nRow = some (.ref wl') → Lp9 prog w h₀ L z x d h → OSN prog w h₀ L h z.a z.da ks' → LSN h₀ L h wl' ks' → Kl9 L s.heap h → QF .next { s with heap := h, toks := tk }) :
    wpAny (model prog w) A (execs lawBodyC (lawEnv L fa cd)) QF (fun _ _ => False) s := by
  have X := c.X.keeps c.B.stays
  have T := c.T.keeps c.B.stays
  have F := c.F
  have hh : A.handled = none := c.hh
  have hun : A.units < cLine := by omega
  obtain ⟨a, da, b, db, cc, dc, nl, rl, r0, r1, r2, o1, o2, o3, ka, kb, kc, nums⟩ := z
  dsimp only at *
  obtain ⟨dxa, hsa, tka, na, N⟩ := News.osD NC OA
  unfold lawBodyC lawBody lawR12 pick9
  dsimp only [List.drop]
  refine wpAny_execs_cons ?_
  k_steps
  unfold Stop9
  refine wpAny_execs_cons ?_
  k_steps
  unfold Stop9
  refine wpAny_execs_cons ?_
  k_steps
  unfold Stop9
  refine wpAny_execs_cons ?_
  k_steps
  unfold Stop9
  obtain ⟨ol, vl, Nl, hol, hil⟩ := id OR
  have hlr : s.heap.IsList wl vl.toArray := hol.at (Nl _ (.head _)).1
  clear Nl
  refine inL9 hlr hil ?_
  by_cases hin : n.fmod 7 ∈ ks
  · rw [decide_eq_true hin]
    k_steps
    unfold Stop9
    refine wpAny_execs_cons ?_
    k_steps
    unfold Stop9
    have OR9len := OSN.len (s := { s with heap := _ }) OA
    have OR9nd := OSN.nodup (s := { s with heap := _ }) OA
    refine wpAny_call (remove_code (s := { s with heap := _, toks := _ }) (Cl.re c F) OA hin (by omega) fun h1 tk1 hk1 OA1 => ?_)
    have F1 := FrA F OA hk1
    replace S := Lp9.kpA S hc OA hk1 ne1 ne2
    replace OR := OR.kpA OA hk1
    replace OM := OM.kpA OA hk1
    replace NC := cellsA NC hc d2 d3 OA hk1
    have kl1 := Kl9.ofA OA hk1
    clear N hk1 OA F
    have N := all9_news NC
    dsimp only [List.cons_append, List.nil_append] at N
    dsimp only
    k_steps
    unfold Stop9
    refine wpAny_execs_cons ?_
    k_steps
    unfold Stop9
    k_dflt (refine asg9 (h₀ := h₀) (by first | rfl | kernel_rfl) (by rfl) (by decide) (by rfl) (by decide) (by rfl) (by rfl) (by rfl) ?_)
    k_steps
    unfold Stop9
    clear hlr hil hol
    obtain ⟨ol, vs, Nl, hol, hiv⟩ := id OR
    refine listAsg9 (s := { s with heap := h1, toks := _ }) (hol.at (Nl _ (.head _)).1) hiv (by omega) hh F1 (fun k => if decide (k ≠ n.fmod 7) = true then some k else none) (fun C j t h tk m₂ hj hns hx hk hC => turn_one9 ?_) (fun D2 h2 tk2 vs2 hk2 F2 hD2 hs2 hi2 => ?_)
    · clear Nl
      have Fh := Fr.kp9 F1 hk
      have cell : h.IsCell (L + 1 + 1) (some (.int (n.fmod 7) t1)) := ⟨_, hk _ _ (NC _ (.tail _ (.head _))).1, d2⟩
      k_steps
      unfold Stop9
      refine ne_int ?_
      rw [show (j != n.fmod 7) = decide (j ≠ n.fmod 7) from by rw [Bool.eq_iff_iff, bne_iff_ne, decide_eq_true_iff]]
      by_cases hjb : j ≠ n.fmod 7
      · rw [decide_eq_true hjb]
        k_steps
        refine ⟨?_⟩
        rw [if_pos rfl]
        k_steps
        exact ⟨⟨h, _, rfl, fun b o e => e, rfl, _, rfl⟩⟩
      · rw [decide_eq_false hjb]
        k_steps
        exact ⟨⟨h, _, rfl, fun b o e => e, rfl⟩⟩
    · rw [fm_filter (fun k => decide (k ≠ n.fmod 7))] at hi2
      have O2 := lsn_lst F1 hD2 hi2 hs2
      have e0 : outI ks (n.fmod 7) = ks.filter (fun k => decide (k ≠ n.fmod 7)) := rfl
      rw [← e0] at O2
      replace S := S.kpL hk2
      replace OA1 := OA1.kpL hk2
      have kl2 := kl1.trans (Kl9.of (L := L) hk2)
      clear Nl N
      (try clear NC)
      have hk2' := hk2
      clear hk2 F1 OR
      k_steps
      unfold Stop9
      exact turnD (s := { s with heap := _, toks := _ }) (Cl.re c F2) hc ne1 ne2 (by ((try dsimp only); repeat (first | rfl | with_reducible assumption | rw [if_neg (by decide)] | rw [if_pos rfl]))) (by ((try dsimp only); repeat (first | rfl | with_reducible assumption | rw [if_neg (by decide)] | rw [if_pos rfl]))) (by ((try dsimp only); repeat (first | rfl | with_reducible assumption | rw [if_neg (by decide)] | rw [if_pos rfl]))) (by ((try dsimp only); repeat (first | rfl | with_reducible assumption | rw [if_neg (by decide)] | rw [if_pos rfl]))) S OA1 O2 hdep hu fun h tk m' ks' wl' z1 z2 z3 z4 z5 z6 z7 z8 z9 => next h tk m' ks' wl' z1 z2 z3 z4 z5 z6 z7 z8 (kl2.trans z9)
  · rw [decide_eq_false hin]
    k_steps
    unfold Stop9
    refine wpAny_execs_cons ?_
    k_steps
    unfold Stop9
    refine wpAny_execs_cons ?_
    k_steps
    unfold Stop9
    refine wpAny_execs_cons ?_
    k_steps
    unfold Stop9
    refine wpAny_execs_cons ?_
    k_steps
    unfold Stop9
    exact turnD (s := { s with heap := _, toks := _ }) (Cl.re c F) hc ne1 ne2 n1 n2 nK nR S OA OR hdep hu fun h tk m' ks' wl' z1 z2 z3 z4 z5 z6 z7 z8 z9 => next h tk m' ks' wl' z1 z2 z3 z4 z5 z6 z7 z8 z9

end
end Mine
end
theorem Mine.calm9a62 : True ∧ True := by
  w_top off
  (try walk1) <;> (first | exact True.intro | exact ⟨True.intro, True.intro⟩)

/-! part P62 -/
section
open PySem PySem.W PySem.Calls PySem.Spec PyProof.Rows PyProof.Rows.LCg
namespace Mine
theorem fill9as : PySem.Challenge.rw_fs0001_01 = PySem.Challenge.rw_fs0001_01 ∧ ∀ (w : World) h, (hd.heap_39 w.params).In h → True := by
  k_fill
  exact ⟨rfl, fun _ _ _ => trivial⟩

section
variable {prog : Program} {w : World} {p : Program} {loose : List Str} {mean : ExcName → Option Value} {mg mb : Str → Option Value} {A A₀ : Around} {env : Env} {outer : List Env} {base h₀ : Heap} {L : Addr} {m : Str → Option Value} {s : Shared} {news : List (Addr × Obj)} {Q E : Value → Shared → Prop}

local macro_rules | `(tactic| walk_at "execs cons") => `(tactic| (k_here; refine stop9 ?_))
local macro_rules | `(tactic| walk_at "call ref") => `(tactic| (k_here; refine stop9 ?_))
local macro_rules | `(tactic| walk_at "eval Name") => `(tactic| (k_here; k_dflt (refine nameX_L (cl := cellsFrom (_ + 1) lawScope.names []) (by k_asm) (by (first | with_reducible assumption | rfl | (show ite _ _ _ = _; rw [if_neg (by decide)]; with_reducible assumption))) ?_)))
local macro_rules | `(tactic| walk_at "eval Name") => `(tactic| (k_here; k_dflt (refine nameX_C (cl := cellsFrom (_ + 1) lawScope.names []) (by k_asm) (by rfl) (by k_mem) (by with_reducible assumption) ?_)))
local macro_rules | `(tactic| walk_at "eval Name") => `(tactic| (k_here; (with_reducible show wpAny _ _ (eval (Expr.Name _ _) (compEnvC _ _ _ _)) _ _ _); k_dflt (first
  | refine ldOwn9 (by assumption) (by assumption) ?_
  | (refine' ldCell9 ?hc ?hx ?_; (case hx => exact rfl); (case hc => assumption))
  | refine LCgL.ld_global (by k_asm) (by k_asm) (by k_asm) (by k_is) ?_
  | refine LCgL.ld_built (by k_asm) (by k_asm) (by k_asm) (by k_is) (by boot_by_name) (by decide) ?_)))
local macro_rules | `(tactic| walk_at "subscriptTail") => `(tactic| (k_here; refine stop9 ?_))
local macro_rules | `(tactic| walk_at "subscriptTail") => `(tactic| (k_here; (with_reducible show wpAny _ _ (subscriptTail (Expr.Name _ _) (Expr.Constant _ _ _) (Value.ref _) (Value.int _ _)) _ _ _); k_dflt (refine' rowItem9 ?kN ?km ?ka ?kb ?ke ?_ ?khs ?khg; (case kN => k_asm); (case km => k_mem); (case ka => decide); (case kb => decide); (case ke => exact rfl); (case khs => with_unfolding_all rfl); (case khg => (intro _; with_unfolding_all rfl)); k_whole)))
local macro_rules | `(tactic| walk_at "pyIter") => `(tactic| (k_here; refine stop9 ?_))
local macro_rules | `(tactic| walk_at "binaryOp Add ref ref") => `(tactic| (k_here; refine stop9 ?_))

local macro_rules | `(tactic| walk_at "compareOp Eq ref ref") => `(tactic| (k_here; (with_reducible show wpAny _ _ (compareOp CmpOp.Eq (Value.ref _) (Value.ref _)) _ _ _); (refine cmp_ofEq ?_); k_dflt (refine' cmp_K ?k1 ?k2 ?k3 ?k4 ?k5 ?k6 ?k7 ?k8 ?_; (case k1 => assumption); (case k2 => k_asm); (case k3 => k_asm); (case k4 => k_inst); (case k5 => k_typeOf); (case k6 => k_is); (case k7 => k_is); (case k8 => k_is); k_whole)))
local macro_rules | `(tactic| walk_at "eval ListComp") => `(tactic| (k_here; refine stop9 ?_))
local macro_rules | `(tactic| walk_at "compareOp NotIn int ref") => `(tactic| (k_here; refine stop9 ?_))
local macro_rules | `(tactic| walk_at "compareOp In int ref") => `(tactic| (k_here; refine stop9 ?_))

local macro_rules | `(tactic| walk_at "call builtin:sorted") => `(tactic| (k_here; refine stop9 ?_))
local macro_rules | `(tactic| walk_at "compareOp NotEq ref ref") => `(tactic| (k_here; refine stop9 ?_))

local macro_rules | `(tactic| walk_at "subscriptTail Name Slice ref ref") => `(tactic| (k_here; refine stop9 ?_))
local macro_rules | `(tactic| walk_at "subscriptTail Name Constant ref int") => `(tactic| (k_here; refine stop9 ?_))
local macro_rules | `(tactic| walk_at "binaryOp Mod int int") => `(tactic| (k_here; refine stop9 ?_))
local macro_rules | `(tactic| walk_at "unpackItems ref") => `(tactic| (k_here; k_dflt (refine' unpackItemsN_ ?k1 ?k2 ?k3 ?k4 ?k5 ?_; (case k1 => k_asm); (case k2 => k_asm); (case k3 => kun_tup); (case k4 => assumption); (case k5 => exact rfl); k_whole); intro h' F' N'; (try k_sweep)))

local macro_rules | `(tactic| walk_at "exec Assign cons ListComp") => `(tactic| (k_here; refine stop9 ?_))
local macro_rules | `(tactic| walk_at "compareOp NotEq int int") => `(tactic| (k_here; refine stop9 ?_))

set_option maxHeartbeats 2000000 in
theorem turnC7 {fa : Addr} {cd : Value} {z : Ad9} {x d wl ml : Addr} {ks : List Int} {n : Int} {t t' t1 : Tok} {p2 p3 : Obj} {QF : Flow → Shared → Prop} (c : Mine.Cl w p loose mean mg mb A (lawEnv L fa cd) [] A₀ base h₀ L s.heap m) (hc : z.o1.data = .cell (some (.ref z.rl))) (ne1 : d ≠ z.da) (ne2 : z.da ≠ z.db)
    (n1 : m nA = some (.ref z.a)) (n2 : m nB = some (.ref z.b)) (nK : m nKept = some (.ref x)) (nR : m nRow = some (.ref wl)) (S : Lp9 prog w h₀ L z x d s.heap) (OA : OSN prog w h₀ L s.heap z.a z.da ks) (OR : LSN h₀ L s.heap wl ks)
    (nk : m nKind = some (.int 7 t)) (nn : m nN = some (.int n t'))
    (NC : News h₀ L s.heap [(L + 1 + 1 + 1, p3), (L + 1 + 1, p2), (L + 1, z.o1)]) (d2 : p2.data = .cell (some (.int (n.fmod 7) t1))) (d3 : p3.data = .cell (some (.ref ml))) (OM : LSN h₀ L s.heap ml (drawnOf n))
    (hdep : A.depth + 60 < recursionLimit) (hu : A.units + 200 < cLine)
    (next : ∀ h tk m' ks' wl', Fr h₀ L h m' → m' nA = some (.ref z.a) → m' nB = some (.ref z.b) → m' nKept = some (.ref x) → m' nRow = some (.ref wl') → Lp9 prog w h₀ L z x d h → OSN prog w h₀ L h z.a z.da ks' → LSN h₀ L h wl' ks' → Kl9 L s.heap h → QF .next { s with heap := h, toks := tk }) :
    wpAny (model prog w) A (execs lawBodyC (lawEnv L fa cd)) QF (fun _ _ => False) s := by
  have X := c.X.keeps c.B.stays
  have T := c.T.keeps c.B.stays
  have F := c.F
  have hh : A.handled = none := c.hh
  have hun : A.units < cLine := by omega
  obtain ⟨a, da, b, db, cc, dc, nl, rl, r0, r1, r2, o1, o2, o3, ka, kb, kc, nums⟩ := z
  dsimp only at *
  obtain ⟨dxa, hsa, tka, na, N⟩ := News.osD NC OA
  unfold lawBodyC lawBody lawR12 pick9
  dsimp only [List.drop]
  refine wpAny_execs_cons ?_
  k_steps
  unfold Stop9
  refine wpAny_execs_cons ?_
  k_steps
  unfold Stop9
  refine wpAny_execs_cons ?_
  k_steps
  unfold Stop9
  refine wpAny_execs_cons ?_
  k_steps
  unfold Stop9
  refine wpAny_execs_cons ?_
  k_steps
  unfold Stop9
  refine wpAny_execs_cons ?_
  k_steps
  unfold Stop9
  refine wpAny_execs_cons ?_
  k_steps
  unfold Stop9
  refine wpAny_execs_cons ?_
  k_steps
  unfold Stop9
  refine wpAny_execs_cons ?_
  k_steps
  unfold Stop9
  refine mod_int (by omega) ?_
  by_cases h5 : n.fmod 5 = 4
  · rw [h5]
    k_steps
    unfold Stop9
    refine wpAny_execs_cons ?_
    k_steps
    unfold Stop9
    have OR9len := OSN.len (s := { s with heap := _ }) OA
    have OR9nd := OSN.nodup (s := { s with heap := _ }) OA
    refine wpAny_call (clear_code (s := { s with heap := _, toks := _ }) (Cl.re c F) OA (by omega) fun h1 tk1 hk1 OA1 => ?_)
    have F1 := FrA F OA hk1
    replace S := Lp9.kpA S hc OA hk1 ne1 ne2
    replace OR := OR.kpA OA hk1
    replace OM := OM.kpA OA hk1
    replace NC := cellsA NC hc d2 d3 OA hk1
    have kl1 := Kl9.ofA OA hk1
    clear N hk1 OA F
    have N := all9_news NC
    dsimp only [List.cons_append, List.nil_append] at N
    dsimp only
    k_steps
    unfold Stop9
    refine wpAny_execs_cons ?_
    have F0 := Stop8.mk F1
    k_steps
    unfold Stop9
    (with_reducible rename News _ _ _ _ => N5); (with_reducible rename Fr _ _ _ _ => F5)
    have hk5 := all9_keep F0.out F5 N5 (by (intro _ hp; repeat (first | exact hp | refine List.Mem.tail _ ?_)))
    exact turnD (s := { s with heap := _, toks := _ }) (Cl.re c F5) hc ne1 ne2 (by ((try dsimp only); repeat (first | rfl | with_reducible assumption | rw [if_neg (by decide)] | rw [if_pos rfl]))) (by ((try dsimp only); repeat (first | rfl | with_reducible assumption | rw [if_neg (by decide)] | rw [if_pos rfl]))) (by ((try dsimp only); repeat (first | rfl | with_reducible assumption | rw [if_neg (by decide)] | rw [if_pos rfl]))) (by ((try dsimp only); repeat (first | rfl | with_reducible assumption | rw [if_neg (by decide)] | rw [if_pos rfl]))) (S.kpL hk5) (OA1.kpL hk5) ⟨_, [], News.hd N5, ⟨rfl, _, rfl⟩, .nil⟩ hdep hu fun h tk m' ks' wl' z1 z2 z3 z4 z5 z6 z7 z8 z9 => next h tk m' ks' wl' z1 z2 z3 z4 z5 z6 z7 z8 ((kl1.trans (Kl9.of hk5)).trans z9)
  · k_steps
    · exact absurd (by assumption) h5
    · unfold Stop9
      refine wpAny_execs_cons ?_
      k_steps
      refine wpAny_loadName_local (by rfl) (by rfl) F.ns n1 ?_
      k_steps
      unfold Stop9
      have OR9len := OSN.len (s := { s with heap := _ }) OA
      have OB : OSN prog w h₀ L s.heap b db kb := S.OB
      refine wpAny_call (isub_code (s := { s with heap := _, toks := _ }) (Cl.re c F) OA OB (Ne.symm ne2) (by omega) fun h2 tk2 hk2 OA1 => ?_)
      dsimp only [PySem.W.CmpBack]
      replace OA1 : OSN prog w h₀ L h2 a da (outA ks kb) := OA1
      have F2 := FrA F OA hk2
      replace S := Lp9.kpA S hc OA hk2 ne1 ne2
      replace OR := OR.kpA OA hk2
      replace OM := OM.kpA OA hk2
      replace NC := cellsA NC hc d2 d3 OA hk2
      have kl1' := Kl9.ofA OA hk2
      clear N hk2 OA F OB
      have N := all9_news NC
      dsimp only [List.cons_append, List.nil_append] at N
      have F0 := Stop8.mk F2
      have NC0 := Stop8.mk NC
      k_steps
      unfold Stop9
      (with_reducible rename News _ _ _ _ => N3); (with_reducible rename Fr _ _ _ _ => F1)
      have hk3 := all9_keep F0.out F1 N3 (by (intro _ hp; repeat (first | exact hp | refine List.Mem.tail _ ?_)))
      replace S := S.kpL hk3
      replace OR := OR.kpL hk3
      replace OM := OM.kpL hk3
      replace OA1 := OA1.kpL hk3
      (try clear NC)
      have NC := kpNs NC0.out hk3
      have kl1 := kl1'.trans (Kl9.of hk3)
      clear N3 F0 hk3 kl1' NC0
      (try clear N)
      have N := all9_news NC
      dsimp only [List.cons_append, List.nil_append] at N
      refine wpAny_execs_cons ?_
      k_steps
      unfold Stop9
      k_dflt (refine asg9 (h₀ := h₀) (by first | rfl | kernel_rfl) (by rfl) (by decide) (by rfl) (by decide) (by rfl) (by rfl) (by rfl) ?_)
      k_steps
      unfold Stop9
      obtain ⟨ol, vs, Nl, hol, hiv⟩ := id OR
      refine listAsg9 (s := { s with heap := _, toks := _ }) (hol.at (Nl _ (.head _)).1) hiv (by omega) hh F1 (fun k => if decide (k ∉ kb) = true then some k else none) (fun C j t h tk m₂ hj hns hx hk hC => turn_one9 ?_) (fun D2 h2 tk2 vs2 hk2 F2 hD2 hs2 hi2 => ?_)
      · clear Nl
        have Fh := Fr.kp9 F1 hk
        have cell : h.IsCell (L + 1) (some (.ref rl)) := ⟨_, hk _ _ (NC _ (.tail _ (.tail _ (.head _)))).1, hc⟩
        obtain ⟨ob, vsb, Nb, hob, hib⟩ := S.R1.kp hk
        have hlb' : h.IsList r1 vsb.toArray := hob.at (Nb _ (.head _)).1
        clear Nb
        have Nh : News h₀ L h [(rl, lst [.ref r0, .ref r1, .ref r2])] := News.kp9 S.N hk
        k_steps
        unfold Stop9
        refine' rowItem9 (vs := [.ref r0, .ref r1, .ref r2]) Nh (.head _) ?ka ?kb ?ke ?_ ?khs ?khg; (case ka => decide); (case kb => decide); (case ke => exact rfl); (case khs => with_unfolding_all rfl); (case khg => (intro _; with_unfolding_all rfl))
        k_steps
        unfold Stop9
        refine ninL9 hlb' hib ?_
        show wpAny _ _ (truthy (.bool (decide (j ∉ kb)))) _ _ _
        by_cases hjb : j ∉ kb
        · rw [decide_eq_true hjb]
          k_steps
          refine ⟨?_⟩
          rw [if_pos rfl]
          k_steps
          exact ⟨⟨h, _, rfl, fun b o e => e, rfl, _, rfl⟩⟩
        · rw [decide_eq_false hjb]
          k_steps
          exact ⟨⟨h, _, rfl, fun b o e => e, rfl⟩⟩
      · rw [fm_filter (fun k => decide (k ∉ kb))] at hi2
        have O2 := lsn_lst F1 hD2 hi2 hs2
        rw [← outA_eq] at O2
        replace S := S.kpL hk2
        replace OA1 := OA1.kpL hk2
        have kl2 := kl1.trans (Kl9.of (L := L) hk2)
        clear Nl N
        (try clear NC)
        have hk2' := hk2
        clear hk2 F1 OR
        k_steps
        unfold Stop9
        exact turnD (s := { s with heap := _, toks := _ }) (Cl.re c F2) hc ne1 ne2 (by ((try dsimp only); repeat (first | rfl | with_reducible assumption | rw [if_neg (by decide)] | rw [if_pos rfl]))) (by ((try dsimp only); repeat (first | rfl | with_reducible assumption | rw [if_neg (by decide)] | rw [if_pos rfl]))) (by ((try dsimp only); repeat (first | rfl | with_reducible assumption | rw [if_neg (by decide)] | rw [if_pos rfl]))) (by ((try dsimp only); repeat (first | rfl | with_reducible assumption | rw [if_neg (by decide)] | rw [if_pos rfl]))) S OA1 O2 hdep hu fun h tk m' ks' wl' z1 z2 z3 z4 z5 z6 z7 z8 z9 => next h tk m' ks' wl' z1 z2 z3 z4 z5 z6 z7 z8 (kl2.trans z9)

end
end Mine
end
theorem Mine.calm9a63 : True ∧ True := by
  w_top off
  (try walk1) <;> (first | exact True.intro | exact ⟨True.intro, True.intro⟩)

/-! part P63 -/
section
open PySem PySem.W PySem.Calls PySem.Spec PyProof.Rows PyProof.Rows.LCg
namespace Mine
theorem fill9at : PySem.Challenge.rw_fs0001_01 = PySem.Challenge.rw_fs0001_01 ∧ ∀ (w : World) h, (hd.heap_39 w.params).In h → True := by
  k_fill
  exact ⟨rfl, fun _ _ _ => trivial⟩

section
variable {prog : Program} {w : World} {p : Program} {loose : List Str} {mean : ExcName → Option Value} {mg mb : Str → Option Value} {A A₀ : Around} {env : Env} {outer : List Env} {base h₀ : Heap} {L : Addr} {m : Str → Option Value} {s : Shared} {news : List (Addr × Obj)} {Q E : Value → Shared → Prop}

local macro_rules | `(tactic| walk_at "execs cons") => `(tactic| (k_here; refine stop9 ?_))
local macro_rules | `(tactic| walk_at "call ref") => `(tactic| (k_here; refine stop9 ?_))
local macro_rules | `(tactic| walk_at "eval Name") => `(tactic| (k_here; k_dflt (refine nameX_L (cl := cellsFrom (_ + 1) lawScope.names []) (by k_asm) (by (first | with_reducible assumption | rfl | (show ite _ _ _ = _; rw [if_neg (by decide)]; with_reducible assumption))) ?_)))
local macro_rules | `(tactic| walk_at "eval Name") => `(tactic| (k_here; k_dflt (refine nameX_C (cl := cellsFrom (_ + 1) lawScope.names []) (by k_asm) (by rfl) (by k_mem) (by with_reducible assumption) ?_)))
local macro_rules | `(tactic| walk_at "eval Name") => `(tactic| (k_here; (with_reducible show wpAny _ _ (eval (Expr.Name _ _) (compEnvC _ _ _ _)) _ _ _); k_dflt (first
  | refine ldOwn9 (by assumption) (by assumption) ?_
  | (refine' ldCell9 ?hc ?hx ?_; (case hx => exact rfl); (case hc => assumption))
  | refine LCgL.ld_global (by k_asm) (by k_asm) (by k_asm) (by k_is) ?_
  | refine LCgL.ld_built (by k_asm) (by k_asm) (by k_asm) (by k_is) (by boot_by_name) (by decide) ?_)))
local macro_rules | `(tactic| walk_at "subscriptTail") => `(tactic| (k_here; refine stop9 ?_))
local macro_rules | `(tactic| walk_at "subscriptTail") => `(tactic| (k_here; (with_reducible show wpAny _ _ (subscriptTail (Expr.Name _ _) (Expr.Constant _ _ _) (Value.ref _) (Value.int _ _)) _ _ _); k_dflt (refine' rowItem9 ?kN ?km ?ka ?kb ?ke ?_ ?khs ?khg; (case kN => k_asm); (case km => k_mem); (case ka => decide); (case kb => decide); (case ke => exact rfl); (case khs => with_unfolding_all rfl); (case khg => (intro _; with_unfolding_all rfl)); k_whole)))
local macro_rules | `(tactic| walk_at "pyIter") => `(tactic| (k_here; refine stop9 ?_))
local macro_rules | `(tactic| walk_at "binaryOp Add ref ref") => `(tactic| (k_here; refine stop9 ?_))

local macro_rules | `(tactic| walk_at "compareOp Eq ref ref") => `(tactic| (k_here; (with_reducible show wpAny _ _ (compareOp CmpOp.Eq (Value.ref _) (Value.ref _)) _ _ _); (refine cmp_ofEq ?_); k_dflt (refine' cmp_K ?k1 ?k2 ?k3 ?k4 ?k5 ?k6 ?k7 ?k8 ?_; (case k1 => assumption); (case k2 => k_asm); (case k3 => k_asm); (case k4 => k_inst); (case k5 => k_typeOf); (case k6 => k_is); (case k7 => k_is); (case k8 => k_is); k_whole)))
local macro_rules | `(tactic| walk_at "eval ListComp") => `(tactic| (k_here; refine stop9 ?_))
local macro_rules | `(tactic| walk_at "compareOp NotIn int ref") => `(tactic| (k_here; refine stop9 ?_))
local macro_rules | `(tactic| walk_at "compareOp In int ref") => `(tactic| (k_here; refine stop9 ?_))

local macro_rules | `(tactic| walk_at "call builtin:sorted") => `(tactic| (k_here; refine stop9 ?_))
local macro_rules | `(tactic| walk_at "compareOp NotEq ref ref") => `(tactic| (k_here; refine stop9 ?_))

local macro_rules | `(tactic| walk_at "subscriptTail Name Slice ref ref") => `(tactic| (k_here; refine stop9 ?_))
local macro_rules | `(tactic| walk_at "subscriptTail Name Constant ref int") => `(tactic| (k_here; refine stop9 ?_))
local macro_rules | `(tactic| walk_at "binaryOp Mod int int") => `(tactic| (k_here; refine stop9 ?_))
local macro_rules | `(tactic| walk_at "unpackItems ref") => `(tactic| (k_here; k_dflt (refine' unpackItemsN_ ?k1 ?k2 ?k3 ?k4 ?k5 ?_; (case k1 => k_asm); (case k2 => k_asm); (case k3 => kun_tup); (case k4 => assumption); (case k5 => exact rfl); k_whole); intro h' F' N'; (try k_sweep)))

local macro_rules | `(tactic| walk_at "exec Assign cons ListComp") => `(tactic| (k_here; refine stop9 ?_))
local macro_rules | `(tactic| walk_at "compareOp NotEq int int") => `(tactic| (k_here; refine stop9 ?_))

local macro_rules | `(tactic| walk_at "compareOp NotEq ref ref") => `(tactic| (k_here; refine stop9 ?_))
theorem e3x (ks : List Int) (i : Int) : ((ks ++ [i]).drop (kms_lo none (ks ++ [i]).length)).take (kms_hi (some (-1)) (ks ++ [i]).length - kms_lo none (ks ++ [i]).length) = ks := by
  have e : kms_hi (some (-1)) (ks ++ [i]).length = ks.length := by
    simp only [List.length_append, List.length_cons, List.length_nil]
    unfold kms_hi
    simp
  rw [e]
  show ((ks ++ [i]).drop 0).take (ks.length - 0) = ks
  simp
set_option maxHeartbeats 2000000 in
theorem turnC4 {fa : Addr} {cd : Value} {z : Ad9} {x d wl ml : Addr} {ks : List Int} {n : Int} {t t' t1 : Tok} {p2 p3 : Obj} {QF : Flow → Shared → Prop} (c : Mine.Cl w p loose mean mg mb A (lawEnv L fa cd) [] A₀ base h₀ L s.heap m) (hc : z.o1.data = .cell (some (.ref z.rl))) (ne1 : d ≠ z.da) (ne2 : z.da ≠ z.db)
    (n1 : m nA = some (.ref z.a)) (n2 : m nB = some (.ref z.b)) (nK : m nKept = some (.ref x)) (nR : m nRow = some (.ref wl)) (S : Lp9 prog w h₀ L z x d s.heap) (OA : OSN prog w h₀ L s.heap z.a z.da ks) (OR : LSN h₀ L s.heap wl ks)
    (nk : m nKind = some (.int 4 t)) (nn : m nN = some (.int n t'))
    (NC : News h₀ L s.heap [(L + 1 + 1 + 1, p3), (L + 1 + 1, p2), (L + 1, z.o1)]) (d2 : p2.data = .cell (some (.int (n.fmod 7) t1))) (d3 : p3.data = .cell (some (.ref ml))) (OM : LSN h₀ L s.heap ml (drawnOf n))
    (hdep : A.depth + 60 < recursionLimit) (hu : A.units + 200 < cLine)
    (next : ∀ h tk m' ks' wl', Fr h₀ L h m' → m' nA = some (.ref z.a) → m' nB = some (.ref z.b) → m' nKept = some (.ref x) → m' nRow = some (.ref wl') → Lp9 prog w h₀ L z x d h → OSN prog w h₀ L h z.a z.da ks' → LSN h₀ L h wl' ks' → Kl9 L s.heap h → QF .next { s with heap := h, toks := tk }) :
    wpAny (model prog w) A (execs lawBodyC (lawEnv L fa cd)) QF (fun _ _ => False) s := by
  have X := c.X.keeps c.B.stays
  have T := c.T.keeps c.B.stays
  have F := c.F
  have hh : A.handled = none := c.hh
  have hun : A.units < cLine := by omega
  obtain ⟨a, da, b, db, cc, dc, nl, rl, r0, r1, r2, o1, o2, o3, ka, kb, kc, nums⟩ := z
  dsimp only at *
  obtain ⟨dxa, hsa, tka, na, N⟩ := News.osD NC OA
  unfold lawBodyC lawBody lawR12 pick9
  dsimp only [List.drop]
  refine wpAny_execs_cons ?_
  replace N := all9_news N
  dsimp only [List.cons_append, List.nil_append] at N
  have F0 := Stop8.mk F
  k_steps
  unfold Stop9
  refine wpAny_execs_cons ?_
  k_steps
  unfold Stop9
  refine wpAny_execs_cons ?_
  k_steps
  unfold Stop9
  refine wpAny_execs_cons ?_
  k_steps
  unfold Stop9
  refine wpAny_execs_cons ?_
  k_steps
  unfold Stop9
  (with_reducible rename News _ _ _ _ => N1); (with_reducible rename Fr _ _ _ _ => F1)
  have hk1 := all9_keep F0.out F1 N1 (by (intro _ hp; repeat (first | exact hp | refine List.Mem.tail _ ?_)))
  have hD1 := (N1 _ (.head _)).1
  replace S := S.kpL hk1
  replace OA := OA.kpL hk1
  replace OR := OR.kpL hk1
  have kl1 : Kl9 L s.heap _ := Kl9.of hk1
  clear N1 F0 hk1
  (try clear NC)
  (try clear F)
  (try clear N)
  obtain ⟨ol, vl, Nl, hol, hil⟩ := id OR
  have hlr := hol.at (Nl _ (.head _)).1
  clear Nl
  refine ke_ne_ints hlr ⟨_, hD1, rfl, _, rfl⟩ hil (IntsAre.nil) (by omega) ?_
  obtain ⟨_, _, _, _, NC, _, _⟩ := S.C
  obtain ⟨_, _, _, _, NN⟩ := News.osD NC OA
  have N := all9_news NN
  clear NN NC
  dsimp only [List.cons_append, List.nil_append] at N
  rcases List.eq_nil_or_concat ks with rfl | ⟨ks, i, rfl⟩
  · rw [decide_eq_true rfl]
    dsimp only [Bool.not_true]
    k_steps
    unfold Stop9
    refine wpAny_execs_cons ?_
    k_steps
    unfold Stop9
    refine wpAny_execs_cons ?_
    k_steps
    unfold Stop9
    refine wpAny_execs_cons ?_
    k_steps
    unfold Stop9
    exact turnD (s := { s with heap := _, toks := _ }) (Cl.re c F1) hc ne1 ne2 n1 n2 nK nR S OA OR hdep hu fun h tk m' ks' wl' z1 z2 z3 z4 z5 z6 z7 z8 z9 => next h tk m' ks' wl' z1 z2 z3 z4 z5 z6 z7 z8 (kl1.trans z9)
  · rw [List.concat_eq_append] at *
    rw [decide_eq_false (by simp)]
    dsimp only [Bool.not_false]
    k_steps
    unfold Stop9
    refine wpAny_execs_cons ?_
    k_steps
    unfold Stop9
    dsimp only [List.nil_append, List.append_nil, List.cons_append]
    have OR9len := OSN.len (s := { s with heap := _ }) OA
    simp only [List.length_append, List.length_cons, List.length_nil] at OR9len
    refine wpAny_call (pop_code (s := { s with heap := _, toks := _ }) (Cl.re c F1) OA (by omega) fun h2 tk2 t2 hk2 OA1 => ?_)
    have F2 := FrA F1 OA hk2
    replace S := Lp9.kpA S hc OA hk2 ne1 ne2
    replace OR := OR.kpA OA hk2
    have kl2 := kl1.trans (Kl9.ofA OA hk2)
    clear N hk2 OA F1 kl1 hlr hil hol
    obtain ⟨_, _, _, _, NC, _, _⟩ := S.C
    have N := all9_news NC
    clear NC
    dsimp only [List.cons_append, List.nil_append] at N ⊢
    obtain ⟨ol, vl, Nl, hol, hil⟩ := id OR
    have hlr : h2.IsList wl vl.toArray := hol.at (Nl _ (.head _)).1
    clear Nl
    k_steps
    unfold Stop9
    refine ne_int ?_
    rw [bne_self_eq_false]
    k_steps
    unfold Stop9
    refine wpAny_execs_cons ?_
    have F0 := Stop8.mk F2
    k_steps
    unfold Stop9
    refine sliceI9 (s := { s with heap := h2, toks := _ }) F2 N hlr hil (by simp only [List.length_append, List.length_cons, List.length_nil]; omega) .none (.int (-1) _) (fun D3 ws h3 F3 N3 _ hi3 => ?_)
    have hk3 := all9_keep F0.out F3 N3 (by (intro _ hp; repeat (first | exact hp | refine List.Mem.tail _ ?_)))
    have e3 : ((ks ++ [i]).drop (kms_lo none (ks ++ [i]).length)).take (kms_hi (some (-1)) (ks ++ [i]).length - kms_lo none (ks ++ [i]).length) = ks := e3x ks i
    have O3 : LSN h₀ L h3 D3 ks := ⟨_, ws, News.hd N3, ⟨rfl, _, rfl⟩, by rw [← e3]; exact hi3⟩
    replace S := S.kpL hk3
    replace OA1 := OA1.kpL hk3
    have kl3 := kl2.trans (Kl9.of hk3)
    clear OR hlr hil hol hi3 N3 N F0 hk3 F2
    obtain ⟨_, _, _, _, NC, _, _⟩ := S.C
    have N := all9_news NC
    clear NC
    dsimp only [List.cons_append, List.nil_append] at N
    have F0 := Stop8.mk F3
    k_steps
    unfold Stop9
    (with_reducible rename News _ _ _ _ => N5); (with_reducible rename Fr _ _ _ _ => F5)
    have hk5 := all9_keep F0.out F5 N5 (by (intro _ hp; repeat (first | exact hp | refine List.Mem.tail _ ?_)))
    exact turnD (s := { s with heap := _, toks := _ }) (Cl.re c F5) hc ne1 ne2 (by ((try dsimp only); repeat (first | rfl | with_reducible assumption | rw [if_neg (by decide)] | rw [if_pos rfl]))) (by ((try dsimp only); repeat (first | rfl | with_reducible assumption | rw [if_neg (by decide)] | rw [if_pos rfl]))) (by ((try dsimp only); repeat (first | rfl | with_reducible assumption | rw [if_neg (by decide)] | rw [if_pos rfl]))) (by ((try dsimp only); repeat (first | rfl | with_reducible assumption | rw [if_neg (by decide)] | rw [if_pos rfl]))) (S.kpL hk5) (OA1.kpL hk5) (O3.kpL hk5) hdep hu fun h tk m' ks' wl' z1 z2 z3 z4 z5 z6 z7 z8 z9 => next h tk m' ks' wl' z1 z2 z3 z4 z5 z6 z7 z8 ((kl3.trans (Kl9.of hk5)).trans z9)

end
end Mine
end
theorem Mine.calm9a64 : True ∧ True := by
  w_top off
  (try walk1) <;> (first | exact True.intro | exact ⟨True.intro, True.intro⟩)

/-! part P64 -/
section
open PySem PySem.W PySem.Calls PySem.Spec PyProof.Rows PyProof.Rows.LCg
namespace Mine
theorem fill9ba : PySem.Challenge.rw_fs0001_01 = PySem.Challenge.rw_fs0001_01 ∧ ∀ (w : World) h, (hd.heap_39 w.params).In h → True := by
  k_fill
  exact ⟨rfl, fun _ _ _ => trivial⟩

section
variable {prog : Program} {w : World} {p : Program} {loose : List Str} {mean : ExcName → Option Value} {mg mb : Str → Option Value} {A A₀ : Around} {env : Env} {outer : List Env} {base h₀ : Heap} {L : Addr} {m : Str → Option Value} {s : Shared} {news : List (Addr × Obj)} {Q E : Value → Shared → Prop}

local macro_rules | `(tactic| walk_at "execs cons") => `(tactic| (k_here; refine stop9 ?_))
local macro_rules | `(tactic| walk_at "call ref") => `(tactic| (k_here; refine stop9 ?_))
local macro_rules | `(tactic| walk_at "eval Name") => `(tactic| (k_here; k_dflt (refine nameX_L (cl := cellsFrom (_ + 1) lawScope.names []) (by k_asm) (by (first | with_reducible assumption | rfl | (show ite _ _ _ = _; rw [if_neg (by decide)]; with_reducible assumption))) ?_)))
local macro_rules | `(tactic| walk_at "eval Name") => `(tactic| (k_here; k_dflt (refine nameX_C (cl := cellsFrom (_ + 1) lawScope.names []) (by k_asm) (by rfl) (by k_mem) (by with_reducible assumption) ?_)))
local macro_rules | `(tactic| walk_at "eval Name") => `(tactic| (k_here; (with_reducible show wpAny _ _ (eval (Expr.Name _ _) (compEnvC _ _ _ _)) _ _ _); k_dflt (first
  | refine ldOwn9 (by assumption) (by assumption) ?_
  | (refine' ldCell9 ?hc ?hx ?_; (case hx => exact rfl); (case hc => assumption))
  | refine LCgL.ld_global (by k_asm) (by k_asm) (by k_asm) (by k_is) ?_
  | refine LCgL.ld_built (by k_asm) (by k_asm) (by k_asm) (by k_is) (by boot_by_name) (by decide) ?_)))
local macro_rules | `(tactic| walk_at "subscriptTail") => `(tactic| (k_here; refine stop9 ?_))
local macro_rules | `(tactic| walk_at "subscriptTail") => `(tactic| (k_here; (with_reducible show wpAny _ _ (subscriptTail (Expr.Name _ _) (Expr.Constant _ _ _) (Value.ref _) (Value.int _ _)) _ _ _); k_dflt (refine' rowItem9 ?kN ?km ?ka ?kb ?ke ?_ ?khs ?khg; (case kN => k_asm); (case km => k_mem); (case ka => decide); (case kb => decide); (case ke => exact rfl); (case khs => with_unfolding_all rfl); (case khg => (intro _; with_unfolding_all rfl)); k_whole)))
local macro_rules | `(tactic| walk_at "pyIter") => `(tactic| (k_here; refine stop9 ?_))
local macro_rules | `(tactic| walk_at "binaryOp Add ref ref") => `(tactic| (k_here; refine stop9 ?_))

local macro_rules | `(tactic| walk_at "compareOp Eq ref ref") => `(tactic| (k_here; (with_reducible show wpAny _ _ (compareOp CmpOp.Eq (Value.ref _) (Value.ref _)) _ _ _); (refine cmp_ofEq ?_); k_dflt (refine' cmp_K ?k1 ?k2 ?k3 ?k4 ?k5 ?k6 ?k7 ?k8 ?_; (case k1 => assumption); (case k2 => k_asm); (case k3 => k_asm); (case k4 => k_inst); (case k5 => k_typeOf); (case k6 => k_is); (case k7 => k_is); (case k8 => k_is); k_whole)))
local macro_rules | `(tactic| walk_at "eval ListComp") => `(tactic| (k_here; refine stop9 ?_))
local macro_rules | `(tactic| walk_at "compareOp NotIn int ref") => `(tactic| (k_here; refine stop9 ?_))
local macro_rules | `(tactic| walk_at "compareOp In int ref") => `(tactic| (k_here; refine stop9 ?_))

local macro_rules | `(tactic| walk_at "call builtin:sorted") => `(tactic| (k_here; refine stop9 ?_))
local macro_rules | `(tactic| walk_at "compareOp NotEq ref ref") => `(tactic| (k_here; refine stop9 ?_))

local macro_rules | `(tactic| walk_at "subscriptTail Name Slice ref ref") => `(tactic| (k_here; refine stop9 ?_))
local macro_rules | `(tactic| walk_at "subscriptTail Name Constant ref int") => `(tactic| (k_here; refine stop9 ?_))
local macro_rules | `(tactic| walk_at "binaryOp Mod int int") => `(tactic| (k_here; refine stop9 ?_))
local macro_rules | `(tactic| walk_at "unpackItems ref") => `(tactic| (k_here; k_dflt (refine' unpackItemsN_ ?k1 ?k2 ?k3 ?k4 ?k5 ?_; (case k1 => k_asm); (case k2 => k_asm); (case k3 => kun_tup); (case k4 => assumption); (case k5 => exact rfl); k_whole); intro h' F' N'; (try k_sweep)))

/-- the turn behind its draws, by its kind -/
theorem turnC {fa : Addr} {cd : Value} {z : Ad9} {x d wl ml : Addr} {ks : List Int} {k8 n : Int} {t t' t1 : Tok} {p2 p3 : Obj} {QF : Flow → Shared → Prop} (c : Mine.Cl w p loose mean mg mb A (lawEnv L fa cd) [] A₀ base h₀ L s.heap m) (hc : z.o1.data = .cell (some (.ref z.rl))) (ne1 : d ≠ z.da) (ne2 : z.da ≠ z.db)
    (n1 : m nA = some (.ref z.a)) (n2 : m nB = some (.ref z.b)) (nK : m nKept = some (.ref x)) (nR : m nRow = some (.ref wl)) (nk : m nKind = some (.int k8 t)) (h8 : 0 ≤ k8 ∧ k8 < 8) (nn : m nN = some (.int n t')) (S : Lp9 prog w h₀ L z x d s.heap) (OA : OSN prog w h₀ L s.heap z.a z.da ks) (OR : LSN h₀ L s.heap wl ks)
    (NC : News h₀ L s.heap [(L + 1 + 1 + 1, p3), (L + 1 + 1, p2), (L + 1, z.o1)]) (d2 : p2.data = .cell (some (.int (n.fmod 7) t1))) (d3 : p3.data = .cell (some (.ref ml))) (OM : LSN h₀ L s.heap ml (drawnOf n))
    (hdep : A.depth + 60 < recursionLimit) (hu : A.units + 200 < cLine)
    (next : ∀ h tk m' ks' wl', Fr h₀ L h m' → m' nA = some (.ref z.a) → m' nB = some (.ref z.b) → m' nKept = some (.ref x) → m' nRow = some (.ref wl') → Lp9 prog w h₀ L z x d h → OSN prog w h₀ L h z.a z.da ks' → LSN h₀ L h wl' ks' → Kl9 L s.heap h → QF .next { s with heap := h, toks := tk }) :
    wpAny (model prog w) A (execs lawBodyC (lawEnv L fa cd)) QF (fun _ _ => False) s := by
  obtain rfl | rfl | rfl | rfl | rfl | rfl | rfl | rfl : k8 = 0 ∨ k8 = 1 ∨ k8 = 2 ∨ k8 = 3 ∨ k8 = 4 ∨ k8 = 5 ∨ k8 = 6 ∨ k8 = 7 := by omega
  · exact turnC0 c hc ne1 ne2 n1 n2 nK nR S OA OR nk nn NC d2 d3 OM hdep hu next
  · exact turnC1 c hc ne1 ne2 n1 n2 nK nR S OA OR nk nn NC d2 d3 OM hdep hu next
  · exact turnC2 c hc ne1 ne2 n1 n2 nK nR S OA OR nk nn NC d2 d3 OM hdep hu next
  · exact turnC3 c hc ne1 ne2 n1 n2 nK nR S OA OR nk nn NC d2 d3 OM hdep hu next
  · exact turnC4 c hc ne1 ne2 n1 n2 nK nR S OA OR nk nn NC d2 d3 OM hdep hu next
  · exact turnC5 c hc ne1 ne2 n1 n2 nK nR S OA OR nk nn NC d2 d3 OM hdep hu next
  · exact turnC6 c hc ne1 ne2 n1 n2 nK nR S OA OR nk nn NC d2 d3 OM hdep hu next
  · exact turnC7 c hc ne1 ne2 n1 n2 nK nR S OA OR nk nn NC d2 d3 OM hdep hu next

set_option maxHeartbeats 1000000 in
theorem turnB {fa : Addr} {cd : Value} {z : Ad9} {x d wl : Addr} {ks : List Int} {j n : Int} {t t' : Tok} {QF : Flow → Shared → Prop} (c : Mine.Cl w p loose mean mg mb A (lawEnv L fa cd) [] A₀ base h₀ L s.heap m) (hc : z.o1.data = .cell (some (.ref z.rl))) (ne1 : d ≠ z.da) (ne2 : z.da ≠ z.db)
    (n1 : m nA = some (.ref z.a)) (n2 : m nB = some (.ref z.b)) (nK : m nKept = some (.ref x)) (nR : m nRow = some (.ref wl)) (nk : m nKind = some (.int (j.fmod 8) t)) (nn : m nN = some (.int n t')) (S : Lp9 prog w h₀ L z x d s.heap) (OA : OSN prog w h₀ L s.heap z.a z.da ks) (OR : LSN h₀ L s.heap wl ks)
    (hdep : A.depth + 60 < recursionLimit) (hu : A.units + 200 < cLine)
    (next : ∀ h tk m' ks' wl', Fr h₀ L h m' → m' nA = some (.ref z.a) → m' nB = some (.ref z.b) → m' nKept = some (.ref x) → m' nRow = some (.ref wl') → Lp9 prog w h₀ L z x d h → OSN prog w h₀ L h z.a z.da ks' → LSN h₀ L h wl' ks' → Kl9 L s.heap h → QF .next { s with heap := h, toks := tk }) :
    wpAny (model prog w) A (execs lawBodyB (lawEnv L fa cd)) QF (fun _ _ => False) s := by
  have X := c.X.keeps c.B.stays
  have T := c.T.keeps c.B.stays
  have F := c.F
  have hh : A.handled = none := c.hh
  obtain ⟨a, da, b, db, cc, dc, nl, rl, r0, r1, r2, o1, o2, o3, ka, kb, kc, nums⟩ := z
  dsimp only at *
  unfold lawBodyB lawBody lawR12 pick9
  dsimp only [List.drop]
  refine wpAny_execs_cons ?_
  refine Assign_Tuple ?_ (by first | rfl | kernel_rfl) (by first | rfl | kernel_rfl)
  obtain ⟨o2', o3', ov, mv, NC, d2, d3⟩ := S.C
  have N := all9_news NC
  dsimp only [List.cons_append, List.nil_append] at N
  clear NC
  k_steps
  unfold Stop9
  refine mod_int (by omega) ?_
  k_steps
  unfold Stop9
  refine wpAny_call (drawn_code (s := { s with heap := _, toks := _ }) (Cl.re c F) (by omega) fun h5 tk5 l5 vs5 hk5 hg5 hs5 hi5 => ?_)
  have O5 := lsn_of F hg5 hi5 hs5
  replace S := S.kp hk5.all
  replace OA := OA.kp hk5.all
  replace OR := OR.kp hk5.all
  replace F := Fr.kp9 F hk5.all
  have kl1 : Kl9 L s.heap h5 := Kl9.of fun b o _ e => hk5.all b o e
  clear N hk5 hg5 hi5 hs5
  have N := all9_news (news := []) (h := h5) (h₀ := h₀) (L := L) (fun _ hp => nomatch hp)
  dsimp only [List.cons_append, List.nil_append] at N
  have F0 := Stop8.mk F
  k_steps
  (with_reducible rename News _ _ _ _ => N3); (with_reducible rename Fr _ _ _ _ => F3)
  have hk3 := all9_keep F0.out F3 N3 (by (intro _ hp; repeat (first | exact hp | refine List.Mem.tail _ ?_)))
  refine unpackT9 (s := { s with heap := _, toks := _ }) (items := #[.int (n.fmod 7) _, .ref l5]) ⟨_, (N3 _ (.head _)).1, rfl, _, rfl⟩ hh rfl rfl fun h6 hk6 => ?_
  have F6 := Fr.kp9 F3 hk6
  replace S := (S.kpL hk3).kp hk6
  replace OA := (OA.kpL hk3).kp hk6
  replace OR := (OR.kpL hk3).kp hk6
  replace O5 := (O5.kpL hk3).kp hk6
  have kl2 := (kl1.trans (Kl9.of hk3)).trans (Kl9.of fun b o _ e => hk6 b o e)
  clear N3 F3 F0 hk3 hk6 kl1 d2 d3
  obtain ⟨o2', o3', ov, mv, NC, d2, d3⟩ := S.C
  refine assignInOrder_cons (wpAny_assign_Name (storeC9 (s := { s with heap := h6, toks := _ }) (b₀ := L + 1 + 1) F6 NC d2 d3 rfl rfl (.inl rfl) fun h7 oc v₀ p2 p3 ov' mv' g1 g2 hk7 F7 N7 e2 e3 q1 _ => ?_))
  replace S := Lp9.kpC S g1 g2 hk7 N7 e2 e3
  replace OA := OA.kpC g1 g2 hk7
  replace OR := LSN.kpC OR g1 g2 hk7
  replace O5 := LSN.kpC O5 g1 g2 hk7
  have kl3 := kl2.trans (Kl9.ofC (L := L) g1 g2 hk7)
  clear g1 g2 hk7
  refine assignInOrder_cons (wpAny_assign_Name (storeC9 (s := { s with heap := h7, toks := _ }) (b₀ := L + 1 + 1 + 1) F7 N7 e2 e3 rfl rfl (.inr rfl) fun h8 oc v₀ p2' p3' ov'' mv'' g1 g2 hk8 F8 N8 e2' e3' _ q2 => ?_))
  replace S := Lp9.kpC S g1 g2 hk8 N8 e2' e3'
  replace OA := OA.kpC g1 g2 hk8
  replace OR := LSN.kpC OR g1 g2 hk8
  replace O5 := LSN.kpC O5 g1 g2 hk8
  have kl4 := kl3.trans (Kl9.ofC (L := L) g1 g2 hk8)
  rw [(q2 rfl).1, (q1 rfl).1] at e2'
  rw [(q2 rfl).2] at e3'
  refine assignInOrder_nil ?_
  exact turnC (s := { s with heap := _, toks := _ }) (Cl.re c F8) hc ne1 ne2 n1 n2 nK nR nk ⟨Int.fmod_nonneg_of_pos j (by decide), Int.fmod_lt_of_pos j (by decide)⟩ nn S OA OR N8 e2' e3' O5 hdep hu fun h tk m' ks' wl' z1 z2 z3 z4 z5 z6 z7 z8 z9 => next h tk m' ks' wl' z1 z2 z3 z4 z5 z6 z7 z8 (kl4.trans z9)

set_option maxHeartbeats 1000000 in
theorem turn12 {fa : Addr} {cd : Value} {z : Ad9} {x d wl : Addr} {ks : List Int} {j : Int} {t : Tok} {QF : Flow → Shared → Prop} (c : Mine.Cl w p loose mean mg mb A (lawEnv L fa cd) [] A₀ base h₀ L s.heap m) (hc : z.o1.data = .cell (some (.ref z.rl))) (ne1 : d ≠ z.da) (ne2 : z.da ≠ z.db)
    (n1 : m nA = some (.ref z.a)) (n2 : m nB = some (.ref z.b)) (nK : m nKept = some (.ref x)) (nR : m nRow = some (.ref wl)) (S : Lp9 prog w h₀ L z x d s.heap) (OA : OSN prog w h₀ L s.heap z.a z.da ks) (OR : LSN h₀ L s.heap wl ks)
    (hdep : A.depth + 60 < recursionLimit) (hu : A.units + 200 < cLine)
    (next : ∀ h tk m' ks' wl', Fr h₀ L h m' → m' nA = some (.ref z.a) → m' nB = some (.ref z.b) → m' nKept = some (.ref x) → m' nRow = some (.ref wl') → Lp9 prog w h₀ L z x d h → OSN prog w h₀ L h z.a z.da ks' → LSN h₀ L h wl' ks' → Kl9 L s.heap h → QF .next { s with heap := h, toks := tk }) :
    wpAny (model prog w) A (storeName (lawEnv L fa cd) nN (.int j t)) (fun _ s₃ => wpAny (model prog w) A (execs lawBody (lawEnv L fa cd)) QF (fun _ _ => False) s₃) (fun _ _ => False) s := by
  have X := c.X.keeps c.B.stays
  have T := c.T.keeps c.B.stays
  have F := c.F
  have hh : A.handled = none := c.hh
  obtain ⟨a, da, b, db, cc, dc, nl, rl, r0, r1, r2, o1, o2, o3, ka, kb, kc, nums⟩ := z
  dsimp only at *
  refine storeL9 F (fun h1 F1 hk1 => ?_)
  replace S := S.kpL hk1
  replace OA := OA.kpL hk1
  replace OR := OR.kpL hk1
  have nn1 : (fun y => if y = nN then some (Value.int j t) else m y) nN = some (Value.int j t) := if_pos rfl
  have nA1 : (fun y => if y = nN then some (Value.int j t) else m y) nA = some (Value.ref a) := by ((try dsimp only); repeat (first | rfl | with_reducible assumption | rw [if_neg (by decide)] | rw [if_pos rfl]))
  have nB1 : (fun y => if y = nN then some (Value.int j t) else m y) nB = some (Value.ref b) := by ((try dsimp only); repeat (first | rfl | with_reducible assumption | rw [if_neg (by decide)] | rw [if_pos rfl]))
  have nK1 : (fun y => if y = nN then some (Value.int j t) else m y) nKept = some (Value.ref x) := by ((try dsimp only); repeat (first | rfl | with_reducible assumption | rw [if_neg (by decide)] | rw [if_pos rfl]))
  have nR1 : (fun y => if y = nN then some (Value.int j t) else m y) nRow = some (Value.ref wl) := by ((try dsimp only); repeat (first | rfl | with_reducible assumption | rw [if_neg (by decide)] | rw [if_pos rfl]))
  clear F n1 n2 nK nR
  generalize (fun y => if y = nN then some (Value.int j t) else m y) = m1 at F1 nn1 nA1 nB1 nK1 nR1
  unfold lawBody lawR12 pick9
  dsimp only
  refine wpAny_execs_cons ?_
  refine Assign_Tuple_swapped (names := [nKind, nN]) ?_ (by first | rfl | kernel_rfl) (by first | rfl | kernel_rfl)
  obtain ⟨o2', o3', ov, mv, NC, d2, d3⟩ := S.C
  have N := all9_news NC
  dsimp only [List.cons_append, List.nil_append] at N
  clear NC
  have F0 := Stop8.mk F1
  k_steps
  unfold Stop9
  refine mod_int (by omega) ?_
  k_steps
  unfold Stop9
  (with_reducible rename News _ _ _ _ => N3); (with_reducible rename Fr _ _ _ _ => F3)
  have hk3 := all9_keep F0.out F3 N3 (by (intro _ hp; repeat (first | exact hp | refine List.Mem.tail _ ?_)))
  replace S := S.kpL hk3
  replace OA := OA.kpL hk3
  replace OR := OR.kpL hk3
  have kl := (Kl9.of hk1).trans (Kl9.of hk3)
  clear N3 F0 hk1 hk3 X T hh
  exact turnB (s := { s with heap := _, toks := _ }) (Cl.re c F3) hc ne1 ne2 (by ((try dsimp only); repeat (first | rfl | with_reducible assumption | rw [if_neg (by decide)] | rw [if_pos rfl]))) (by ((try dsimp only); repeat (first | rfl | with_reducible assumption | rw [if_neg (by decide)] | rw [if_pos rfl]))) (by ((try dsimp only); repeat (first | rfl | with_reducible assumption | rw [if_neg (by decide)] | rw [if_pos rfl]))) (by ((try dsimp only); repeat (first | rfl | with_reducible assumption | rw [if_neg (by decide)] | rw [if_pos rfl]))) (by ((try dsimp only); repeat (first | rfl | with_reducible assumption | rw [if_neg (by decide)] | rw [if_pos rfl]))) (by ((try dsimp only); repeat (first | rfl | with_reducible assumption | rw [if_neg (by decide)] | rw [if_pos rfl]))) S OA OR hdep hu fun h tk m' ks' wl' z1 z2 z3 z4 z5 z6 z7 z8 z9 => next h tk m' ks' wl' z1 z2 z3 z4 z5 z6 z7 z8 (kl.trans z9)

set_option maxHeartbeats 1000000 in
theorem law12 {fa : Addr} {cd : Value} {z : Ad9} {x d wl : Addr} {QF : Flow → Shared → Prop} (c : Mine.Cl w p loose mean mg mb A (lawEnv L fa cd) [] A₀ base h₀ L s.heap m) (nm : Nm9 m z) (nR : m nRow = some (.ref wl)) (nK : m nKept = some (.ref x)) (S : St9 prog w h₀ L z s.heap) (OR : LSN h₀ L s.heap wl z.ka) (OK : OSN prog w h₀ L s.heap x d z.ka)
    (hc : z.o1.data = .cell (some (.ref z.rl))) (hc2 : ∃ v, z.o2.data = .cell v) (hc3 : ∃ v, z.o3.data = .cell v) (ne1 : d ≠ z.da) (ne2 : z.da ≠ z.db) (hnum : z.nums.length = 16)
    (hdep : A.depth + 60 < recursionLimit) (hu : A.units + 200 < cLine)
    (next : ∀ h tk m', Fr h₀ L h m' → m' nB = some (.ref z.b) → m' nKept = some (.ref x) → Lp9 prog w h₀ L z x d h → wpAny (model prog w) A (execs lawR13 (lawEnv L fa cd)) QF (fun _ _ => False) { s with heap := h, toks := tk }) :
    wpAny (model prog w) A (execs lawR12 (lawEnv L fa cd)) QF (fun _ _ => False) s := by
  have X := c.X.keeps c.B.stays
  have T := c.T.keeps c.B.stays
  have F := c.F
  have hh : A.handled = none := c.hh
  obtain ⟨n1, n2, n3, n4⟩ := nm
  obtain ⟨a, da, b, db, cc, dc, nl, rl, r0, r1, r2, o1, o2, o3, ka, kb, kc, nums⟩ := z
  dsimp only at *
  have N := all9_news S.N
  dsimp only [List.cons_append, List.nil_append] at N
  obtain ⟨ol, vl, Nl, hol, hil⟩ := id S.NM
  have hnl : s.heap.IsList nl vl.toArray := hol.at (Nl _ (.head _)).1
  clear Nl
  unfold lawR12 pick9
  refine wpAny_execs_cons ?_
  refine for_walk9 ?_
  k_steps
  unfold Stop9
  refine itemPos9 hnl hil (by show nums.length ≤ _; omega) (by decide) (by show (0 : Int) < nums.length; omega) fun t1 => ?_
  k_steps
  unfold Stop9
  refine mod_int (by omega) ?_
  k_steps
  unfold Stop9
  refine sliceI9 (s := { s with heap := s.heap, toks := _ }) F N hnl hil (by show nums.length ≤ _; omega) (.int 3 _) (.int _ _) (fun D1 ws h1 F1 N1 _ hi1 => ?_)
  have hk1 := all9_keep F F1 N1 (by (intro _ hp; repeat (first | exact hp | refine List.Mem.tail _ ?_)))
  have O1 : LSN h₀ L h1 D1 _ := ⟨_, ws, News.hd N1, ⟨rfl, _, rfl⟩, hi1⟩
  replace S := St9.kpL S hk1
  replace OR := OR.kpL hk1
  replace OK := OK.kpL hk1
  clear hi1 N1 N hk1 hnl hil
  k_steps
  unfold Stop9
  obtain ⟨v2, hc2⟩ := hc2
  obtain ⟨v3, hc3⟩ := hc3
  have LP : Lp9 prog w h₀ L ⟨a, da, b, db, cc, dc, nl, rl, r0, r1, r2, o1, o2, o3, ka, kb, kc, nums⟩ x d h1 := ⟨⟨o2, o3, v2, v3, fun p hp => S.N p (by
    rcases List.mem_cons.mp hp with rfl | hp
    · exact .head _
    rcases List.mem_cons.mp hp with rfl | hp
    · exact .tail _ (.head _)
    · rw [List.mem_singleton.mp hp]; exact .tail _ (.tail _ (.head _))), hc2, hc3⟩, fun p hp => S.N p (by rw [List.mem_singleton.mp hp]; exact .tail _ (.tail _ (.tail _ (.head _)))), S.OB, OK, S.R0, S.R1⟩
  refine ownLoop9 (α := List Int × Addr) (s := { s with heap := h1, toks := _ }) (fun q m' => m' nA = some (.ref a) ∧ m' nB = some (.ref b) ∧ m' nKept = some (.ref x) ∧ m' nRow = some (.ref q.2))
    (fun q h => Lp9 prog w h₀ L ⟨a, da, b, db, cc, dc, nl, rl, r0, r1, r2, o1, o2, o3, ka, kb, kc, nums⟩ x d h ∧ OSN prog w h₀ L h a da q.1 ∧ LSN h₀ L h q.2 q.1) O1 ?_ hh F1 (ka, wl) ⟨n1, n2, nK, nR⟩ ⟨LP, S.OA, OR⟩
    (fun q h h' ⟨f1, f2, f3⟩ hk => ⟨f1.kpL hk, f2.kpL hk, f3.kpL hk⟩) (fun q I h oI ⟨f1, f2, f3⟩ hI hit => (ap_lp f1 hc hI hit).and ((ap_osn f2 hI hit).and (ap_lsn f3 hI hit))) ?_ ?_
  · refine Nat.le_trans (List.length_take_le' _ _) (Nat.le_trans (by rw [List.length_drop]; exact Nat.sub_le _ _) (by show nums.length ≤ 100; omega))
  · intro j t h tk m' q hj F' ⟨e1, e2, e3, e4⟩ ⟨f1, f2, f3⟩
    obtain ⟨ks, rw'⟩ := q
    exact turn12 (s := { s with heap := h, toks := tk }) (Cl.re c F') hc ne1 ne2 e1 e2 e3 e4 f1 f2 f3 hdep hu fun h' tk' m'' ks' wl' z1 z2 z3 z4 z5 z6 z7 z8 z9 => ⟨⟨rfl, h', tk', m'', (ks', wl'), rfl, z1, ⟨z2, z3, z4, z5⟩, ⟨z6, z7, z8⟩, z9⟩⟩
  · intro h tk m' q F' ⟨e1, e2, e3, e4⟩ ⟨f1, f2, f3⟩
    exact next h tk m' F' e2 e3 f1
end
end Mine
end
theorem Mine.calm9a65 : True ∧ True := by
  w_top off
  (try walk1) <;> (first | exact True.intro | exact ⟨True.intro, True.intro⟩)

/-! part P65 -/
section
open PySem PySem.W PySem.Calls PySem.Spec PyProof.Rows PyProof.Rows.LCg
namespace Mine

section
variable {prog : Program} {w : World} {p : Program} {loose : List Str} {mean : ExcName → Option Value} {mg mb : Str → Option Value} {A A₀ : Around} {env : Env} {outer : List Env} {base h₀ : Heap} {L : Addr} {m : Str → Option Value} {s : Shared} {news : List (Addr × Obj)} {Q E : Value → Shared → Prop}

theorem three9 (ns : List Int) : ((((List.range 16).map (numOf ns)).take 3).map drawnOf) = [drawnOf (numOf ns 0), drawnOf (numOf ns 1), drawnOf (numOf ns 2)] := rfl

set_option maxHeartbeats 1000000 in
/-- the law's whole body -/
theorem lawAll {fa : Addr} {cd : Value} {l : Addr} {vs : List Value} {ns : List Int} {o1 o2 o3 : Obj} {QF : Flow → Shared → Prop}
    (c : Mine.Cl w p loose mean mg mb A (lawEnv L fa cd) [] A₀ base h₀ L s.heap m) (hm : m nScript = some (.ref l)) (hl : h₀.IsList l vs.toArray) (hi : IntsAre vs ns) (hn : ns.length ≤ 100)
    (N : News h₀ L s.heap [(L + 1 + 1 + 1, o3), (L + 1 + 1, o2), (L + 1, o1)]) (d1 : o1.data = .cell none) (d2 : o2.data = .cell none) (d3 : o3.data = .cell none)
    (hdep : A.depth + 60 < recursionLimit) (hu : A.units + 200 < cLine)
    (fin : ∀ h tk, (∀ b o, h₀.get? b = some o → h.get? b = some o) → QF (.ret (.bool true)) { s with heap := h, toks := tk }) :
    wpAny (model prog w) A (execs lawR0 (lawEnv L fa cd)) QF (fun _ _ => False) s := by
  refine law0 c hm hl hi hn N hdep fun ha tka ma nl F1 nN1 N1 O1 => ?_
  refine law1 (s := { s with heap := ha, toks := tka }) (Cl.re c F1) nN1 O1 (by rw [List.length_map, List.length_range]; decide) N1 hdep fun hb tkb m2 dl F2 nD2 nN2 N2 O2 OD2 => ?_
  rw [three9] at OD2
  have hnn : ∀ k ∈ [drawnOf (numOf ns 0), drawnOf (numOf ns 1), drawnOf (numOf ns 2)], k.length ≤ 40 := fun k hk => by
    simp only [List.mem_cons, List.not_mem_nil, or_false] at hk
    rcases hk with rfl | rfl | rfl <;> exact Nat.le_trans (drawn_len _) (by decide)
  have hsm : ∀ k ∈ [drawnOf (numOf ns 0), drawnOf (numOf ns 1), drawnOf (numOf ns 2)], sm (addA [] k) := fun k hk => by
    simp only [List.mem_cons, List.not_mem_nil, or_false] at hk
    rcases hk with rfl | rfl | rfl <;> exact sm_addA sm_nil (drawn_sm _)
  refine law2 (s := { s with heap := hb, toks := tkb }) (Cl.re c F2) nD2 O2 OD2 (by show 3 ≤ 100; decide) hnn ⟨o1, o2, o3, N2, d1, d2, d3⟩ hdep fun hc tkc rl F3 C3 O3 OD3 OR3 => ?_
  clear N N1 O1 OD2 O2 N2 d1 d2 d3
  refine law3 (s := { s with heap := hc, toks := tkc }) (Cl.re c F3) nD2 OD3 hnn hsm hdep fun hd' tkd m4 a da b db cc dc F4 nA nB nC nN4 hk4 OA OB OC ne1 ne2 ne3 => ?_
  dsimp only at hk4
  obtain ⟨o1, o2, o3, NC, d1, d2, d3⟩ := CL9.kp C3 hk4
  obtain ⟨as, hlen, Nr, hR⟩ := LL9.kp OR3 hk4
  replace O3 := LSN.kpL O3 hk4
  rw [nN2] at nN4
  obtain ⟨r0, r1, r2, rfl⟩ : ∃ r0 r1 r2, as = [r0, r1, r2] := by
    match as, hlen with
    | [r0, r1, r2], _ => exact ⟨r0, r1, r2, rfl⟩
  have R0 := hR 0 r0 _ rfl rfl
  have R1 := hR 1 r1 _ rfl rfl
  have R2 := hR 2 r2 _ rfl rfl
  have S : St9 prog w h₀ L ⟨a, da, b, db, cc, dc, nl, rl, r0, r1, r2, o1, o2, o3, addA [] (drawnOf (numOf ns 0)), addA [] (drawnOf (numOf ns 1)), addA [] (drawnOf (numOf ns 2)), (List.range 16).map (numOf ns)⟩ hd' :=
    ⟨News.app NC Nr, OA, OB, OC, R0, R1, R2, O3⟩
  have nm : Nm9 m4 ⟨a, da, b, db, cc, dc, nl, rl, r0, r1, r2, o1, o2, o3, addA [] (drawnOf (numOf ns 0)), addA [] (drawnOf (numOf ns 1)), addA [] (drawnOf (numOf ns 2)), (List.range 16).map (numOf ns)⟩ := ⟨nA, nB, nC, nN4⟩
  have hna := OSN.nodup (s := { s with heap := hd' }) OA
  have hla := Nat.le_trans (OSN.len (s := { s with heap := hd' }) OA) (show 7 ≤ 10 by decide)
  have hlb := Nat.le_trans (OSN.len (s := { s with heap := hd' }) OB) (show 7 ≤ 10 by decide)
  clear hR R0 R1 R2 OA OB OC NC Nr O3 C3 OR3 hk4
  refine law4 (s := { s with heap := hd', toks := tkd }) (Cl.re c F4) nm S d1 hna hla hlb hdep hu fun h5 tk5 F5 S => ?_
  refine law5 (s := { s with heap := h5, toks := tk5 }) (Cl.re c F5) nm S d1 hla hlb hdep hu fun h6 tk6 F6 S => ?_
  refine law6 (s := { s with heap := h6, toks := tk6 }) (Cl.re c F6) nm S d1 hna hla hlb hdep hu fun h7 tk7 F7 S => ?_
  refine law7 (s := { s with heap := h7, toks := tk7 }) (Cl.re c F7) nm S d1 hdep hu fun h8 tk8 m8 x d F8 nm nE OE S => ?_
  refine law8 (s := { s with heap := h8, toks := tk8 }) nE OE (Cl.re c F8) nm S d1 hdep hu fun h9 tk9 F9 S => ?_
  refine law9 (s := { s with heap := h9, toks := tk9 }) hla hlb (Cl.re c F9) nm S d1 hdep hu fun h10 tk10 F10 S => ?_
  refine law10 (s := { s with heap := h10, toks := tk10 }) (Cl.re c F10) nm S d1 hdep hu fun h11 tk11 F11 S => ?_
  refine law11 (s := { s with heap := h11, toks := tk11 }) hla (Cl.re c F11) nm S d1 hdep hu fun h12 tk12 m12 wl x d F12 nm nR nK OR OK ne S => ?_
  refine law12 (s := { s with heap := h12, toks := tk12 }) (Cl.re c F12) nm nR nK S OR OK d1 ⟨_, d2⟩ ⟨_, d3⟩ ne ne1 (by rw [List.length_map, List.length_range]) hdep hu fun h13 tk13 m13 F13 nB nK LP => ?_
  exact law13 (s := { s with heap := h13, toks := tk13 }) (Cl.re c F13) nB nK LP d1 hdep hu fun h tk F => fin h tk F.keep
/-- .. as the claim asks -/
theorem lawEnd {fa : Addr} {cd : Value} {l : Addr} {vs : List Value} {ns : List Int} {o1 o2 o3 : Obj}
    (c : Mine.Cl w p loose mean mg mb A (lawEnv L fa cd) [] A₀ base h₀ L s.heap m) (hm : m nScript = some (.ref l)) (hl : h₀.IsList l vs.toArray) (hi : IntsAre vs ns) (hn : ns.length ≤ 100)
    (N : News h₀ L s.heap [(L + 1 + 1 + 1, o3), (L + 1 + 1, o2), (L + 1, o1)]) (d1 : o1.data = .cell none) (d2 : o2.data = .cell none) (d3 : o3.data = .cell none)
    (hdep : A.depth + 60 < recursionLimit) (hu : A.units + 200 < cLine) :
    wpAny (model prog w) A (execs lawR0 (lawEnv L fa cd)) (fun f s' => f = .ret (.bool true) ∧ (∀ b o, h₀.get? b = some o → s'.heap.get? b = some o) ∧ s'.os = s.os ∧ s'.gens = s.gens) (fun _ _ => False) s :=
  lawAll c hm hl hi hn N d1 d2 d3 hdep hu fun _ _ hk => ⟨rfl, hk, rfl, rfl⟩
end
end Mine
end
theorem Mine.calm9a66 : True ∧ True := by
  w_top off
  (try walk1) <;> (first | exact True.intro | exact ⟨True.intro, True.intro⟩)

/-! part P66 -/
section
open PySem PySem.W PySem.Calls PySem.Spec PyProof.Rows PyProof.Rows.LCg
set_option maxHeartbeats 8000000 in
theorem PySem.Challenge.cw_fs0001_01_holds : PySem.Challenge.rw_fs0001_01.Holds := by
  refine Mine.hd ?_
  k_go0
  (with_reducible rename News _ _ _ _ => N0); (with_reducible rename Fr _ _ _ _ => F0); (with_reducible rename Below _ _ _ _ => K0); (with_reducible rename Top _ _ _ _ _ _ => T0)
  (with_reducible rename Frag.In _ _ => X0); (with_reducible rename IntsAre _ _ => I0); (with_reducible rename Heap.IsList _ _ _ => L0)
  rename_i hD h1 tk1 o2 o1 o0 left2 left1 right0 C0
  refine wpAny_mono (Mine.lawEnd (fa := _) (cd := _) ⟨K0, F0, X0, T0, rfl, rfl, rfl, rfl⟩ ?_ L0 I0 ?_ N0 ?_ ?_ ?_ ?_ ?_) ?_ ?_
  · first | rfl | kernel_rfl
  · omega
  · exact right0.trans (by first | rfl | kernel_rfl)
  · exact left1.trans (by first | rfl | kernel_rfl)
  · exact left2.trans (by first | rfl | kernel_rfl)
  · rw [depth_deeper]; decide +kernel
  · rw [units_deeper, units_caller]; decide
  · intro f s' hq
    obtain ⟨rfl, hk, ho, hg⟩ := hq
    refine ⟨.inl ⟨.bool true, .bool true, [], rfl, raisesW_false ?_, .bool true, ?_, fun _ => ⟨.nil, fun _ h => nomatch h⟩⟩, hk, ho, hg.trans (by assumption)⟩
    · wrow_none_raised
    · wrow_post
  · exact fun _ _ h => h.elim
end
