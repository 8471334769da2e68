import PyProof.Rows.All
import Wide.All
import OpenK.AllK
import Wide.FinOn
import PySem.Challenge.RW_fq5045_02
set_option Elab.async false
set_option linter.unusedVariables false
set_option linter.unusedSimpArgs false

section -- NR
open PySem PySem.W PyProof.Rows PySem.Calls
set_option maxRecDepth 100000
namespace Mine

section
variable {prog : Program} {w : World} {A A₀ : Around} {s : Shared} {K : Frag} {L : Addr} {h₀ base : Heap} {m mg mb : Str → Option Value} {news : List (Addr × Obj)} {p : Program} {loose : List Str} {mean : ExcName → Option Value}
/-- entering a plain def, with what the new base keeps -/
theorem enterX {env : Env} {outer : List Env} {R : Result → Shared → Prop} {name qual : Str} {params : Arguments} {body : List Stmt} {scope : Scope} {dV kV doc pm cdv ct oc : Value} {an od : Option Addr} {osl : Array (Option Value)} {f : Addr} {args : Args} {binds : List (Str × Value)}
    (B : Below A₀ base outer h₀) (F : Fr h₀ L s.heap m) (X₀ : K.In h₀) (N : News h₀ L s.heap news) (T : Top p loose mean mg mb h₀) (hA : A.frames = some (env :: outer)) (hf : env.frame = some L) (hke : env.scope.kind = .function)
    (ho : K.lookup f = some ⟨oc, od, .func (fnOf name qual params body scope dV kV doc pm an cdv ct), osl⟩) (hcd : codeIn K cdv qual = true) (hroom : A.depth < recursionLimit)
    (hbind : BindsTo s (fnOf name qual params body scope dV kV doc pm an cdv ct) args binds) (hloc : ∀ y ∈ binds, scope.names.lookup y.1 = some .local)
    (h : ∀ g L' h₁, (∀ b o, s.heap.get? b = some o → b ∉ news.map (·.1) → g.get? b = some o) → Fr h₀ L g m → Fr g L' h₁ (fun y => binds.reverse.lookup y) → News g L' h₁ news → Below A base (env :: outer) g → K.In g → Top p loose mean mg mb g →
      (∀ b o, s.heap.get? b = some o → h₁.get? b = some o) → (∀ p ∈ news, p.1 < L') →
      wpAny (model prog w) (A.deeper (envOf qual scope L' f cdv)) (execs body (envOf qual scope L' f cdv))
        (fun fl s' => LeaveK h₀ L m g R (match fl with | .ret v => v | _ => .none) s')
        (fun e s' => wpAny (model prog w) (A.deeper (envOf qual scope L' f cdv)) (leaving (envOf qual scope L' f cdv) e) (fun _ s'' => R (.error e) s'') (fun e' s'' => R (.error e') s'') s')
        { s with heap := h₁, toks := s.toks + binds.length })
    (hco : scope.isCoroutine = false) (hgen : scope.isGenerator = false) (hk : scope.kind = .function)
    (hcell : ∀ x ∈ scope.names, x.2 ≠ .cell) : codeAny (model prog w) A (.call (.ref f) args) R s := by
  obtain ⟨FG, BG, st, lv⟩ := groundX (R := R) B F N hA hf hke
  refine codeAny_call_def (fd := fnX name qual params body scope [] dV kV doc pm an cdv ct) (body := body) (binds := binds) hroom ((X₀.keeps F.keep) _ _ ho) rfl (T.nolimit.keeps F.keep) (codeRec_of (X₀.keeps F.keep) hcd) rfl hbind hcell hloc (fun h₁ hns hk₁ => ?_) hco hgen hk
  exact wpAny_mono (h _ s.heap.objs.size h₁ (fun b o e hn => hideAll_get _ e hn) FG ⟨hns, fun b o e => hk₁ b o (of_hideAll _ e), Nat.le_of_eq (hideAll_size _ _)⟩
    (fun p hp => ⟨hk₁ _ _ (N p hp).1, Nat.ne_of_lt (Heap.lt_size (N p hp).1), hideAll_none _ (List.mem_map_of_mem hp)⟩) BG (X₀.keeps st) (T.keeps st) hk₁ (fun p hp => Heap.lt_size (N p hp).1)) (fun fl s' hl => lv _ _ hl) fun _ _ y => y
end



theorem valueAt_stored {kvs : List (Str × Value)} {k : Str} {v : Value} (x : Str) : valueAt (stored kvs k v) x = if x = k then some v else valueAt kvs x := by
  unfold valueAt stored
  by_cases h : (kvs.any fun kv => kv.1 = k) = true
  · rw [if_pos h]
    induction kvs with
    | nil => simp at h
    | cons a r ih =>
      by_cases ha : a.1 = k
      · by_cases hx : x = k
        · subst hx; simp [ha]
        · have hx' : ¬ a.1 = x := fun e => hx (e.symm.trans ha)
          have h2 : ∀ l : List (Str × Value), ((l.map fun kv => if kv.1 = k then (kv.1, v) else kv).find? fun kv => kv.1 = x).map (·.2) = (l.find? fun kv => kv.1 = x).map (·.2) := by
            intro l
            induction l with
            | nil => rfl
            | cons b r ih =>
              by_cases hb : b.1 = k
              · have hb' : ¬ b.1 = x := fun e => hx (e.symm.trans hb)
                simp only [List.map_cons, if_pos hb, List.find?_cons, hb', decide_false]; exact ih
              · by_cases hbx : b.1 = x
                · simp only [List.map_cons, List.find?_cons, hbx, if_neg hx, decide_true]
                · simp only [List.map_cons, if_neg hb, List.find?_cons, hbx, decide_false]; exact ih
          rw [if_neg hx]; exact h2 _
      · have h' : (r.any fun kv => kv.1 = k) = true := by simpa [ha] using h
        have ih := ih h'
        by_cases hax : a.1 = x
        · have hx : ¬ x = k := fun e => ha (hax.trans e)
          simp only [List.map_cons, List.find?_cons, hax, decide_true, if_neg hx]
        · simp only [List.map_cons, if_neg ha, List.find?_cons, hax, decide_false]; exact ih
  · rw [if_neg h]
    have h' : ∀ a ∈ kvs, ¬ a.1 = k := by
      intro a ha e
      exact h (List.any_eq_true.mpr ⟨a, ha, by simp [e]⟩)
    rw [List.find?_append]
    by_cases hx : x = k
    · subst hx
      have : kvs.find? (fun kv => decide (kv.1 = x)) = none := List.find?_eq_none.mpr fun a ha => by simp [h' a ha]
      rw [this]; simp
    · have hk : ¬ k = x := fun e => hx e.symm
      simp [hx, hk]

section
variable {prog : Program} {w : World} {A : Around} {E : Value → Shared → Prop} {s : Shared} {L d : Addr} {h₀ : Heap} {m : Str → Option Value} {news : List (Addr × Obj)} {g : Obj → List (Addr × Obj)} {o : Obj} {f : Str → Option Value} {n : Nat} {k : Str} {t : Tok}
/-- a dict object with str keys, seen as a function -/
def IsM (prog : Program) (w : World) (o : Obj) (f : Str → Option Value) (n : Nat) : Prop :=
  ∃ kvs, o.IsDictOf (strKind prog w) kvs ∧ (∀ k, valueAt kvs k = f k) ∧ kvs.length ≤ n
theorem IsM.mapOf {h : Heap} (x : IsM prog w o f n) (e : h.get? d = some o) : h.MapOf (strKind prog w) d f :=
  let ⟨_, a, b, _⟩ := x; (funext b : _ = f) ▸ (Heap.dictOf_iff.mpr ⟨o, e, a⟩ : h.DictOf (strKind prog w) d _).mapOf
theorem IsM.of {kvs : List (Str × Value)} (x : o.IsDictOf (strKind prog w) kvs) : IsM prog w o (valueAt kvs) kvs.length := ⟨kvs, x, fun _ => rfl, Nat.le_refl _⟩
theorem IsM.mono {n' : Nat} (x : IsM prog w o f n) (h : n ≤ n') : IsM prog w o f n' :=
  let ⟨kvs, a, b, l⟩ := x; ⟨kvs, a, b, Nat.le_trans l h⟩

/-- an update of one entry of the ledger -/
theorem upd_ledger {h h' : Heap} {o' : Obj} (F : Fr h₀ L h m) (N : News h₀ L h news) (U : UpdF d o news g) (hs : Heap.SameBut d h h') (ho' : h'.get? d = some o') : Fr h₀ L h' m ∧ News h₀ L h' (g o') := by
  obtain ⟨pre, post, rfl, hg, a, b⟩ := U.split
  have hm := N (d, o) (List.mem_append_right _ (.head _))
  exact ⟨F.change hs hm.2.1 hm.2.2, hg o' ▸ N.setIn a b hs ho'⟩
theorem UpdF.mem (U : UpdF d o news g) : (d, o) ∈ news := by
  obtain ⟨pre, post, rfl, _⟩ := U.split
  exact List.mem_append_right _ (.head _)

theorem dict_item {value slice : PySem.Expr} {v : Value} {Q : Value → Shared → Prop} (N : News h₀ L s.heap news) (hm : (d, o) ∈ news) (x : IsM prog w o f n) (hv : f k = some v) (h : Q v { s with toks := s.toks + 1 })
    (hs : subscripted slice false (.ref d) (.str k t) = operate [.ref d, .str k t] (getItem (.ref d) (.str k t))) (hg : ∀ r, letTemporaryGo value (.ref d) r = pure ()) :
    wpAny (model prog w) A (subscriptTail value slice (.ref d) (.str k t)) Q E s :=
  have M := x.mapOf (N _ hm).1
  subscriptTail_builtin M.typeIs slot_dict_getitem.lookup (wpAny_getItem_of (strKind_is prog w k t) M hv h) hs hg
theorem dict_getItem {v : Value} {Q : Value → Shared → Prop} (N : News h₀ L s.heap news) (hm : (d, o) ∈ news) (x : IsM prog w o f n) (hv : f k = some v) (h : Q v { s with toks := s.toks + 1 }) :
    wpAny (model prog w) A (getItem (.ref d) (.str k t)) Q E s := wpAny_getItem_of (strKind_is prog w k t) (x.mapOf (N _ hm).1) hv h
theorem dict_get2 {dflt : Value} {Q : Value → Shared → Prop} (N : News h₀ L s.heap news) (hm : (d, o) ∈ news) (x : IsM prog w o f n) (lo : (d == sysModules) = false) (h : Q ((f k).getD dflt) { s with toks := s.toks + 1 }) :
    wpAny (model prog w) A (call (.builtin "dict.get") [.ref d, .str k t, dflt]) Q E s :=
  have M := x.mapOf (N _ hm).1
  call_meetsIn PySem.F.slot_dict_get M.typeIs PySem.F.entry_dict_get (PySem.F.args_dict_get_3 _ _ _) (meets_dict_get_default (strKind prog w) d (strKind_is prog w k t) lo dflt) ⟨_, M, h⟩
theorem IsM.stored {kvs : List (Str × Value)} {v : Value} {o' : Obj} (hf : ∀ k, valueAt kvs k = f k) (hl : kvs.length ≤ n) (x : o'.IsDictOf (strKind prog w) (PySem.stored kvs k v)) : IsM prog w o' (fun y => if y = k then some v else f y) (n + 1) :=
  ⟨_, x, fun y => by rw [valueAt_stored, hf], Nat.le_trans (stored_length_le kvs k v) (Nat.succ_le_succ hl)⟩
theorem dict_set {v : Value} {Q : Unit → Shared → Prop} (F : Fr h₀ L s.heap m) (N : News h₀ L s.heap news) (U : UpdF d o news g) (x : IsM prog w o f n) (hn : n ≤ sizeLine)
    (h : ∀ h' o', Fr h₀ L h' m → News h₀ L h' (g o') → IsM prog w o' (fun y => if y = k then some v else f y) (n + 1) → Q () { s with heap := h', toks := s.toks + 1 }) :
    wpAny (model prog w) A (setItem (.ref d) (.str k t) v) Q E s := by
  have e := (N _ (UpdF.mem U)).1
  obtain ⟨kvs, hd, hf, hl⟩ := x
  refine wpAny_setItem_pairs (strKind_is prog w k t) (Heap.dictOf_iff.mpr ⟨o, e, hd⟩) (fun h' hd' hs => ?_) (Nat.le_trans hl hn)
  obtain ⟨o', ho', hx⟩ := Heap.dictOf_iff.mp hd'
  obtain ⟨F', N'⟩ := upd_ledger F N U hs ho'
  exact h h' o' F' N' (IsM.stored hf hl hx)
theorem dict_default {dflt : Value} {Q : Value → Shared → Prop} (F : Fr h₀ L s.heap m) (N : News h₀ L s.heap news) (U : UpdF d o news g) (x : IsM prog w o f n) (hn : n ≤ sizeLine) (lo : (d == sysModules) = false)
    (h : ∀ h' o', Fr h₀ L h' m → News h₀ L h' (g o') → IsM prog w o' (fun y => if y = k then some ((f k).getD dflt) else f y) (n + 1) → Q ((f k).getD dflt) { s with heap := h', toks := s.toks + 1 }) :
    wpAny (model prog w) A (call (.builtin "dict.setdefault") [.ref d, .str k t, dflt]) Q E s := by
  have e := (N _ (UpdF.mem U)).1
  have hx := x
  obtain ⟨kvs, hd, hf, hl⟩ := x
  have hD : s.heap.DictOf (strKind prog w) d kvs := Heap.dictOf_iff.mpr ⟨o, e, hd⟩
  refine call_meetsIn PySem.F.slot_dict_setdefault hD.typeIs PySem.F.entry_dict_setdefault (PySem.F.args_dict_setdefault_3 _ _ _) (kt_meets_setdefault (strKind prog w) d (strKind_is prog w k t) lo dflt)
    ⟨kvs, hD, Nat.le_trans hl hn, fun v hv => ?_, fun hv h' hmm hs => ?_⟩
  · rw [hf] at hv
    have := h s.heap o F (by
      obtain ⟨pre, post, rfl, hg, a, b⟩ := U.split
      rw [hg]; exact N) ⟨kvs, hd, fun y => by
        rw [hf]
        by_cases hy : y = k
        · subst hy; simp [hv]
        · simp [hy], Nat.le_succ_of_le hl⟩
    rw [hv] at this
    exact this
  · rw [hf] at hv
    obtain ⟨o', ho', hx⟩ := Heap.dictOf_iff.mp hmm
    obtain ⟨F', N'⟩ := upd_ledger F N U hs ho'
    have := h h' o' F' N' (by rw [hv]; exact IsM.stored hf hl hx)
    rw [hv] at this
    exact this
theorem dict_meth {name : Str} {id : String} {pl : Sem Bool} {Q : Value × List Value → Shared → Prop} (slot : Slot "dict" name id) (hty : typeOf (.builtin id) = pure (.type "method_descriptor"))
    (N : News h₀ L s.heap news) (hm : (d, o) ∈ news) (x : IsM prog w o f n) (h : Q (.builtin id, [.ref d]) s) : wpAny (model prog w) A (getMethod (.ref d) name pl) Q E s :=
  have M := x.mapOf (N _ hm).1
  getMethod_builtin M.typeIs F.plainAttrs_dict slot hty M.noDict h
end
end Mine
end

section -- DQ
open PySem PySem.W PyProof.Rows PySem.Calls
set_option maxRecDepth 100000
namespace Mine
abbrev dqObj (xs : List Value) (n : Int) : Obj := { cls := .type "collections.deque", data := .fields (Value.none :: rawInt n :: xs).toArray }

theorem slot_dq_append : Slot "collections.deque" "append" "collections.deque.append" :=
  .of (owner := "collections.deque") (n := "append") (by rw [typeLookup_type, builtinLookup_eq_fast]; kernel_rfl) (by decide +kernel) (by decide +kernel) (by decide +kernel)
    (by first | exact .inl (by decide +kernel) | exact .inr (by decide +kernel)) (by rw [isSubtype_type]; kernel_rfl)
theorem slot_dq_popleft : Slot "collections.deque" "popleft" "collections.deque.popleft" :=
  .of (owner := "collections.deque") (n := "popleft") (by rw [typeLookup_type, builtinLookup_eq_fast]; kernel_rfl) (by decide +kernel) (by decide +kernel) (by decide +kernel)
    (by first | exact .inl (by decide +kernel) | exact .inr (by decide +kernel)) (by rw [isSubtype_type]; kernel_rfl)
theorem slot_dq_len : Slot "collections.deque" "__len__" "collections.deque.__len__" :=
  .of (owner := "collections.deque") (n := "__len__") (by rw [typeLookup_type, builtinLookup_eq_fast]; kernel_rfl) (by decide +kernel) (by decide +kernel) (by decide +kernel)
    (by first | exact .inl (by decide +kernel) | exact .inr (by decide +kernel)) (by rw [isSubtype_type]; kernel_rfl)
theorem entry_dq_append : entryFor table "collections.deque.append" = some Builtin.«collections.deque.append» := entryFor_of_tree (by kernel_rfl)
theorem entry_dq_popleft : entryFor table "collections.deque.popleft" = some Builtin.«collections.deque.popleft» := entryFor_of_tree (by kernel_rfl)
theorem entry_dq_len : entryFor table "collections.deque.__len__" = some Builtin.«collections.deque.__len__» := entryFor_of_tree (by kernel_rfl)
theorem args_dq_append (a b : Value) : argsOk "collections.deque.append" ⟨[a, b], []⟩ := by unfold argsOk; kernel_rfl
theorem args_dq_popleft (a : Value) : argsOk "collections.deque.popleft" ⟨[a], []⟩ := by unfold argsOk; kernel_rfl
theorem args_dq_len (a : Value) : argsOk "collections.deque.__len__" ⟨[a], []⟩ := by unfold argsOk; kernel_rfl
theorem noBool_dq : typeLookup (.type "collections.deque") "__bool__" = pure none := by rw [typeLookup_type, builtinLookup_eq_fast]; kernel_rfl
theorem plainAttrs_dq : PlainAttrs "collections.deque" :=
  ⟨⟨"collections.deque.__getattribute__", by rw [typeLookup_type, builtinLookup_eq_fast]; kernel_rfl, by decide +kernel⟩, by rw [typeLookup_type, builtinLookup_eq_fast]; kernel_rfl⟩
theorem type_dq_append : typeOf (.builtin "collections.deque.append") = pure (.type "method_descriptor") := by show builtinType _ = _; rw [builtinType_eq_fast]; kernel_rfl
theorem type_dq_popleft : typeOf (.builtin "collections.deque.popleft") = pure (.type "method_descriptor") := by show builtinType _ = _; rw [builtinType_eq_fast]; kernel_rfl

section
variable {prog : Program} {w : World} {A : Around} {E : Value → Shared → Prop} {s : Shared} {L d : Addr} {h₀ : Heap} {m : Str → Option Value} {news : List (Addr × Obj)} {g : Obj → List (Addr × Obj)} {n : Int} {xs : List Value}
theorem dq_typeIs {h : Shared} (e : h.heap.get? d = some (dqObj xs n)) : h.TypeIs (.ref d) "collections.deque" := ⟨_, e, rfl⟩
theorem dq_fields {Q : Array Value → Shared → Prop} (e : s.heap.get? d = some (dqObj xs n)) (h : Q (Value.none :: rawInt n :: xs).toArray s) : wpAny (model prog w) A (fieldsOf (.ref d)) Q E s := by
  unfold fieldsOf
  exact wpAny_bind (wpAny_load e (wpAny_pure h))
theorem dq_field0 {Q : Value → Shared → Prop} (e : s.heap.get? d = some (dqObj xs n)) (h : Q .none s) : wpAny (model prog w) A (field (.ref d) 0) Q E s := by
  unfold field
  exact wpAny_bind (dq_fields e (wpAny_pure h))
theorem dq_field1 {Q : Value → Shared → Prop} (e : s.heap.get? d = some (dqObj xs n)) (h : Q (rawInt n) s) : wpAny (model prog w) A (field (.ref d) 1) Q E s := by
  unfold field
  exact wpAny_bind (dq_fields e (wpAny_pure h))
theorem dq_extract (a b : Value) (ys : List Value) : (a :: b :: ys).toArray.extract 2 (a :: b :: ys).toArray.size = ys.toArray := by
  apply Array.ext'
  simp
theorem dq_change {f : Array Value → Array Value} {ys : List Value} {mv : Bool} {Q : Unit → Shared → Prop} (F : Fr h₀ L s.heap m) (N : News h₀ L s.heap news) (U : UpdF d (dqObj xs n) news g) (hf : f xs.toArray = ys.toArray) (hz : ys.length ≤ sizeLine)
    (h : ∀ h' n', Fr h₀ L h' m → News h₀ L h' (g (dqObj ys n')) → Q () { s with heap := h' }) :
    wpAny (model prog w) A (Builtin.Deque.change (.ref d) f mv) Q E s := by
  have e := (N _ (UpdF.mem U)).1
  unfold Builtin.Deque.change Builtin.Deque.state
  refine wpAny_bind (wpAny_bind (dq_field1 e (wpAny_pure ?_)))
  have hu : (fun vs : Array Value => #[vs.getD 0 .none, rawInt (if mv then n + 1 else n)] ++ f (vs.extract 2 vs.size)) (Value.none :: rawInt n :: xs).toArray = (Value.none :: rawInt (if mv then n + 1 else n) :: ys).toArray := by
    dsimp only
    rw [dq_extract, hf]
    apply Array.ext'
    simp [Array.getD]
  refine wpAny_updateFields e (vs := (Value.none :: rawInt n :: xs).toArray) rfl ?_ ?_
  · obtain ⟨F', N'⟩ := upd_ledger F N U (Heap.SameBut.update ..) (Heap.get?_update_self (Obj.mapFields fun vs => #[vs.getD 0 .none, rawInt (if mv then n + 1 else n)] ++ f (vs.extract 2 vs.size)) e rfl)
    refine h _ (if mv then n + 1 else n) F' ?_
    have : (Obj.mapFields (fun vs => #[vs.getD 0 .none, rawInt (if mv then n + 1 else n)] ++ f (vs.extract 2 vs.size)) (d, dqObj xs n).2) = dqObj ys (if mv then n + 1 else n) := by
      show ({ cls := .type "collections.deque", data := .fields _ } : Obj) = _
      rw [hu]
    rw [this] at N'
    exact N'
  · refine (congrArg Array.size hu : _ = _) ▸ ?_
    simp only [List.size_toArray, List.length_cons]
    omega
theorem dq_append {v : Value} {Q : Value → Shared → Prop} (F : Fr h₀ L s.heap m) (N : News h₀ L s.heap news) (U : UpdF d (dqObj xs n) news g) (hz : xs.length < sizeLine)
    (h : ∀ h' n', Fr h₀ L h' m → News h₀ L h' (g (dqObj (xs ++ [v]) n')) → Q .none { s with heap := h' }) :
    wpAny (model prog w) A (call (.builtin "collections.deque.append") [.ref d, v]) Q E s := by
  have e := (N _ (UpdF.mem U)).1
  have hgm : ∀ o', (d, o') ∈ g o' := by
    obtain ⟨pre, post, _, hg, _⟩ := U.split
    intro o'; rw [hg]; exact List.mem_append_right _ (.head _)
  refine call_meetsIn (S := fun _ R s' => s' = s ∧ ∀ s'', (∃ h' n', s'' = { s with heap := h' } ∧ Fr h₀ L h' m ∧ News h₀ L h' (g (dqObj (xs ++ [v]) n'))) → R (.ok (.ret .none)) s'') slot_dq_append (dq_typeIs e) entry_dq_append (args_dq_append _ _) (.of_wp ?_) ⟨rfl, ?_⟩
  · rintro A R s' ⟨rfl, hR⟩
    unfold Builtin.«collections.deque.append»
    refine wpAny_bind (m := selfAndOne "deque.append" _) (wpAny_pure ?_)
    refine wpAny_bind ?_
    unfold Builtin.Deque.pushRight
    refine wpAny_bind (dq_change F N U (ys := xs ++ [v]) (by simp) (by simp only [List.length_append, List.length_cons, List.length_nil]; omega) fun h' n' F' N' => ?_)
    unfold Builtin.Deque.maxlen
    refine wpAny_bind (wpAny_bind (dq_field0 (N' _ (hgm _)).1 (wpAny_pure ?_)))
    exact wpAny_pure (wpAny_pure ⟨_, rfl, hR _ ⟨h', n', rfl, F', N'⟩⟩)
  · rintro s'' ⟨h', n', rfl, F', N'⟩
    exact h h' n' F' N'
theorem dq_popleft {v : Value} {Q : Value → Shared → Prop} (F : Fr h₀ L s.heap m) (N : News h₀ L s.heap news) (U : UpdF d (dqObj (v :: xs) n) news g) (hz : xs.length ≤ sizeLine)
    (h : ∀ h' n', Fr h₀ L h' m → News h₀ L h' (g (dqObj xs n')) → Q v { s with heap := h' }) :
    wpAny (model prog w) A (call (.builtin "collections.deque.popleft") [.ref d]) Q E s := by
  have e := (N _ (UpdF.mem U)).1
  refine call_meetsIn (S := fun _ R s' => s' = s ∧ ∀ s'', (∃ h' n', s'' = { s with heap := h' } ∧ Fr h₀ L h' m ∧ News h₀ L h' (g (dqObj xs n'))) → R (.ok (.ret v)) s'') slot_dq_popleft (dq_typeIs e) entry_dq_popleft (args_dq_popleft _) (.of_wp ?_) ⟨rfl, ?_⟩
  · rintro A R s' ⟨rfl, hR⟩
    unfold Builtin.«collections.deque.popleft»
    refine wpAny_bind (m := selfOnly "deque.popleft" _) (wpAny_pure ?_)
    unfold Builtin.Deque.items
    refine wpAny_bind (wpAny_bind (dq_fields e (wpAny_pure ?_)))
    rw [dq_extract]
    have : (v :: xs).toArray[0]? = some v := by simp
    rw [this]
    dsimp only
    refine wpAny_bind (dq_change F N U (ys := xs) (by simp) hz fun h' n' F' N' => ?_)
    exact wpAny_pure ⟨_, rfl, hR _ ⟨h', n', rfl, F', N'⟩⟩
  · rintro s'' ⟨h', n', rfl, F', N'⟩
    exact h h' n' F' N'
theorem dq_truthy {Q : Bool → Shared → Prop} (N : News h₀ L s.heap news) (hm : (d, dqObj xs n) ∈ news) (hz : xs.length ≤ sizeLine) (h : ∀ tk, Q (!xs.isEmpty) { s with toks := tk }) :
    wpAny (model prog w) A (truthy (.ref d)) Q E s := by
  have e := (N _ hm).1
  have T : s.TypeIs (.ref d) "collections.deque" := dq_typeIs e
  have hz' : (xs.length : Int) < 2 ^ 63 := by rw [sizeLine_eq] at hz; omega
  have hne : ((xs.length : Int) != 0) = !xs.isEmpty := by cases xs <;> simp <;> omega
  have key : wpAny (model prog w) A (runValue (.builtin "len" ⟨[.ref d], []⟩)) (fun r s' => ∃ t, r = .int xs.length t ∧ Q (!xs.isEmpty) s') E s := by
    refine wpAny_runValue (codeAny_builtin entry_len ?_)
    rw [Around.under_plainId plain_len _]
    unfold Builtin.«len»
    refine wpAny_bind (m := oneArg "len" _) (wpAny_pure ?_)
    refine wpAny_bind (m := callSpecial? (.ref d) (Str.ofString "__len__")) (wpAny_callSpecial?_slot (name := Str.ofString "__len__") T slot_dq_len
      (call_meetsIn (S := fun _ R s' => s' = s ∧ R (.ok (.ret (.int xs.length s.toks))) { s with toks := s.toks + 1 }) slot_dq_len T entry_dq_len (args_dq_len _) (.of_wp ?_) ⟨rfl, ?_⟩))
    · rintro A R s' ⟨rfl, hR⟩
      unfold Builtin.«collections.deque.__len__» Builtin.Deque.size
      refine wpAny_bind (m := slotArgs "__len__" 0 _) (wpAny_pure ?_)
      refine wpAny_bind (wpAny_bind (dq_fields e (wpAny_pure ?_)))
      have : (Value.none :: rawInt n :: xs).toArray.size - 2 = xs.length := by simp
      rw [this]
      exact wpAny_bind (wpAny_mkInt (wpAny_pure ⟨_, rfl, hR⟩))
    show wpAny _ _ _ _ _ { s with toks := s.toks + 1 }
    refine wpAny_bind (wpAny_holding (wpAny_pure ?_))
    refine wpAny_bind (wpAny_letGo ?_)
    show wpAny _ _ (if ((xs.length : Nat) : Int) < 0 then _ else _) _ _ _
    rw [if_neg (by omega)]
    show wpAny _ _ (if ((xs.length : Nat) : Int) ≥ 2 ^ 63 then _ else _) _ _ _
    rw [if_neg (by omega)]
    exact wpAny_bind (wpAny_mkInt (wpAny_pure ⟨_, rfl, h _⟩))
  unfold truthy
  first
    | refine wpAny_bind (wpAny_callSpecial?_none (name := Str.ofString "__bool__") T noBool_dq ?_)
    | refine wpAny_bind (wpAny_pure (wpAny_bind (wpAny_callSpecial?_none (name := Str.ofString "__bool__") T noBool_dq ?_)))
  first
    | refine wpAny_bind (wpAny_specialOf (name := Str.ofString "__len__") T slot_dq_len.lookup ?_)
    | refine wpAny_bind (wpAny_pure (wpAny_bind (wpAny_specialOf (name := Str.ofString "__len__") T slot_dq_len.lookup ?_)))
  first
    | exact wpAny_bind (wpAny_mono key (fun r s' h' => by obtain ⟨t, rfl, hq⟩ := h'; exact wpAny_pure (hne ▸ hq)) fun _ _ e => e)
    | exact wpAny_bind (wpAny_pure (wpAny_bind (wpAny_mono key (fun r s' h' => by obtain ⟨t, rfl, hq⟩ := h'; exact wpAny_pure (hne ▸ hq)) fun _ _ e => e)))
theorem dq_meth {name : Str} {id : String} {pl : Sem Bool} {Q : Value × List Value → Shared → Prop} (slot : Slot "collections.deque" name id) (hty : typeOf (.builtin id) = pure (.type "method_descriptor"))
    (N : News h₀ L s.heap news) (hm : (d, dqObj xs n) ∈ news) (h : Q (.builtin id, [.ref d]) s) : wpAny (model prog w) A (getMethod (.ref d) name pl) Q E s :=
  getMethod_builtin (dq_typeIs (N _ hm).1) plainAttrs_dq slot hty (fun a e => by cases e; exact ⟨_, (N _ hm).1, rfl⟩) h
end
end Mine
end

section -- DQ2
open PySem PySem.W PyProof.Rows PySem.Calls PySem.W.X
set_option maxRecDepth 100000
namespace Mine
section
variable {prog : Program} {w : World} {A : Around} {E : Value → Shared → Prop} {s : Shared} {L d : Addr} {h₀ : Heap} {m : Str → Option Value} {news nx : List (Addr × Obj)} {h' : Heap}
theorem mem_keep (D : Mem s.heap h' [] nx) {b : Addr} {o : Obj} (e : s.heap.get? b = some o) : h'.get? b = some o := D.keep b o e (by simp [away])
theorem mem_ne (D : Mem s.heap h' [] nx) {p : Addr × Obj} (hp : p ∈ nx) {b : Addr} {o : Obj} (e : s.heap.get? b = some o) : p.1 ≠ b := fun q => by
  have := (D.nw p hp).2
  rw [q, e] at this; cases this
theorem mem_fr (D : Mem s.heap h' [] nx) (F : Fr h₀ L s.heap m) (N : News h₀ L s.heap news) : Fr h₀ L h' m ∧ News h₀ L h' (nx ++ news) := by
  obtain ⟨oL, es, ep, hL, r⟩ := F.ns
  refine ⟨⟨⟨oL, es, ep, mem_keep D hL, r⟩, fun b o e => mem_keep D (F.keep b o e), F.above⟩, fun p hp => ?_⟩
  rcases List.mem_append.mp hp with hp | hp
  · refine ⟨(D.nw p hp).1, mem_ne D hp hL, ?_⟩
    cases q : h₀.get? p.1 with
    | none => rfl
    | some o => have := F.keep _ _ q; rw [(D.nw p hp).2] at this; cases this
  · exact ⟨mem_keep D (N p hp).1, (N p hp).2⟩
theorem mem_off (D : Mem s.heap h' [] nx) (N : News h₀ L s.heap news) {p q : Addr × Obj} (hp : p ∈ nx) (hq : q ∈ news) : p.1 ≠ q.1 := mem_ne D hp (N q hq).1
def NewQ (s : Shared) (Q : Value → Shared → Prop) : Prop := ∀ q h' tk n, Mem s.heap h' [] [(q, dqObj [] n)] → Q (.ref q) { s with heap := h', toks := tk }
local macro_rules | `(tactic| x_close) => `(tactic| ((with_reducible rename NewQ _ _ => hq); exact hq _ _ _ _ (by assumption)))
theorem dq_new {Q : Value → Shared → Prop} (h9 : NewQ s Q) :
    wpAny (model prog w) A (call (.type "collections.deque") []) Q E s := by
  x_run
end
end Mine
end

section -- L02Head
open PySem PySem.W PyProof.Rows
set_option maxRecDepth 100000
set_option maxHeartbeats 0
namespace Mine
open_top hd for PySem.Challenge.rw_fq5045_02
end Mine
end

section -- MT
open PySem PySem.W PyProof.Rows PySem.Calls PySem.W.X
set_option maxRecDepth 100000
set_option maxHeartbeats 4000000
namespace Mine
theorem fill : (PySem.Challenge.rw_fq5045_02, hd.heap_39) = (PySem.Challenge.rw_fq5045_02, hd.heap_39) := by
  w_top off
  k_fill
  rfl
abbrev NC : Addr := 96
abbrev SC : Addr := 205

inductive ChainM (M : Addr → Obj → Prop) : Value → List (Str × Int) → Prop
  | nil : ChainM M .none []
  | cons {n dn : Addr} {a1 a2 a3 : Int} {t1 t2 t3 td tb : Tok} {d : Str} {b : Int} {v : Value} {k : Nat} {rest : List (Str × Int)} :
    M n (instObj NC dn) → M dn (dictOf [⟨a1, .str (Str.ofString "dst") t1, .str d td⟩, ⟨a2, .str (Str.ofString "bound") t2, .int b tb⟩, ⟨a3, .str (Str.ofString "next") t3, v⟩] k) →
    ChainM M v rest → ChainM M (.ref n) ((d, b) :: rest)
abbrev ChainIn (h : Heap) : Value → List (Str × Int) → Prop := ChainM fun a o => h.get? a = some o
theorem ChainM.keeps {M M' : Addr → Obj → Prop} {v : Value} {c : List (Str × Int)} (x : ChainM M v c) (k : ∀ a o, M a o → M' a o) : ChainM M' v c := by
  induction x with
  | nil => exact .nil
  | cons h1 h2 _ ih => exact .cons (k _ _ h1) (k _ _ h2) ih

section
variable {prog : Program} {w : World} {A : Around} {E : Value → Shared → Prop} {s : Shared} {L : Addr} {h₀ : Heap} {news : List (Addr × Obj)}
def ChEnd (H h₀ : Heap) (L : Addr) (s : Shared) (y : Str) (m₀ : Str → Option Value) (news : List (Addr × Obj)) (I : List (Str × Int) → Prop) (d : List (Str × Int)) (s₂ : Shared) : Prop :=
  ∃ h' tk v' d', s₂ = { s with heap := h', toks := tk } ∧ Fr h₀ L h' (fun x => if x = y then some v' else m₀ x) ∧ News h₀ L h' news ∧ ChainIn H v' d' ∧ I d' ∧ d'.length < d.length
def ChPost (H h₀ : Heap) (L : Addr) (s : Shared) (y : Str) (m₀ : Str → Option Value) (news : List (Addr × Obj)) (I : List (Str × Int) → Prop) (Q : Flow → Shared → Prop) (d : List (Str × Int)) (f : Flow) (s₂ : Shared) : Prop :=
  match f with
  | .ret v => Q (.ret v) s₂
  | .brk => Q .next s₂
  | _ => ChEnd H h₀ L s y m₀ news I d s₂
theorem ChEnd.intro {H h' : Heap} {y : Str} {m₀ m' : Str → Option Value} {I : List (Str × Int) → Prop} {d d' : List (Str × Int)} {v' : Value} {tk : Nat} (F : Fr h₀ L h' m') (N : News h₀ L h' news) (hm : m' = fun x => if x = y then some v' else m₀ x)
    (hc : ChainIn H v' d') (hi : I d') (hl : d'.length < d.length) : ChEnd H h₀ L s y m₀ news I d { s with heap := h', toks := tk } := ⟨h', tk, v', d', rfl, hm ▸ F, N, hc, hi, hl⟩
theorem while_chain {Q : Flow → Shared → Prop} {env : Env} {test : PySem.Expr} {body : List Stmt} {pos : Pos} {H : Heap} {m₀ : Str → Option Value} {y : Str} {v₀ : Value} {d₀ : List (Str × Int)} (I : List (Str × Int) → Prop)
    (F : Fr h₀ L s.heap m₀) (N : News h₀ L s.heap news) (hy : m₀ y = some v₀) (hr : ChainIn H v₀ d₀) (hi : I d₀)
    (turn : ∀ v d h tk, ChainIn H v d → I d → Fr h₀ L h (fun x => if x = y then some v else m₀ x) → News h₀ L h news →
      wpAny (model prog w) A (isTrue test env (eval test env)) (fun b s₂ =>
        if b = true then wpAny (model prog w) A (execs body env) (ChPost H h₀ L s y m₀ news I Q d) E s₂ else Q .next s₂) E { s with heap := h, toks := tk })
    (hE : PassesOwn (model prog w) A env E := by passes_own) :
    wpAny (model prog w) A (exec (.While test body [] pos) env) Q E s := by
  refine While_inv2 (fun n m nx => nx = news ∧ ∃ v d, d.length = n ∧ m = (fun x => if x = y then some v else m₀ x) ∧ ChainIn H v d ∧ I d) F N ⟨rfl, v₀, d₀, rfl, ?_, hr, hi⟩ ?_ hE
  · funext x
    by_cases h : x = y
    · subst h; rw [if_pos rfl, hy]
    · rw [if_neg h]
  rintro n m₁ nx h tk F₁ N₁ ⟨rfl, v, d, rfl, rfl, hR, hI⟩
  refine wpAny_mono (turn v d h tk hR hI F₁ N₁) (fun b s₂ p => ?_) fun _ _ x => x
  cases b with
  | false => simpa using p
  | true =>
    simp only [if_true] at p ⊢
    refine wpAny_mono p (fun f s₃ q => ?_) fun _ _ x => x
    cases f with
    | ret v => exact q
    | brk => exact q
    | next =>
      obtain ⟨h', tk', v', d', rfl, F', N', hR', hI', hl⟩ := q
      exact ⟨h', tk', _, _, d'.length, rfl, F', N', hl, rfl, v', d', rfl, rfl, hR', hI'⟩
    | cont =>
      obtain ⟨h', tk', v', d', rfl, F', N', hR', hI', hl⟩ := q
      exact ⟨h', tk', _, _, d'.length, rfl, F', N', hl, rfl, v', d', rfl, rfl, hR', hI'⟩
end
end Mine
end

section -- MS
open PySem PySem.W PyProof.Rows PySem.Calls PySem.W.X
set_option maxRecDepth 100000
set_option maxHeartbeats 4000000
namespace Mine
theorem fillMS : (PySem.Challenge.rw_fq5045_02, hd.heap_39) = (PySem.Challenge.rw_fq5045_02, hd.heap_39) := by
  w_top off
  k_fill
  rfl
/-- the dict of a network -/
abbrev netD (a1 a2 a3 a4 : Int) (t1 t2 t3 t4 t5 : Tok) (dc dd : Addr) (sat : Bool) (n : Nat) : Obj :=
  dictOf [⟨a1, .str (Str.ofString "_constraints") t1, .ref dc⟩, ⟨a2, .str (Str.ofString "_distances") t2, .ref dd⟩, ⟨a3, .str (Str.ofString "_is_sat") t3, .bool sat⟩, ⟨a4, .str (Str.ofString "_epsilon") t4, .int 0 t5⟩] n

theorem chain_inst {g h : Heap} {L n dn C : Addr} {m : Str → Option Value} {o : Obj} (F : Fr g L h m) (h1 : g.get? n = some (instObj C dn)) (h2 : g.get? dn = some o) : InstAt h n (instObj C dn) C (some o) :=
  ⟨F.keep _ _ h1, rfl, rfl, F.keep _ _ h2⟩
def NoDst (ky : Str) (d : List (Str × Int)) : Prop := ∀ e ∈ d, e.1 ≠ ky
theorem NoDst.tail {ky : Str} {e : Str × Int} {d : List (Str × Int)} (h : NoDst ky (e :: d)) : NoDst ky d := fun x hx => h x (List.mem_cons_of_mem _ hx)
theorem NoDst.head {ky k : Str} {b : Int} {d : List (Str × Int)} (h : NoDst ky ((k, b) :: d)) (e : (k == ky) = true) : False := h _ (List.Mem.head _) (eq_of_beq e)
theorem chain_handed {M : Addr → Obj → Prop} {v : Value} {c : List (Str × Int)} (x : ChainM M v c) : handedIn v = true := by cases x <;> rfl
local macro_rules | `(tactic| k_handed) => `(tactic| exact chain_handed (by assumption))
theorem while_sub {prog : Program} {w : World} {A : Around} {E : Value → Shared → Prop} {s : Shared} {L : Addr} {h₀ : Heap} {news : List (Addr × Obj)} {Q : Flow → Shared → Prop} {env : Env} {test : PySem.Expr} {body : List Stmt} {pos : Pos} {H : Heap} {m₀ : Str → Option Value} {v₀ : Value} {d₀ : List (Str × Int)} {ky : Str}
    (F : Fr h₀ L s.heap m₀) (N : News h₀ L s.heap news) (hy : m₀ (Str.ofString "neighbor") = some v₀) (hr : ChainIn H v₀ d₀) (hi : NoDst ky d₀)
    (turn : ∀ v d h tk, ChainIn H v d → NoDst ky d → Fr h₀ L h (fun x => if x = (Str.ofString "neighbor") then some v else m₀ x) → News h₀ L h news →
      wpAny (model prog w) A (isTrue test env (eval test env)) (fun b s₂ =>
        if b = true then wpAny (model prog w) A (execs body env) (ChPost H h₀ L s (Str.ofString "neighbor") m₀ news (NoDst ky) Q d) E s₂ else Q .next s₂) E { s with heap := h, toks := tk })
    (hE : PassesOwn (model prog w) A env E) :
    wpAny (model prog w) A (exec (.While test body [] pos) env) Q E s := while_chain (NoDst ky) F N hy hr hi turn hE
local macro_rules | `(tactic| k_inst) => `(tactic| (refine' chain_inst ?F ?h1 ?h2; (case F => k_asm); (case h1 => assumption); (case h2 => assumption)))
local macro_rules | `(tactic| walk_at "exec While Compare") => `(tactic| (k_here; k_dflt (refine' while_sub ?F ?N ?y ?r ?i ?_ ?E; (case F => k_asm); (case N => k_asm); (case r => assumption); (case i => assumption); (case y => rfl); (case E => passes_own); k_whole); intro v9 d9 h9 tk9 hR9 hI9 F9 N9; cases hR9))
local macro_rules | `(tactic| k_room) => `(tactic| ktr_room)
local macro_rules | `(tactic| k_units) => `(tactic| ktr_units)
local macro_rules | `(tactic| walk_at "getMethod ref") => `(tactic| (k_here; k_dflt (first
  | (refine' dict_meth PySem.F.slot_dict_get PySem.F.type_dict_get ?N ?m ?x ?_; (case N => k_asm); (case m => k_mem); (case x => assumption); k_whole)
  | (refine' dict_meth PySem.F.slot_dict_setdefault PySem.F.type_dict_setdefault ?N ?m ?x ?_; (case N => k_asm); (case m => k_mem); (case x => assumption); k_whole))))
local macro_rules | `(tactic| walk_at "call builtin:dict.get") => `(tactic| (k_here; k_dflt (refine' dict_get2 ?N ?m ?x ?l ?_; (case N => k_asm); (case m => k_mem); (case x => assumption); (case l => assumption); k_whole)))

set_option pp.deepTerms false
set_option pp.maxSteps 5000
theorem sub_spec {w : World} {p : Program} {loose : List Str} {mean : ExcName → Option Value} {mg mb : Str → Option Value}
  {dp un : Nat} {gd : Option (List Code)} {cn : Str} {cs : Scope} {a : Addr} {ccd : Value} {cl : List (Str × Addr)} {outer : List Env} {A₀ : Around} {base h₀ : Heap} {L : Addr} {m : Str → Option Value} {s : Shared}
    {Q E : Value → Shared → Prop} {x dx dc dd : Addr} {a1 a2 a3 a4 : Int} {t1 t2 t3 t4 t5 : Tok} {sat : Bool} {nd nc : Nat} {kx ky : Str} {tx ty tb : Tok} {b : Int} {oc od : Obj} {fc : Str → Option Value} {ch : List (Str × Int)}
    (B : Below A₀ base outer h₀) (F : Fr h₀ L s.heap m) (X : Frag.In (hd.heap_39 w.params) h₀)
    (N : News h₀ L s.heap [(x, instObj SC dx), (dx, netD a1 a2 a3 a4 t1 t2 t3 t4 t5 dc dd sat nd), (dc, oc), (dd, od)])
    (T : Top p loose mean mg mb h₀) (hk : cs.kind = .function) (hd1 : dp + 10 < recursionLimit) (hu : un + 80 < cLine)
    (hc : IsM PySem.Challenge.rw_fq5045_02.row.prog w oc fc nc) (lo : (dc == sysModules) = false)
    (hch : ChainIn (hideAll s.heap [x, dx, dc, dd]) ((fc kx).getD .none) ch) (hny : NoDst ky ch)
    (ret : ∀ h' tk', Fr h₀ L h' m → News h₀ L h' [(x, instObj SC dx), (dx, netD a1 a2 a3 a4 t1 t2 t3 t4 t5 dc dd sat nd), (dc, oc), (dd, od)] → (∀ b o, (hideAll s.heap [x, dx, dc, dd]).get? b = some o → h'.get? b = some o) → Q (.bool false) { s with heap := h', toks := tk' }) :
    wpAny (model PySem.Challenge.rw_fq5045_02.row.prog w) (ktrTop dp un gd cn cs L a ccd cl outer) (call (.ref 173) [.ref x, .str kx tx, .str ky ty, .int b tb]) Q E s := by
  refine wpAny_call ?_
  k_dflt (refine' enterX ?k1 ?k2 ?k3 ?k4 ?k5 ?kA ?kF ?kK ?k6 ?k7 ?k8 ?k9 ?kB ?_ ?c2 ?c3 ?c4 ?c5; (case kA => exact rfl); (case kF => exact rfl); (case kK => assumption); (case k1 => k_asm); (case k2 => k_asm); (case k3 => k_asm); (case k4 => k_asm); (case k5 => k_asm); (case k6 => k_is); (case k7 => k_is); (case k8 => ktr_room); (case k9 => exact BindsTo.of_eq rfl); (case c5 => decide); (case kB => exact locs rfl); (case c2 => exact rfl); (case c3 => exact rfl); (case c4 => exact rfl); k_whole)
  intro g' L' h₁ hg FG' F' N' B' X' T' hk₁ l1
  dsimp only
  k_fold
  have hch' : ChainIn g' ((fc kx).getD .none) ch := hch.keeps fun b o e => hg b o (of_hideAll _ e) (by
    intro hb
    have : (hideAll s.heap [x, dx, dc, dd]).get? b = none := hideAll_none _ (by simpa using hb)
    rw [this] at e; cases e)
  clear hch
  k_steps
  all_goals first
    | exact ret _ _ (by assumption) (by assumption) (fun b o e => Fr.keep (by assumption) b o (hg b o (of_hideAll _ e) (by
        intro hb
        have : (hideAll s.heap [x, dx, dc, dd]).get? b = none := hideAll_none _ (by simpa using hb)
        rw [this] at e; cases e)))
    | exact (NoDst.head (by assumption) (by assumption)).elim
    | skip
  refine' ChEnd.intro ?F ?N ?m ?c ?i ?l
  case F => assumption
  case N => assumption
  case c => assumption
  case i => exact NoDst.tail (by assumption)
  case l => simp
  case m =>
    funext z
    by_cases hz : z = Str.ofString "neighbor"
    · rw [if_pos hz, if_pos hz]
    · simp only [if_neg hz]
end Mine
end

section -- PU
open PySem
namespace Mine
abbrev Chs := Str → List (Str × Int)
/-- a potential meets every edge -/
def Feas (C : Chs) (P : Str → Int) : Prop := ∀ u v w, (v, w) ∈ C u → P v ≤ P u + w

structure Pre (C : Chs) (D0 : Str → Int) (x y : Str) (b : Int) (nC nD : List Str) : Prop where
  new : (y, b) ∈ C x
  old : ∀ u v w, (v, w) ∈ C u → (u = x ∧ v = y ∧ w = b) ∨ D0 v ≤ D0 u + w
  ne : x ≠ y
  inC : ∀ u v w, (v, w) ∈ C u → v ∈ nC
  inD : ∀ u v w, (v, w) ∈ C u → v ∈ nD
  xD : x ∈ nD
  inU : ∃ U : List Str, U.length ≤ 4 ∧ ∀ u v w, (v, w) ∈ C u → v ∈ U
  c4 : ∀ u, (C u).length ≤ 4

/-- walks from y by their number of edges: their nodes (the last one first), their values -/
def PV (C : Chs) (y : Str) (Y : Int) : Nat → List (List Str × Int)
  | 0 => [([y], Y)]
  | k + 1 => (PV C y Y k).flatMap fun q => (C (q.1.headD y)).map fun e => (e.1 :: q.1, q.2 + e.2)
theorem PV_length {C : Chs} (y : Str) (Y : Int) (h : ∀ u, (C u).length ≤ 4) : ∀ k, (PV C y Y k).length ≤ 4 ^ k
  | 0 => by simp [PV]
  | k + 1 => by
    have ih := PV_length y Y h k
    have key : ∀ l : List (List Str × Int), (l.flatMap fun q => (C (q.1.headD y)).map fun e => (e.1 :: q.1, q.2 + e.2)).length ≤ 4 * l.length := by
      intro l
      induction l with
      | nil => simp
      | cons a r ih =>
        have := h (a.1.headD y)
        simp only [List.flatMap_cons, List.length_append, List.length_map, List.length_cons] at ih ⊢
        omega
    have := key (PV C y Y k)
    simp only [PV, Nat.pow_succ]; omega
def AllP (C : Chs) (y : Str) (Y : Int) : List (List Str × Int) := PV C y Y 0 ++ (PV C y Y 1 ++ (PV C y Y 2 ++ PV C y Y 3))
theorem AllP_length {C : Chs} (y : Str) (Y : Int) (h : ∀ u, (C u).length ≤ 4) : (AllP C y Y).length ≤ 85 := by
  have h0 := PV_length y Y h 0
  have h1 := PV_length y Y h 1
  have h2 := PV_length y Y h 2
  have h3 := PV_length y Y h 3
  simp only [AllP, List.length_append]; omega
def cntD (y : Str) (D : Str → Int) (l : List (List Str × Int)) : Nat := l.countP fun q => decide (q.2 < D (q.1.headD y))
theorem cntD_le {y : Str} {D D' : Str → Int} (h : ∀ v, D' v ≤ D v) (l : List (List Str × Int)) : cntD y D' l ≤ cntD y D l :=
  List.countP_mono_left fun q _ hq => by
    have := h (q.1.headD y)
    simp only [decide_eq_true_eq] at hq ⊢; omega
theorem cntD_lt {y : Str} {D D' : Str → Int} (h : ∀ v, D' v ≤ D v) {q : List Str × Int} (h1 : q.2 < D (q.1.headD y)) (h2 : ¬ q.2 < D' (q.1.headD y)) : ∀ l, q ∈ l → cntD y D' l < cntD y D l
  | a :: r, hm => by
    have hle := cntD_le (y := y) h r
    simp only [cntD, List.countP_cons] at hle ⊢
    by_cases e : a = q
    · subst e
      simp only [decide_eq_true_eq, h1, h2, if_true, if_false]; omega
    · have hm' : q ∈ r := by
        cases hm with
        | head => exact absurd rfl e
        | tail _ h => exact h
      have := cntD_lt h h1 h2 r hm'
      simp only [cntD] at this
      have h3 := h (a.1.headD y)
      by_cases h4 : a.2 < D' (a.1.headD y)
      · have h5 : a.2 < D (a.1.headD y) := by omega
        simp only [decide_eq_true_eq, h4, h5, if_true]; omega
      · simp only [decide_eq_true_eq, h4, if_false]
        split <;> omega

/-- a simple path from y, each of its nodes no farther than along it -/
inductive PD (C : Chs) (D : Str → Int) (y : Str) (Y : Int) : List Str → Int → Prop
  | start : PD C D y Y [y] Y
  | step {c d : Str} {p : List Str} {v w : Int} : PD C D y Y (c :: p) v → (d, w) ∈ C c → d ∉ c :: p → D d ≤ v + w → PD C D y Y (d :: c :: p) (v + w)
theorem PD.mono {C : Chs} {D D' : Str → Int} {y : Str} {Y : Int} {p : List Str} {v : Int} (x : PD C D y Y p v) (h : ∀ v, D' v ≤ D v) : PD C D' y Y p v := by
  induction x with
  | start => exact .start
  | @step c d p v w h1 h2 h3 h4 ih => exact .step ih h2 h3 (Int.le_trans (h d) h4)
theorem PD.mem {C : Chs} {D : Str → Int} {y : Str} {Y : Int} {p : List Str} {v : Int} (x : PD C D y Y p v) : ∃ k, p.length = k + 1 ∧ (p, v) ∈ PV C y Y k := by
  induction x with
  | start => exact ⟨0, rfl, by simp [PV]⟩
  | @step c d p v w h1 h2 h3 h4 ih =>
    obtain ⟨k, hl, hm⟩ := ih
    refine ⟨k + 1, by rw [List.length_cons, hl], ?_⟩
    simp only [PV, List.mem_flatMap, List.mem_map]
    exact ⟨_, hm, (d, w), h2, rfl⟩
theorem PD.nodup {C : Chs} {D : Str → Int} {y : Str} {Y : Int} {p : List Str} {v : Int} (x : PD C D y Y p v) : p.Nodup := by
  induction x with
  | start => simp
  | step h1 h2 h3 h4 ih => exact List.nodup_cons.mpr ⟨h3, ih⟩
theorem PD.hasY {C : Chs} {D : Str → Int} {y : Str} {Y : Int} {p : List Str} {v : Int} (x : PD C D y Y p v) : y ∈ p := by
  induction x with
  | start => simp
  | step h1 h2 h3 h4 ih => exact List.mem_cons_of_mem _ ih
theorem PD.sub {C : Chs} {D : Str → Int} {y : Str} {Y : Int} {U p : List Str} {v : Int} (x : PD C D y Y p v) (hy : y ∈ U) (hU : ∀ u v w, (v, w) ∈ C u → v ∈ U) : ∀ u ∈ p, u ∈ U := by
  induction x with
  | start => intro u hu; simp at hu; exact hu ▸ hy
  | step h1 h2 h3 h4 ih =>
    intro u hu
    rcases List.mem_cons.mp hu with rfl | hu
    · exact hU _ _ _ h2
    · exact ih u hu
theorem nodup_le : ∀ {p U : List Str}, p.Nodup → (∀ u ∈ p, u ∈ U) → p.length ≤ U.length
  | [], _, _, _ => Nat.zero_le _
  | a :: p, U, hn, hs => by
    have ha := hs a List.mem_cons_self
    have hn' := List.nodup_cons.mp hn
    have := nodup_le (p := p) (U := U.erase a) hn'.2 fun u hu => (List.mem_erase_of_ne fun e => hn'.1 (by rw [← e]; exact hu)).mpr (hs u (List.mem_cons_of_mem _ hu))
    rw [List.length_erase_of_mem ha] at this
    have : 0 < U.length := List.length_pos_of_mem ha
    simp only [List.length_cons]; omega
theorem PD.all {C : Chs} {D : Str → Int} {y : Str} {Y : Int} {U p : List Str} {v : Int} (x : PD C D y Y p v) (hy : y ∈ U) (hU : ∀ u v w, (v, w) ∈ C u → v ∈ U) (h4 : U.length ≤ 4) : (p, v) ∈ AllP C y Y := by
  obtain ⟨k, hl, hm⟩ := x.mem
  have := nodup_le x.nodup (x.sub hy hU)
  have hk : k = 0 ∨ k = 1 ∨ k = 2 ∨ k = 3 := by omega
  simp only [AllP, List.mem_append]
  rcases hk with rfl | rfl | rfl | rfl
  · exact .inl hm
  · exact .inr (.inl hm)
  · exact .inr (.inr (.inl hm))
  · exact .inr (.inr (.inr hm))
/-- along a path of old edges no node is met again cheaper -/
theorem PD.back {C : Chs} {D D0 : Str → Int} {y : Str} {Y : Int} {p : List Str} {v : Int} (x : PD C D y Y p v) (hY : D y ≤ Y) (hold : ∀ u v w, (v, w) ∈ C u → v ≠ y → D0 v ≤ D0 u + w) :
    ∀ c p', p = c :: p' → ∀ d ∈ p, ∃ vd, D d ≤ vd ∧ vd + D0 c - D0 d ≤ v := by
  induction x with
  | start =>
    intro c p' e d hd
    cases e
    simp at hd
    subst hd
    exact ⟨Y, hY, by omega⟩
  | @step c₁ d₁ p v w h1 h2 h3 h4 ih =>
    intro c p' e d hd
    cases e
    have hne : d₁ ≠ y := fun e => h3 (e ▸ h1.hasY)
    have ho := hold _ _ _ h2 hne
    rcases List.mem_cons.mp hd with rfl | hd
    · exact ⟨_, h4, by omega⟩
    · obtain ⟨vd, a, b⟩ := ih _ _ rfl d hd
      exact ⟨vd, a, by omega⟩

def meas (C : Chs) (D0 : Str → Int) (x y : Str) (b : Int) (D : Str → Int) (ws : List (Str × Tok)) : Nat := 2 * cntD y D (AllP C y (D0 x + b)) + ws.length
/-- a node whose distance was set in this propagation -/
structure Set1 (C : Chs) (D0 : Str → Int) (x y : Str) (b : Int) (nC nD : List Str) (D : Str → Int) (c : Str) : Prop where
  inC : c ∈ nC
  inD : c ∈ nD
  pot : ∀ P, Feas C P → P c - P y ≤ D c - (D0 x + b)
  path : ∃ p, PD C D y (D0 x + b) (c :: p) (D c)
structure Inv0 (C : Chs) (D0 : Str → Int) (x y : Str) (b : Int) (nC nD : List Str) (D : Str → Int) (ws : List (Str × Tok)) : Prop where
  pre : Pre C D0 x y b nC nD
  cond : D0 x + b < D0 y
  yd : D y = D0 x + b
  low : ∀ v, D0 v - (D0 y - (D0 x + b)) ≤ D v
  high : ∀ v, D v ≤ D0 v
  great : ∀ P, Feas C P → (∀ v, P v ≤ D0 v) → ∀ v, P v ≤ D v
  chg : ∀ c t, (c, t) ∈ ws → Set1 C D0 x y b nC nD D c
  bound : meas C D0 x y b D ws ≤ 171

structure InvO (C : Chs) (D0 : Str → Int) (x y : Str) (b : Int) (nC nD : List Str) (D : Str → Int) (ws : List (Str × Tok)) : Prop extends Inv0 C D0 x y b nC nD D ws where
  sat : ∀ u v w, (v, w) ∈ C u → (∃ t, (u, t) ∈ ws) ∨ D v ≤ D u + w

structure InvI (C : Chs) (D0 : Str → Int) (x y : Str) (b : Int) (nC nD : List Str) (D : Str → Int) (ws : List (Str × Tok)) (c : Str) (ch : List (Str × Int)) : Prop extends Inv0 C D0 x y b nC nD D ws where
  cs : Set1 C D0 x y b nC nD D c
  sub : ∀ e ∈ ch, e ∈ C c
  sat : ∀ u v w, (v, w) ∈ C u → (∃ t, (u, t) ∈ ws) ∨ (u = c ∧ (v, w) ∈ ch) ∨ D v ≤ D u + w

section
variable {C : Chs} {D0 D : Str → Int} {x y c d : Str} {b w : Int} {nC nD : List Str} {ws : List (Str × Tok)} {t : Tok} {ch : List (Str × Int)}
theorem Pre.yD (h : Pre C D0 x y b nC nD) : y ∈ nD := h.inD _ _ _ h.new
theorem Pre.yC (h : Pre C D0 x y b nC nD) : y ∈ nC := h.inC _ _ _ h.new
theorem InvO.start (h : Pre C D0 x y b nC nD) (hc : D0 x + b < D0 y) (t : Tok) : InvO C D0 x y b nC nD (fun z => if z = y then D0 x + b else D0 z) [(y, t)] where
  pre := h
  cond := hc
  yd := by simp
  low v := by by_cases e : v = y <;> simp [e] <;> omega
  high v := by by_cases e : v = y <;> simp [e] <;> omega
  great P hP hl v := by
    by_cases e : v = y
    · subst e
      have h1 := hP _ _ _ h.new
      have h2 := hl x
      simp; omega
    · simp [e]; exact hl v
  chg c t' hm := by
    simp only [List.mem_singleton, Prod.mk.injEq] at hm
    obtain ⟨rfl, rfl⟩ := hm
    exact ⟨h.yC, h.yD, fun P _ => by simp, [], by simp only [if_true]; exact .start⟩
  bound := by
    have h1 := AllP_length y (D0 x + b) h.c4
    have h2 : cntD y (fun z => if z = y then D0 x + b else D0 z) (AllP C y (D0 x + b)) ≤ (AllP C y (D0 x + b)).length := List.countP_le_length
    simp only [meas, List.length_cons, List.length_nil]; omega
  sat u v w hm := by
    by_cases e : u = y
    · exact .inl ⟨t, by simp [e]⟩
    · refine .inr ?_
      simp only [if_neg e]
      rcases h.old u v w hm with ⟨rfl, rfl, rfl⟩ | ho
      · simp
      · by_cases ev : v = y
        · subst ev; simp; omega
        · simp [ev]; exact ho
theorem meas_pop : meas C D0 x y b D ((c, t) :: ws) = meas C D0 x y b D ws + 1 := by simp [meas]; omega
theorem InvO.cC (h : InvO C D0 x y b nC nD D ((c, t) :: ws)) : c ∈ nC := (h.chg c t (List.mem_cons_self)).inC
theorem InvO.pop (h : InvO C D0 x y b nC nD D ((c, t) :: ws)) : InvI C D0 x y b nC nD D ws c (C c) where
  pre := h.pre
  cond := h.cond
  yd := h.yd
  low := h.low
  high := h.high
  great := h.great
  chg c' t' hm := h.chg c' t' (List.mem_cons_of_mem _ hm)
  bound := by have := h.bound; rw [meas_pop] at this; omega
  cs := h.chg c t (List.mem_cons_self)
  sub _ he := he
  sat u v w hm := by
    rcases h.sat u v w hm with ⟨t', ht⟩ | hs
    · rcases List.mem_cons.mp ht with e | ht
      · cases e; exact .inr (.inl ⟨rfl, hm⟩)
      · exact .inl ⟨t', ht⟩
    · exact .inr (.inr hs)
theorem Inv0.few (h : Inv0 C D0 x y b nC nD D ws) : ws.length ≤ 171 := by
  have := h.bound
  simp only [meas] at this; omega
theorem InvI.skip (h : InvI C D0 x y b nC nD D ws c ((d, w) :: ch)) (hs : ¬ D c + w < D d) : InvI C D0 x y b nC nD D ws c ch :=
  { h with
    sub := fun e he => h.sub e (List.mem_cons_of_mem _ he)
    sat := fun u v w' hm => by
      rcases h.sat u v w' hm with hw | ⟨rfl, hc⟩ | hs'
      · exact .inl hw
      · rcases List.mem_cons.mp hc with e | hc
        · cases e; exact .inr (.inr (by omega))
        · exact .inr (.inl ⟨rfl, hc⟩)
      · exact .inr (.inr hs') }
theorem InvI.mem (h : InvI C D0 x y b nC nD D ws c ((d, w) :: ch)) : (d, w) ∈ C c := h.sub _ List.mem_cons_self
theorem InvI.cD (h : InvI C D0 x y b nC nD D ws c ch) : c ∈ nD := h.cs.inD
theorem InvI.dD (h : InvI C D0 x y b nC nD D ws c ((d, w) :: ch)) : d ∈ nD := h.pre.inD _ _ _ h.mem
theorem InvI.found (h : InvI C D0 x y b nC nD D ws c ((y, b) :: ch)) (hr : D c + b < D y) (P : Str → Int) : ¬ Feas C P := fun hP => by
  have h1 := hP _ _ _ h.mem
  have h2 := h.cs.pot P hP
  have h3 := h.yd
  omega
theorem InvI.notY (h : InvI C D0 x y b nC nD D ws c ((d, w) :: ch)) (hr : D c + w < D d) (hn : ¬ (d = y ∧ w = b)) : d ≠ y := fun e => by
  subst e
  rcases h.pre.old _ _ _ h.mem with ⟨_, _, rfl⟩ | ho
  · exact hn ⟨rfl, rfl⟩
  · have h1 := h.low c
    have h3 := h.yd
    omega
theorem InvI.edge (h : InvI C D0 x y b nC nD D ws c ((d, w) :: ch)) (hr : D c + w < D d) (hn : ¬ (d = y ∧ w = b)) : D0 d ≤ D0 c + w := by
  rcases h.pre.old _ _ _ h.mem with ⟨_, e, _⟩ | ho
  · exact absurd e (h.notY hr hn)
  · exact ho
theorem InvI.dc (h : InvI C D0 x y b nC nD D ws c ((d, w) :: ch)) (hr : D c + w < D d) (hn : ¬ (d = y ∧ w = b)) : d ≠ c := fun e => by
  have := h.edge hr hn
  subst e; omega
theorem InvI.newPath (h : InvI C D0 x y b nC nD D ws c ((d, w) :: ch)) (hr : D c + w < D d) (hn : ¬ (d = y ∧ w = b)) :
    ∃ p, PD C (fun z => if z = d then D c + w else D z) y (D0 x + b) (d :: c :: p) (D c + w) := by
  obtain ⟨p, hp⟩ := h.cs.path
  have he := h.edge hr hn
  have hnot : d ∉ c :: p := fun hd => by
    obtain ⟨vd, h1, h2⟩ := hp.back (D0 := D0) (Int.le_of_eq h.yd) (fun u v w hm hv => by
      rcases h.pre.old u v w hm with ⟨_, e, _⟩ | ho
      · exact absurd e hv
      · exact ho) c p rfl d hd
    omega
  refine ⟨p, .step (hp.mono fun v => ?_) h.mem hnot (by simp)⟩
  by_cases e : v = d
  · subst e; simp; omega
  · simp [e]
theorem InvI.meas_relax (h : InvI C D0 x y b nC nD D ws c ((d, w) :: ch)) (hr : D c + w < D d) (hn : ¬ (d = y ∧ w = b)) (t : Tok) :
    meas C D0 x y b (fun z => if z = d then D c + w else D z) (ws ++ [(d, t)]) < meas C D0 x y b D ws := by
  obtain ⟨p, hp⟩ := h.newPath hr hn
  obtain ⟨U, h4, hU⟩ := h.pre.inU
  have hin := hp.all (hU _ _ _ h.pre.new) hU h4
  have hlt : cntD y (fun z => if z = d then D c + w else D z) (AllP C y (D0 x + b)) < cntD y D (AllP C y (D0 x + b)) := by
    refine cntD_lt (fun v => ?_) (q := (d :: c :: p, D c + w)) (by simpa using hr) (by simp) _ hin
    by_cases e : v = d
    · subst e; simp; omega
    · simp [e]
  simp only [meas, List.length_append, List.length_cons, List.length_nil]; omega
theorem InvI.relax (h : InvI C D0 x y b nC nD D ws c ((d, w) :: ch)) (hr : D c + w < D d) (hn : ¬ (d = y ∧ w = b)) (t : Tok) :
    InvI C D0 x y b nC nD (fun z => if z = d then D c + w else D z) (ws ++ [(d, t)]) c ch := by
  have hy := h.notY hr hn
  have he := h.edge hr hn
  have hc := h.dc hr hn
  have hlo := h.low c
  have hm := h.mem
  have hdec : ∀ v, (fun z => if z = d then D c + w else D z) v ≤ D v := fun v => by
    by_cases e : v = d
    · subst e; simp; omega
    · simp [e]
  have hset : ∀ c', c' ≠ d → Set1 C D0 x y b nC nD D c' → Set1 C D0 x y b nC nD (fun z => if z = d then D c + w else D z) c' := fun c' e hs => by
    obtain ⟨p, hp⟩ := hs.path
    refine ⟨hs.inC, hs.inD, fun P hF => ?_, p, ?_⟩
    · simp [e]; exact hs.pot P hF
    · simp only [if_neg e]; exact hp.mono hdec
  have hnew : Set1 C D0 x y b nC nD (fun z => if z = d then D c + w else D z) d := by
    obtain ⟨p, hp⟩ := h.newPath hr hn
    refine ⟨h.pre.inC _ _ _ hm, h.pre.inD _ _ _ hm, fun P hF => ?_, c :: p, ?_⟩
    · simp; have h1 := hF _ _ _ hm; have h2 := h.cs.pot P hF; omega
    · simp only [if_true]; exact hp
  refine ⟨⟨h.pre, h.cond, ?_, ?_, ?_, ?_, ?_, ?_⟩, hset c (Ne.symm hc) h.cs, fun e he => h.sub e (List.mem_cons_of_mem _ he), ?_⟩
  · simp [Ne.symm hy, h.yd]
  · intro v
    by_cases e : v = d
    · subst e; simp; omega
    · simp [e]; exact h.low v
  · intro v
    exact Int.le_trans (hdec v) (h.high v)
  · intro P hP hl v
    have := h.great P hP hl
    by_cases e : v = d
    · subst e; simp; have h1 := hP _ _ _ hm; have h2 := this c; omega
    · simp [e]; exact this v
  · intro c' t' hm'
    by_cases e : c' = d
    · subst e; exact hnew
    · rcases List.mem_append.mp hm' with hm' | hm'
      · exact hset c' e (h.chg c' t' hm')
      · simp only [List.mem_singleton, Prod.mk.injEq] at hm'
        exact absurd hm'.1 e
  · have := h.meas_relax hr hn t
    have := h.bound
    omega
  · intro u v w' hm'
    by_cases eu : u = d
    · exact .inl ⟨t, by simp [eu]⟩
    · rcases h.sat u v w' hm' with ⟨t', ht⟩ | ⟨rfl, hch⟩ | hs
      · exact .inl ⟨t', List.mem_append_left _ ht⟩
      · rcases List.mem_cons.mp hch with e | hch
        · cases e; refine .inr (.inr ?_); simp [eu]
        · exact .inr (.inl ⟨rfl, hch⟩)
      · refine .inr (.inr ?_)
        simp only [if_neg eu]
        exact Int.le_trans (hdec v) hs
theorem InvI.done (h : InvI C D0 x y b nC nD D ws c []) : InvO C D0 x y b nC nD D ws :=
  { h with
    sat := fun u v w hm => by
      rcases h.sat u v w hm with hw | ⟨_, hc⟩ | hs
      · exact .inl hw
      · cases hc
      · exact .inr hs }

/-- what _inc_check leaves -/
def Res (C : Chs) (D0 : Str → Int) (r : Bool) (D : Str → Int) : Prop :=
  (∀ v, D v ≤ D0 v) ∧ (∀ P, Feas C P → (∀ v, P v ≤ D0 v) → ∀ v, P v ≤ D v) ∧ (r = true → Feas C D) ∧ (r = false → ∀ P, ¬ Feas C P)
theorem InvO.res (h : InvO C D0 x y b nC nD D []) : Res C D0 true D :=
  ⟨h.high, h.great, fun _ u v w hm => by
    rcases h.sat u v w hm with ⟨_, hw⟩ | hs
    · cases hw
    · exact hs, fun e => nomatch e⟩
theorem InvI.resF (h : InvI C D0 x y b nC nD D ws c ((y, b) :: ch)) (hr : D c + b < D y) : Res C D0 false D :=
  ⟨h.high, h.great, (fun e => nomatch e), fun _ P => h.found hr P⟩
theorem Pre.res (h : Pre C D0 x y b nC nD) (hc : ¬ D0 x + b < D0 y) : Res C D0 true D0 :=
  ⟨fun _ => Int.le_refl _, fun _ _ hl => hl, fun _ u v w hm => by
    rcases h.old u v w hm with ⟨rfl, rfl, rfl⟩ | ho
    · omega
    · exact ho, fun e => nomatch e⟩
end
end Mine
end

section -- MU
open PySem PySem.W PyProof.Rows PySem.Calls PySem.W.X
set_option maxRecDepth 100000
namespace Mine
section
variable {prog : Program} {w : World} {A : Around} {E : Value → Shared → Prop} {s : Shared} {L d : Addr} {h₀ : Heap} {M : Addr → Obj → Prop} {m : Str → Option Value} {news : List (Addr × Obj)} {g : Obj → List (Addr × Obj)} {o : Obj} {f : Str → Option Value} {n : Nat} {k : Str} {t : Tok}
theorem any_of_valueAt {kvs : List (Str × Value)} {k : Str} (h : valueAt kvs k ≠ none) : (kvs.any fun kv => kv.1 = k) = true := by
  unfold valueAt at h
  cases e : kvs.find? fun kv => kv.1 = k with
  | none => rw [e] at h; exact absurd rfl h
  | some p => exact List.any_eq_true.mpr ⟨p, List.mem_of_find?_eq_some e, by simpa using List.find?_some e⟩
theorem IsM.stored_there {kvs : List (Str × Value)} {v : Value} {o' : Obj} (hf : ∀ k, valueAt kvs k = f k) (hl : kvs.length ≤ n) (hk : f k ≠ none) (x : o'.IsDictOf (strKind prog w) (PySem.stored kvs k v)) : IsM prog w o' (fun y => if y = k then some v else f y) n :=
  ⟨_, x, fun y => by rw [valueAt_stored, hf], by
    unfold PySem.stored
    rw [if_pos (any_of_valueAt (by rw [hf]; exact hk)), List.length_map]; exact hl⟩
theorem dict_set_there {v : Value} {Q : Unit → Shared → Prop} (F : Fr h₀ L s.heap m) (N : News h₀ L s.heap news) (U : UpdF d o news g) (x : IsM prog w o f n) (hn : n ≤ sizeLine) (hk : f k ≠ none)
    (h : ∀ h' o', Fr h₀ L h' m → News h₀ L h' (g o') → IsM prog w o' (fun y => if y = k then some v else f y) n → Q () { s with heap := h', toks := s.toks + 1 }) :
    wpAny (model prog w) A (setItem (.ref d) (.str k t) v) Q E s := by
  have e := (N _ (UpdF.mem U)).1
  obtain ⟨kvs, hd, hf, hl⟩ := x
  refine wpAny_setItem_pairs (strKind_is prog w k t) (Heap.dictOf_iff.mpr ⟨o, e, hd⟩) (fun h' hd' hs => ?_) (Nat.le_trans hl hn)
  obtain ⟨o', ho', hx⟩ := Heap.dictOf_iff.mp hd'
  obtain ⟨F', N'⟩ := upd_ledger F N U hs ho'
  exact h h' o' F' N' (IsM.stored_there hf hl hk hx)

/-- the distances -/
def IsD (prog : Program) (w : World) (o : Obj) (D : Str → Int) (nD : List Str) (n : Nat) : Prop :=
  ∃ f, IsM prog w o f n ∧ (∀ k, k ∈ nD → ∃ t, f k = some (.int (D k) t)) ∧ ∀ k, k ∉ nD → f k = none ∧ D k = 0
/-- the constraints, their chains among M -/
def IsCM (prog : Program) (w : World) (M : Addr → Obj → Prop) (o : Obj) (C : Chs) (nC : List Str) (n : Nat) : Prop :=
  ∃ f, IsM prog w o f n ∧ (∀ k, k ∈ nC → ∃ v, f k = some v ∧ ChainM M v (C k)) ∧ ∀ k, k ∉ nC → f k = none ∧ C k = []
abbrev IsC (prog : Program) (w : World) (H : Heap) (o : Obj) (C : Chs) (nC : List Str) (n : Nat) : Prop := IsCM prog w (fun a ob => H.get? a = some ob) o C nC n
theorem IsCM.keeps {M' : Addr → Obj → Prop} {C : Chs} {nC : List Str} (x : IsCM prog w M o C nC n) (k : ∀ a ob, M a ob → M' a ob) : IsCM prog w M' o C nC n :=
  let ⟨f, a, b, c⟩ := x; ⟨f, a, fun y hy => let ⟨v, e, h⟩ := b y hy; ⟨v, e, h.keeps k⟩, c⟩
theorem IsC.keeps {H H' : Heap} {C : Chs} {nC : List Str} (x : IsC prog w H o C nC n) (k : ∀ a ob, H.get? a = some ob → H'.get? a = some ob) : IsC prog w H' o C nC n := IsCM.keeps x k

variable {D : Str → Int} {C : Chs} {nD nC : List Str}
theorem d_meth {name : Str} {id : String} {pl : Sem Bool} {Q : Value × List Value → Shared → Prop} (slot : Slot "dict" name id) (hty : typeOf (.builtin id) = pure (.type "method_descriptor"))
    (N : News h₀ L s.heap news) (hm : (d, o) ∈ news) (x : IsD prog w o D nD n) (h : Q (.builtin id, [.ref d]) s) : wpAny (model prog w) A (getMethod (.ref d) name pl) Q E s :=
  let ⟨_, x, _⟩ := x; dict_meth slot hty N hm x h
theorem c_meth {name : Str} {id : String} {pl : Sem Bool} {Q : Value × List Value → Shared → Prop} (slot : Slot "dict" name id) (hty : typeOf (.builtin id) = pure (.type "method_descriptor"))
    (N : News h₀ L s.heap news) (hm : (d, o) ∈ news) (x : IsCM prog w M o C nC n) (h : Q (.builtin id, [.ref d]) s) : wpAny (model prog w) A (getMethod (.ref d) name pl) Q E s :=
  let ⟨_, x, _⟩ := x; dict_meth slot hty N hm x h
theorem d_item {value slice : PySem.Expr} {Q : Value → Shared → Prop} (N : News h₀ L s.heap news) (hm : (d, o) ∈ news) (x : IsD prog w o D nD n) (hk : k ∈ nD) (h : ∀ t', Q (.int (D k) t') { s with toks := s.toks + 1 })
    (hs : subscripted slice false (.ref d) (.str k t) = operate [.ref d, .str k t] (getItem (.ref d) (.str k t))) (hg : ∀ r, letTemporaryGo value (.ref d) r = pure ()) :
    wpAny (model prog w) A (subscriptTail value slice (.ref d) (.str k t)) Q E s := by
  obtain ⟨f, x, a, _⟩ := x
  obtain ⟨t', e⟩ := a k hk
  exact dict_item N hm x e (h t') hs hg
theorem c_item {value slice : PySem.Expr} {Q : Value → Shared → Prop} (N : News h₀ L s.heap news) (hm : (d, o) ∈ news) (x : IsCM prog w M o C nC n) (hk : k ∈ nC) (h : ∀ v, ChainM M v (C k) → Q v { s with toks := s.toks + 1 })
    (hs : subscripted slice false (.ref d) (.str k t) = operate [.ref d, .str k t] (getItem (.ref d) (.str k t))) (hg : ∀ r, letTemporaryGo value (.ref d) r = pure ()) :
    wpAny (model prog w) A (subscriptTail value slice (.ref d) (.str k t)) Q E s := by
  obtain ⟨f, x, a, _⟩ := x
  obtain ⟨v, e, c⟩ := a k hk
  exact dict_item N hm x e (h v c) hs hg
theorem d_set {i : Int} {t' : Tok} {Q : Unit → Shared → Prop} (F : Fr h₀ L s.heap m) (N : News h₀ L s.heap news) (U : UpdF d o news g) (x : IsD prog w o D nD n) (hn : n ≤ sizeLine) (hk : k ∈ nD)
    (h : ∀ h' o', Fr h₀ L h' m → News h₀ L h' (g o') → IsD prog w o' (fun y => if y = k then i else D y) nD n → Q () { s with heap := h', toks := s.toks + 1 }) :
    wpAny (model prog w) A (setItem (.ref d) (.str k t) (.int i t')) Q E s := by
  obtain ⟨f, x, a, b⟩ := x
  obtain ⟨t₁, e⟩ := a k hk
  refine dict_set_there F N U x hn (by rw [e]; exact fun h => nomatch h) fun h' o' F' N' x' => h h' o' F' N' ⟨_, x', fun y hy => ?_, fun y hy => ?_⟩
  · by_cases ey : y = k
    · subst ey; exact ⟨t', by simp⟩
    · obtain ⟨t₂, e₂⟩ := a y hy; exact ⟨t₂, by simp [ey, e₂]⟩
  · have ey : y ≠ k := fun q => hy (q ▸ hk)
    simp only [if_neg ey]; exact b y hy
theorem d_default {t' : Tok} {Q : Value → Shared → Prop} (F : Fr h₀ L s.heap m) (N : News h₀ L s.heap news) (U : UpdF d o news g) (x : IsD prog w o D nD n) (hn : n ≤ sizeLine) (lo : (d == sysModules) = false)
    (h : ∀ h' o' v, Fr h₀ L h' m → News h₀ L h' (g o') → IsD prog w o' D (k :: nD) (n + 1) → Q v { s with heap := h', toks := s.toks + 1 }) :
    wpAny (model prog w) A (call (.builtin "dict.setdefault") [.ref d, .str k t, .int 0 t']) Q E s := by
  obtain ⟨f, x, a, b⟩ := x
  refine dict_default F N U x hn lo fun h' o' F' N' x' => h h' o' _ F' N' ⟨_, x', fun y hy => ?_, fun y hy => ?_⟩
  · by_cases ey : y = k
    · subst ey
      by_cases hin : y ∈ nD
      · obtain ⟨t₁, e⟩ := a y hin; exact ⟨t₁, by simp [e]⟩
      · obtain ⟨e, e'⟩ := b y hin; exact ⟨t', by simp [e, e']⟩
    · have hin : y ∈ nD := (List.mem_cons.mp hy).resolve_left ey
      obtain ⟨t₂, e₂⟩ := a y hin; exact ⟨t₂, by simp [ey, e₂]⟩
  · have ey : y ≠ k := fun q => hy (q ▸ List.mem_cons_self)
    simp only [if_neg ey]; exact b y fun q => hy (List.mem_cons_of_mem _ q)
theorem c_get {Q : Value → Shared → Prop} (N : News h₀ L s.heap news) (hm : (d, o) ∈ news) (x : IsCM prog w M o C nC n) (lo : (d == sysModules) = false) (h : ∀ v, ChainM M v (C k) → Q v { s with toks := s.toks + 1 }) :
    wpAny (model prog w) A (call (.builtin "dict.get") [.ref d, .str k t, .none]) Q E s := by
  obtain ⟨f, x, a, b⟩ := x
  refine dict_get2 N hm x lo (h _ ?_)
  by_cases hin : k ∈ nC
  · obtain ⟨v, e, c⟩ := a k hin; rw [e]; exact c
  · obtain ⟨e, e'⟩ := b k hin; rw [e, e']; exact .nil
theorem c_default {Q : Value → Shared → Prop} (F : Fr h₀ L s.heap m) (N : News h₀ L s.heap news) (U : UpdF d o news g) (x : IsCM prog w M o C nC n) (hn : n ≤ sizeLine) (lo : (d == sysModules) = false)
    (h : ∀ h' o' v, Fr h₀ L h' m → News h₀ L h' (g o') → IsCM prog w M o' C (k :: nC) (n + 1) → Q v { s with heap := h', toks := s.toks + 1 }) :
    wpAny (model prog w) A (call (.builtin "dict.setdefault") [.ref d, .str k t, .none]) Q E s := by
  obtain ⟨f, x, a, b⟩ := x
  refine dict_default F N U x hn lo fun h' o' F' N' x' => h h' o' _ F' N' ⟨_, x', fun y hy => ?_, fun y hy => ?_⟩
  · by_cases ey : y = k
    · subst ey
      by_cases hin : y ∈ nC
      · obtain ⟨v, e, c⟩ := a y hin; exact ⟨v, by simp [e], c⟩
      · obtain ⟨e, e'⟩ := b y hin; exact ⟨.none, by simp [e], e' ▸ .nil⟩
    · have hin : y ∈ nC := (List.mem_cons.mp hy).resolve_left ey
      obtain ⟨v, e₂, c⟩ := a y hin; exact ⟨v, by simp [ey, e₂], c⟩
  · have ey : y ≠ k := fun q => hy (q ▸ List.mem_cons_self)
    simp only [if_neg ey]; exact b y fun q => hy (List.mem_cons_of_mem _ q)
theorem c_set {v : Value} {Q : Unit → Shared → Prop} (F : Fr h₀ L s.heap m) (N : News h₀ L s.heap news) (U : UpdF d o news g) (x : IsCM prog w M o C nC n) (hn : n ≤ sizeLine)
    (h : ∀ h' o' f', Fr h₀ L h' m → News h₀ L h' (g o') → IsM prog w o' f' (n + 1) → f' k = some v → (∀ y, y ≠ k → (y ∈ nC → ∃ v, f' y = some v ∧ ChainM M v (C y)) ∧ (y ∉ nC → f' y = none ∧ C y = [])) → Q () { s with heap := h', toks := s.toks + 1 }) :
    wpAny (model prog w) A (setItem (.ref d) (.str k t) v) Q E s := by
  obtain ⟨f, x, a, b⟩ := x
  refine dict_set F N U x hn fun h' o' F' N' x' => h h' o' _ F' N' x' (by simp) fun y hy => ⟨fun hi => ?_, fun hi => ?_⟩
  · simp only [if_neg hy]; exact a y hi
  · simp only [if_neg hy]; exact b y hi
end
section
variable {prog : Program} {w : World} {A : Around} {E : Value → Shared → Prop} {s : Shared} {L : Addr} {h₀ : Heap} {σ : Type}
/-- a while by what holds of a state of one's own -/
def WEnd (h₀ : Heap) (L : Addr) (s : Shared) (mf : σ → Str → Option Value) (nf : σ → List (Addr × Obj)) (I : σ → Prop) (M : σ → Nat) (st : σ) (s₂ : Shared) : Prop :=
  ∃ h' tk st', s₂ = { s with heap := h', toks := tk } ∧ Fr h₀ L h' (mf st') ∧ News h₀ L h' (nf st') ∧ I st' ∧ M st' < M st
def WPost (h₀ : Heap) (L : Addr) (s : Shared) (mf : σ → Str → Option Value) (nf : σ → List (Addr × Obj)) (I : σ → Prop) (M : σ → Nat) (Q : Flow → Shared → Prop) (st : σ) (f : Flow) (s₂ : Shared) : Prop :=
  match f with
  | .ret v => Q (.ret v) s₂
  | .brk => Q .next s₂
  | _ => WEnd h₀ L s mf nf I M st s₂
theorem WEnd.intro {mf : σ → Str → Option Value} {nf : σ → List (Addr × Obj)} {I : σ → Prop} {M : σ → Nat} {st : σ} (st' : σ) {h' : Heap} {tk : Nat} {m' : Str → Option Value} (F : Fr h₀ L h' m') (hm : m' = mf st') (N : News h₀ L h' (nf st')) (hI : I st') (hM : M st' < M st) :
    WEnd h₀ L s mf nf I M st { s with heap := h', toks := tk } := ⟨h', tk, st', rfl, hm ▸ F, N, hI, hM⟩
theorem while_st {Q : Flow → Shared → Prop} {env : Env} {test : PySem.Expr} {body : List Stmt} {pos : Pos} (mf : σ → Str → Option Value) (nf : σ → List (Addr × Obj)) (I : σ → Prop) (M : σ → Nat) (st₀ : σ) {m : Str → Option Value} {news : List (Addr × Obj)}
    (F : Fr h₀ L s.heap m) (N : News h₀ L s.heap news) (hm : m = mf st₀) (hn : news = nf st₀) (hI : I st₀)
    (turn : ∀ st h tk, I st → Fr h₀ L h (mf st) → News h₀ L h (nf st) →
      wpAny (model prog w) A (isTrue test env (eval test env)) (fun b s₂ =>
        if b = true then wpAny (model prog w) A (execs body env) (WPost h₀ L s mf nf I M Q st) E s₂ else Q .next s₂) E { s with heap := h, toks := tk })
    (hE : PassesOwn (model prog w) A env E := by passes_own) :
    wpAny (model prog w) A (exec (.While test body [] pos) env) Q E s := by
  refine While_inv2 (fun n m nx => ∃ st, M st = n ∧ m = mf st ∧ nx = nf st ∧ I st) F N ⟨st₀, rfl, hm, hn, hI⟩ ?_ hE
  rintro n m₁ nx h tk F₁ N₁ ⟨st, rfl, rfl, rfl, hI⟩
  refine wpAny_mono (turn st h tk hI F₁ N₁) (fun b s₂ p => ?_) fun _ _ x => x
  cases b with
  | false => simpa using p
  | true =>
    simp only [if_true] at p ⊢
    refine wpAny_mono p (fun f s₃ q => ?_) fun _ _ x => x
    cases f with
    | ret v => exact q
    | brk => exact q
    | next =>
      obtain ⟨h', tk', st', rfl, F', N', hI', hM⟩ := q
      exact ⟨h', tk', _, _, M st', rfl, F', N', hM, st', rfl, rfl, rfl, hI'⟩
    | cont =>
      obtain ⟨h', tk', st', rfl, F', N', hI', hM⟩ := q
      exact ⟨h', tk', _, _, M st', rfl, F', N', hM, st', rfl, rfl, rfl, hI'⟩
end
end Mine
end

section -- MI
open PySem PySem.W PyProof.Rows PySem.Calls PySem.W.X
set_option maxRecDepth 100000
set_option maxHeartbeats 8000000
namespace Mine
theorem fillMI : (PySem.Challenge.rw_fq5045_02, hd.heap_39) = (PySem.Challenge.rw_fq5045_02, hd.heap_39) := by
  w_top off
  k_fill
  rfl
abbrev sv (p : Str × Tok) : Value := .str p.1 p.2
structure OSt where
  D : Str → Int
  ws : List (Str × Tok)
  od : Obj
  nq : Int
  un : Option Value
  uc : Option Value
structure ISt where
  D : Str → Int
  ws : List (Str × Tok)
  od : Obj
  nq : Int
  v : Value
  ch : List (Str × Int)
abbrev omf (m₀ : Str → Option Value) (st : OSt) : Str → Option Value := fun z => if z = Str.ofString "n" then st.un else if z = Str.ofString "c" then st.uc else m₀ z
abbrev imf (m₀ : Str → Option Value) (st : ISt) : Str → Option Value := fun z => if z = Str.ofString "n" then some st.v else m₀ z

section
variable {prog : Program} {w : World} {A : Around} {E : Value → Shared → Prop} {s : Shared} {L q dd : Addr} {h₀ : Heap} {nl : List (Addr × Obj)} {Q : Flow → Shared → Prop} {env : Env} {test : PySem.Expr} {body : List Stmt} {pos : Pos} {m₀ : Str → Option Value}
  {C : Chs} {D0 D : Str → Int} {x y c d : Str} {b : Int} {nC nD : List Str} {ws : List (Str × Tok)} {ch : List (Str × Int)} {od : Obj} {nq : Int} {k : Nat} {H : Heap} {v : Value}
abbrev onf (q dd : Addr) (r1 r2 : List (Addr × Obj)) (st : OSt) : List (Addr × Obj) := (q, dqObj (st.ws.map sv) st.nq) :: (r1 ++ (dd, st.od) :: r2)
abbrev inf (q dd : Addr) (r1 r2 : List (Addr × Obj)) (st : ISt) : List (Addr × Obj) := (q, dqObj (st.ws.map sv) st.nq) :: (r1 ++ (dd, st.od) :: r2)
theorem while_out {p1 p2 p3 : Addr × Obj} {t : Tok}
    (F : Fr h₀ L s.heap m₀) (N : News h₀ L s.heap [(q, dqObj [.str y t] nq), p1, p2, p3, (dd, od)])
    (hd : IsD prog w od (fun z => if z = y then D0 x + b else D0 z) nD k) (hp : Pre C D0 x y b nC nD) (hc : D0 x + b < D0 y)
    (turn : ∀ D ws od nq un uc h tk, IsD prog w od D nD k → InvO C D0 x y b nC nD D ws → Fr h₀ L h (omf m₀ ⟨D, ws, od, nq, un, uc⟩) → News h₀ L h [(q, dqObj (ws.map sv) nq), p1, p2, p3, (dd, od)] →
      wpAny (model prog w) A (isTrue test env (eval test env)) (fun bb s₂ =>
        if bb = true then wpAny (model prog w) A (execs body env) (WPost h₀ L s (omf m₀) (onf q dd [p1, p2, p3] []) (fun st => IsD prog w st.od st.D nD k ∧ InvO C D0 x y b nC nD st.D st.ws) (fun st => meas C D0 x y b st.D st.ws) Q ⟨D, ws, od, nq, un, uc⟩) E s₂ else Q .next s₂) E { s with heap := h, toks := tk })
    (hE : PassesOwn (model prog w) A env E) :
    wpAny (model prog w) A (exec (.While test body [] pos) env) Q E s :=
  while_st (omf m₀) (onf q dd [p1, p2, p3] []) (fun st => IsD prog w st.od st.D nD k ∧ InvO C D0 x y b nC nD st.D st.ws) (fun st => meas C D0 x y b st.D st.ws) ⟨_, [(y, t)], od, nq, m₀ (Str.ofString "n"), m₀ (Str.ofString "c")⟩ F N
    (by
      funext z
      by_cases h1 : z = Str.ofString "n"
      · subst h1; simp [omf]
      · by_cases h2 : z = Str.ofString "c"
        · subst h2; simp [omf, h1]
        · simp [omf, h1, h2]) rfl ⟨hd, InvO.start hp hc t⟩
    (fun ⟨D, ws, od, nq, un, uc⟩ h tk hI F N => turn D ws od nq un uc h tk hI.1 hI.2 F N) hE
theorem while_in {p1 p2 p3 : Addr × Obj}
    (F : Fr h₀ L s.heap m₀) (N : News h₀ L s.heap [(q, dqObj (ws.map sv) nq), p1, p2, p3, (dd, od)]) (hn : m₀ (Str.ofString "n") = some v)
    (hd : IsD prog w od D nD k) (hv : ChainIn H v ch) (hI : InvI C D0 x y b nC nD D ws c ch)
    (turn : ∀ D' ws' od nq v ch h tk, IsD prog w od D' nD k → ChainIn H v ch → meas C D0 x y b D' ws' ≤ meas C D0 x y b D ws → InvI C D0 x y b nC nD D' ws' c ch → Fr h₀ L h (imf m₀ ⟨D', ws', od, nq, v, ch⟩) → News h₀ L h [(q, dqObj (ws'.map sv) nq), p1, p2, p3, (dd, od)] →
      wpAny (model prog w) A (isTrue test env (eval test env)) (fun bb s₂ =>
        if bb = true then wpAny (model prog w) A (execs body env) (WPost h₀ L s (imf m₀) (inf q dd [p1, p2, p3] []) (fun st => IsD prog w st.od st.D nD k ∧ ChainIn H st.v st.ch ∧ meas C D0 x y b st.D st.ws ≤ meas C D0 x y b D ws ∧ InvI C D0 x y b nC nD st.D st.ws c st.ch) (fun st => st.ch.length) Q ⟨D', ws', od, nq, v, ch⟩) E s₂ else Q .next s₂) E { s with heap := h, toks := tk })
    (hE : PassesOwn (model prog w) A env E) :
    wpAny (model prog w) A (exec (.While test body [] pos) env) Q E s :=
  while_st (imf m₀) (inf q dd [p1, p2, p3] []) (fun st => IsD prog w st.od st.D nD k ∧ ChainIn H st.v st.ch ∧ meas C D0 x y b st.D st.ws ≤ meas C D0 x y b D ws ∧ InvI C D0 x y b nC nD st.D st.ws c st.ch) (fun st => st.ch.length) ⟨D, ws, od, nq, v, ch⟩ F N
    (by
      funext z
      by_cases h1 : z = Str.ofString "n"
      · subst h1; simp [imf, hn]
      · simp [imf, h1]) rfl ⟨hd, hv, Nat.le_refl _, hI⟩
    (fun ⟨D, ws, od, nq, v, ch⟩ h tk hI F N => turn D ws od nq v ch h tk hI.1 hI.2.1 hI.2.2.1 hI.2.2.2 F N) hE
theorem oEnd {p1 p2 p3 : Addr × Obj} {st : OSt} {h' : Heap} {m' : Str → Option Value} {tk : Nat}
    (F : Fr h₀ L h' m') (N : News h₀ L h' [(q, dqObj (ws.map sv) nq), p1, p2, p3, (dd, od)]) (hd : IsD prog w od D nD k) (hI : InvO C D0 x y b nC nD D ws) (hM : meas C D0 x y b D ws < meas C D0 x y b st.D st.ws)
    (hm : ∀ z, z ≠ Str.ofString "n" → z ≠ Str.ofString "c" → m' z = m₀ z) :
    WEnd h₀ L s (omf m₀) (onf q dd [p1, p2, p3] []) (fun st => IsD prog w st.od st.D nD k ∧ InvO C D0 x y b nC nD st.D st.ws) (fun st => meas C D0 x y b st.D st.ws) st { s with heap := h', toks := tk } :=
  .intro ⟨D, ws, od, nq, m' (Str.ofString "n"), m' (Str.ofString "c")⟩ F (by
      funext z
      by_cases h1 : z = Str.ofString "n"
      · subst h1; simp [omf]
      · by_cases h2 : z = Str.ofString "c"
        · subst h2; simp [omf, h1]
        · simp [omf, h1, h2, hm z h1 h2]) N ⟨hd, hI⟩ hM
theorem iEnd {p1 p2 p3 : Addr × Obj} {st : ISt} {h' : Heap} {m' : Str → Option Value} {tk M : Nat}
    (F : Fr h₀ L h' m') (N : News h₀ L h' [(q, dqObj (ws.map sv) nq), p1, p2, p3, (dd, od)]) (hd : IsD prog w od D nD k) (hv : ChainIn H v ch) (hM : meas C D0 x y b D ws ≤ M) (hI : InvI C D0 x y b nC nD D ws c ch) (hl : ch.length < st.ch.length)
    (hn : m' (Str.ofString "n") = some v) (hm : ∀ z, z ≠ Str.ofString "n" → m' z = m₀ z) :
    WEnd h₀ L s (imf m₀) (inf q dd [p1, p2, p3] []) (fun st => IsD prog w st.od st.D nD k ∧ ChainIn H st.v st.ch ∧ meas C D0 x y b st.D st.ws ≤ M ∧ InvI C D0 x y b nC nD st.D st.ws c st.ch) (fun st => st.ch.length) st { s with heap := h', toks := tk } :=
  .intro ⟨D, ws, od, nq, v, ch⟩ F (by
      funext z
      by_cases h1 : z = Str.ofString "n"
      · subst h1; simp [imf, hn]
      · simp [imf, h1, hm z h1]) N ⟨hd, hv, hM, hI⟩ hl
end
section
variable {prog : Program} {w : World} {A : Around} {E : Value → Shared → Prop} {s : Shared} {L d : Addr} {h₀ : Heap} {m : Str → Option Value} {news : List (Addr × Obj)} {g : Obj → List (Addr × Obj)} {n : Int} {ws : List (Str × Tok)} {k : Str} {t : Tok} {Q : Value → Shared → Prop}
theorem dqs_append0 (F : Fr h₀ L s.heap m) (N : News h₀ L s.heap news) (U : UpdF d (dqObj [] n) news g)
    (h : ∀ h' n', Fr h₀ L h' m → News h₀ L h' (g (dqObj [.str k t] n')) → Q .none { s with heap := h' }) :
    wpAny (model prog w) A (call (.builtin "collections.deque.append") [.ref d, .str k t]) Q E s := dq_append F N U (by decide) h
theorem dqs_append (F : Fr h₀ L s.heap m) (N : News h₀ L s.heap news) (U : UpdF d (dqObj (ws.map sv) n) news g) (hz : ws.length ≤ 171)
    (h : ∀ h' n', Fr h₀ L h' m → News h₀ L h' (g (dqObj ((ws ++ [(k, t)]).map sv) n')) → Q .none { s with heap := h' }) :
    wpAny (model prog w) A (call (.builtin "collections.deque.append") [.ref d, .str k t]) Q E s :=
  dq_append F N U (by rw [List.length_map, sizeLine_eq]; omega) fun h' n' F' N' => h h' n' F' (by rw [List.map_append]; exact N')
theorem dqs_popleft (F : Fr h₀ L s.heap m) (N : News h₀ L s.heap news) (U : UpdF d (dqObj (((k, t) :: ws).map sv) n) news g) (hz : ((k, t) :: ws).length ≤ 171)
    (h : ∀ h' n', Fr h₀ L h' m → News h₀ L h' (g (dqObj (ws.map sv) n')) → Q (.str k t) { s with heap := h' }) :
    wpAny (model prog w) A (call (.builtin "collections.deque.popleft") [.ref d]) Q E s :=
  dq_popleft F N U (by simp only [List.length_cons] at hz; rw [List.length_map, sizeLine_eq]; omega) h
theorem dqs_truthy0 {Q : Bool → Shared → Prop} (N : News h₀ L s.heap news) (hm : (d, dqObj (([] : List (Str × Tok)).map sv) n) ∈ news) (h : ∀ tk, Q false { s with toks := tk }) :
    wpAny (model prog w) A (truthy (.ref d)) Q E s := dq_truthy N hm (by decide) h
theorem dqs_truthy {Q : Bool → Shared → Prop} (N : News h₀ L s.heap news) (hm : (d, dqObj (((k, t) :: ws).map sv) n) ∈ news) (hz : ((k, t) :: ws).length ≤ 171) (h : ∀ tk, Q true { s with toks := tk }) :
    wpAny (model prog w) A (truthy (.ref d)) Q E s := dq_truthy N hm (by rw [List.length_map, sizeLine_eq]; omega) h
theorem dqs_new {Q : Value → Shared → Prop} (F : Fr h₀ L s.heap m) (N : News h₀ L s.heap news)
    (h : ∀ q h' tk n, Fr h₀ L h' m → News h₀ L h' ((q, dqObj [] n) :: news) → (∀ p ∈ news, p.1 ≠ q) → Q (.ref q) { s with heap := h', toks := tk }) :
    wpAny (model prog w) A (call (.type "collections.deque") []) Q E s :=
  dq_new fun q h' tk n D => by
    obtain ⟨F', N'⟩ := mem_fr D F N
    exact h q h' tk n F' N' fun p hp => Ne.symm (mem_off D N List.mem_cons_self hp)
end
section
variable {prog : Program} {w : World} {s : Shared} {L q dd : Addr} {h₀ : Heap} {m₀ : Str → Option Value}
  {C : Chs} {D0 D : Str → Int} {x y c d : Str} {b wt : Int} {nC nD : List Str} {ws : List (Str × Tok)} {ch : List (Str × Int)} {od : Obj} {nq : Int} {k : Nat} {H : Heap} {v : Value}
theorem nf1 (h : (d == y) = false) : ¬ (d = y ∧ wt = b) := fun ⟨e, _⟩ => by subst e; simp at h
theorem nf2 (h : ¬ (if wt - b < 0 then -(wt - b) else wt - b) ≤ 0) : ¬ (d = y ∧ wt = b) := fun ⟨_, e⟩ => by subst e; simp at h
theorem resF' (h : InvI C D0 x y b nC nD D ws c ((d, wt) :: ch)) (hr : D c + wt < D d) (h1 : (d == y) = true) (h2 : (if wt - b < 0 then -(wt - b) else wt - b) ≤ 0) : Res C D0 false D := by
  have e1 : d = y := eq_of_beq h1
  have e2 : wt = b := by split at h2 <;> omega
  subst e1 e2
  exact h.resF hr
theorem iEnd_skip {p1 p2 p3 : Addr × Obj} {st : ISt} {h' : Heap} {m' : Str → Option Value} {tk M : Nat}
    (F : Fr h₀ L h' m') (N : News h₀ L h' [(q, dqObj (ws.map sv) nq), p1, p2, p3, (dd, od)]) (hd : IsD prog w od D nD k) (hv : ChainIn H v ch) (hM : meas C D0 x y b D ws ≤ M) (hI : InvI C D0 x y b nC nD D ws c ((d, wt) :: ch)) (hs : ¬ D c + wt < D d) (hl : st.ch = (d, wt) :: ch)
    (hn : m' (Str.ofString "n") = some v) (hm : ∀ z, z ≠ Str.ofString "n" → m' z = m₀ z) :
    WEnd h₀ L s (imf m₀) (inf q dd [p1, p2, p3] []) (fun st => IsD prog w st.od st.D nD k ∧ ChainIn H st.v st.ch ∧ meas C D0 x y b st.D st.ws ≤ M ∧ InvI C D0 x y b nC nD st.D st.ws c st.ch) (fun st => st.ch.length) st { s with heap := h', toks := tk } :=
  iEnd F N hd hv hM (hI.skip hs) (by rw [hl]; exact Nat.lt_succ_self _) hn hm
theorem iEnd_relax {p1 p2 p3 : Addr × Obj} {st : ISt} {h' : Heap} {m' : Str → Option Value} {tk M : Nat} {t : Tok}
    (F : Fr h₀ L h' m') (N : News h₀ L h' [(q, dqObj ((ws ++ [(d, t)]).map sv) nq), p1, p2, p3, (dd, od)]) (hd : IsD prog w od (fun z => if z = d then D c + wt else D z) nD k) (hv : ChainIn H v ch) (hM : meas C D0 x y b D ws ≤ M)
    (hI : InvI C D0 x y b nC nD D ws c ((d, wt) :: ch)) (hs : D c + wt < D d) (hf : ¬ (d = y ∧ wt = b)) (hl : st.ch = (d, wt) :: ch)
    (hn : m' (Str.ofString "n") = some v) (hm : ∀ z, z ≠ Str.ofString "n" → m' z = m₀ z) :
    WEnd h₀ L s (imf m₀) (inf q dd [p1, p2, p3] []) (fun st => IsD prog w st.od st.D nD k ∧ ChainIn H st.v st.ch ∧ meas C D0 x y b st.D st.ws ≤ M ∧ InvI C D0 x y b nC nD st.D st.ws c st.ch) (fun st => st.ch.length) st { s with heap := h', toks := tk } :=
  iEnd F N hd hv (Nat.le_trans (Nat.le_of_lt (hI.meas_relax hs hf t)) hM) (hI.relax hs hf t) (by rw [hl]; exact Nat.lt_succ_self _) hn hm
theorem oEnd_done {p1 p2 p3 : Addr × Obj} {st : OSt} {h' : Heap} {m' : Str → Option Value} {tk : Nat} {D' : Str → Int} {ws' : List (Str × Tok)} {t : Tok}
    (F : Fr h₀ L h' m') (N : News h₀ L h' [(q, dqObj (ws.map sv) nq), p1, p2, p3, (dd, od)]) (hd : IsD prog w od D nD k) (hI : InvI C D0 x y b nC nD D ws c []) (hM : meas C D0 x y b D ws ≤ meas C D0 x y b D' ws') (h1 : st.D = D') (h2 : st.ws = (c, t) :: ws')
    (hm : ∀ z, z ≠ Str.ofString "n" → z ≠ Str.ofString "c" → m' z = m₀ z) :
    WEnd h₀ L s (omf m₀) (onf q dd [p1, p2, p3] []) (fun st => IsD prog w st.od st.D nD k ∧ InvO C D0 x y b nC nD st.D st.ws) (fun st => meas C D0 x y b st.D st.ws) st { s with heap := h', toks := tk } :=
  oEnd F N hd hI.done (by rw [h1, h2, meas_pop]; omega) hm
end
theorem news_tl {h₀ h : Heap} {L : Addr} {p : Addr × Obj} {l : List (Addr × Obj)} (N : News h₀ L h (p :: l)) : News h₀ L h l := fun q hq => N q (.tail _ hq)
def AllNe (d : Addr) : List (Addr × Obj) → Prop
  | [] => True
  | p :: r => (¬ @Eq Nat p.1 d) ∧ AllNe d r
theorem allNe_of {d : Addr} : ∀ {l : List (Addr × Obj)}, (∀ p ∈ l, p.1 ≠ d) → AllNe d l
  | [], _ => trivial
  | p :: _, h => ⟨h p (.head _), allNe_of fun q hq => h q (.tail _ hq)⟩
end Mine
end

section -- MJ
open PySem PySem.W PyProof.Rows PySem.Calls PySem.W.X
set_option maxRecDepth 100000
set_option maxHeartbeats 8000000
namespace Mine
theorem fillMJ : (PySem.Challenge.rw_fq5045_02, hd.heap_39) = (PySem.Challenge.rw_fq5045_02, hd.heap_39) := by
  w_top off
  k_fill
  rfl
local macro_rules | `(tactic| k_inst) => `(tactic| (refine' chain_inst ?F ?h1 ?h2; (case F => k_asm); (case h1 => assumption); (case h2 => assumption)))
local macro_rules | `(tactic| k_handed) => `(tactic| exact chain_handed (by assumption))
local macro_rules | `(tactic| k_room) => `(tactic| ktr_room)
local macro_rules | `(tactic| k_units) => `(tactic| ktr_units)
local macro_rules | `(tactic| walk_at "call type:collections.deque") => `(tactic| (k_here; k_dflt (refine' dqs_new ?F ?N ?_; (case F => k_asm); (case N => k_asm); k_whole); intro q9 h9 tk9 n9 F9 N9 l9; (replace l9 := allNe_of l9; simp only [AllNe, and_true] at l9); (try k_sweep)))
local macro_rules | `(tactic| walk_at "getMethod ref") => `(tactic| (k_here; k_dflt (first
  | (refine' dq_meth slot_dq_append type_dq_append ?N ?m ?_; (case N => k_asm); (case m => k_mem); k_whole)
  | (refine' dq_meth slot_dq_popleft type_dq_popleft ?N ?m ?_; (case N => k_asm); (case m => k_mem); k_whole))))
local macro_rules | `(tactic| walk_at "call builtin:collections.deque.append") => `(tactic| (k_here; k_dflt (first
  | (refine' dqs_append0 ?F ?N ?U ?_; (case F => k_asm); (case N => k_asm); (case U => k_updF); k_whole)
  | (refine' dqs_append ?F ?N ?U ?z ?_; (case F => k_asm); (case N => k_asm); (case U => k_updF); (case z => exact Inv0.few (InvI.toInv0 (by assumption))); k_whole)); intro h9 n9 F9 N9; (try dsimp only at N9); (try k_sweep)))
local macro_rules | `(tactic| walk_at "call builtin:collections.deque.popleft") => `(tactic| (k_here; k_dflt (
  (refine' dqs_popleft ?F ?N ?U ?z ?_; (case F => k_asm); (case N => k_asm); (case U => k_updF); (case z => exact Inv0.few (InvO.toInv0 (by assumption))); k_whole)); intro h9 n9 F9 N9; (try dsimp only at N9); (try k_sweep)))
local macro_rules | `(tactic| walk_at "truthy ref") => `(tactic| (k_here; k_dflt (first
  | (refine' dqs_truthy0 ?N ?m ?_; (case N => k_asm); (case m => k_mem); k_whole)
  | (refine' dqs_truthy ?N ?m ?z ?_; (case N => k_asm); (case m => k_mem); (case z => exact Inv0.few (InvO.toInv0 (by assumption))); k_whole)); intro tk9))
local macro_rules | `(tactic| mem_news) => `(tactic| first | assumption | exact Pre.xD (by assumption) | exact Pre.yD (by assumption) | exact InvI.cD (by assumption) | exact InvI.dD (by assumption) | exact InvO.cC (by assumption))
local macro_rules | `(tactic| walk_at "subscriptTail") => `(tactic| (k_here; (with_reducible show wpAny _ _ (subscriptTail _ _ (Value.ref _) (Value.str _ _)) _ _ _); k_dflt (first
  | (refine' d_item ?N ?m ?x ?k ?_ ?s ?g; (case N => k_asm); (case m => k_mem); (case x => assumption); (case k => mem_news); (case s => with_unfolding_all rfl); (case g => intro _; with_unfolding_all rfl); k_whole; intro t9)
  | (refine' c_item ?N ?m ?x ?k ?_ ?s ?g; (case N => k_asm); (case m => k_mem); (case x => assumption); (case k => mem_news); (case s => with_unfolding_all rfl); (case g => intro _; with_unfolding_all rfl); k_whole; intro v9 hv9))))
local macro_rules | `(tactic| walk_at "setItem ref str") => `(tactic| (k_here; k_dflt (refine' d_set ?F ?N ?U ?x ?n ?k ?_; (case F => k_asm); (case N => k_asm); (case U => k_updF); (case x => assumption); (case n => assumption); (case k => mem_news); k_whole); intro h9 o9 F9 N9 hd9; (try dsimp only at N9); (try k_sweep)))
local macro_rules | `(tactic| walk_at "exec While Name") => `(tactic| (k_here; k_dflt (refine' while_out ?F ?N ?d ?p ?c ?_ ?E; (case F => k_asm); (case N => k_asm); (case p => assumption); (case c => assumption); (case d => assumption); (case E => passes_own); k_whole); intro D9 ws9 od9 nq9 un9 uc9 h9 tk9 hd9 hI9 F9 N9; rcases ws9 with _ | ⟨⟨c9, tc9⟩, ws9⟩))
local macro_rules | `(tactic| walk_at "exec While Compare") => `(tactic| (k_here; k_dflt (refine' while_in ?F ?N ?n ?d ?v ?I ?_ ?E; (case F => k_asm); (case N => k_asm); (case n => rfl); (case d => assumption); (case v => assumption); (case I => exact InvO.pop (by assumption)); (case E => passes_own); k_whole); intro D9 ws9 od9 nq9 v9 ch9 h9 tk9 hd9 hv9 hM9 hI9 F9 N9; cases hv9))
set_option pp.deepTerms false
set_option pp.maxSteps 3000
theorem inc_spec {w : World} {p : Program} {loose : List Str} {mean : ExcName → Option Value} {mg mb : Str → Option Value}
  {dp un : Nat} {gd : Option (List Code)} {cn : Str} {cs : Scope} {a : Addr} {ccd : Value} {cl : List (Str × Addr)} {outer : List Env} {A₀ : Around} {base h₀ : Heap} {L : Addr} {m : Str → Option Value} {s : Shared}
    {Q E : Value → Shared → Prop} {x dx dc dd : Addr} {a1 a2 a3 a4 : Int} {t1 t2 t3 t4 t5 : Tok} {sat : Bool} {nd kc kd : Nat} {kx ky : Str} {tx ty tb : Tok} {b : Int} {oc od : Obj} {C : Chs} {D0 : Str → Int} {nC nD : List Str}
    (B : Below A₀ base outer h₀) (F : Fr h₀ L s.heap m) (X : Frag.In (hd.heap_39 w.params) h₀)
    (N : News h₀ L s.heap [(x, instObj SC dx), (dx, netD a1 a2 a3 a4 t1 t2 t3 t4 t5 dc dd sat nd), (dc, oc), (dd, od)]) (hne : dd ≠ x ∧ dd ≠ dx ∧ dd ≠ dc)
    (T : Top p loose mean mg mb h₀) (hk : cs.kind = .function) (hd1 : dp + 10 < recursionLimit) (hu : un + 80 < cLine)
    (hc : IsC PySem.Challenge.rw_fq5045_02.row.prog w (hideAll s.heap [x, dx, dc, dd]) oc C nC kc) (hd : IsD PySem.Challenge.rw_fq5045_02.row.prog w od D0 nD kd) (hkd : kd ≤ sizeLine) (pre : Pre C D0 kx ky b nC nD)
    (ret : ∀ h' tk' r od' D', Fr h₀ L h' m → News h₀ L h' [(x, instObj SC dx), (dx, netD a1 a2 a3 a4 t1 t2 t3 t4 t5 dc dd sat nd), (dc, oc), (dd, od')] → IsD PySem.Challenge.rw_fq5045_02.row.prog w od' D' nD kd → Res C D0 r D' →
      (∀ b o, (hideAll s.heap [x, dx, dc, dd]).get? b = some o → h'.get? b = some o) → Q (.bool r) { s with heap := h', toks := tk' }) :
    wpAny (model PySem.Challenge.rw_fq5045_02.row.prog w) (ktrTop dp un gd cn cs L a ccd cl outer) (call (.ref 180) [.ref x, .str kx tx, .str ky ty, .int b tb]) Q E s := by
  have ne1 : ¬ @Eq Nat dd x := hne.1
  have ne2 : ¬ @Eq Nat dd dx := hne.2.1
  have ne3 : ¬ @Eq Nat dd dc := hne.2.2
  clear hne
  refine wpAny_call ?_
  k_dflt (refine' enterX ?k1 ?k2 ?k3 ?k4 ?k5 ?kA ?kF ?kK ?k6 ?k7 ?k8 ?k9 ?kB ?_ ?c2 ?c3 ?c4 ?c5; (case kA => exact rfl); (case kF => exact rfl); (case kK => assumption); (case k1 => k_asm); (case k2 => k_asm); (case k3 => k_asm); (case k4 => k_asm); (case k5 => k_asm); (case k6 => k_is); (case k7 => k_is); (case k8 => ktr_room); (case k9 => exact BindsTo.of_eq rfl); (case c5 => decide); (case kB => exact locs rfl); (case c2 => exact rfl); (case c3 => exact rfl); (case c4 => exact rfl); k_whole)
  intro g' L' h₁ hg FG' F' N' B' X' T' hk₁ l1
  dsimp only
  k_fold
  have hg' : ∀ b o, (hideAll s.heap [x, dx, dc, dd]).get? b = some o → g'.get? b = some o := fun b o e => hg b o (of_hideAll _ e) (by
    intro hb
    have : (hideAll s.heap [x, dx, dc, dd]).get? b = none := hideAll_none _ (by simpa using hb)
    rw [this] at e; cases e)
  replace hc := hc.keeps hg'
  k_steps
  all_goals (try (dsimp only [WPost]; k_steps))
  all_goals first
    | exact ret _ _ _ _ _ (by assumption) (news_tl (by assumption)) (by assumption) (InvO.res (by assumption)) (fun b o e => Fr.keep (by assumption) b o (hg' b o e))
    | exact ret _ _ _ _ _ (by assumption) (by assumption) (by assumption) (Pre.res (by assumption) (by assumption)) (fun b o e => Fr.keep (by assumption) b o (hg' b o e))
    | exact ret _ _ _ _ _ (by assumption) (news_tl (by assumption)) (by assumption) (resF' (by assumption) (by assumption) (by assumption) (by assumption)) (fun b o e => Fr.keep (by assumption) b o (hg' b o e))
    | (refine' oEnd_done ?F ?N ?d ?I ?M ?a ?b ?m
       case F => assumption
       case N => assumption
       case d => assumption
       case I => assumption
       case M => assumption
       case a => rfl
       case b => rfl
       case m => (intro z h1 h2; simp only [if_neg h1, if_neg h2]))
    | (refine' iEnd_skip ?F ?N ?d ?v ?M ?I ?s ?l ?n ?m
       case F => assumption
       case N => assumption
       case d => assumption
       case v => assumption
       case M => assumption
       case I => assumption
       case s => assumption
       case l => rfl
       case n => rfl
       case m => (intro z h1; simp only [if_neg h1]))
    | (refine' iEnd_relax ?F ?N ?d ?v ?M ?I ?s ?f ?l ?n ?m
       case F => assumption
       case N => assumption
       case d => assumption
       case v => assumption
       case M => assumption
       case I => assumption
       case s => assumption
       case f => first | exact nf1 (by assumption) | exact nf2 (by assumption)
       case l => rfl
       case n => rfl
       case m => (intro z h1; simp only [if_neg h1]))
    | skip
  all_goals w_report
end Mine
end

section -- PN
open PySem
namespace Mine
abbrev Edge := Str × Str × Int
def FeasE (es : List Edge) (P : Str → Int) : Prop := ∀ u v w, (u, v, w) ∈ es → P v ≤ P u + w
structure NetP (base : List Str) (es : List Edge) (sat : Bool) (C : Chs) (D : Str → Int) (nC nD : List Str) : Prop where
  le0 : ∀ v, D v ≤ 0
  great : ∀ P, FeasE es P → (∀ v, P v ≤ 0) → ∀ v, P v ≤ D v
  unsat : sat = false → ∀ P, ¬ FeasE es P
  edges : sat = true → ∀ u v w, (v, w) ∈ C u ↔ (u, v, w) ∈ es
  feas : sat = true → Feas C D
  pres : sat = true → ∀ u v w, (u, v, w) ∈ es → u ∈ nD ∧ v ∈ nD ∧ v ∈ nC
  bas : sat = true → ∀ k ∈ base, k ∈ nD
  cnt : sat = true → ∀ u, (C u).length ≤ es.countP fun e => e.1 = u

section
variable {base : List Str} {es : List Edge} {sat r : Bool} {C : Chs} {D D' : Str → Int} {nC nD U : List Str} {x y : Str} {b : Int}
def addC (C : Chs) (x y : Str) (b : Int) : Chs := fun z => if z = x then (y, b) :: C x else C z
theorem mem_addC {u v : Str} {w : Int} : (v, w) ∈ addC C x y b u ↔ (u = x ∧ v = y ∧ w = b) ∨ (v, w) ∈ C u := by
  unfold addC
  by_cases h : u = x
  · subst h; simp [Prod.mk.injEq]
  · simp [h]
theorem NetP.start : NetP base [] true (fun _ => []) (fun _ => 0) [] base where
  le0 _ := Int.le_refl _
  great P _ h := h
  unsat e := nomatch e
  edges _ u v w := by simp
  feas _ u v w h := by simp at h
  pres _ u v w h := by simp at h
  bas _ k h := h
  cnt _ u := by simp
theorem NetP.pre (h : NetP base es true C D nC nD) (hne : x ≠ y) (hU : U.length ≤ 4) (hes : ∀ e ∈ es, e.2.1 ∈ U) (hy : y ∈ U) (h3 : (es.countP fun e => e.1 = x) ≤ 3) (h4 : ∀ u, (es.countP fun e => e.1 = u) ≤ 4) :
    Pre (addC C x y b) D x y b (x :: y :: nC) (y :: x :: nD) where
  new := mem_addC.mpr (.inl ⟨rfl, rfl, rfl⟩)
  old u v w hm := (mem_addC.mp hm).imp id fun hm => h.feas rfl u v w hm
  ne := hne
  inC u v w hm := by
    rcases mem_addC.mp hm with ⟨_, rfl, _⟩ | hm
    · exact .tail _ (.head _)
    · exact .tail _ (.tail _ (h.pres rfl _ _ _ ((h.edges rfl _ _ _).mp hm)).2.2)
  inD u v w hm := by
    rcases mem_addC.mp hm with ⟨_, rfl, _⟩ | hm
    · exact .head _
    · exact .tail _ (.tail _ (h.pres rfl _ _ _ ((h.edges rfl _ _ _).mp hm)).2.1)
  xD := .tail _ (.head _)
  inU := ⟨U, hU, fun u v w hm => by
    rcases mem_addC.mp hm with ⟨_, rfl, _⟩ | hm
    · exact hy
    · exact hes _ ((h.edges rfl _ _ _).mp hm)⟩
  c4 u := by
    have := h.cnt rfl u
    unfold addC
    by_cases e : u = x
    · subst e; simp only [if_true, List.length_cons]; omega
    · simp only [if_neg e]; have := h4 u; omega
theorem NetP.noDst (h : NetP base es true C D nC nD) (hn : ∀ w, (x, y, w) ∉ es) : ∀ e ∈ C x, e.1 ≠ y := fun ⟨v, w⟩ he e => by
  subst e
  exact hn w ((h.edges rfl _ _ _).mp he)
theorem feasE_append {P : Str → Int} (h : FeasE (es ++ [(x, y, b)]) P) : FeasE es P := fun u v w hm => h u v w (List.mem_append_left _ hm)
theorem NetP.feasC {P : Str → Int} (h : NetP base es true C D nC nD) : Feas (addC C x y b) P ↔ FeasE (es ++ [(x, y, b)]) P := by
  constructor
  · intro hP u v w hm
    refine hP u v w (mem_addC.mpr ?_)
    rcases List.mem_append.mp hm with hm | hm
    · exact .inr ((h.edges rfl _ _ _).mpr hm)
    · simp only [List.mem_singleton, Prod.mk.injEq] at hm
      exact .inl hm
  · intro hP u v w hm
    refine hP u v w (List.mem_append.mpr ?_)
    rcases mem_addC.mp hm with ⟨rfl, rfl, rfl⟩ | hm
    · exact .inr (by simp)
    · exact .inl ((h.edges rfl _ _ _).mp hm)
theorem NetP.add (h : NetP base es true C D nC nD) (hr : Res (addC C x y b) D r D') : NetP base (es ++ [(x, y, b)]) r (addC C x y b) D' (x :: y :: nC) (y :: x :: nD) where
  le0 v := Int.le_trans (hr.1 v) (h.le0 v)
  great P hP hl := hr.2.1 P (h.feasC.mpr hP) (h.great P (feasE_append hP) hl)
  unsat e P hP := hr.2.2.2 e P (h.feasC.mpr hP)
  edges _ u v w := by
    rw [mem_addC, h.edges rfl, List.mem_append]
    simp only [List.mem_singleton, Prod.mk.injEq]
    exact Or.comm
  feas e := hr.2.2.1 e
  pres _ u v w hm := by
    rcases List.mem_append.mp hm with hm | hm
    · obtain ⟨a, b, c⟩ := h.pres rfl u v w hm
      exact ⟨.tail _ (.tail _ a), .tail _ (.tail _ b), .tail _ (.tail _ c)⟩
    · simp only [List.mem_singleton, Prod.mk.injEq] at hm
      obtain ⟨rfl, rfl, rfl⟩ := hm
      exact ⟨.tail _ (.head _), .head _, .tail _ (.head _)⟩
  bas _ k hk := .tail _ (.tail _ (h.bas rfl k hk))
  cnt _ u := by
    have := h.cnt rfl u
    simp only [List.countP_append, List.countP_cons, List.countP_nil]
    unfold addC
    by_cases e : u = x
    · subst e; simp only [if_true, List.length_cons, decide_true]; omega
    · simp only [if_neg e]; omega
theorem NetP.addF (h : NetP base es false C D nC nD) : NetP base (es ++ [(x, y, b)]) false C D nC nD where
  le0 := h.le0
  great P hP hl := h.great P (feasE_append hP) hl
  unsat _ P hP := h.unsat rfl P (feasE_append hP)
  edges e := nomatch e
  feas e := nomatch e
  pres e := nomatch e
  bas e := nomatch e
  cnt e := nomatch e
end
end Mine
end

section -- MA
open PySem PySem.W PyProof.Rows PySem.Calls PySem.W.X
set_option maxRecDepth 100000
set_option maxHeartbeats 8000000
namespace Mine
theorem fillMA : (PySem.Challenge.rw_fq5045_02, hd.heap_39) = (PySem.Challenge.rw_fq5045_02, hd.heap_39) := by
  w_top off
  k_fill
  rfl
section
variable {prog : Program} {w : World} {s : Shared} {L x dx dc dd nb dn : Addr} {g h h' : Heap} {m : Str → Option Value} {C : Chs} {nC : List Str} {n : Nat} {kx ky : Str} {b : Int} {ox odx oc od : Obj} {f' : Str → Option Value} {v : Value} {M : Addr → Obj → Prop}
theorem not_hidden {l : List Addr} {h : Heap} {b : Addr} {o : Obj} (e : (hideAll h l).get? b = some o) : b ∉ l := fun hb => by
  rw [hideAll_none _ hb] at e; cases e
/-- what the callee's base keeps is kept where the four are hidden -/
theorem base_in (F : Fr g L h m) (N : News g L h [(x, ox), (dx, odx), (dc, oc), (dd, od)]) {b : Addr} {o : Obj} (e : g.get? b = some o) : (hideAll h [x, dx, dc, dd]).get? b = some o :=
  hideAll_get _ (F.keep b o e) fun hb => by
    have q : ∀ p ∈ [(x, ox), (dx, odx), (dc, oc), (dd, od)], p.1 ≠ b := fun p hp e' => by
      have := (N p hp).2.2
      rw [e', e] at this; cases this
    simp only [List.mem_cons, List.mem_nil_iff, or_false] at hb
    rcases hb with e | e | e | e
    · exact q (x, ox) (by simp) e.symm
    · exact q (dx, odx) (by simp) e.symm
    · exact q (dc, oc) (by simp) e.symm
    · exact q (dd, od) (by simp) e.symm
theorem isC_new (F : Fr g L h m) {a1 a2 a3 : Int} {t1 t2 t3 td tb : Tok} {k : Nat}
    (N : News g L h [(nb, instObj NC dn), (dn, dictOf [⟨a1, .str (Str.ofString "dst") t1, .str ky td⟩, ⟨a2, .str (Str.ofString "bound") t2, .int b tb⟩, ⟨a3, .str (Str.ofString "next") t3, v⟩] k), (x, ox), (dx, odx), (dc, oc), (dd, od)])
    (h1 : nb ∉ [x, dx, dc, dd]) (h2 : dn ∉ [x, dx, dc, dd]) (hx : IsM prog w oc f' n) (hf : f' kx = some (.ref nb))
    (hM : ∀ a ob, M a ob → g.get? a = some ob)
    (ho : ∀ y, y ≠ kx → (y ∈ nC → ∃ v, f' y = some v ∧ ChainM M v (C y)) ∧ (y ∉ nC → f' y = none ∧ C y = [])) (hv : ChainM M v (C kx)) :
    IsC prog w (hideAll h [x, dx, dc, dd]) oc (addC C kx ky b) (kx :: nC) n := by
  have N4 : News g L h [(x, ox), (dx, odx), (dc, oc), (dd, od)] := fun p hp => N p (.tail _ (.tail _ hp))
  have hk : ∀ b o, M b o → (hideAll h [x, dx, dc, dd]).get? b = some o := fun b o e => base_in F N4 (hM b o e)
  have hnew : ChainIn (hideAll h [x, dx, dc, dd]) (.ref nb) ((ky, b) :: C kx) :=
    .cons (hideAll_get _ (N _ (.head _)).1 h1) (hideAll_get _ (N _ (.tail _ (.head _))).1 h2) (hv.keeps hk)
  refine ⟨f', hx, fun y hy => ?_, fun y hy => ?_⟩
  · by_cases e : y = kx
    · subst e; exact ⟨_, hf, by simpa [addC] using hnew⟩
    · obtain ⟨v, e1, e2⟩ := (ho y e).1 ((List.mem_cons.mp hy).resolve_left e)
      exact ⟨v, e1, by simp only [addC, if_neg e]; exact e2.keeps hk⟩
  · have e : y ≠ kx := fun q => hy (q ▸ List.mem_cons_self)
    have := (ho y e).2 fun q => hy (List.mem_cons_of_mem _ q)
    exact ⟨this.1, by simp only [addC, if_neg e]; exact this.2⟩
end

theorem isCM_new {prog : Program} {w : World} {dn nb : Addr} {C : Chs} {nC : List Str} {n : Nat} {kx ky : Str} {b : Int} {oc : Obj} {f' : Str → Option Value} {v : Value} {M : Addr → Obj → Prop} {a1 a2 a3 : Int} {t1 t2 t3 td tb : Tok} {k : Nat}
    (hx : IsM prog w oc f' n) (hf : f' kx = some (.ref nb))
    (ho : ∀ y, y ≠ kx → (y ∈ nC → ∃ v, f' y = some v ∧ ChainM M v (C y)) ∧ (y ∉ nC → f' y = none ∧ C y = [])) (hv : ChainM M v (C kx)) :
    IsCM prog w (fun a o => M a o ∨ (a, o) ∈ [(nb, instObj NC dn), (dn, dictOf [⟨a1, .str (Str.ofString "dst") t1, .str ky td⟩, ⟨a2, .str (Str.ofString "bound") t2, .int b tb⟩, ⟨a3, .str (Str.ofString "next") t3, v⟩] k)]) oc (addC C kx ky b) (kx :: nC) n := by
  have hnew : ChainM (fun a o => M a o ∨ (a, o) ∈ [(nb, instObj NC dn), (dn, dictOf [⟨a1, .str (Str.ofString "dst") t1, .str ky td⟩, ⟨a2, .str (Str.ofString "bound") t2, .int b tb⟩, ⟨a3, .str (Str.ofString "next") t3, v⟩] k)]) (.ref nb) ((ky, b) :: C kx) :=
    .cons (.inr (.head _)) (.inr (.tail _ (.head _))) (hv.keeps fun _ _ h => .inl h)
  refine ⟨f', hx, fun y hy => ?_, fun y hy => ?_⟩
  · by_cases e : y = kx
    · subst e; exact ⟨_, hf, by simpa [addC] using hnew⟩
    · obtain ⟨v, e1, e2⟩ := (ho y e).1 ((List.mem_cons.mp hy).resolve_left e)
      exact ⟨v, e1, by simp only [addC, if_neg e]; exact e2.keeps fun _ _ h => .inl h⟩
  · have e : y ≠ kx := fun q => hy (q ▸ List.mem_cons_self)
    have := (ho y e).2 fun q => hy (List.mem_cons_of_mem _ q)
    exact ⟨this.1, by simp only [addC, if_neg e]; exact this.2⟩

theorem inc_use {w : World} {p : Program} {loose : List Str} {mean : ExcName → Option Value} {mg mb : Str → Option Value}
  {dp un : Nat} {gd : Option (List Code)} {cn : Str} {cs : Scope} {a : Addr} {ccd : Value} {cl : List (Str × Addr)} {outer : List Env} {A₀ : Around} {base h₀ : Heap} {L : Addr} {m : Str → Option Value} {s : Shared}
    {Q E : Value → Shared → Prop} {x dx dc dd : Addr} {a1 a2 a3 a4 : Int} {t1 t2 t3 t4 t5 : Tok} {sat : Bool} {nd kc kd : Nat} {kx ky : Str} {tx ty tb : Tok} {b : Int} {oc od : Obj} {C : Chs} {D0 : Str → Int} {nC nD : List Str} {p1 p2 : Addr × Obj}
    (B : Below A₀ base outer h₀) (F : Fr h₀ L s.heap m) (X : Frag.In (hd.heap_39 w.params) h₀)
    (N : News h₀ L s.heap [p1, p2, (x, instObj SC dx), (dx, netD a1 a2 a3 a4 t1 t2 t3 t4 t5 dc dd sat nd), (dc, oc), (dd, od)]) (hne : dd ≠ x ∧ dd ≠ dx ∧ dd ≠ dc)
    (T : Top p loose mean mg mb h₀) (hk : cs.kind = .function) (hd1 : dp + 10 < recursionLimit) (hu : un + 80 < cLine)
    (hc : IsC PySem.Challenge.rw_fq5045_02.row.prog w (hideAll s.heap [x, dx, dc, dd]) oc C nC kc) (hd : IsD PySem.Challenge.rw_fq5045_02.row.prog w od D0 nD kd) (hkd : kd ≤ sizeLine) (pre : Pre C D0 kx ky b nC nD)
    (h1 : p1.1 ∉ [x, dx, dc, dd]) (h2 : p2.1 ∉ [x, dx, dc, dd])
    (ret : ∀ h' tk' r od' D', Fr h₀ L h' m → News h₀ L h' [p1, p2, (x, instObj SC dx), (dx, netD a1 a2 a3 a4 t1 t2 t3 t4 t5 dc dd sat nd), (dc, oc), (dd, od')] → IsD PySem.Challenge.rw_fq5045_02.row.prog w od' D' nD kd → Res C D0 r D' →
      IsC PySem.Challenge.rw_fq5045_02.row.prog w (hideAll h' [x, dx, dc, dd]) oc C nC kc → Q (.bool r) { s with heap := h', toks := tk' }) :
    wpAny (model PySem.Challenge.rw_fq5045_02.row.prog w) (ktrTop dp un gd cn cs L a ccd cl outer) (call (.ref 180) [.ref x, .str kx tx, .str ky ty, .int b tb]) Q E s := by
  refine inc_spec B F X (fun q hq => N q (.tail _ (.tail _ hq))) hne T hk hd1 hu hc hd hkd pre fun h' tk' r od' D' F' N' hd' hr keep => ?_
  have back : ∀ p : Addr × Obj, p ∈ [p1, p2] → p.1 ∉ [x, dx, dc, dd] → (h'.get? p.1 = some p.2 ∧ p.1 ≠ L ∧ h₀.get? p.1 = none) := fun p hp hn => by
    have hm : p ∈ [p1, p2, (x, instObj SC dx), (dx, netD a1 a2 a3 a4 t1 t2 t3 t4 t5 dc dd sat nd), (dc, oc), (dd, od)] := by
      simp only [List.mem_cons, List.mem_nil_iff, or_false] at hp ⊢
      rcases hp with e | e <;> simp [e]
    exact ⟨keep _ _ (hideAll_get _ (N p hm).1 hn), (N p hm).2⟩
  refine ret h' tk' r od' D' F' (fun q hq => ?_) hd' hr (hc.keeps fun b o e => hideAll_get _ (keep b o e) (not_hidden e))
  rcases List.mem_cons.mp hq with rfl | hq
  · exact back _ (by simp) h1
  rcases List.mem_cons.mp hq with rfl | hq
  · exact back _ (by simp) h2
  · exact N' q hq

theorem sub_use {w : World} {p : Program} {loose : List Str} {mean : ExcName → Option Value} {mg mb : Str → Option Value}
  {dp un : Nat} {gd : Option (List Code)} {cn : Str} {cs : Scope} {a : Addr} {ccd : Value} {cl : List (Str × Addr)} {outer : List Env} {A₀ : Around} {base h₀ : Heap} {L : Addr} {m : Str → Option Value} {s : Shared}
    {Q E : Value → Shared → Prop} {x dx dc dd : Addr} {a1 a2 a3 a4 : Int} {t1 t2 t3 t4 t5 : Tok} {sat : Bool} {nd kc : Nat} {kx ky : Str} {tx ty tb : Tok} {b : Int} {oc od : Obj} {C : Chs} {nC : List Str}
    (B : Below A₀ base outer h₀) (F : Fr h₀ L s.heap m) (X : Frag.In (hd.heap_39 w.params) h₀)
    (N : News h₀ L s.heap [(x, instObj SC dx), (dx, netD a1 a2 a3 a4 t1 t2 t3 t4 t5 dc dd sat nd), (dc, oc), (dd, od)])
    (T : Top p loose mean mg mb h₀) (hk : cs.kind = .function) (hd1 : dp + 10 < recursionLimit) (hu : un + 80 < cLine)
    {M : Addr → Obj → Prop} (hM : ∀ a ob, M a ob → h₀.get? a = some ob) (hc : IsCM PySem.Challenge.rw_fq5045_02.row.prog w M oc C nC kc) (lo : (dc == sysModules) = false) (hny : NoDst ky (C kx))
    (ret : ∀ h' tk', Fr h₀ L h' m → News h₀ L h' [(x, instObj SC dx), (dx, netD a1 a2 a3 a4 t1 t2 t3 t4 t5 dc dd sat nd), (dc, oc), (dd, od)] → Q (.bool false) { s with heap := h', toks := tk' }) :
    wpAny (model PySem.Challenge.rw_fq5045_02.row.prog w) (ktrTop dp un gd cn cs L a ccd cl outer) (call (.ref 173) [.ref x, .str kx tx, .str ky ty, .int b tb]) Q E s := by
  obtain ⟨fc, hx, h1, h2⟩ := hc
  refine sub_spec B F X N T hk hd1 hu hx lo (ch := C kx) ?_ hny fun h' tk' F' N' _ => ret h' tk' F' N'
  by_cases hin : kx ∈ nC
  · obtain ⟨v, e, c⟩ := h1 kx hin
    rw [e]
    exact c.keeps fun b o e => base_in F N (hM b o e)
  · obtain ⟨e, e'⟩ := h2 kx hin
    rw [e, e']; exact .nil
def NetOk (prog : Program) (w : World) (M : Addr → Obj → Prop) (bs : List Str) (es : List Edge) (sat : Bool) (oc od : Obj) (kc kd : Nat) : Prop :=
  ∃ C D nC nD, IsCM prog w M oc C nC kc ∧ IsD prog w od D nD kd ∧ NetP bs es sat C D nC nD
theorem off_of {p1 x dx dc dd : Addr} (h1 : ¬ @Eq Nat p1 x) (h2 : ¬ @Eq Nat p1 dx) (h3 : ¬ @Eq Nat p1 dc) (h4 : ¬ @Eq Nat p1 dd) : p1 ∉ [x, dx, dc, dd] := fun hb => by
  simp only [List.mem_cons, List.mem_nil_iff, or_false] at hb
  rcases hb with e | e | e | e
  · exact h1 e
  · exact h2 e
  · exact h3 e
  · exact h4 e
end Mine
end

section -- MB
open PySem PySem.W PyProof.Rows PySem.Calls PySem.W.X
set_option maxRecDepth 100000
set_option maxHeartbeats 8000000
namespace Mine
theorem fillMB : (PySem.Challenge.rw_fq5045_02, hd.heap_39) = (PySem.Challenge.rw_fq5045_02, hd.heap_39) := by
  w_top off
  k_fill
  rfl
local macro_rules | `(tactic| k_handed) => `(tactic| exact chain_handed (by assumption))
local macro_rules | `(tactic| k_room) => `(tactic| ktr_room)
local macro_rules | `(tactic| k_units) => `(tactic| ktr_units)
local macro_rules | `(tactic| walk_at "getMethod ref") => `(tactic| (k_here; k_dflt (first
  | (refine' d_meth PySem.F.slot_dict_setdefault PySem.F.type_dict_setdefault ?N ?m ?x ?_; (case N => k_asm); (case m => k_mem); (case x => assumption); k_whole)
  | (refine' c_meth PySem.F.slot_dict_get PySem.F.type_dict_get ?N ?m ?x ?_; (case N => k_asm); (case m => k_mem); (case x => assumption); k_whole)
  | (refine' c_meth PySem.F.slot_dict_setdefault PySem.F.type_dict_setdefault ?N ?m ?x ?_; (case N => k_asm); (case m => k_mem); (case x => assumption); k_whole))))
local macro_rules | `(tactic| walk_at "call builtin:dict.get") => `(tactic| (k_here; k_dflt (refine' c_get ?N ?m ?x ?l ?_; (case N => k_asm); (case m => k_mem); (case x => assumption); (case l => assumption); k_whole); intro v9 hv9))
local macro_rules | `(tactic| walk_at "call builtin:dict.setdefault") => `(tactic| (k_here; k_dflt (first
  | (refine' d_default ?F ?N ?U ?x ?n ?l ?_; (case F => k_asm); (case N => k_asm); (case U => k_updF); (case x => assumption); (case n => omega); (case l => assumption); k_whole)
  | (refine' c_default ?F ?N ?U ?x ?n ?l ?_; (case F => k_asm); (case N => k_asm); (case U => k_updF); (case x => assumption); (case n => omega); (case l => assumption); k_whole)); intro h9 o9 v9 F9 N9 hd9; (try dsimp only at N9); (try k_sweep)))
local macro_rules | `(tactic| walk_at "setItem ref str") => `(tactic| (k_here; k_dflt (refine' c_set ?F ?N ?U ?x ?n ?_; (case F => k_asm); (case N => k_asm); (case U => k_updF); (case x => assumption); (case n => omega); k_whole); intro h9 o9 f9 F9 N9 hx9 hf9 ho9; (try dsimp only at N9); (try k_sweep)))
local macro_rules | `(tactic| walk_at "call ref") => `(tactic| (k_here; k_dflt (first
  | (refine' sub_use ?B ?F ?X ?N ?T ?k ?d ?u ?hM ?c ?l ?y ?_; (case B => k_asm); (case F => k_asm); (case X => k_asm); (case N => k_asm); (case T => k_asm); (case k => rfl); (case d => ktr_room); (case u => ktr_units); (case c => assumption); (case hM => assumption); (case l => assumption); (case y => assumption); k_whole; intro h9 tk9 F9 N9)
  | (refine' inc_use ?B ?F ?X ?N ?ne ?T ?k ?d ?u ?c ?dd ?kd ?p ?h1 ?h2 ?_; (case B => k_asm); (case F => k_asm); (case X => k_asm); (case N => k_asm); (case T => k_asm); (case ne => refine ⟨?_, ?_, ?_⟩ <;> k_ne); (case k => rfl); (case d => ktr_room); (case u => ktr_units); (case h1 => refine off_of ?_ ?_ ?_ ?_ <;> k_ne); (case h2 => refine off_of ?_ ?_ ?_ ?_ <;> k_ne); (case c => (refine isC_new (by k_asm) (by k_asm) (off_of ?_ ?_ ?_ ?_) (off_of ?_ ?_ ?_ ?_) (by assumption) (by assumption) ?hM (by assumption) (by assumption); (case hM => assumption); all_goals k_ne)); (case dd => assumption); (case kd => omega); (case p => assumption); k_whole; intro h9 tk9 r9 od9 D9 F9 N9 hd9 hr9 hc9))))
set_option pp.deepTerms false
set_option pp.maxSteps 3000
theorem add_true {w : World} {p : Program} {loose : List Str} {mean : ExcName → Option Value} {mg mb : Str → Option Value}
  {dp un : Nat} {gd : Option (List Code)} {cn : Str} {cs : Scope} {a : Addr} {ccd : Value} {cl : List (Str × Addr)} {outer : List Env} {A₀ : Around} {base h₀ : Heap} {L : Addr} {m : Str → Option Value} {s : Shared}
    {Q E : Value → Shared → Prop} {x dx dc dd : Addr} {a1 a2 a3 a4 : Int} {t1 t2 t3 t4 t5 : Tok} {kc kd : Nat} {kx ky : Str} {tx ty tb : Tok} {b : Int} {oc od : Obj} {C : Chs} {D0 : Str → Int} {nC nD : List Str}
    (B : Below A₀ base outer h₀) (F : Fr h₀ L s.heap m) (X : Frag.In (hd.heap_39 w.params) h₀)
    (N : News h₀ L s.heap [(x, instObj SC dx), (dx, netD a1 a2 a3 a4 t1 t2 t3 t4 t5 dc dd true 4), (dc, oc), (dd, od)]) (hne : [x, dx, dc, dd].Nodup)
    (T : Top p loose mean mg mb h₀) (hk : cs.kind = .function) (hd1 : dp + 20 < recursionLimit) (hu : un + 200 < cLine)
    (loc : (dc == sysModules) = false) (lod : (dd == sysModules) = false)
    {M : Addr → Obj → Prop} (hM : ∀ a ob, M a ob → (hideAll s.heap [x, dx, dc, dd]).get? a = some ob) (hc : IsCM PySem.Challenge.rw_fq5045_02.row.prog w M oc C nC kc) (hd : IsD PySem.Challenge.rw_fq5045_02.row.prog w od D0 nD kd) (hkc : kc + 2 ≤ sizeLine) (hkd : kd + 2 ≤ sizeLine)
    (pre : Pre (addC C kx ky b) D0 kx ky b (kx :: ky :: nC) (ky :: kx :: nD)) (hny : NoDst ky (C kx))
    (ret : ∀ h' tk' r oc' od' D' ext, Fr h₀ L h' m → News h₀ L h' (ext ++ [(x, instObj SC dx), (dx, netD a1 a2 a3 a4 t1 t2 t3 t4 t5 dc dd r 4), (dc, oc'), (dd, od')]) →
      (∀ p ∈ ext, p.1 ∉ [x, dx, dc, dd] ∧ ∀ o, (hideAll s.heap [x, dx, dc, dd]).get? p.1 ≠ some o) →
      IsCM PySem.Challenge.rw_fq5045_02.row.prog w (fun a o => M a o ∨ (a, o) ∈ ext) oc' (addC C kx ky b) (kx :: ky :: nC) (kc + 2) → IsD PySem.Challenge.rw_fq5045_02.row.prog w od' D' (ky :: kx :: nD) (kd + 2) → Res (addC C kx ky b) D0 r D' →
      (∀ b o, (hideAll s.heap [x, dx, dc, dd]).get? b = some o → h'.get? b = some o) → Q .none { s with heap := h', toks := tk' }) :
    wpAny (model PySem.Challenge.rw_fq5045_02.row.prog w) (ktrTop dp un gd cn cs L a ccd cl outer) (call (.ref 152) [.ref x, .str kx tx, .str ky ty, .int b tb]) Q E s := by
  simp only [List.nodup_cons, List.mem_cons, List.mem_nil_iff, or_false, not_or] at hne
  obtain ⟨⟨e1, e2, e3⟩, ⟨e4, e5⟩, e6, _⟩ := hne
  replace e1 : ¬ @Eq Nat x dx := e1
  replace e2 : ¬ @Eq Nat x dc := e2
  replace e3 : ¬ @Eq Nat x dd := e3
  replace e4 : ¬ @Eq Nat dx dc := e4
  replace e5 : ¬ @Eq Nat dx dd := e5
  replace e6 : ¬ @Eq Nat dc dd := e6
  refine wpAny_call ?_
  k_dflt (refine' enterX ?k1 ?k2 ?k3 ?k4 ?k5 ?kA ?kF ?kK ?k6 ?k7 ?k8 ?k9 ?kB ?_ ?c2 ?c3 ?c4 ?c5; (case kA => exact rfl); (case kF => exact rfl); (case kK => assumption); (case k1 => k_asm); (case k2 => k_asm); (case k3 => k_asm); (case k4 => k_asm); (case k5 => k_asm); (case k6 => k_is); (case k7 => k_is); (case k8 => ktr_room); (case k9 => exact BindsTo.of_eq rfl); (case c5 => decide); (case kB => exact locs rfl); (case c2 => exact rfl); (case c3 => exact rfl); (case c4 => exact rfl); k_whole)
  intro g' L' h₁ hg FG' F' N' B' X' T' hk₁ l1
  dsimp only
  k_fold
  have hg' : ∀ b o, (hideAll s.heap [x, dx, dc, dd]).get? b = some o → g'.get? b = some o := fun b o e => hg b o (of_hideAll _ e) (by
    intro hb
    exact not_hidden e (by simpa using hb))
  replace hM : ∀ a ob, M a ob → g'.get? a = some ob := fun a ob h => hg' a ob (hM a ob h)
  k_steps
  have hfin : ∀ (m' : Str → Option Value) (hh : Heap), Fr g' L' hh m' → ∀ b o, (hideAll s.heap [x, dx, dc, dd]).get? b = some o → hh.get? b = some o := fun m' hh F b o e => F.keep b o (hg' b o e)
  refine' ret _ _ _ _ _ _ [_, _] ?F ?N ?o ?c ?d ?r ?k
  case F => assumption
  case N => assumption
  case c => exact isCM_new (by assumption) (by assumption) (by assumption) (by assumption)
  case d => assumption
  case r => assumption
  case k => exact hfin _ _ (by assumption)
  case o =>
    have hnone : ∀ p : Addr × Obj, g'.get? p.1 = none → ∀ o, (hideAll s.heap [x, dx, dc, dd]).get? p.1 ≠ some o := fun p hp o e => by
      rw [hg' _ _ e] at hp; cases hp
    refine List.forall_mem_cons.mpr ⟨⟨off_of ?_ ?_ ?_ ?_, hnone _ ?_⟩, List.forall_mem_cons.mpr ⟨⟨off_of ?_ ?_ ?_ ?_, hnone _ ?_⟩, fun _ h => nomatch h⟩⟩
    all_goals first | k_ne | exact ((by assumption : News g' L' _ _) _ (.head _)).2.2 | exact ((by assumption : News g' L' _ _) _ (.tail _ (.head _))).2.2
end Mine
end

section -- MC
open PySem PySem.W PyProof.Rows PySem.Calls PySem.W.X
set_option maxRecDepth 100000
set_option maxHeartbeats 8000000
namespace Mine
theorem fillMC : (PySem.Challenge.rw_fq5045_02, hd.heap_39) = (PySem.Challenge.rw_fq5045_02, hd.heap_39) := by
  w_top off
  k_fill
  rfl
local macro_rules | `(tactic| k_room) => `(tactic| ktr_room)
local macro_rules | `(tactic| k_units) => `(tactic| ktr_units)
local macro_rules | `(tactic| k_inst) => `(tactic| (refine' chain_inst ?F ?h1 ?h2; (case F => k_asm); (case h1 => assumption); (case h2 => assumption)))
set_option pp.deepTerms false
set_option pp.maxSteps 3000
theorem add_false {w : World} {p : Program} {loose : List Str} {mean : ExcName → Option Value} {mg mb : Str → Option Value}
  {dp un : Nat} {gd : Option (List Code)} {cn : Str} {cs : Scope} {a : Addr} {ccd : Value} {cl : List (Str × Addr)} {outer : List Env} {A₀ : Around} {base h₀ : Heap} {L : Addr} {m : Str → Option Value} {s : Shared}
    {Q E : Value → Shared → Prop} {x dx dc dd : Addr} {a1 a2 a3 a4 : Int} {t1 t2 t3 t4 t5 : Tok} {kx ky : Str} {tx ty tb : Tok} {b : Int} {oc od : Obj}
    (B : Below A₀ base outer h₀) (F : Fr h₀ L s.heap m) (X : Frag.In (hd.heap_39 w.params) h₀)
    (N : News h₀ L s.heap [(x, instObj SC dx), (dx, netD a1 a2 a3 a4 t1 t2 t3 t4 t5 dc dd false 4), (dc, oc), (dd, od)])
    (T : Top p loose mean mg mb h₀) (hk : cs.kind = .function) (hd1 : dp + 20 < recursionLimit) (hu : un + 200 < cLine)
    (ret : ∀ h' tk', Fr h₀ L h' m → News h₀ L h' [(x, instObj SC dx), (dx, netD a1 a2 a3 a4 t1 t2 t3 t4 t5 dc dd false 4), (dc, oc), (dd, od)] →
      (∀ b o, (hideAll s.heap [x, dx, dc, dd]).get? b = some o → h'.get? b = some o) → Q .none { s with heap := h', toks := tk' }) :
    wpAny (model PySem.Challenge.rw_fq5045_02.row.prog w) (ktrTop dp un gd cn cs L a ccd cl outer) (call (.ref 152) [.ref x, .str kx tx, .str ky ty, .int b tb]) Q E s := by
  refine wpAny_call ?_
  k_dflt (refine' enterX ?k1 ?k2 ?k3 ?k4 ?k5 ?kA ?kF ?kK ?k6 ?k7 ?k8 ?k9 ?kB ?_ ?c2 ?c3 ?c4 ?c5; (case kA => exact rfl); (case kF => exact rfl); (case kK => assumption); (case k1 => k_asm); (case k2 => k_asm); (case k3 => k_asm); (case k4 => k_asm); (case k5 => k_asm); (case k6 => k_is); (case k7 => k_is); (case k8 => ktr_room); (case k9 => exact BindsTo.of_eq rfl); (case c5 => decide); (case kB => exact locs rfl); (case c2 => exact rfl); (case c3 => exact rfl); (case c4 => exact rfl); k_whole)
  intro g' L' h₁ hg FG' F' N' B' X' T' hk₁ l1
  dsimp only
  k_fold
  have hg' : ∀ b o, (hideAll s.heap [x, dx, dc, dd]).get? b = some o → g'.get? b = some o := fun b o e => hg b o (of_hideAll _ e) (by
    intro hb
    exact not_hidden e (by simpa using hb))
  k_steps
  exact ret _ _ (by assumption) (by assumption) (fun b o e => Fr.keep (by assumption) b o (hg' b o e))
theorem chk_spec {w : World} {p : Program} {loose : List Str} {mean : ExcName → Option Value} {mg mb : Str → Option Value}
  {dp un : Nat} {gd : Option (List Code)} {cn : Str} {cs : Scope} {a : Addr} {ccd : Value} {cl : List (Str × Addr)} {outer : List Env} {A₀ : Around} {base h₀ : Heap} {L : Addr} {m : Str → Option Value} {s : Shared}
    {Q E : Value → Shared → Prop} {x dx dc dd : Addr} {a1 a2 a3 a4 : Int} {t1 t2 t3 t4 t5 : Tok} {sat : Bool}
    (B : Below A₀ base outer h₀) (F : Fr h₀ L s.heap m) (X : Frag.In (hd.heap_39 w.params) h₀)
    (hx : s.heap.get? x = some (instObj SC dx)) (hdx : s.heap.get? dx = some (netD a1 a2 a3 a4 t1 t2 t3 t4 t5 dc dd sat 4))
    (T : Top p loose mean mg mb h₀) (hk : cs.kind = .function) (hd1 : dp + 20 < recursionLimit) (hu : un + 200 < cLine)
    (ret : ∀ h' tk', Fr h₀ L h' m → (∀ b o, s.heap.get? b = some o → h'.get? b = some o) → Q (.bool sat) { s with heap := h', toks := tk' }) :
    wpAny (model PySem.Challenge.rw_fq5045_02.row.prog w) (ktrTop dp un gd cn cs L a ccd cl outer) (call (.ref 159) [.ref x]) Q E s := by
  have N : News h₀ L s.heap [] := News.nil
  refine wpAny_call ?_
  k_dflt (refine' enterX ?k1 ?k2 ?k3 ?k4 ?k5 ?kA ?kF ?kK ?k6 ?k7 ?k8 ?k9 ?kB ?_ ?c2 ?c3 ?c4 ?c5; (case kA => exact rfl); (case kF => exact rfl); (case kK => assumption); (case k1 => k_asm); (case k2 => k_asm); (case k3 => k_asm); (case k4 => k_asm); (case k5 => k_asm); (case k6 => k_is); (case k7 => k_is); (case k8 => ktr_room); (case k9 => exact BindsTo.of_eq rfl); (case c5 => decide); (case kB => exact locs rfl); (case c2 => exact rfl); (case c3 => exact rfl); (case c4 => exact rfl); k_whole)
  intro g' L' h₁ hg FG' F' N' B' X' T' hk₁ l1
  dsimp only
  k_fold
  replace hx := hg _ _ hx (by simp)
  replace hdx := hg _ _ hdx (by simp)
  k_steps
  exact ret _ _ (by assumption) (fun b o e => Fr.keep (by assumption) b o (hg b o e (by simp)))

/-- an item of a dict that lies in the base -/
theorem d_item_at {prog : Program} {w : World} {A : Around} {E : Value → Shared → Prop} {s : Shared} {L d : Addr} {g : Heap} {m : Str → Option Value} {o : Obj} {n : Nat} {k : Str} {t : Tok} {D : Str → Int} {nD : List Str} {value slice : PySem.Expr} {Q : Value → Shared → Prop}
    (F : Fr g L s.heap m) (hd : g.get? d = some o) (x : IsD prog w o D nD n) (hk : k ∈ nD) (h : ∀ t', Q (.int (D k) t') { s with toks := s.toks + 1 })
    (hs : subscripted slice false (.ref d) (.str k t) = operate [.ref d, .str k t] (getItem (.ref d) (.str k t))) (hg : ∀ r, letTemporaryGo value (.ref d) r = pure ()) :
    wpAny (model prog w) A (subscriptTail value slice (.ref d) (.str k t)) Q E s := by
  obtain ⟨f, x, a, _⟩ := x
  obtain ⟨t', e⟩ := a k hk
  have M := x.mapOf (F.keep _ _ hd)
  exact subscriptTail_builtin M.typeIs slot_dict_getitem.lookup (wpAny_getItem_of (strKind_is prog w k t) M e (h t')) hs hg
local macro_rules | `(tactic| walk_at "subscriptTail") => `(tactic| (k_here; (with_reducible show wpAny _ _ (subscriptTail _ _ (Value.ref _) (Value.str _ _)) _ _ _); k_dflt 
  (refine' d_item_at ?F ?m ?x ?k ?_ ?s ?g; (case F => k_asm); (case m => assumption); (case x => assumption); (case k => assumption); (case s => with_unfolding_all rfl); (case g => intro _; with_unfolding_all rfl); k_whole; intro t9)))
theorem get_spec {w : World} {p : Program} {loose : List Str} {mean : ExcName → Option Value} {mg mb : Str → Option Value}
  {dp un : Nat} {gd : Option (List Code)} {cn : Str} {cs : Scope} {a : Addr} {ccd : Value} {cl : List (Str × Addr)} {outer : List Env} {A₀ : Around} {base h₀ : Heap} {L : Addr} {m : Str → Option Value} {s : Shared}
    {Q E : Value → Shared → Prop} {x dx dc dd : Addr} {a1 a2 a3 a4 : Int} {t1 t2 t3 t4 t5 : Tok} {sat : Bool} {od : Obj} {k : Str} {tk : Tok} {D : Str → Int} {nD : List Str} {kd : Nat}
    (B : Below A₀ base outer h₀) (F : Fr h₀ L s.heap m) (X : Frag.In (hd.heap_39 w.params) h₀)
    (hx : s.heap.get? x = some (instObj SC dx)) (hdx : s.heap.get? dx = some (netD a1 a2 a3 a4 t1 t2 t3 t4 t5 dc dd sat 4)) (hdd : s.heap.get? dd = some od)
    (hd : IsD PySem.Challenge.rw_fq5045_02.row.prog w od D nD kd) (hin : k ∈ nD)
    (T : Top p loose mean mg mb h₀) (hk : cs.kind = .function) (hd1 : dp + 20 < recursionLimit) (hu : un + 200 < cLine)
    (ret : ∀ h' tk' t, Fr h₀ L h' m → (∀ b o, s.heap.get? b = some o → h'.get? b = some o) → Q (.int (-1 * D k) t) { s with heap := h', toks := tk' }) :
    wpAny (model PySem.Challenge.rw_fq5045_02.row.prog w) (ktrTop dp un gd cn cs L a ccd cl outer) (call (.ref 166) [.ref x, .str k tk]) Q E s := by
  have N : News h₀ L s.heap [] := News.nil
  refine wpAny_call ?_
  k_dflt (refine' enterX ?k1 ?k2 ?k3 ?k4 ?k5 ?kA ?kF ?kK ?k6 ?k7 ?k8 ?k9 ?kB ?_ ?c2 ?c3 ?c4 ?c5; (case kA => exact rfl); (case kF => exact rfl); (case kK => assumption); (case k1 => k_asm); (case k2 => k_asm); (case k3 => k_asm); (case k4 => k_asm); (case k5 => k_asm); (case k6 => k_is); (case k7 => k_is); (case k8 => ktr_room); (case k9 => exact BindsTo.of_eq rfl); (case c5 => decide); (case kB => exact locs rfl); (case c2 => exact rfl); (case c3 => exact rfl); (case c4 => exact rfl); k_whole)
  intro g' L' h₁ hg FG' F' N' B' X' T' hk₁ l1
  dsimp only
  k_fold
  replace hx := hg _ _ hx (by simp)
  replace hdx := hg _ _ hdx (by simp)
  replace hdd := hg _ _ hdd (by simp)
  k_steps
  exact ret _ _ _ (by assumption) (fun b o e => Fr.keep (by assumption) b o (hg b o e (by simp)))

/-- the network at the head of the ledger, all else behind it -/
theorem add_use {w : World} {p : Program} {loose : List Str} {mean : ExcName → Option Value} {mg mb : Str → Option Value}
  {dp un : Nat} {gd : Option (List Code)} {cn : Str} {cs : Scope} {a : Addr} {ccd : Value} {cl : List (Str × Addr)} {outer : List Env} {A₀ : Around} {base h₀ : Heap} {L : Addr} {m : Str → Option Value} {s : Shared}
    {Q E : Value → Shared → Prop} {x dx dc dd : Addr} {a1 a2 a3 a4 : Int} {t1 t2 t3 t4 t5 : Tok} {sat : Bool} {kc kd : Nat} {kx ky : Str} {tx ty tb : Tok} {b : Int} {oc od : Obj} {U bs : List Str} {es : List Edge} {rest fin : List (Addr × Obj)}
    (B : Below A₀ base outer h₀) (F : Fr h₀ L s.heap m) (X : Frag.In (hd.heap_39 w.params) h₀)
    (N : News h₀ L s.heap ((x, instObj SC dx) :: (dx, netD a1 a2 a3 a4 t1 t2 t3 t4 t5 dc dd sat 4) :: (dc, oc) :: (dd, od) :: rest)) (hne : [x, dx, dc, dd].Nodup) (off : ∀ p ∈ rest, p.1 ∉ [x, dx, dc, dd])
    (T : Top p loose mean mg mb h₀) (hk : cs.kind = .function) (hd1 : dp + 20 < recursionLimit) (hu : un + 200 < cLine)
    (loc : (dc == sysModules) = false) (lod : (dd == sysModules) = false)
    (hfin : ∀ p ∈ fin, p ∈ rest) (ok : NetOk PySem.Challenge.rw_fq5045_02.row.prog w (fun a o => (a, o) ∈ fin) bs es sat oc od kc kd) (hkc : kc + 2 ≤ sizeLine) (hkd : kd + 2 ≤ sizeLine)
    (hxy : kx ≠ ky) (hU : U.length ≤ 4) (hes : ∀ e ∈ es, e.2.1 ∈ U) (hy : ky ∈ U) (hnot : ∀ v, (kx, ky, v) ∉ es) (h3 : (es.countP fun e => e.1 = kx) ≤ 3) (h4 : ∀ u, (es.countP fun e => e.1 = u) ≤ 4)
    (ret : ∀ h' tk' r oc' od' ext, Fr h₀ L h' m → News h₀ L h' ((x, instObj SC dx) :: (dx, netD a1 a2 a3 a4 t1 t2 t3 t4 t5 dc dd r 4) :: (dc, oc') :: (dd, od') :: (rest ++ ext)) →
      (∀ p ∈ ext, p.1 ∉ [x, dx, dc, dd] ∧ ∀ q ∈ rest, q.1 ≠ p.1) → NetOk PySem.Challenge.rw_fq5045_02.row.prog w (fun a o => (a, o) ∈ fin ++ ext) bs (es ++ [(kx, ky, b)]) r oc' od' (kc + 2) (kd + 2) → Q .none { s with heap := h', toks := tk' }) :
    wpAny (model PySem.Challenge.rw_fq5045_02.row.prog w) (ktrTop dp un gd cn cs L a ccd cl outer) (call (.ref 152) [.ref x, .str kx tx, .str ky ty, .int b tb]) Q E s := by
  have hrest : ∀ p ∈ rest, s.heap.get? p.1 = some p.2 ∧ p.1 ≠ L ∧ h₀.get? p.1 = none := fun p hp => N p (.tail _ (.tail _ (.tail _ (.tail _ hp))))
  have hide : ∀ p ∈ rest, (hideAll s.heap [x, dx, dc, dd]).get? p.1 = some p.2 := fun p hp => hideAll_get _ (hrest p hp).1 (off p hp)
  have N4 : News h₀ L s.heap [(x, instObj SC dx), (dx, netD a1 a2 a3 a4 t1 t2 t3 t4 t5 dc dd sat 4), (dc, oc), (dd, od)] := fun q hq => N q (by
    simp only [List.mem_cons, List.mem_nil_iff, or_false] at hq ⊢
    rcases hq with e | e | e | e <;> simp [e])
  obtain ⟨C, D, nC, nD, hc, hd, hp⟩ := ok
  cases sat with
  | false =>
    refine add_false B F X N4 T hk hd1 hu fun h' tk' F' N' keep => ret h' tk' false oc od [] F' ?_ (fun _ h => nomatch h) ?_
    · intro q hq
      rw [List.append_nil] at hq
      by_cases hr : q ∈ rest
      · exact ⟨keep _ _ (hide q hr), (hrest q hr).2⟩
      · refine N' q ?_
        simp only [List.mem_cons, List.mem_nil_iff, or_false] at hq ⊢
        rcases hq with e | e | e | e | e
        · simp [e]
        · simp [e]
        · simp [e]
        · simp [e]
        · exact absurd e hr
    · refine ⟨C, D, nC, nD, ?_, ?_, hp.addF⟩
      · obtain ⟨f, a, b, c⟩ := hc.keeps (M' := fun a o => (a, o) ∈ fin ++ []) fun a o h => by rw [List.append_nil]; exact h
        exact ⟨f, a.mono (by omega), b, c⟩
      · obtain ⟨f, a, b, c⟩ := hd
        exact ⟨f, a.mono (by omega), b, c⟩
  | true =>
    refine add_true B F X N4 hne T hk hd1 hu loc lod (fun a o h => hide (a, o) (hfin _ h)) hc hd hkc hkd (hp.pre hxy hU hes hy h3 h4) (hp.noDst hnot) fun h' tk' r oc' od' D' ext F' N' ho hc' hd' hr keep => ret h' tk' r oc' od' ext F' ?_ ?_ ?_
    · intro q hq
      have h4 : ∀ q, q ∈ ext ++ [(x, instObj SC dx), (dx, netD a1 a2 a3 a4 t1 t2 t3 t4 t5 dc dd r 4), (dc, oc'), (dd, od')] → h'.get? q.1 = some q.2 ∧ q.1 ≠ L ∧ h₀.get? q.1 = none := N'
      by_cases hr : q ∈ rest
      · exact ⟨keep _ _ (hide q hr), (hrest q hr).2⟩
      · refine h4 q ?_
        simp only [List.mem_append, List.mem_cons, List.mem_nil_iff, or_false] at hq ⊢
        rcases hq with e | e | e | e | e | e
        · simp [e]
        · simp [e]
        · simp [e]
        · simp [e]
        · exact absurd e hr
        · exact .inl e
    · intro p hp
      exact ⟨(ho p hp).1, fun q hq e => (ho p hp).2 q.2 (e ▸ hide q hq)⟩
    · exact ⟨_, _, _, _, hc'.keeps fun a o h => List.mem_append.mpr h, hd', hp.add hr⟩
end Mine
end

section -- CL
open PySem PySem.W PyProof.Rows PySem.Calls PySem.Spec PyProof.Rows.LCg
set_option maxRecDepth 100000
namespace Mine

section
variable {prog : Program} {w : World} {A : Around} {E : Value → Shared → Prop} {s : Shared} {R : Result → Shared → Prop}
theorem own_of {target : PySem.Expr} {I : Addr} {o : Obj} {n : String} {v : Value} {Q : Unit → Shared → Prop} (ho : s.heap.get? I = some o) (hc : o.cls = .type n)
    (hn : ["enumerate", "zip", "dict_itemiterator", "dict_reverseitemiterator", "odict_iterator", "itertools.zip_longest", "itertools.pairwise"].contains n = false) (h : Q () s) :
    wpAny (model prog w) A (letOwnedTupleGo target (.ref I) v) Q E s := by
  unfold letOwnedTupleGo
  have key : ∀ a, wpAny (model prog w) A (do
      let o ← load I
      match o.cls, o.data with
      | .type n, .fields vs =>
        if ["enumerate", "zip", "dict_itemiterator", "dict_reverseitemiterator", "odict_iterator", "itertools.zip_longest", "itertools.pairwise"].contains n && vs[0]? == some (rawInt a) then
          rule "for.unpacks-the-owned-tuple"
          updateField I 0 .none
      | _, _ => pure ()) Q E s := by
    intro a
    refine wpAny_bind (wpAny_load ho ?_)
    rw [hc]
    split
    · rename_i n' vs' e1 e2
      cases e1
      rw [if_neg (by rw [hn, Bool.false_and]; exact Bool.false_ne_true)]
      exact wpAny_pure h
    · exact wpAny_pure h
  split
  · cases v <;> first | exact key _ | exact wpAny_pure h
  · cases v <;> first | exact key _ | exact wpAny_pure h
  · exact wpAny_pure h

theorem comp_loop {elt target iter : PySem.Expr} {ifs : List PySem.Expr} {scope : Scope} {pos : Pos} {it acc : Value} {env : Env} (I : Nat → Shared → Prop)
    (turn : ∀ n s, I n s → wpAny (model prog w) A (pyNext it) (fun r s₁ => match r with
      | none => R (.ok .next) s₁
      | some v => wpAny (model prog w) A (letOwnedTupleGo target it v) (fun _ s₁' => wpAny (model prog w) A (assign target env v) (fun _ s₂ =>
          wpAny (model prog w) A (forIn ifs true fun c r => if r = true then do let ok ← isTrue c env (eval c env); pure (ForInStep.yield ok) else pure (ForInStep.yield r)) (fun ok s₃ =>
            if ok = true then wpAny (model prog w) A (eval elt env) (fun x s₄ =>
              wpAny (model prog w) A (call (.builtin "list.append") [acc, x]) (fun _ s₅ => ∃ m, m < n ∧ I m s₅) (notedBy (model prog w) A env fun e s' => R (.error e) s') s₄) (notedBy (model prog w) A env fun e s' => R (.error e) s') s₃
            else ∃ m, m < n ∧ I m s₃) (notedBy (model prog w) A env fun e s' => R (.error e) s') s₂) (notedBy (model prog w) A env fun e s' => R (.error e) s') s₁') (notedBy (model prog w) A env fun e s' => R (.error e) s') s₁) (notedBy (model prog w) A env fun e s' => R (.error e) s') s)
    (n : Nat) (h : I n s) :
    codeAny (model prog w) A (.compLoop (.ListComp elt [⟨target, iter, ifs, 0⟩] scope pos) 0 it acc env) R s := by
  refine codeAny_loop rfl I (fun n s hI => ?_) n h
  show wpAny _ A ((compTurn (.ListComp elt [⟨target, iter, ifs, 0⟩] scope pos) 0 it acc env).onRaise (fun x => do noteFrame x env; theTreesLotGoes x)) _ _ s
  refine wpAny_noted ?_
  rw [compTurn_list]
  refine wpAny_bind (wpAny_standAt (wpAny_bind (wpAny_mono (turn n s hI) (fun r s₁ h₁ => ?_) fun _ _ h' => h')))
  cases r with
  | none => exact wpAny_pure h₁
  | some v =>
    refine wpAny_bind (wpAny_mono h₁ (fun _ s₁' h₁' => ?_) fun _ _ h' => h')
    refine wpAny_bind (wpAny_mono h₁' (fun _ s₂ h₂ => wpAny_bind (wpAny_mono h₂ (fun ok s₃ h₃ => ?_) fun _ _ h' => h')) fun _ _ h' => h')
    cases ok with
    | false => exact wpAny_pure ⟨rfl, h₃⟩
    | true => exact wpAny_bind (wpAny_bind (wpAny_mono h₃ (fun x s₄ h₄ => wpAny_bind (wpAny_mono h₄ (fun _ s₅ h₅ => wpAny_pure (wpAny_pure ⟨rfl, h₅⟩)) fun _ _ h' => h')) fun _ _ h' => h'))
end

/-- an iterator at its start -/
structure ItOk (prog : Program) (w : World) (A : Around) (h₀ : Heap) (L : Addr) (S : List (Addr × Obj) → Prop) (target : PySem.Expr) (n : Nat) (P : Nat → Value → Prop) (g h : Heap) (I : Addr) : Prop where
  ex : ∃ fp St, Walks prog w A I fp [I] n P St ∧ (∀ i h, St i h → ∃ o, h.get? I = some o) ∧
    (∀ i h h' o nw, St i h → h.get? I = some o → h'.get? I = some o → (∀ b o, h₀.get? b = some o → h'.get? b = some o) → News h₀ L h' nw → S nw → St i h') ∧
    St 0 h ∧ (∀ b ∈ fp, b < h.objs.size) ∧
    (∀ i (s : Shared) v (Q : Unit → Shared → Prop) (E : Value → Shared → Prop), St i s.heap → Q () s → wpAny (model prog w) A (letOwnedTupleGo target (.ref I) v) Q E s)
  up : ∀ b o, g.get? b = some o → h.get? b = some o
  fresh : g.objs.size ≤ I

/-- what the target's assign leaves in the block's own names -/
def Asg (prog : Program) (w : World) (A : Around) (h₀ : Heap) (L : Addr) (m : Str → Option Value) (news : List (Addr × Obj)) (env : Env) (C : Addr) (target : PySem.Expr) (v : Value) (bs : List (Str × Value)) : Prop :=
  ∀ (s : Shared) (m₁ : Str → Option Value) (Q : Unit → Shared → Prop) (E : Value → Shared → Prop), s.heap.Ns C m₁ → News h₀ L s.heap news → Fr h₀ L s.heap m →
    (∀ h' tk m₂, h'.Ns C m₂ → (∀ b ∈ bs, m₂ b.1 = some b.2) → (∀ b o, b ≠ C → s.heap.get? b = some o → h'.get? b = some o) → Q () { s with heap := h', toks := tk }) →
    wpAny (model prog w) A (assign target env v) Q E s

abbrev TurnT (prog : Program) (w : World) (A : Around) (elt : PySem.Expr) (env : Env) (Qt Qf : Value → Shared → Prop) (E : Value → Shared → Prop) (s : Shared) : List PySem.Expr → Prop
  | [] => wpAny (model prog w) A (eval elt env) Qt E s
  | c :: _ => wpAny (model prog w) A (isTrue c env (eval c env)) (fun ok s₃ => if ok = true then wpAny (model prog w) A (eval elt env) Qt E s₃ else Qf .none s₃) E s

def GRest (prog : Program) (w : World) (A : Around) (h₀ : Heap) (L : Addr) (m : Str → Option Value) (env : Env) (elt target : PySem.Expr) (ifs : List PySem.Expr) (scope : Scope) (cl : List (Str × Addr)) (s : Shared) (S : List (Addr × Obj) → Prop) (P : Nat → Value → Prop)
    (Fin : List Value → List (Addr × Obj) → Prop) : Nat → Nat → List Value → List (Addr × Obj) → Prop
  | 0, _, ys, news => Fin ys news
  | k + 1, i, ys, news => ∀ v, P i v → ∃ bs : List (Str × Value), (∀ C, Asg prog w A h₀ L m news (compEnvC scope cl C env) C target v bs) ∧
      ∀ I oI C oC D m₂ h tk (E' : Value → Shared → Prop), NsObj oC m₂ → (∀ b ∈ bs, m₂ b.1 = some b.2) → Fr h₀ L h m → News h₀ L h ((I, oI) :: (C, oC) :: (D, lst ys) :: news) → Off3 I C D news → ((@Ne Nat I C) ∧ (@Ne Nat I D) ∧ (@Ne Nat C D)) →
        TurnT prog w A elt (compEnvC scope cl C env) (CompEnd h₀ L m { s with heap := h, toks := tk } I oI C oC D (lst ys) S (fun y news' => GRest prog w A h₀ L m env elt target ifs scope cl s S P Fin k (i + 1) (ys ++ [y]) news'))
          (CompEnd h₀ L m { s with heap := h, toks := tk } I oI C oC D (lst ys) S (fun _ news' => GRest prog w A h₀ L m env elt target ifs scope cl s S P Fin k (i + 1) ys news')) E' { s with heap := h, toks := tk } ifs

section
variable {prog : Program} {w : World} {A : Around} {E : Value → Shared → Prop} {s : Shared} {h₀ : Heap} {L : Addr} {m : Str → Option Value} {env : Env}
theorem asg_Name {x : Str} {px : Pos} {scope : Scope} {cl : List (Str × Addr)} {news : List (Addr × Obj)} {C : Addr} {v : Value} (hkind : scope.kind = .function) (hx : scope.names.lookup x = some .local) :
    Asg prog w A h₀ L m news (compEnvC scope cl C env) C (.Name x px) v [(x, v)] := fun s m₁ Q E hn N F k => by
  refine wpAny_assign_Name (wpAny_storeName_local (lookup_relabel_local hx) hn (fun h₃ hn₃ hs₃ => ?_) (by simp [compEnvC, relabel, hkind]))
  exact k _ _ _ hn₃ (fun b hb => by rw [List.mem_singleton.mp hb]; simp) fun b o hb e => hs₃.extBut b o hb e
theorem asg_pair {x y : Str} {px py tp : Pos} {tk : Nat} {scope : Scope} {cl : List (Str × Addr)} {news : List (Addr × Obj)} {C t : Addr} {v₁ v₂ : Value} (hh : A.handled = none) (ht : ∀ h : Heap, News h₀ L h news → (∀ b o, h₀.get? b = some o → h.get? b = some o) → IsTup h t #[v₁, v₂])
    (hkind : scope.kind = .function) (hx : scope.names.lookup x = some .local) (hy : scope.names.lookup y = some .local) (hxy : x ≠ y) :
    Asg prog w A h₀ L m news (compEnvC scope cl C env) C (.Tuple [.Name x px, .Name y py] tk tp) (.ref t) [(x, v₁), (y, v₂)] := fun s m₁ Q E hn N F k => by
  refine assign_Tuple_tuple hh (ht _ N F.keep) rfl rfl fun h₅ he => ?_
  have he' : ∀ b o, s.heap.get? b = some o → h₅.get? b = some o := fun b o e => he b o (Nat.ne_of_lt (Heap.lt_size e)) e
  refine assignInOrder_cons (wpAny_assign_Name (wpAny_storeName_local (lookup_relabel_local hx) (hn.at' fun o e => he' _ o e) (fun h₆ hn₆ hs₆ => ?_) (by simp [compEnvC, relabel, hkind])))
  refine assignInOrder_cons (wpAny_assign_Name (wpAny_storeName_local (lookup_relabel_local hy) hn₆ (fun h₃ hn₃ hs₃ => ?_) (by simp [compEnvC, relabel, hkind])))
  refine assignInOrder_nil (k _ _ _ hn₃ (fun b hb => ?_) fun b o hb e => hs₃.extBut b o hb (hs₆.extBut b o hb (he' b o e)))
  simp only [List.mem_cons, List.mem_nil_iff, or_false] at hb
  rcases hb with rfl | rfl
  · simp [hxy]
  · simp
theorem asg_triple {x y z : Str} {px py pz tp : Pos} {tk : Nat} {scope : Scope} {cl : List (Str × Addr)} {news : List (Addr × Obj)} {C t : Addr} {v₁ v₂ v₃ : Value} (hh : A.handled = none) (ht : ∀ h : Heap, News h₀ L h news → (∀ b o, h₀.get? b = some o → h.get? b = some o) → IsTup h t #[v₁, v₂, v₃])
    (hkind : scope.kind = .function) (hx : scope.names.lookup x = some .local) (hy : scope.names.lookup y = some .local) (hz : scope.names.lookup z = some .local) (hxy : x ≠ y) (hxz : x ≠ z) (hyz : y ≠ z) :
    Asg prog w A h₀ L m news (compEnvC scope cl C env) C (.Tuple [.Name x px, .Name y py, .Name z pz] tk tp) (.ref t) [(x, v₁), (y, v₂), (z, v₃)] := fun s m₁ Q E hn N F k => by
  refine assign_Tuple_tuple hh (ht _ N F.keep) rfl rfl fun h₅ he => ?_
  have he' : ∀ b o, s.heap.get? b = some o → h₅.get? b = some o := fun b o e => he b o (Nat.ne_of_lt (Heap.lt_size e)) e
  refine assignInOrder_cons (wpAny_assign_Name (wpAny_storeName_local (lookup_relabel_local hx) (hn.at' fun o e => he' _ o e) (fun h₆ hn₆ hs₆ => ?_) (by simp [compEnvC, relabel, hkind])))
  refine assignInOrder_cons (wpAny_assign_Name (wpAny_storeName_local (lookup_relabel_local hy) hn₆ (fun h₇ hn₇ hs₇ => ?_) (by simp [compEnvC, relabel, hkind])))
  refine assignInOrder_cons (wpAny_assign_Name (wpAny_storeName_local (lookup_relabel_local hz) hn₇ (fun h₃ hn₃ hs₃ => ?_) (by simp [compEnvC, relabel, hkind])))
  refine assignInOrder_nil (k _ _ _ hn₃ (fun b hb => ?_) fun b o hb e => hs₃.extBut b o hb (hs₇.extBut b o hb (hs₆.extBut b o hb (he' b o e))))
  simp only [List.mem_cons, List.mem_nil_iff, or_false] at hb
  rcases hb with rfl | rfl | rfl
  · simp [hxy, hxz]
  · simp [hyz]
  · simp

theorem block_G {elt target iter : PySem.Expr} {ifs : List PySem.Expr} {scope : Scope} {cl : List (Str × Addr)} {pos : Pos} {s₂ : Shared} {g : Heap} {I : Addr} {n : Nat} {P : Nat → Value → Prop} {S : List (Addr × Obj) → Prop} {news : List (Addr × Obj)}
    {Fin : List Value → List (Addr × Obj) → Prop} {RR : Value → Addr → Result → Shared → Prop}
    (W : ItOk prog w A h₀ L S target n P g s₂.heap I) (hsz : n ≤ sizeLine) (hif : ifs.length ≤ 1)
    (hcell : ∀ y ∈ scope.names, y.2 ≠ .cell) (hkind : scope.kind = .function)
    (F : Fr h₀ L g m) (N : News h₀ L g news) (hS : S news)
    (R : GRest prog w A h₀ L m env elt target ifs scope cl s₂ S P Fin n 0 [] news)
    (hRR : ∀ D C h tk m' ys news', Fr h₀ L h m → News h₀ L h ((D, lst ys) :: news') → Off1 D news' → h.Ns C m' → h₀.get? C = none → h₀.get? D = none → C ≠ L → D ≠ L → C ≠ D → (∀ p ∈ news', p.1 ≠ C) → Fin ys news' → RR (.ref D) C (.ok .next) { s₂ with heap := h, toks := tk }) :
    wpAny (model prog w) A (newList []) (fun acc s₃ => wpAny (model prog w) A (newFunctionEnv scope env.globals cl [] env.qual none .none (some env)) (fun cenv s₄ =>
      codeAny (model prog w) A (.compStart (.ListComp elt [⟨target, iter, ifs, 0⟩] scope pos) 0 (.ref I) acc { cenv with scope := relabel scope env }) (RR acc cenv.locals) s₄) E s₃) E s₂ := by
  obtain ⟨⟨fp, St, W, hIo, hSt, hst, hfp, own⟩, up, hIn⟩ := W
  have hIL : L ≠ I := Nat.ne_of_lt (Nat.lt_of_lt_of_le F.ns.lt hIn)
  have hI₀ : h₀.get? I = none := by
    cases e : h₀.get? I with
    | none => rfl
    | some o' => exact absurd (Heap.lt_size (F.keep I o' e)) (Nat.not_lt.mpr hIn)
  have off : ∀ p ∈ news, p.1 ≠ I := fun p hp => Nat.ne_of_lt (Nat.lt_of_lt_of_le (Heap.lt_size (N p hp).1) hIn)
  replace F : Fr h₀ L s₂.heap m := F.keeps up
  replace N : News h₀ L s₂.heap news := N.grown up
  clear up hIn
  refine wpAny_newObj_type (wpAny_newFunctionEnv hcell (by intro y hy; simp at hy) (fun h₁ hns₁ hsb₁ => ?_) hkind)
  dsimp only at hns₁ hsb₁ ⊢
  generalize hH2 : s₂.heap.push { cls := .type "list", dict := none, data := .seq ([] : List Value).toArray } = H2 at hns₁ hsb₁ ⊢
  have hC : H2.objs.size = s₂.heap.objs.size + 1 := by rw [← hH2, Heap.size_push]
  have hDC : s₂.heap.objs.size ≠ H2.objs.size := by rw [hC]; exact Nat.ne_of_lt (Nat.lt_succ_self _)
  have below : ∀ b, b < s₂.heap.objs.size → b ≠ H2.objs.size ∧ b ≠ s₂.heap.objs.size := fun b hb => ⟨by rw [hC]; exact Nat.ne_of_lt (Nat.lt_succ_of_lt hb), Nat.ne_of_lt hb⟩
  have hDf : s₂.heap.objs.size ∉ fp := fun hm => Nat.lt_irrefl _ (hfp _ hm)
  have hCf : H2.objs.size ∉ fp := fun hm => by have := hfp _ hm; rw [hC] at this; exact Nat.lt_irrefl _ (Nat.lt_of_succ_lt this)
  have hIlt : I < s₂.heap.objs.size := hfp I (W.sub I (List.mem_singleton.mpr rfl))
  have old : ∀ b o, s₂.heap.get? b = some o → h₁.get? b = some o := fun b o e => hsb₁.extBut b o (below b (Heap.lt_size e)).1 (Heap.get?_push_of_some _ (hH2 ▸ Heap.get?_push_of_some _ e))
  have hacc : h₁.get? s₂.heap.objs.size = some (lst []) := hsb₁.extBut _ _ hDC (Heap.get?_push_of_some _ (hH2 ▸ Heap.get?_push_size _ rfl))
  have hst₁ : St 0 h₁ := W.frame _ _ _ hst fun b _ o e => old b o e
  have fresh₀ : ∀ a, s₂.heap.objs.size ≤ a → h₀.get? a = none := fun a ha => by
    cases e : h₀.get? a with
    | none => rfl
    | some o' => exact absurd (Heap.lt_size (F.keep a o' e)) (Nat.not_lt.mpr ha)
  have hD₀ : h₀.get? s₂.heap.objs.size = none := fresh₀ _ (Nat.le_refl _)
  have hC₀ : h₀.get? H2.objs.size = none := fresh₀ _ (by rw [hC]; exact Nat.le_succ _)
  have hLlt : L < s₂.heap.objs.size := F.ns.lt
  have hDL : s₂.heap.objs.size ≠ L := Ne.symm (below L hLlt).2
  have hCL : H2.objs.size ≠ L := Ne.symm (below L hLlt).1
  have hCI : I ≠ H2.objs.size := (below I hIlt).1
  have hDI : I ≠ s₂.heap.objs.size := (below I hIlt).2
  have off₀ : Off3 I H2.objs.size s₂.heap.objs.size news := Off3.of fun p hp => ⟨off p hp, (below _ (Heap.lt_size (N p hp).1)).1, (below _ (Heap.lt_size (N p hp).1)).2⟩
  have loop : ∀ s₃ : Shared, s₃ = { s₂ with heap := h₁, toks := s₂.toks + ([] : List (Str × Value)).length } →
      codeAny (model prog w) A (.compLoop (.ListComp elt [⟨target, iter, ifs, 0⟩] scope pos) 0 (.ref I) (.ref s₂.heap.objs.size) (compEnvC scope cl H2.objs.size env))
        (RR (.ref s₂.heap.objs.size) H2.objs.size) s₃ := by
    rintro s₃ rfl
    refine comp_loop
      (fun k s' => ∃ h' tk i ys m' news', s' = { s₂ with heap := h', toks := tk } ∧ i ≤ n ∧ k = n + 1 - i ∧ ys.length ≤ i ∧ St i h' ∧ Fr h₀ L h' m ∧ h'.Ns H2.objs.size m' ∧ News h₀ L h' ((s₂.heap.objs.size, lst ys) :: news') ∧
        Off3 I H2.objs.size s₂.heap.objs.size news' ∧ S news' ∧ GRest prog w A h₀ L m env elt target ifs scope cl s₂ S P Fin (n - i) i ys news') ?_ (n + 1)
      ⟨h₁, _, 0, [], _, news, rfl, Nat.zero_le _, rfl, Nat.le_refl _, hst₁, F.keeps old, hns₁, fun p hp => ?_, off₀, hS, R⟩
    · rintro k s' ⟨h', tk, i, ys, m', news', rfl, hi, rfl, hyl, hst', F', hn', N', off', hS', R'⟩
      by_cases hlt : i < n
      · obtain ⟨j, hj⟩ : ∃ j, n - i = j + 1 := ⟨n - i - 1, by omega⟩
        rw [hj] at R'
        refine W.item i _ _ _ hlt hst' fun v h₂ tk₂ hPv hst₂ hk₂ => ?_
        obtain ⟨bs, hasg, R''⟩ := R' v hPv
        have off3 := off'.mem
        have N₂ : News h₀ L h₂ ((s₂.heap.objs.size, lst ys) :: news') := news_but N' hk₂ fun p hp => by
          rcases List.mem_cons.mp hp with rfl | hp
          · exact Ne.symm hDI
          · exact (off3 p hp).1
        have N₂' : News h₀ L h₂ news' := fun p hp => N₂ p (List.mem_cons_of_mem _ hp)
        have F₂ : Fr h₀ L h₂ m := fr_but F' hk₂ hIL hI₀
        refine own _ _ _ _ _ hst₂ ?_
        refine hasg _ _ _ _ _ (hn'.at' fun o e => hk₂ _ o (by simpa using Ne.symm hCI) e) N₂' F₂ fun h₃ tk₃ m₃ hn₃ hb₃ old3 => ?_
        have hst₃ : St (i + 1) h₃ := W.frame _ _ _ hst₂ fun b hb o e => old3 b o (fun q => hCf (by have q' : b = H2.objs.size := q; rw [← q']; exact hb)) e
        obtain ⟨oI, heI⟩ := hIo _ _ hst₃
        obtain ⟨oC, heC, hoC⟩ := ns_obj hn₃
        have F₃ : Fr h₀ L h₃ m := ⟨F₂.ns.at' fun o e => old3 L o (Ne.symm hCL) e, fun b o e => old3 b o (fun q => by rw [q, hC₀] at e; cases e) (F₂.keep b o e), F₂.above⟩
        have N₃ : News h₀ L h₃ ((I, oI) :: (H2.objs.size, oC) :: (s₂.heap.objs.size, lst ys) :: news') := fun p hp => by
          rcases List.mem_cons.mp hp with rfl | hp
          · exact ⟨heI, Ne.symm hIL, hI₀⟩
          · rcases List.mem_cons.mp hp with rfl | hp
            · exact ⟨heC, hCL, hC₀⟩
            · have z := N₂ p hp
              refine ⟨old3 _ _ ?_ z.1, z.2⟩
              rcases List.mem_cons.mp hp with rfl | hp
              · exact hDC
              · exact (off3 p hp).2.1
        have fin : ∀ (E' : Value → Shared → Prop) y s₄, CompEnd h₀ L m { s₂ with heap := h₃, toks := tk₃ } I oI H2.objs.size oC s₂.heap.objs.size (lst ys) S (fun y news' => GRest prog w A h₀ L m env elt target ifs scope cl s₂ S P Fin j (i + 1) (ys ++ [y]) news') y s₄ →
            wpAny (model prog w) A (call (.builtin "list.append") [.ref s₂.heap.objs.size, y]) (fun _ s₅ => ∃ k', k' < n + 1 - i ∧ ∃ h' tk i ys m' news', s₅ = { s₂ with heap := h', toks := tk } ∧ i ≤ n ∧ k' = n + 1 - i ∧ ys.length ≤ i ∧ St i h' ∧ Fr h₀ L h' m ∧ h'.Ns H2.objs.size m' ∧ News h₀ L h' ((s₂.heap.objs.size, lst ys) :: news') ∧
              Off3 I H2.objs.size s₂.heap.objs.size news' ∧ S news' ∧ GRest prog w A h₀ L m env elt target ifs scope cl s₂ S P Fin (n - i) i ys news') E' s₄ := by
          rintro E' y s₄ ⟨h₄, tk₄, news₄, rfl, F₄, N₄, off₄, hS₄, R₄⟩
          have zI := (N₄ (I, oI) List.mem_cons_self).1
          have zC := (N₄ (H2.objs.size, oC) (List.mem_cons_of_mem _ List.mem_cons_self)).1
          have zD := (N₄ (s₂.heap.objs.size, lst ys) (List.mem_cons_of_mem _ (List.mem_cons_of_mem _ List.mem_cons_self))).1
          have N₄' : News h₀ L h₄ news₄ := fun p hp => N₄ p (List.mem_cons_of_mem _ (List.mem_cons_of_mem _ (List.mem_cons_of_mem _ hp)))
          have hst₄ : St (i + 1) h₄ := hSt _ _ _ _ _ hst₃ heI zI F₄.keep N₄' hS₄
          refine append_at (hsz := by show ys.toArray.size ≤ sizeLine; rw [List.size_toArray]; omega) zD fun h₅ hs₅ hD₅ => ?_
          have off4 := off₄.mem
          refine ⟨n + 1 - (i + 1), by omega, h₅, tk₄, i + 1, ys ++ [y], _, news₄, rfl, hlt, rfl, by rw [List.length_append, List.length_singleton]; omega, W.frame _ _ _ hst₄ fun b hb o e => hs₅.extBut b o (fun q => hDf (q ▸ hb)) e, F₄.change hs₅ hDL hD₀,
            (hoC.ns zC).sameBut hs₅ (Ne.symm hDC), fun p hp => ?_, off₄, hS₄, ?_⟩
          · rcases List.mem_cons.mp hp with rfl | hp
            · exact ⟨hD₅.trans (congrArg some (lst_snoc ys y)), hDL, hD₀⟩
            · exact ⟨hs₅.extBut _ _ (off4 p hp).2.2 (N₄' p hp).1, (N₄' p hp).2⟩
          · rw [show n - (i + 1) = j by omega]
            exact R₄
        have skip : ∀ y s₄, CompEnd h₀ L m { s₂ with heap := h₃, toks := tk₃ } I oI H2.objs.size oC s₂.heap.objs.size (lst ys) S (fun _ news' => GRest prog w A h₀ L m env elt target ifs scope cl s₂ S P Fin j (i + 1) ys news') y s₄ →
            ∃ k', k' < n + 1 - i ∧ ∃ h' tk i ys m' news', s₄ = { s₂ with heap := h', toks := tk } ∧ i ≤ n ∧ k' = n + 1 - i ∧ ys.length ≤ i ∧ St i h' ∧ Fr h₀ L h' m ∧ h'.Ns H2.objs.size m' ∧ News h₀ L h' ((s₂.heap.objs.size, lst ys) :: news') ∧
              Off3 I H2.objs.size s₂.heap.objs.size news' ∧ S news' ∧ GRest prog w A h₀ L m env elt target ifs scope cl s₂ S P Fin (n - i) i ys news' := by
          rintro y s₄ ⟨h₄, tk₄, news₄, rfl, F₄, N₄, off₄, hS₄, R₄⟩
          have zI := (N₄ (I, oI) List.mem_cons_self).1
          have zC := (N₄ (H2.objs.size, oC) (List.mem_cons_of_mem _ List.mem_cons_self)).1
          have N₄' : News h₀ L h₄ news₄ := fun p hp => N₄ p (List.mem_cons_of_mem _ (List.mem_cons_of_mem _ (List.mem_cons_of_mem _ hp)))
          have hst₄ : St (i + 1) h₄ := hSt _ _ _ _ _ hst₃ heI zI F₄.keep N₄' hS₄
          refine ⟨n + 1 - (i + 1), by omega, h₄, tk₄, i + 1, ys, _, news₄, rfl, hlt, rfl, by omega, hst₄, F₄, hoC.ns zC, fun p hp => N₄ p (List.mem_cons_of_mem _ (List.mem_cons_of_mem _ hp)), off₄, hS₄, ?_⟩
          rw [show n - (i + 1) = j by omega]
          exact R₄
        have T := fun E' => R'' I oI H2.objs.size oC s₂.heap.objs.size _ h₃ tk₃ E' hoC hb₃ F₃ N₃ off' ⟨hCI, hDI, Ne.symm hDC⟩
        match ifs, hif, T, fin, skip with
        | [], _, T, fin, skip =>
          refine wpAny_tests_nil ?_
          simp only [if_true]
          exact wpAny_mono (T _) (fun y s₄ h₄ => fin _ y s₄ h₄) fun _ _ e => e
        | [c], _, T, fin, skip =>
          refine wpAny_tests_one ?_
          refine wpAny_mono (T _) (fun ok s₄ h₄ => ?_) fun _ _ e => e
          cases ok with
          | true =>
            simp only [if_true] at h₄ ⊢
            exact wpAny_mono h₄ (fun y s₄ h₄ => fin _ y s₄ h₄) fun _ _ e => e
          | false =>
            simp only [Bool.false_eq_true, if_false] at h₄ ⊢
            exact skip _ _ h₄
      · obtain rfl : i = n := Nat.le_antisymm hi (Nat.not_lt.mp hlt)
        rw [Nat.sub_self] at R'
        refine W.done _ _ _ hst' fun h₂ tk₂ hk₂ => ?_
        have off3 := off'.mem
        exact hRR _ _ h₂ tk₂ _ ys news' (fr_but F' hk₂ hIL hI₀) (news_but N' hk₂ fun p hp => by
          rcases List.mem_cons.mp hp with rfl | hp
          · exact Ne.symm hDI
          · exact (off3 p hp).1) off'.one (hn'.at' fun o e => hk₂ _ o (by simpa using Ne.symm hCI) e) hC₀ hD₀ hCL hDL (Ne.symm hDC) (fun p hp => (off3 p hp).2.1) R'
    · rcases List.mem_cons.mp hp with rfl | hp
      · exact ⟨hacc, hDL, hD₀⟩
      · exact ⟨old _ _ (N p hp).1, (N p hp).2⟩
  exact codeAny_compStart_list (loop _ rfl) (W.self 0 _ _ _ hst₁ (loop _ rfl))
end
end Mine
end

section -- CM
open PySem PySem.W PyProof.Rows PySem.Calls PySem.Spec PyProof.Rows.LCg
set_option maxRecDepth 100000
namespace Mine
section
variable {prog : Program} {w : World} {A : Around} {E : Value → Shared → Prop} {s : Shared} {h₀ : Heap} {L : Addr} {m : Str → Option Value} {env : Env}
/-- what lies at an address, in the base or in the ledger -/
def Lies (h₀ : Heap) (ax : Addr) (Φ : Obj → Prop) (news : List (Addr × Obj)) : Prop := (∃ o, h₀.get? ax = some o ∧ Φ o) ∨ ∃ o, (ax, o) ∈ news ∧ Φ o
theorem Lies.get {h : Heap} {ax : Addr} {Φ : Obj → Prop} {news : List (Addr × Obj)} (x : Lies h₀ ax Φ news) (k : ∀ b o, h₀.get? b = some o → h.get? b = some o) (N : News h₀ L h news) : ∃ o, h.get? ax = some o ∧ Φ o := by
  rcases x with ⟨o, e, r⟩ | ⟨o, hm, r⟩
  · exact ⟨o, k _ _ e, r⟩
  · exact ⟨o, (N _ hm).1, r⟩
abbrev ListObj (its : Array Value) (o : Obj) : Prop := o.cls = .type "list" ∧ ∃ n, o.data = .seq its n
abbrev TupObj (its : Array Value) (o : Obj) : Prop := o.cls = .type "tuple" ∧ ∃ n, o.data = .seq its n

theorem it_list {target : PySem.Expr} {ax : Addr} {its : Array Value} {news : List (Addr × Obj)} {Q : Value → Shared → Prop} (hh : A.handled = none) (F : Fr h₀ L s.heap m) (N : News h₀ L s.heap news) (S : Lies h₀ ax (ListObj its) news)
    (h : ∀ I h', ItOk prog w A h₀ L (Lies h₀ ax (ListObj its)) target its.size (fun i v => its[i]? = some v) s.heap h' I → Q (.ref I) { s with heap := h' }) :
    wpAny (model prog w) A (pyIter (.ref ax)) Q E s := by
  have hl : s.heap.IsList ax its := S.get F.keep N
  have hlt : ax < s.heap.objs.size := by obtain ⟨_, e, _⟩ := hl; exact Heap.lt_size e
  refine wpAny_pyIter_list hl (h _ _ ⟨⟨_, _, Walks.list hh s.heap.objs.size ax (Nat.ne_of_lt hlt) its, fun i h st => by obtain ⟨o, e, _⟩ := st.1; exact ⟨o, e⟩, ?_, ⟨⟨_, Heap.get?_push_size _ rfl, rfl, rfl⟩, hl.push _⟩, fun b hb => ?_, ?_⟩, fun b o e => Heap.get?_push_of_some _ e, Nat.le_refl _⟩)
  · exact fun i h h' o nw st e e' k N S => ⟨by obtain ⟨o', q, r⟩ := st.1; rw [e] at q; cases q; exact ⟨o, e', r⟩, S.get k N⟩
  · rw [Heap.size_push]
    rcases List.mem_cons.mp hb with rfl | hb
    · exact Nat.lt_succ_self _
    · rw [List.mem_singleton.mp hb]; exact Nat.lt_succ_of_lt hlt
  · intro i s v Q E st hq
    obtain ⟨o, e, hc, _⟩ := st.1
    exact own_of e hc rfl hq
theorem it_tuple {target : PySem.Expr} {ax : Addr} {its : Array Value} {news : List (Addr × Obj)} {Q : Value → Shared → Prop} (hh : A.handled = none) (F : Fr h₀ L s.heap m) (N : News h₀ L s.heap news) (S : Lies h₀ ax (TupObj its) news)
    (h : ∀ I h', ItOk prog w A h₀ L (Lies h₀ ax (TupObj its)) target its.size (fun i v => its[i]? = some v) s.heap h' I → Q (.ref I) { s with heap := h' }) :
    wpAny (model prog w) A (pyIter (.ref ax)) Q E s := by
  have hl : s.heap.IsTuple ax its := S.get F.keep N
  have hlt : ax < s.heap.objs.size := by obtain ⟨_, e, _⟩ := hl; exact Heap.lt_size e
  refine iter_tuple (items := its) hl (h _ _ ⟨⟨_, _, Walks.tuple hh s.heap.objs.size ax (Nat.ne_of_lt hlt) its, fun i h st => by obtain ⟨o, e, _⟩ := st.1; exact ⟨o, e⟩, ?_, ⟨⟨_, Heap.get?_push_size _ rfl, rfl, rfl⟩, ?_⟩, fun b hb => ?_, ?_⟩, fun b o e => Heap.get?_push_of_some _ e, Nat.le_refl _⟩)
  · exact fun i h h' o nw st e e' k N S => ⟨by obtain ⟨o', q, r⟩ := st.1; rw [e] at q; cases q; exact ⟨o, e', r⟩, S.get k N⟩
  · obtain ⟨o, e, r⟩ := hl
    exact ⟨o, Heap.get?_push_of_some _ e, r⟩
  · rw [Heap.size_push]
    rcases List.mem_cons.mp hb with rfl | hb
    · exact Nat.lt_succ_self _
    · rw [List.mem_singleton.mp hb]; exact Nat.lt_succ_of_lt hlt
  · intro i s v Q E st hq
    obtain ⟨o, e, hc, _⟩ := st.1
    exact own_of e hc rfl hq
theorem it_range {target : PySem.Expr} {r : Addr} {a b : Int} {t u v : Tok} {n : Nat} {Q : Value → Shared → Prop} (hh : A.handled = none) (hr : IsRange s.heap r a b 1 t u v) (hsm : Builtin.Range.small a b 1 = true) (hn : Builtin.Range.rangeSize a b 1 = ((n : Nat) : Int))
    (h : ∀ I h', ItOk prog w A h₀ L (fun _ => True) target n (fun i v => ∃ t, v = .int (a + (i : Int)) t) s.heap h' I → Q (.ref I) { s with heap := h' }) :
    wpAny (model prog w) A (pyIter (.ref r)) Q E s := by
  refine wpAny_pyIter_range hr hsm (h _ _ ⟨⟨_, _, range_walks hh a n, fun i h st => ⟨_, st⟩, range_st, by show IsRangeIter _ _ _ _ _; rw [hn]; simpa using Heap.get?_push_size _ rfl, fun b hb => ?_, ?_⟩, fun b o e => Heap.get?_push_of_some _ e, Nat.le_refl _⟩)
  · rw [List.mem_singleton.mp hb]
    show s.heap.objs.size < (s.heap.push _).objs.size
    rw [Heap.size_push]; exact Nat.lt_succ_self _
  · intro i s v Q E st hq
    exact own_of (show s.heap.get? _ = some _ from st) rfl rfl hq

def SrcG (prog : Program) (w : World) (A : Around) (h₀ : Heap) (L : Addr) (m : Str → Option Value) (env : Env) (elt target : PySem.Expr) (ifs : List PySem.Expr) (scope : Scope) (cl : List (Str × Addr)) (Fin : Shared → List Value → List (Addr × Obj) → Prop) (xv : Value) (s₁ : Shared) : Prop :=
  ∃ n S P news, Fr h₀ L s₁.heap m ∧ News h₀ L s₁.heap news ∧ S news ∧ n ≤ sizeLine ∧
    (∀ (Q E : Value → Shared → Prop), (∀ I h', ItOk prog w A h₀ L S target n P s₁.heap h' I → Q (.ref I) { s₁ with heap := h' }) → wpAny (model prog w) A (pyIter xv) Q E s₁) ∧
    ∀ g, GRest prog w A h₀ L m env elt target ifs scope cl { s₁ with heap := g } S P (Fin { s₁ with heap := g }) n 0 [] news
theorem SrcG.list {elt target : PySem.Expr} {ifs : List PySem.Expr} {scope : Scope} {cl : List (Str × Addr)} {Fin : Shared → List Value → List (Addr × Obj) → Prop} {ax : Addr} {its : Array Value} {news : List (Addr × Obj)} {s₁ : Shared}
    (hh : A.handled = none) (F : Fr h₀ L s₁.heap m) (N : News h₀ L s₁.heap news) (S : Lies h₀ ax (ListObj its) news) (hsz : its.size ≤ sizeLine)
    (h : ∀ g, GRest prog w A h₀ L m env elt target ifs scope cl { s₁ with heap := g } (Lies h₀ ax (ListObj its)) (fun i v => its[i]? = some v) (Fin { s₁ with heap := g }) its.size 0 [] news) :
    SrcG prog w A h₀ L m env elt target ifs scope cl Fin (.ref ax) s₁ := ⟨_, _, _, news, F, N, S, hsz, fun _ _ k => it_list hh F N S k, h⟩
theorem SrcG.tuple {elt target : PySem.Expr} {ifs : List PySem.Expr} {scope : Scope} {cl : List (Str × Addr)} {Fin : Shared → List Value → List (Addr × Obj) → Prop} {ax : Addr} {its : Array Value} {news : List (Addr × Obj)} {s₁ : Shared}
    (hh : A.handled = none) (F : Fr h₀ L s₁.heap m) (N : News h₀ L s₁.heap news) (S : Lies h₀ ax (TupObj its) news) (hsz : its.size ≤ sizeLine)
    (h : ∀ g, GRest prog w A h₀ L m env elt target ifs scope cl { s₁ with heap := g } (Lies h₀ ax (TupObj its)) (fun i v => its[i]? = some v) (Fin { s₁ with heap := g }) its.size 0 [] news) :
    SrcG prog w A h₀ L m env elt target ifs scope cl Fin (.ref ax) s₁ := ⟨_, _, _, news, F, N, S, hsz, fun _ _ k => it_tuple hh F N S k, h⟩
theorem SrcG.range {elt target : PySem.Expr} {ifs : List PySem.Expr} {scope : Scope} {cl : List (Str × Addr)} {Fin : Shared → List Value → List (Addr × Obj) → Prop} {r : Addr} {a b : Int} {t u v : Tok} {n : Nat} {news : List (Addr × Obj)} {s₁ : Shared}
    (hh : A.handled = none) (F : Fr h₀ L s₁.heap m) (N : News h₀ L s₁.heap news) (hr : IsRange s₁.heap r a b 1 t u v) (hsm : Builtin.Range.small a b 1 = true) (hn : Builtin.Range.rangeSize a b 1 = ((n : Nat) : Int)) (hsz : n ≤ sizeLine)
    (h : ∀ g, GRest prog w A h₀ L m env elt target ifs scope cl { s₁ with heap := g } (fun _ => True) (fun i v => ∃ t, v = .int (a + (i : Int)) t) (Fin { s₁ with heap := g }) n 0 [] news) :
    SrcG prog w A h₀ L m env elt target ifs scope cl Fin (.ref r) s₁ := ⟨_, _, _, news, F, N, trivial, hsz, fun _ _ k => it_range hh hr hsm hn k, h⟩

theorem ListComp_G {elt target iter : PySem.Expr} {ifs : List PySem.Expr} {scope : Scope} {cl : List (Str × Addr)} {pos : Pos} {Q : Value → Shared → Prop} (_F₀ : Fr h₀ L s.heap m)
    (hif : ifs.length ≤ 1) (hclos : closureFor scope env = pure cl) (hcell : ∀ y ∈ scope.names, y.2 ≠ .cell) (hkind : scope.kind = .function)
    (hnames : ∀ y ∈ scope.names, y.2 = .local → scope.names.lookup y.1 = some .local)
    (h : wpAny (model prog w) A (eval iter env) (SrcG prog w A h₀ L m env elt target ifs scope cl (fun s₂ => FinE h₀ L m s₂ Q)) E s)
    (hs : ∀ x, foldedSetIterable iter env x = pure x) :
    wpAny (model prog w) A (eval (.ListComp elt [⟨target, iter, ifs, 0⟩] scope pos) env) Q E s := by
  rw [eval_ListComp]
  refine wpAny_comprehension_free (use := none) rfl hs hclos hkind hnames (wpAny_mono h (fun xv s₁ h₁ => ?_) fun _ _ e => e)
  obtain ⟨n, S, P, news, F, N, hS, hsz, it, R⟩ := h₁
  refine it _ _ fun I h' ok => ?_
  refine block_G (s₂ := { s₁ with heap := h' }) ok hsz hif hcell hkind F N hS (R h') fun D C h tk m' ys news' F' N' o1 hn hC₀ hD₀ hCL hDL hCD offC fin => ?_
  refine ⟨m', hn, fun h'' hs'' => fin D h'' tk (F'.change hs'' hCL hC₀) (fun p hp => ?_) o1⟩
  refine ⟨hs''.extBut _ _ ?_ (N' p hp).1, (N' p hp).2⟩
  rcases List.mem_cons.mp hp with rfl | hp
  · exact Ne.symm hCD
  · exact offC p hp

/-- the end of `x = [..]` for whatever store -/
def FinS (prog : Program) (w : World) (A : Around) (E : Value → Shared → Prop) (h₀ : Heap) (L : Addr) (m : Str → Option Value) (s : Shared) (env : Env) (tg : PySem.Expr) (Q : Flow → Shared → Prop) (ys : List Value) (news : List (Addr × Obj)) : Prop :=
  ∀ D C h tk m', Fr h₀ L h m → News h₀ L h ((D, lst ys) :: news) → Off1 D news → h.Ns C m' → h₀.get? C = none → C ≠ L → D ≠ C → (∀ p ∈ news, p.1 ≠ C) →
    wpAny (model prog w) A (assign tg env (.ref D)) (fun _ s' => ∃ m', s'.heap.Ns C m' ∧ ∀ h'', Heap.SameBut C s'.heap h'' → Q .next { s' with heap := h'' }) E { s with heap := h, toks := tk }
theorem FinS.local_ {y : Str} {py : Pos} {Q : Flow → Shared → Prop} {ys : List Value} {news : List (Addr × Obj)} (hLe : env.locals = L) (hy : env.kindOf y = some .local) (hp : (env.scope.kind == .class || (env.scope.kind == .module && env.locals != env.globals)) = false)
    (fin : FinA h₀ L m s y Q ys news) : FinS prog w A E h₀ L m s env (.Name y py) Q ys news := by
  subst hLe
  intro D C h tk m' F N o1 hn hC₀ hCL hDC offC
  refine wpAny_assign_Name (wpAny_storeName_local hy F.ns (fun h₂ hn₂ hs₂ => ?_) hp)
  have hL₀ : h₀.get? env.locals = none := Heap.get?_none_of_le F.above
  have F₂ : Fr h₀ env.locals h₂ (fun z => if z = y then some (.ref D) else m z) := ⟨hn₂, fun b o e => hs₂.extBut b o (fun q => by rw [q, hL₀] at e; cases e) (F.keep b o e), F.above⟩
  refine ⟨m', hn.sameBut hs₂ hCL, fun h'' hs'' => fin D h'' _ (F₂.change hs'' hCL hC₀) (fun p hp => ?_) o1⟩
  have z : h₂.get? p.1 = some p.2 := hs₂.extBut _ _ (N p hp).2.1 (N p hp).1
  refine ⟨hs''.extBut _ _ ?_ z, (N p hp).2⟩
  rcases List.mem_cons.mp hp with rfl | hp
  · exact hDC
  · exact offC p hp
/-- a cell's store -/
def FinC (h₀ : Heap) (L : Addr) (m : Str → Option Value) (s : Shared) (c : Addr) (oc : Obj) (Q : Flow → Shared → Prop) (ys : List Value) (news : List (Addr × Obj)) : Prop :=
  ∃ g : Addr → Obj → List (Addr × Obj), (∀ D, Off1 D news → UpdF c oc ((D, lst ys) :: news) (g D)) ∧ ∀ (D : Addr) (h : Heap) (tk : Nat) (o' : Obj), Fr h₀ L h m → o'.data = .cell (some (.ref D)) → News h₀ L h (g D o') → Off1 D news → Q .next { s with heap := h, toks := tk }
theorem FinS.cell {y : Str} {py : Pos} {c : Addr} {oc : Obj} {v₀ : Option Value} {Q : Flow → Shared → Prop} {ys : List Value} {news : List (Addr × Obj)} (hk : env.scope.kind = .function) (hx : env.kindOf y = some .cell) (hc : env.cells.lookup y = some c)
    (hd : oc.data = .cell v₀) (fin : FinC h₀ L m s c oc Q ys news) : FinS prog w A E h₀ L m s env (.Name y py) Q ys news := by
  intro D C h tk m' F N o1 hn hC₀ hCL hDC offC
  obtain ⟨g, U, fin⟩ := fin
  obtain ⟨own, rest, e0, hg, h1, h2⟩ := (U D o1).split
  have hin : (c, oc) ∈ (D, lst ys) :: news := e0 ▸ List.mem_append_right _ (.head _)
  have hmem := N (c, oc) hin
  have hCc : C ≠ c := by
    rcases List.mem_cons.mp hin with e | e
    · cases e; exact Ne.symm hDC
    · exact Ne.symm (offC _ e)
  refine wpAny_assign_Name (wpAny_storeName_cell hk hx hc ⟨oc, hmem.1, hd⟩ fun h' hv hs => ?_)
  obtain ⟨o', ho', hd'⟩ := hv
  have F' : Fr h₀ L h' m := ⟨F.ns.sameBut hs (Ne.symm hmem.2.1), fun b ob e => (hs.2 b (fun q => by rw [q, hmem.2.2] at e; cases e)).trans (F.keep b ob e), F.above⟩
  have N' : News h₀ L h' (g D o') := hg o' ▸ (show News h₀ L h (own ++ (c, oc) :: rest) from e0 ▸ N).setAt h1 h2 hs ho'
  refine ⟨m', hn.sameBut hs hCc, fun h'' hs'' => fin D h'' tk o' (F'.change hs'' hCL hC₀) hd' (fun p hp => ?_) o1⟩
  refine ⟨hs''.extBut _ _ ?_ (N' p hp).1, (N' p hp).2⟩
  have off : ∀ q ∈ own ++ (c, oc) :: rest, q.1 ≠ C := fun q hq => by
    rw [← e0] at hq
    rcases List.mem_cons.mp hq with rfl | hq
    · exact hDC
    · exact offC _ hq
  rw [hg o'] at hp
  rcases List.mem_append.mp hp with hp | hp
  · exact off p (List.mem_append_left _ hp)
  · rcases List.mem_cons.mp hp with rfl | hp
    · exact Ne.symm hCc
    · exact off p (List.mem_append_right _ (.tail _ hp))

theorem Assign_ListComp_G {elt target iter : PySem.Expr} {ifs : List PySem.Expr} {y : Str} {py : Pos} {scope : Scope} {cl : List (Str × Addr)} {pos spos : Pos} {Q : Flow → Shared → Prop} (_F₀ : Fr h₀ L s.heap m)
    (hif : ifs.length ≤ 1) (hsw : swapsWith (.ListComp elt [⟨target, iter, ifs, 0⟩] scope pos) (some (.Name y py)) spos.line env = pure true)
    (hclos : closureFor scope env = pure cl) (hcell : ∀ z ∈ scope.names, z.2 ≠ .cell) (hkind : scope.kind = .function)
    (hnames : ∀ z ∈ scope.names, z.2 = .local → scope.names.lookup z.1 = some .local)
    (h : wpAny (model prog w) A (eval iter env) (SrcG prog w A h₀ L m env elt target ifs scope cl (fun s₂ => FinS prog w A E h₀ L m s₂ env (.Name y py) Q)) E s)
    (hs : ∀ x, foldedSetIterable iter env x = pure x) :
    wpAny (model prog w) A (exec (.Assign [.Name y py] (.ListComp elt [⟨target, iter, ifs, 0⟩] scope pos) spos) env) Q E s := by
  rw [exec_Assign_Name_used _ _ _ _ hsw]
  refine wpAny_bind (wpAny_standAt (wpAny_bind ?_))
  show wpAny _ A (do let _ ← comprehension (.ListComp elt [⟨target, iter, ifs, 0⟩] scope pos) scope env _ (newList []) false (eval iter env) (some (assign (.Name y py) env))) _ _ s
  refine wpAny_bind (wpAny_mono (wpAny_comprehension_free (use := some (assign (.Name y py) env)) (Q := fun _ s' => Q .next s') rfl hs hclos hkind hnames
    (wpAny_mono h (fun xv s₁ h₁ => ?_) fun _ _ e => e)) (fun _ s' hq => wpAny_pure (wpAny_pure hq)) fun _ _ e => e)
  obtain ⟨n, S, P, news, F, N, hS, hsz, it, R⟩ := h₁
  refine it _ _ fun I h' ok => ?_
  refine block_G (s₂ := { s₁ with heap := h' }) ok hsz hif hcell hkind F N hS (R h') fun D C h tk m' ys news' F' N' o1 hn hC₀ hD₀ hCL hDL hCD offC fin => ?_
  exact fin D C h tk m' F' N' o1 hn hC₀ hCL (Ne.symm hCD) offC
end
end Mine
end

section -- CN
open PySem PySem.W PyProof.Rows PySem.Calls PySem.Spec PyProof.Rows.LCg
set_option maxRecDepth 100000
namespace Mine
section
variable {prog : Program} {w : World} {A : Around} {E : Value → Shared → Prop} {s : Shared} {h₀ : Heap} {L : Addr} {m : Str → Option Value} {env : Env} {K : Frag}
theorem lies_base {ax : Addr} {o : Obj} {Φ : Obj → Prop} {news : List (Addr × Obj)} (X : K.In h₀) (e : K.lookup ax = some o) (h : Φ o) : Lies h₀ ax Φ news := .inl ⟨o, X _ _ e, h⟩
theorem lies_at {ax : Addr} {o : Obj} {Φ : Obj → Prop} {news : List (Addr × Obj)} (e : h₀.get? ax = some o) (h : Φ o) : Lies h₀ ax Φ news := .inl ⟨o, e, h⟩
theorem lies_news {ax : Addr} {o : Obj} {Φ : Obj → Prop} {news : List (Addr × Obj)} (e : (ax, o) ∈ news) (h : Φ o) : Lies h₀ ax Φ news := .inr ⟨o, e, h⟩
theorem tup_base {t : Addr} {o : Obj} {vs : Array Value} {n : Nat} {news : List (Addr × Obj)} (X : K.In h₀) (e : K.lookup t = some o) (hc : o.cls = .type "tuple") (hd : o.data = .seq vs n) :
    ∀ h : Heap, News h₀ L h news → (∀ b o, h₀.get? b = some o → h.get? b = some o) → IsTup h t vs := fun _ _ k => ⟨o, k _ _ (X _ _ e), hc, n, hd⟩
theorem tup_at {t : Addr} {o : Obj} {vs : Array Value} {n : Nat} {news : List (Addr × Obj)} (e : h₀.get? t = some o) (hc : o.cls = .type "tuple") (hd : o.data = .seq vs n) :
    ∀ h : Heap, News h₀ L h news → (∀ b o, h₀.get? b = some o → h.get? b = some o) → IsTup h t vs := fun _ _ k => ⟨o, k _ _ e, hc, n, hd⟩
theorem tup_news {t : Addr} {o : Obj} {vs : Array Value} {n : Nat} {news : List (Addr × Obj)} (e : (t, o) ∈ news) (hc : o.cls = .type "tuple") (hd : o.data = .seq vs n) :
    ∀ h : Heap, News h₀ L h news → (∀ b o, h₀.get? b = some o → h.get? b = some o) → IsTup h t vs := fun _ N _ => ⟨o, (N _ e).1, hc, n, hd⟩

theorem SrcG.tupleN {elt target : PySem.Expr} {ifs : List PySem.Expr} {scope : Scope} {cl : List (Str × Addr)} {Fin : Shared → List Value → List (Addr × Obj) → Prop} {ax : Addr} {its : Array Value} {news : List (Addr × Obj)} {s₁ : Shared} (n : Nat)
    (hh : A.handled = none) (F : Fr h₀ L s₁.heap m) (N : News h₀ L s₁.heap news) (S : Lies h₀ ax (TupObj its) news) (hn : its.size = n) (hsz : n ≤ sizeLine)
    (h : ∀ g, GRest prog w A h₀ L m env elt target ifs scope cl { s₁ with heap := g } (Lies h₀ ax (TupObj its)) (fun i v => its[i]? = some v) (Fin { s₁ with heap := g }) n 0 [] news) :
    SrcG prog w A h₀ L m env elt target ifs scope cl Fin (.ref ax) s₁ := by subst hn; exact .tuple hh F N S hsz h
theorem SrcG.listN {elt target : PySem.Expr} {ifs : List PySem.Expr} {scope : Scope} {cl : List (Str × Addr)} {Fin : Shared → List Value → List (Addr × Obj) → Prop} {ax : Addr} {its : Array Value} {news : List (Addr × Obj)} {s₁ : Shared} (n : Nat)
    (hh : A.handled = none) (F : Fr h₀ L s₁.heap m) (N : News h₀ L s₁.heap news) (S : Lies h₀ ax (ListObj its) news) (hn : its.size = n) (hsz : n ≤ sizeLine)
    (h : ∀ g, GRest prog w A h₀ L m env elt target ifs scope cl { s₁ with heap := g } (Lies h₀ ax (ListObj its)) (fun i v => its[i]? = some v) (Fin { s₁ with heap := g }) n 0 [] news) :
    SrcG prog w A h₀ L m env elt target ifs scope cl Fin (.ref ax) s₁ := by subst hn; exact .list hh F N S hsz h

theorem GRest.zero {elt target : PySem.Expr} {ifs : List PySem.Expr} {scope : Scope} {cl : List (Str × Addr)} {S : List (Addr × Obj) → Prop} {P : Nat → Value → Prop} {Fin : List Value → List (Addr × Obj) → Prop} {i : Nat} {ys : List Value} {news : List (Addr × Obj)} (h : Fin ys news) :
    GRest prog w A h₀ L m env elt target ifs scope cl s S P Fin 0 i ys news := h
abbrev TurnCtx (h₀ : Heap) (L : Addr) (m : Str → Option Value) (news : List (Addr × Obj)) (ys : List Value) (I : Addr) (oI : Obj) (C : Addr) (oC : Obj) (D : Addr) (h : Heap) : Prop :=
  Fr h₀ L h m ∧ News h₀ L h ((I, oI) :: (C, oC) :: (D, lst ys) :: news) ∧ Off3 I C D news ∧ ((@Ne Nat I C) ∧ (@Ne Nat I D) ∧ (@Ne Nat C D))
theorem GRest.one {elt : PySem.Expr} {x : Str} {px : Pos} {scope : Scope} {cl : List (Str × Addr)} {S : List (Addr × Obj) → Prop} {P : Nat → Value → Prop} {Fin : List Value → List (Addr × Obj) → Prop} {k i : Nat} {ys : List Value} {news : List (Addr × Obj)}
    (hkind : scope.kind = .function) (hx : scope.names.lookup x = some .local)
    (h : ∀ v, P i v → ∀ I oI C oC D m₂ h tk (E' : Value → Shared → Prop), NsObj oC m₂ → m₂ x = some v → Fr h₀ L h m → News h₀ L h ((I, oI) :: (C, oC) :: (D, lst ys) :: news) → Off3 I C D news → ((@Ne Nat I C) ∧ (@Ne Nat I D) ∧ (@Ne Nat C D)) →
      wpAny (model prog w) A (eval elt (compEnvC scope cl C env)) (CompEnd h₀ L m { s with heap := h, toks := tk } I oI C oC D (lst ys) S (fun y news' => GRest prog w A h₀ L m env elt (.Name x px) [] scope cl s S P Fin k (i + 1) (ys ++ [y]) news')) E' { s with heap := h, toks := tk }) :
    GRest prog w A h₀ L m env elt (.Name x px) [] scope cl s S P Fin (k + 1) i ys news :=
  fun v hv => ⟨[(x, v)], fun _ => asg_Name hkind hx, fun I oI C oC D m₂ h₁ tk E' hC hb F N o n => h v hv I oI C oC D m₂ h₁ tk E' hC (hb _ (.head _)) F N o n⟩
theorem GRest.oneIf {elt c : PySem.Expr} {x : Str} {px : Pos} {scope : Scope} {cl : List (Str × Addr)} {S : List (Addr × Obj) → Prop} {P : Nat → Value → Prop} {Fin : List Value → List (Addr × Obj) → Prop} {k i : Nat} {ys : List Value} {news : List (Addr × Obj)}
    (hkind : scope.kind = .function) (hx : scope.names.lookup x = some .local)
    (h : ∀ v, P i v → ∀ I oI C oC D m₂ h tk (E' : Value → Shared → Prop), NsObj oC m₂ → m₂ x = some v → Fr h₀ L h m → News h₀ L h ((I, oI) :: (C, oC) :: (D, lst ys) :: news) → Off3 I C D news → ((@Ne Nat I C) ∧ (@Ne Nat I D) ∧ (@Ne Nat C D)) →
      wpAny (model prog w) A (isTrue c (compEnvC scope cl C env) (eval c (compEnvC scope cl C env))) (fun ok s₃ => if ok = true then
        wpAny (model prog w) A (eval elt (compEnvC scope cl C env)) (CompEnd h₀ L m { s with heap := h, toks := tk } I oI C oC D (lst ys) S (fun y news' => GRest prog w A h₀ L m env elt (.Name x px) [c] scope cl s S P Fin k (i + 1) (ys ++ [y]) news')) E' s₃
        else CompEnd h₀ L m { s with heap := h, toks := tk } I oI C oC D (lst ys) S (fun _ news' => GRest prog w A h₀ L m env elt (.Name x px) [c] scope cl s S P Fin k (i + 1) ys news') .none s₃) E' { s with heap := h, toks := tk }) :
    GRest prog w A h₀ L m env elt (.Name x px) [c] scope cl s S P Fin (k + 1) i ys news :=
  fun v hv => ⟨[(x, v)], fun _ => asg_Name hkind hx, fun I oI C oC D m₂ h₁ tk E' hC hb F N o n => h v hv I oI C oC D m₂ h₁ tk E' hC (hb _ (.head _)) F N o n⟩
theorem GRest.two {elt : PySem.Expr} {x y : Str} {px py tp : Pos} {tk₀ : Nat} {scope : Scope} {cl : List (Str × Addr)} {S : List (Addr × Obj) → Prop} {P : Nat → Value → Prop} {Fin : List Value → List (Addr × Obj) → Prop} {k i : Nat} {ys : List Value} {news : List (Addr × Obj)}
    (hh : A.handled = none) (hkind : scope.kind = .function) (hx : scope.names.lookup x = some .local) (hy : scope.names.lookup y = some .local) (hxy : x ≠ y)
    (h : ∀ v, P i v → ∃ t v₁ v₂, v = .ref t ∧ (∀ h : Heap, News h₀ L h news → (∀ b o, h₀.get? b = some o → h.get? b = some o) → IsTup h t #[v₁, v₂]) ∧ ∀ I oI C oC D m₂ h tk (E' : Value → Shared → Prop), NsObj oC m₂ → m₂ x = some v₁ → m₂ y = some v₂ → Fr h₀ L h m → News h₀ L h ((I, oI) :: (C, oC) :: (D, lst ys) :: news) → Off3 I C D news → ((@Ne Nat I C) ∧ (@Ne Nat I D) ∧ (@Ne Nat C D)) →
      wpAny (model prog w) A (eval elt (compEnvC scope cl C env)) (CompEnd h₀ L m { s with heap := h, toks := tk } I oI C oC D (lst ys) S (fun y' news' => GRest prog w A h₀ L m env elt (.Tuple [.Name x px, .Name y py] tk₀ tp) [] scope cl s S P Fin k (i + 1) (ys ++ [y']) news')) E' { s with heap := h, toks := tk }) :
    GRest prog w A h₀ L m env elt (.Tuple [.Name x px, .Name y py] tk₀ tp) [] scope cl s S P Fin (k + 1) i ys news := fun v hv => by
  obtain ⟨t, v₁, v₂, rfl, ht, h⟩ := h v hv
  exact ⟨_, fun C => asg_pair hh ht hkind hx hy hxy, fun I oI C oC D m₂ h₁ tk E' hC hb F N o n => h I oI C oC D m₂ h₁ tk E' hC (hb _ (.head _)) (hb _ (.tail _ (.head _))) F N o n⟩
theorem GRest.twoIf {elt c : PySem.Expr} {x y : Str} {px py tp : Pos} {tk₀ : Nat} {scope : Scope} {cl : List (Str × Addr)} {S : List (Addr × Obj) → Prop} {P : Nat → Value → Prop} {Fin : List Value → List (Addr × Obj) → Prop} {k i : Nat} {ys : List Value} {news : List (Addr × Obj)}
    (hh : A.handled = none) (hkind : scope.kind = .function) (hx : scope.names.lookup x = some .local) (hy : scope.names.lookup y = some .local) (hxy : x ≠ y)
    (h : ∀ v, P i v → ∃ t v₁ v₂, v = .ref t ∧ (∀ h : Heap, News h₀ L h news → (∀ b o, h₀.get? b = some o → h.get? b = some o) → IsTup h t #[v₁, v₂]) ∧ ∀ I oI C oC D m₂ h tk (E' : Value → Shared → Prop), NsObj oC m₂ → m₂ x = some v₁ → m₂ y = some v₂ → Fr h₀ L h m → News h₀ L h ((I, oI) :: (C, oC) :: (D, lst ys) :: news) → Off3 I C D news → ((@Ne Nat I C) ∧ (@Ne Nat I D) ∧ (@Ne Nat C D)) →
      wpAny (model prog w) A (isTrue c (compEnvC scope cl C env) (eval c (compEnvC scope cl C env))) (fun ok s₃ => if ok = true then
        wpAny (model prog w) A (eval elt (compEnvC scope cl C env)) (CompEnd h₀ L m { s with heap := h, toks := tk } I oI C oC D (lst ys) S (fun y' news' => GRest prog w A h₀ L m env elt (.Tuple [.Name x px, .Name y py] tk₀ tp) [c] scope cl s S P Fin k (i + 1) (ys ++ [y']) news')) E' s₃
        else CompEnd h₀ L m { s with heap := h, toks := tk } I oI C oC D (lst ys) S (fun _ news' => GRest prog w A h₀ L m env elt (.Tuple [.Name x px, .Name y py] tk₀ tp) [c] scope cl s S P Fin k (i + 1) ys news') .none s₃) E' { s with heap := h, toks := tk }) :
    GRest prog w A h₀ L m env elt (.Tuple [.Name x px, .Name y py] tk₀ tp) [c] scope cl s S P Fin (k + 1) i ys news := fun v hv => by
  obtain ⟨t, v₁, v₂, rfl, ht, h⟩ := h v hv
  exact ⟨_, fun C => asg_pair hh ht hkind hx hy hxy, fun I oI C oC D m₂ h₁ tk E' hC hb F N o n => h I oI C oC D m₂ h₁ tk E' hC (hb _ (.head _)) (hb _ (.tail _ (.head _))) F N o n⟩
theorem GRest.three {elt : PySem.Expr} {x y z : Str} {px py pz tp : Pos} {tk₀ : Nat} {scope : Scope} {cl : List (Str × Addr)} {S : List (Addr × Obj) → Prop} {P : Nat → Value → Prop} {Fin : List Value → List (Addr × Obj) → Prop} {k i : Nat} {ys : List Value} {news : List (Addr × Obj)}
    (hh : A.handled = none) (hkind : scope.kind = .function) (hx : scope.names.lookup x = some .local) (hy : scope.names.lookup y = some .local) (hz : scope.names.lookup z = some .local) (hxy : x ≠ y) (hxz : x ≠ z) (hyz : y ≠ z)
    (h : ∀ v, P i v → ∃ t v₁ v₂ v₃, v = .ref t ∧ (∀ h : Heap, News h₀ L h news → (∀ b o, h₀.get? b = some o → h.get? b = some o) → IsTup h t #[v₁, v₂, v₃]) ∧ ∀ I oI C oC D m₂ h tk (E' : Value → Shared → Prop), NsObj oC m₂ → m₂ x = some v₁ → m₂ y = some v₂ → m₂ z = some v₃ → Fr h₀ L h m → News h₀ L h ((I, oI) :: (C, oC) :: (D, lst ys) :: news) → Off3 I C D news → ((@Ne Nat I C) ∧ (@Ne Nat I D) ∧ (@Ne Nat C D)) →
      wpAny (model prog w) A (eval elt (compEnvC scope cl C env)) (CompEnd h₀ L m { s with heap := h, toks := tk } I oI C oC D (lst ys) S (fun y' news' => GRest prog w A h₀ L m env elt (.Tuple [.Name x px, .Name y py, .Name z pz] tk₀ tp) [] scope cl s S P Fin k (i + 1) (ys ++ [y']) news')) E' { s with heap := h, toks := tk }) :
    GRest prog w A h₀ L m env elt (.Tuple [.Name x px, .Name y py, .Name z pz] tk₀ tp) [] scope cl s S P Fin (k + 1) i ys news := fun v hv => by
  obtain ⟨t, v₁, v₂, v₃, rfl, ht, h⟩ := h v hv
  exact ⟨_, fun C => asg_triple hh ht hkind hx hy hz hxy hxz hyz, fun I oI C oC D m₂ h₁ tk E' hC hb F N o n => h I oI C oC D m₂ h₁ tk E' hC (hb _ (.head _)) (hb _ (.tail _ (.head _))) (hb _ (.tail _ (.tail _ (.head _)))) F N o n⟩
end
end Mine
end

section -- CO
open PySem PySem.W PyProof.Rows PySem.Calls PySem.Spec PyProof.Rows.LCg
set_option maxRecDepth 100000
namespace Mine
section
variable {prog : Program} {w : World} {A : Around} {E : Value → Shared → Prop} {s : Shared} {h₀ : Heap} {L : Addr} {m : Str → Option Value} {env : Env} {K : Frag} {news : List (Addr × Obj)}
/-- an item of a list of the ledger -/
theorem sub_list {value slice : PySem.Expr} {ax : Addr} {its : Array Value} {n : Nat} {k : Int} {t : Tok} {v : Value} {Q : Value → Shared → Prop} (N : News h₀ L s.heap news) (hm : (ax, ({ cls := .type "list", data := .seq its n } : Obj)) ∈ news)
    (h0 : 0 ≤ k) (hfit : k < 2 ^ 63) (hx : its.toList[k.toNat]? = some v) (h : Q v s)
    (hs : subscripted slice false (.ref ax) (.int k t) = operate [.ref ax, .int k t] (getItem (.ref ax) (.int k t))) :
    wpAny (model prog w) A (subscriptTail value slice (.ref ax) (.int k t)) Q E s :=
  have hl : s.heap.IsList ax its := ⟨_, (N _ hm).1, rfl, n, rfl⟩
  subscriptTail_builtinR hl.typeIs slot_list_getitem.lookup (wpAny_getItem_list (Q := fun r s' => r = v ∧ Q r s') hl h0 hfit (by rw [← Array.getElem?_toList]; exact hx) ⟨rfl, h⟩) hs
end
end Mine
end

section -- ZT
open PySem PySem.W PyProof.Rows PySem.Calls PySem.Spec PyProof.Rows.LCg
open Sem (wp)
set_option maxRecDepth 100000
namespace Mine
section
variable {prog : Program} {w : World} {A : Around} {E : Value → Shared → Prop} {s : Shared}
theorem at_tupIter {h h' : Heap} {a t i} (x : h.IsTupleIter a t i) (e : ∀ o, h.get? a = some o → h'.get? a = some o) : h'.IsTupleIter a t i := let ⟨o, ho, r⟩ := x; ⟨o, e _ ho, r⟩
theorem at_tup {h h' : Heap} {a items} (x : h.IsTuple a items) (e : ∀ o, h.get? a = some o → h'.get? a = some o) : h'.IsTuple a items := let ⟨o, ho, r⟩ := x; ⟨o, e _ ho, r⟩
theorem nextOf_tup {it t : Addr} {i : Nat} {items} {x : Value} {Q : Value → Shared → Prop} (hit : s.heap.IsTupleIter it t i) (ht : s.heap.IsTuple t items) (hx : items[i]? = some x)
    (hQ : ∀ h', h'.IsTupleIter it t (i + 1) → Heap.SameBut it s.heap h' → Q x { s with heap := h' }) : wpAny (model prog w) A (Builtin.SmallTypes.nextOf (.ref it)) Q E s := by
  obtain ⟨o, ho, hc, hd⟩ := id hit
  obtain ⟨ol, hol, _, nl, hdl⟩ := ht
  unfold Builtin.SmallTypes.nextOf
  refine wpAny_bind (wpAny_callSpecial?_slot (name := Str.ofString "__next__") hit.typeIs F.slot_tuple_iterator_next
    (wpAny_call_entry F.slot_tuple_iterator_next hit.typeIs F.entry_tuple_iterator_next ?_ (F.args_tuple_iterator_next_1 _)))
  show wpAny _ _ (field (.ref it) 0 >>= _) _ _ s
  refine wpAny_bind (wpAny_field ho hd (x := .ref t) rfl ?_)
  show wpAny _ _ (if (Value.ref t == Value.none) = true then _ else _) _ _ s
  rw [if_neg (show ¬ ((Value.ref t == Value.none) = true) from Bool.false_ne_true)]
  show wpAny _ _ (field (.ref it) 1 >>= _) _ _ s
  refine wpAny_bind (wpAny_field ho hd (x := .int i 0) rfl ?_)
  show wpAny _ _ (seqItems? (.ref t) >>= _) _ _ s
  refine wpAny_bind (wpAny_seqItems hol hdl ?_)
  simp only [Int.toNat_natCast, hx]
  refine wpAny_bind (wpAny_setField ho hd (by simp) (wpAny_pure ⟨x, rfl, wpAny_pure (hQ _ ?_ (Heap.SameBut.update ..))⟩))
  exact ⟨_, Heap.get?_update_self _ ho (Obj.isFreed_of_fields (Obj.data_mapFields hd _)), (Obj.cls_mapFields ..).trans hc, by
    rw [Obj.data_mapFields hd]; simp [rawInt]⟩
theorem nextOf_tup_end {it t : Addr} {i : Nat} {items} {Q : Value → Shared → Prop} (hh : A.handled = none) (hit : s.heap.IsTupleIter it t i) (ht : s.heap.IsTuple t items) (hx : items[i]? = none)
    (hE : ∀ h' e, Heap.ExtBut it s.heap h' → (∃ o, h'.get? e = some o ∧ o.cls = .type "StopIteration") → E (.ref e) { s with heap := h' }) : wpAny (model prog w) A (Builtin.SmallTypes.nextOf (.ref it)) Q E s := by
  obtain ⟨o, ho, hc, hd⟩ := id hit
  obtain ⟨ol, hol, _, nl, hdl⟩ := ht
  unfold Builtin.SmallTypes.nextOf
  refine wpAny_bind (wpAny_callSpecial?_slot (name := Str.ofString "__next__") hit.typeIs F.slot_tuple_iterator_next
    (wpAny_call_entry F.slot_tuple_iterator_next hit.typeIs F.entry_tuple_iterator_next ?_ (F.args_tuple_iterator_next_1 _)))
  show wpAny _ _ (field (.ref it) 0 >>= _) _ _ s
  refine wpAny_bind (wpAny_field ho hd (x := .ref t) rfl ?_)
  show wpAny _ _ (if (Value.ref t == Value.none) = true then _ else _) _ _ s
  rw [if_neg (show ¬ ((Value.ref t == Value.none) = true) from Bool.false_ne_true)]
  show wpAny _ _ (field (.ref it) 1 >>= _) _ _ s
  refine wpAny_bind (wpAny_field ho hd (x := .int i 0) rfl ?_)
  show wpAny _ _ (seqItems? (.ref t) >>= _) _ _ s
  refine wpAny_bind (wpAny_seqItems hol hdl ?_)
  simp only [Int.toNat_natCast, hx]
  refine wpAny_bind (wpAny_rule (wpAny_bind (wpAny_setField ho hd (by simp) ?_)))
  show wpAny _ _ (newExc (.type "StopIteration") [] >>= _) _ _ _
  refine wpAny_bind ?_
  simp only [newExc, newTuple]
  refine wpAny_bind (wpAny_newObj_type ?_ (by size_fits))
  refine wpAny_bind (m := firstArgMember _ _) (wpAny_of_eq (a := Value.none) (by first | rfl | (simp only [firstArgMember]; rfl)) ?_)
  refine wpAny_newObj_type ?_ (by size_fits)
  simp only [raiseNew]
  refine wpAny_bind (wpAny_handled ?_)
  first | rw [show A.in1.handled = none from hh] | rw [hh]
  refine wpAny_bind (wpAny_pure (wpAny_throw ?_))
  exact hE _ _ (((Heap.SameBut.update ..).extBut.push _).push _) ⟨_, Heap.get?_push_size _ rfl, rfl⟩
end

section
variable {prog : Program} {w : World} {A : Around} {E : Value → Shared → Prop} {s : Shared}
theorem zipTL_item {z TI TO i1 i2 l1 l2 : Addr} {k1 k2 : Nat} {xs ys : Array Value} {x y a b : Value} {Q : Value → Shared → Prop} (D : ZipApart z TI TO i1 i2 l1 l2)
    (hz : IsZip s.heap z TI TO .none) (hTI : IsPair s.heap TI (.ref i1) (.ref i2)) (hTO : IsPair s.heap TO a b)
    (h1 : s.heap.IsTupleIter i1 l1 k1) (h2 : s.heap.IsListIter i2 l2 k2) (hl1 : s.heap.IsTuple l1 xs) (hl2 : s.heap.IsList l2 ys) (hx : xs[k1]? = some x) (hy : ys[k2]? = some y)
    (hQ : ∀ h', IsZip h' z TI TO (rawInt s.heap.objs.size) → IsPair h' TO x y → h'.IsTupleIter i1 l1 (k1 + 1) → h'.IsListIter i2 l2 (k2 + 1) → IsPair h' s.heap.objs.size x y →
      (∀ c o, c ≠ z → c ≠ TO → c ≠ i1 → c ≠ i2 → s.heap.get? c = some o → h'.get? c = some o) → Q (.ref s.heap.objs.size) { s with heap := h' }) :
    wpAny (model prog w) A (Builtin.«zip.__next__» ⟨[.ref z], []⟩) (fun fin s' => ∃ v, fin = .done (.ret v) ∧ Q v s') E s := by
  show wpAny _ _ (field (.ref z) 2 >>= _) _ _ _
  refine wpAny_bind (wpAny_field hz rfl (x := .bool false) rfl ?_)
  show wpAny _ _ (field (.ref z) 3 >>= _) _ _ _
  refine wpAny_bind (wpAny_field hz rfl (x := .ref TI) rfl ?_)
  refine wpAny_bind (wpAny_seqItems hTI rfl ?_)
  show wpAny _ _ (Builtin.SmallTypes.ownedTupleIsFree (.ref z) >>= _) _ _ _
  refine wpAny_bind ?_
  unfold Builtin.SmallTypes.ownedTupleIsFree
  refine wpAny_bind (wpAny_field hz rfl (x := .none) rfl (wpAny_pure ?_))
  simp only [if_true]
  refine wpAny_bind (wpAny_rule ?_)
  refine wpAny_bind (wpAny_field hz rfl (x := .ref TO) rfl ?_)
  refine wpAny_bind (wpAny_setField_rec hz (by simp) fun h₁ hz₁ hs₁ => ?_)
  replace hz₁ : IsZip h₁ z TI TO .ellipsis := hz₁
  refine wpAny_bind ?_
  simp only [List.zipIdx_cons, List.zipIdx_nil, List.forIn_cons, List.forIn_nil]
  refine wpAny_bind (wpAny_bind (wpAny_onRaise ?_))
  show wpAny _ _ (Builtin.SmallTypes.nextOf (.ref i1) >>= _) _ _ _
  refine wpAny_bind (nextOf_tup (h1.extBut hs₁.extBut D.i1z) (hl1.extBut hs₁.extBut D.l1z) hx fun h₂ h1₂ hs₂ => wpAny_pure ?_)
  have hTO₂ : IsPair h₂ TO a b := hs₂.extBut _ _ D.TOi1 (hs₁.extBut _ _ D.TOz hTO)
  refine wpAny_bind (wpAny_seqItems hTO₂ rfl ?_)
  refine wpAny_bind (wpAny_updateSeq_pair hTO₂ fun h₃ hTO₃ hs₃ => ?_)
  replace hTO₃ : IsPair h₃ TO x b := hTO₃
  refine wpAny_bind (wpAny_letGo (wpAny_pure ?_))
  refine wpAny_bind (wpAny_bind (wpAny_onRaise ?_))
  show wpAny _ _ (Builtin.SmallTypes.nextOf (.ref i2) >>= _) _ _ _
  refine wpAny_bind (wpAny_nextOf_list_item (((h2.extBut hs₁.extBut D.i2z).extBut hs₂.extBut D.i12.symm).extBut hs₃.extBut D.TOi2.symm)
    (((hl2.extBut hs₁.extBut D.l2z).extBut hs₂.extBut D.l2i1).extBut hs₃.extBut D.l2TO) hy fun h₄ h2₄ hs₄ => wpAny_pure ?_)
  have hTO₄ : IsPair h₄ TO x b := hs₄.extBut _ _ D.TOi2 hTO₃
  refine wpAny_bind (wpAny_seqItems hTO₄ rfl ?_)
  refine wpAny_bind (wpAny_updateSeq_pair hTO₄ fun h₅ hTO₅ hs₅ => ?_)
  replace hTO₅ : IsPair h₅ TO x y := hTO₅
  refine wpAny_bind (wpAny_letGo (wpAny_pure (wpAny_pure ?_)))
  refine wpAny_bind (wpAny_seqItems hTO₅ rfl ?_)
  refine wpAny_bind (wpAny_newTuple ?_)
  have hsz : h₅.objs.size = s.heap.objs.size := by rw [hs₅.1, hs₄.1, hs₃.1, hs₂.1, hs₁.1]
  have hz₅ : IsZip h₅ z TI TO .ellipsis := hs₅.extBut _ _ D.TOz.symm (hs₄.extBut _ _ D.i2z.symm (hs₃.extBut _ _ D.TOz.symm (hs₂.extBut _ _ D.i1z.symm hz₁)))
  have hk₅ : ∀ c o, c ≠ z → c ≠ TO → c ≠ i1 → c ≠ i2 → s.heap.get? c = some o → h₅.get? c = some o := fun c o c1 c2 c3 c4 e =>
    hs₅.extBut _ _ c2 (hs₄.extBut _ _ c4 (hs₃.extBut _ _ c2 (hs₂.extBut _ _ c3 (hs₁.extBut _ _ c1 e))))
  have h1₅ : h₅.IsTupleIter i1 l1 (k1 + 1) := ((h1₂.extBut hs₃.extBut D.TOi1.symm).extBut hs₄.extBut D.i12).extBut hs₅.extBut D.TOi1.symm
  have h2₅ : h₅.IsListIter i2 l2 (k2 + 1) := h2₄.extBut hs₅.extBut D.TOi2.symm
  have hzlt : z < h₅.objs.size := Heap.lt_size hz₅
  show wpAny _ _ (Builtin.SmallTypes.ownedTupleHandOut (.ref z) (.ref h₅.objs.size) >>= _) _ _ _
  refine wpAny_bind ?_
  unfold Builtin.SmallTypes.ownedTupleHandOut
  have hz₆ : IsZip (h₅.push { cls := .type "tuple", data := .seq #[x, y] }) z TI TO .ellipsis := Heap.get?_push_of_some _ hz₅
  refine wpAny_bind (wpAny_setField_rec hz₆ (by simp) fun h₇ hz₇ hs₇ => ?_)
  replace hz₇ : IsZip h₇ z TI TO (rawInt h₅.objs.size) := hz₇
  refine wpAny_setField_rec hz₇ (by simp) fun h₈ hz₈ hs₈ => ?_
  replace hz₈ : IsZip h₈ z TI TO (rawInt h₅.objs.size) := hz₈
  have up : ∀ c o, c ≠ z → h₅.get? c = some o → h₈.get? c = some o := fun c o c1 e => hs₈.extBut _ _ c1 (hs₇.extBut _ _ c1 (Heap.get?_push_of_some _ e))
  have hT₈ : IsPair h₈ h₅.objs.size x y := hs₈.extBut _ _ (Nat.ne_of_gt hzlt) (hs₇.extBut _ _ (Nat.ne_of_gt hzlt) (Heap.get?_push_size _ rfl))
  rw [hsz] at hz₈ hT₈
  refine wpAny_pure ⟨_, rfl, ?_⟩
  show Q (.ref h₅.objs.size) _
  rw [hsz]
  exact hQ h₈ hz₈ (up _ _ D.TOz hTO₅) (at_tupIter h1₅ fun o e => up _ o D.i1z e) (h2₅.at fun o e => up _ o D.i2z e) hT₈ fun c o c1 c2 c3 c4 e => up c o c1 (hk₅ c o c1 c2 c3 c4 e)
theorem zipTL_end {z TI TO i1 i2 l1 l2 : Addr} {k1 : Nat} {xs : Array Value} {a b : Value} {Q : Fin → Shared → Prop} (hh : A.handled = none) (D : ZipApart z TI TO i1 i2 l1 l2)
    (hz : IsZip s.heap z TI TO .none) (hTI : IsPair s.heap TI (.ref i1) (.ref i2)) (hTO : IsPair s.heap TO a b)
    (h1 : s.heap.IsTupleIter i1 l1 k1) (hl1 : s.heap.IsTuple l1 xs) (hx : xs[k1]? = none)
    (hE : ∀ h' e, (∀ c o, c ≠ z → c ≠ TO → c ≠ i1 → c ≠ i2 → s.heap.get? c = some o → h'.get? c = some o) → (∃ o, h'.get? e = some o ∧ o.cls = .type "StopIteration") → E (.ref e) { s with heap := h' }) :
    wpAny (model prog w) A (Builtin.«zip.__next__» ⟨[.ref z], []⟩) Q E s := by
  show wpAny _ _ (field (.ref z) 2 >>= _) _ _ _
  refine wpAny_bind (wpAny_field hz rfl (x := .bool false) rfl ?_)
  show wpAny _ _ (field (.ref z) 3 >>= _) _ _ _
  refine wpAny_bind (wpAny_field hz rfl (x := .ref TI) rfl ?_)
  refine wpAny_bind (wpAny_seqItems hTI rfl ?_)
  show wpAny _ _ (Builtin.SmallTypes.ownedTupleIsFree (.ref z) >>= _) _ _ _
  refine wpAny_bind ?_
  unfold Builtin.SmallTypes.ownedTupleIsFree
  refine wpAny_bind (wpAny_field hz rfl (x := .none) rfl (wpAny_pure ?_))
  simp only [if_true]
  refine wpAny_bind (wpAny_rule ?_)
  refine wpAny_bind (wpAny_field hz rfl (x := .ref TO) rfl ?_)
  refine wpAny_bind (wpAny_setField_rec hz (by simp) fun h₁ hz₁ hs₁ => ?_)
  replace hz₁ : IsZip h₁ z TI TO .ellipsis := hz₁
  refine wpAny_bind ?_
  simp only [List.zipIdx_cons, List.zipIdx_nil, List.forIn_cons, List.forIn_nil]
  refine wpAny_bind (wpAny_bind (wpAny_onRaise ?_))
  show wpAny _ _ (Builtin.SmallTypes.nextOf (.ref i1) >>= _) _ _ _
  refine wpAny_bind (nextOf_tup_end hh (h1.extBut hs₁.extBut D.i1z) (hl1.extBut hs₁.extBut D.l1z) hx fun h₂ e hs₂ he => ?_)
  obtain ⟨oe, hoe, hce⟩ := he
  have hz₂ : IsZip h₂ z TI TO .ellipsis := hs₂ _ _ D.i1z.symm hz₁
  have hez : e ≠ z := fun x => by subst x; rw [hz₂] at hoe; cases hoe; simp at hce
  refine wpAny_setField_rec hz₂ (by simp) fun h₃ _ hs₃ => hE h₃ e (fun c o c1 _ c3 _ x => hs₃.extBut _ _ c1 (hs₂ _ _ c3 (hs₁.extBut _ _ c1 x))) ⟨oe, hs₃.extBut _ _ hez hoe, hce⟩

end
abbrev tlH1 (h : Heap) (l1 : Addr) : Heap := h.push { cls := .type "tuple_iterator", data := .fields #[.ref l1, .int 0 0] }
abbrev tlH2 (h : Heap) (l1 l2 : Addr) : Heap := (tlH1 h l1).push { cls := .type "list_iterator", data := .fields #[.ref l2, .int 0 0] }
abbrev tlH3 (h : Heap) (l1 l2 : Addr) : Heap := (tlH2 h l1 l2).push { cls := .type "tuple", data := .seq #[.ref h.objs.size, .ref (tlH1 h l1).objs.size] }
abbrev tlH4 (h : Heap) (l1 l2 : Addr) : Heap := (tlH3 h l1 l2).push { cls := .type "tuple", data := .seq #[.none, .none] }
abbrev tlH5 (h : Heap) (l1 l2 : Addr) : Heap := (tlH4 h l1 l2).push { cls := .type "zip", data := .fields #[.none, .bool false, .bool false, .ref (tlH2 h l1 l2).objs.size, .ref (tlH3 h l1 l2).objs.size] }
theorem meets_zipTL_new (l1 l2 : Addr) (xs ys : Array Value) :
    Meets (Builtin.«zip.__new__» ⟨[.type "zip", .ref l1, .ref l2], []⟩) (fun _ R s => s.heap.IsTuple l1 xs ∧ s.heap.IsList l2 ys ∧
      R (.ok (.ret (.ref (tlH4 s.heap l1 l2).objs.size))) { s with heap := tlH5 s.heap l1 l2 }) :=
  .of_wp fun prog w A R s h => by
    obtain ⟨hp, g, d, tk, os⟩ := s; obtain ⟨hl1, hl2, h⟩ := h
    have hsub := sub_zip
    have hL1 : Heap.IsTuple (Shared.heap ⟨hp, g, d, tk, os⟩) l1 xs := hl1
    have hL2 : Heap.IsList (Shared.heap ⟨hp.push { cls := .type "tuple_iterator", data := .fields #[.ref l1, .int 0 0] }, g, d, tk, os⟩) l2 ys := Heap.IsList.push hl2 _
    wp_walk using wpAny_pyIter_tuple hL1, wpAny_pyIter_list hL2
    exact ⟨_, rfl, h⟩

section
variable {prog : Program} {w : World} {A : Around} {E : Value → Shared → Prop} {s : Shared}
abbrev TLSt (z TI TO i1 i2 l1 l2 : Addr) (xs ys : Array Value) (i : Nat) (h : Heap) : Prop :=
  IsZip h z TI TO .none ∧ IsPair h TI (.ref i1) (.ref i2) ∧ (∃ a b, IsPair h TO a b) ∧ h.IsTupleIter i1 l1 i ∧ h.IsListIter i2 l2 i ∧ h.IsTuple l1 xs ∧ h.IsList l2 ys
theorem call_zipTL {l1 l2 : Addr} {xs ys : Array Value} {Q : Value → Shared → Prop} (hl1 : s.heap.IsTuple l1 xs) (hl2 : s.heap.IsList l2 ys)
    (h : ∀ h', TLSt (s.heap.objs.size + 4) (s.heap.objs.size + 2) (s.heap.objs.size + 3) s.heap.objs.size (s.heap.objs.size + 1) l1 l2 xs ys 0 h' →
      (∀ c o, s.heap.get? c = some o → h'.get? c = some o) → Q (.ref (s.heap.objs.size + 4)) { s with heap := h' }) :
    wpAny (model prog w) A (call (.type "zip") [.ref l1, .ref l2]) Q E s := by
  refine callType_new F.called_zip (by decide) (F.typeCall_zip_2 _ _) (F.newCall_zip_2 _ _) (fun obj => F.args_object_init_3 obj _ _) F.entry_zip_new
    (meets_zipTL_new l1 l2 xs ys) ⟨hl1, hl2, ?_⟩
  have z1 : (tlH1 s.heap l1).objs.size = s.heap.objs.size + 1 := Heap.size_push ..
  have z2 : (tlH2 s.heap l1 l2).objs.size = s.heap.objs.size + 2 := by rw [Heap.size_push, z1]
  have z3 : (tlH3 s.heap l1 l2).objs.size = s.heap.objs.size + 3 := by rw [Heap.size_push, z2]
  have z4 : (tlH4 s.heap l1 l2).objs.size = s.heap.objs.size + 4 := by rw [Heap.size_push, z3]
  have g5 : (tlH5 s.heap l1 l2).get? (tlH4 s.heap l1 l2).objs.size = some _ := Heap.get?_push_size _ rfl
  have g4 : (tlH5 s.heap l1 l2).get? (tlH3 s.heap l1 l2).objs.size = some _ := Heap.get?_push_of_some _ (Heap.get?_push_size _ rfl)
  have g3 : (tlH5 s.heap l1 l2).get? (tlH2 s.heap l1 l2).objs.size = some _ := Heap.get?_push_of_some _ (Heap.get?_push_of_some _ (Heap.get?_push_size _ rfl))
  have g2 : (tlH5 s.heap l1 l2).get? (tlH1 s.heap l1).objs.size = some _ := Heap.get?_push_of_some _ (Heap.get?_push_of_some _ (Heap.get?_push_of_some _ (Heap.get?_push_size _ rfl)))
  have g1 : (tlH5 s.heap l1 l2).get? s.heap.objs.size = some _ := Heap.get?_push_of_some _ (Heap.get?_push_of_some _ (Heap.get?_push_of_some _ (Heap.get?_push_of_some _ (Heap.get?_push_size _ rfl))))
  have up : ∀ c o, s.heap.get? c = some o → (tlH5 s.heap l1 l2).get? c = some o := fun c o x =>
    Heap.get?_push_of_some _ (Heap.get?_push_of_some _ (Heap.get?_push_of_some _ (Heap.get?_push_of_some _ (Heap.get?_push_of_some _ x))))
  show _ ∧ _
  rw [z2, z3, z4] at g5
  rw [z1, z2] at g3
  rw [z3] at g4
  rw [z1] at g2
  rw [z4]
  exact ⟨⟨_, g5, rfl⟩, h _ ⟨g5, g3, ⟨_, _, g4⟩, ⟨_, g1, rfl, rfl⟩, ⟨_, g2, rfl, rfl⟩, at_tup hl1 fun o e => up _ o e, hl2.at fun o e => up _ o e⟩ up⟩

theorem walks_zipTL (hh : A.handled = none) (z TI TO i1 i2 l1 l2 : Addr) (D : ZipApart z TI TO i1 i2 l1 l2) (xs ys : Array Value) (hxy : xs.size = ys.size) :
    WalksT prog w A z [z, TI, TO, i1, i2, l1, l2] [z, TO, i1, i2] xs.size
      (fun i vals => ∃ x y, xs[i]? = some x ∧ ys[i]? = some y ∧ vals = #[x, y])
      (TLSt z TI TO i1 i2 l1 l2 xs ys)
      (fun i T h => IsZip h z TI TO (rawInt T) ∧ IsPair h TI (.ref i1) (.ref i2) ∧ (∃ a b, IsPair h TO a b) ∧ h.IsTupleIter i1 l1 (i + 1) ∧ h.IsListIter i2 l2 (i + 1) ∧ h.IsTuple l1 xs ∧ h.IsList l2 ys ∧
        T ≠ z ∧ T ≠ TO ∧ T ≠ i1 ∧ T ≠ i2) where
  sub := fun c hc => by simp at hc ⊢; rcases hc with rfl | rfl | rfl | rfl <;> simp
  frame := fun i h h' hst hk => by
    obtain ⟨hz, hTI, ⟨a, b, hTO⟩, h1, h2, hl1, hl2⟩ := hst
    exact ⟨hk z (by simp) _ hz, hk TI (by simp) _ hTI, ⟨a, b, hk TO (by simp) _ hTO⟩, at_tupIter h1 fun o e => hk i1 (by simp) o e, h2.at fun o e => hk i2 (by simp) o e,
      at_tup hl1 fun o e => hk l1 (by simp) o e, hl2.at fun o e => hk l2 (by simp) o e⟩
  item := fun i s Q E hi hst hQ => by
    obtain ⟨hz, hTI, ⟨a, b, hTO⟩, h1, h2, hl1, hl2⟩ := hst
    have hiy : i < ys.size := hxy ▸ hi
    have hT : s.TypeIs (.ref z) "zip" := ⟨_, hz, rfl⟩
    unfold pyNext
    refine wpAny_bind (wpAny_attempt (wpAny_callSpecial?_slot (name := Str.ofString "__next__") hT F.slot_zip_next
      (wpAny_call_entry F.slot_zip_next hT F.entry_zip_next
        (zipTL_item D hz hTI hTO h1 h2 hl1 hl2 (Array.getElem?_eq_getElem hi) (Array.getElem?_eq_getElem hiy) fun h' a1 a2 a3 a4 a5 hk => wpAny_pure ?_) (F.args_zip_next_1 _))))
    have lt : ∀ {c o}, s.heap.get? c = some o → s.heap.objs.size ≠ c := fun e => Nat.ne_of_gt (Heap.lt_size e)
    exact hQ s.heap.objs.size #[xs[i], ys[i]] h' s.toks ⟨_, _, Array.getElem?_eq_getElem hi, Array.getElem?_eq_getElem hiy, rfl⟩ (Nat.le_refl _) ⟨_, a5, rfl, _, rfl⟩
      ⟨a1, hk _ _ D.TIz D.TITO D.TIi1 D.TIi2 hTI, ⟨_, _, a2⟩, a3, a4, at_tup hl1 fun o e => hk _ o D.l1z D.l1TO D.l1i1 D.l1i2 e, hl2.at fun o e => hk _ o D.l2z D.l2TO D.l2i1 D.l2i2 e,
        lt hz, lt hTO, (by obtain ⟨_, e, _⟩ := h1; exact lt e), (by obtain ⟨_, e, _⟩ := h2; exact lt e)⟩
      fun c o hc e => hk c o (fun x => hc (by simp [x])) (fun x => hc (by simp [x])) (fun x => hc (by simp [x])) (fun x => hc (by simp [x])) e
  go := fun elts k pos i T s Q E hm hQ => by
    obtain ⟨hz, hTI, ⟨a, b, hTO⟩, h1, h2, hl1, hl2, _⟩ := hm
    refine wpAny_letOwnedTupleGo_zip hz fun h' hz' hs' => hQ h' ⟨hz', hs'.extBut _ _ D.TIz hTI, ⟨a, b, hs'.extBut _ _ D.TOz hTO⟩, h1.extBut hs'.extBut D.i1z, h2.extBut hs'.extBut D.i2z,
      hl1.extBut hs'.extBut D.l1z, hl2.extBut hs'.extBut D.l2z⟩ fun c o hc e => hs'.extBut _ _ (fun x => hc (by simp [x])) e
  apart := fun i T h hm hT => by
    obtain ⟨_, _, _, _, _, _, _, t1, t2, t3, t4⟩ := hm
    simp at hT
    rcases hT with rfl | rfl | rfl | rfl
    · exact t1 rfl
    · exact t2 rfl
    · exact t3 rfl
    · exact t4 rfl
  done := fun s Q E hst hQ => by
    obtain ⟨hz, hTI, ⟨a, b, hTO⟩, h1, h2, hl1, hl2⟩ := hst
    have hT : s.TypeIs (.ref z) "zip" := ⟨_, hz, rfl⟩
    unfold pyNext
    refine wpAny_bind (wpAny_attempt (wpAny_callSpecial?_slot (name := Str.ofString "__next__") hT F.slot_zip_next
      (wpAny_call_entry F.slot_zip_next hT F.entry_zip_next (zipTL_end hh D hz hTI hTO h1 hl1 (Array.getElem?_eq_none (Nat.le_refl _)) fun h' e hk he => ?_) (F.args_zip_next_1 _))))
    obtain ⟨o, ho, hc⟩ := he
    refine wpAny_bind (wpAny_isInstance (T := "StopIteration") (b := true) ⟨o, ho, hc⟩ isSubtype_stop ?_)
    exact wpAny_pure (hQ h' s.toks fun c o hc e => hk c o (fun x => hc (by simp [x])) (fun x => hc (by simp [x])) (fun x => hc (by simp [x])) (fun x => hc (by simp [x])) e)
  self := fun i s Q E hst hQ => wpAny_pyIter_zip hst.1 hQ
end
end Mine
end

section -- FR
open PySem PySem.W PyProof.Rows PySem.Calls PySem.Spec PyProof.Rows.LCg
set_option maxRecDepth 100000
namespace Mine
section
variable {prog : Program} {w : World} {A : Around} {E : Value → Shared → Prop} {s : Shared} {h₀ : Heap} {L : Addr} {m : Str → Option Value} {env : Env}
/-- the end of a turn: what the iterator owns stands, the rest as J says -/
def FEnd (h₀ : Heap) (L : Addr) (s : Shared) (own : List (Addr × Obj)) (S : List (Addr × Obj) → Prop) (J : (Str → Option Value) → List (Addr × Obj) → Prop) (Q : Flow → Shared → Prop) (f : Flow) (s₂ : Shared) : Prop :=
  match f with
  | .ret v => Q (.ret v) s₂
  | .brk => Q .next s₂
  | _ => ∃ h' tk m' news', s₂ = { s with heap := h', toks := tk } ∧ Fr h₀ L h' m' ∧ News h₀ L h' (own ++ news') ∧ (∀ p ∈ news', ∀ q ∈ own, p.1 ≠ q.1) ∧ S news' ∧ J m' news'
theorem FEnd.next {own : List (Addr × Obj)} {S : List (Addr × Obj) → Prop} {J : (Str → Option Value) → List (Addr × Obj) → Prop} {Q : Flow → Shared → Prop} {h' : Heap} {tk : Nat} {m' : Str → Option Value} {all : List (Addr × Obj)} (news' : List (Addr × Obj))
    (F : Fr h₀ L h' m') (N : News h₀ L h' all) (sub : ∀ p ∈ own ++ news', p ∈ all) (off : ∀ p ∈ news', ∀ q ∈ own, p.1 ≠ q.1) (hS : S news') (hJ : J m' news') : FEnd h₀ L s own S J Q .next { s with heap := h', toks := tk } :=
  ⟨h', tk, m', news', rfl, F, fun p hp => N p (sub p hp), off, hS, hJ⟩

def SrcF (prog : Program) (w : World) (A : Around) (h₀ : Heap) (env : Env) (x : Str) (px : Pos) (body : List Stmt) (Q : Flow → Shared → Prop) (xv : Value) (s₁ : Shared) : Prop :=
  ∃ (n : Nat) (S : List (Addr × Obj) → Prop) (P : Nat → Value → Prop) (J : Nat → (Str → Option Value) → List (Addr × Obj) → Prop) (m : Str → Option Value) (news : List (Addr × Obj)),
    Fr h₀ env.locals s₁.heap m ∧ News h₀ env.locals s₁.heap news ∧ S news ∧ J 0 m news ∧
    (∀ (Q E : Value → Shared → Prop), (∀ I h', ItOk prog w A h₀ env.locals S (.Name x px) n P s₁.heap h' I → Q (.ref I) { s₁ with heap := h' }) → wpAny (model prog w) A (pyIter xv) Q E s₁) ∧
    (∀ i v m₁ news₁ I oI h tk (E' : Value → Shared → Prop), i < n → P i v → J i m₁ news₁ → S news₁ → Fr h₀ env.locals h (fun z => if z = x then some v else m₁ z) → News h₀ env.locals h ((I, oI) :: news₁) → (∀ p ∈ news₁, p.1 ≠ I) →
      wpAny (model prog w) A (execs body env) (FEnd h₀ env.locals s₁ [(I, oI)] S (J (i + 1)) Q) E' { s₁ with heap := h, toks := tk }) ∧
    ∀ m₁ news₁ h tk, J n m₁ news₁ → Fr h₀ env.locals h m₁ → News h₀ env.locals h news₁ → Q .next { s₁ with heap := h, toks := tk }

theorem for_one {x : Str} {px pos : Pos} {iter : PySem.Expr} {body : List Stmt} {Q : Flow → Shared → Prop} (_F₀ : Fr h₀ env.locals s.heap m) (hk : env.scope.kind = .function) (hx : env.kindOf x = some .local)
    (h : wpAny (model prog w) A (eval iter env) (SrcF prog w A h₀ env x px body Q) E s) (hs : ∀ x, foldedSetIterable iter env x = pure x) :
    wpAny (model prog w) A (exec (.For (.Name x px) iter body [] pos) env) Q E s := by
  refine wpAny_For (wpAny_mono h (fun xv s₁ h₁ => ?_) fun _ _ e => e) hs
  obtain ⟨n, S, P, J, m, news, F, N, hS, hJ, it, turn, fin⟩ := h₁
  refine it _ _ fun I h' ⟨⟨fp, St, W, hIo, hSt, hst, hfp, own⟩, up, hIn⟩ => ?_
  have hIL : env.locals ≠ I := Nat.ne_of_lt (Nat.lt_of_lt_of_le F.ns.lt hIn)
  have hI₀ : h₀.get? I = none := by
    cases e : h₀.get? I with
    | none => rfl
    | some o' => exact absurd (Heap.lt_size (F.keep I o' e)) (Nat.not_lt.mpr hIn)
  have off : ∀ p ∈ news, p.1 ≠ I := fun p hp => Nat.ne_of_lt (Nat.lt_of_lt_of_le (Heap.lt_size (N p hp).1) hIn)
  replace F : Fr h₀ env.locals h' m := F.keeps up
  replace N : News h₀ env.locals h' news := N.grown up
  clear up hIn
  have hLe₀ : h₀.get? env.locals = none := Heap.get?_none_of_le F.above
  refine codeAny_forLoop_any
    (fun k s' => ∃ h' tk i m' news', s' = { s₁ with heap := h', toks := tk } ∧ i ≤ n ∧ k = n + 1 - i ∧ St i h' ∧ Fr h₀ env.locals h' m' ∧ News h₀ env.locals h' news' ∧ (∀ p ∈ news', p.1 ≠ I) ∧ S news' ∧ J i m' news') ?_ (n + 1)
    ⟨h', _, 0, m, news, rfl, Nat.zero_le _, rfl, hst, F, N, off, hS, hJ⟩
  rintro k s' ⟨h', tk, i, m', news', rfl, hi, rfl, hst', F', N', off', hS', hJ'⟩
  by_cases hlt : i < n
  · refine W.item i _ _ _ hlt hst' fun v h₂ tk₂ hPv hst₂ hk₂ => ?_
    have F₂ : Fr h₀ env.locals h₂ m' := fr_but F' hk₂ hIL hI₀
    have N₂ : News h₀ env.locals h₂ news' := news_but N' hk₂ off'
    refine own _ _ _ _ _ hst₂ ?_
    refine wpAny_assign_Name (wpAny_storeName_local hx F₂.ns (fun h₃ hn₃ hs₃ => ?_) (by rw [hk]; rfl))
    have F₃ : Fr h₀ env.locals h₃ (fun z => if z = x then some v else m' z) := F₂.set hn₃ hs₃
    have N₃ : News h₀ env.locals h₃ news' := N₂.set hs₃
    obtain ⟨oI, heI⟩ := hIo _ _ hst₂
    have heI₃ : h₃.get? I = some oI := hs₃.extBut _ _ (Ne.symm hIL) heI
    refine wpAny_mono (turn i v m' news' I oI h₃ _ _ hlt hPv hJ' hS' F₃ (fun p hp => ?_) off') (fun f s₃ h₃' => ?_) fun _ _ e => e
    · rcases List.mem_cons.mp hp with rfl | hp
      · exact ⟨heI₃, Ne.symm hIL, hI₀⟩
      · exact N₃ p hp
    · have go : ∀ s₃, (∃ h' tk m' news', s₃ = { s₁ with heap := h', toks := tk } ∧ Fr h₀ env.locals h' m' ∧ News h₀ env.locals h' ([(I, oI)] ++ news') ∧ (∀ p ∈ news', ∀ q ∈ [(I, oI)], p.1 ≠ q.1) ∧ S news' ∧ J (i + 1) m' news') →
          ∃ m, m < n + 1 - i ∧ ∃ h' tk i m' news', s₃ = { s₁ with heap := h', toks := tk } ∧ i ≤ n ∧ m = n + 1 - i ∧ St i h' ∧ Fr h₀ env.locals h' m' ∧ News h₀ env.locals h' news' ∧ (∀ p ∈ news', p.1 ≠ I) ∧ S news' ∧ J i m' news' := by
        rintro s₃ ⟨h₄, tk₄, m₄, news₄, rfl, F₄, N₄, off₄, hS₄, hJ₄⟩
        have zI := (N₄ (I, oI) List.mem_cons_self).1
        have N₄' : News h₀ env.locals h₄ news₄ := fun p hp => N₄ p (List.mem_cons_of_mem _ hp)
        exact ⟨n + 1 - (i + 1), by omega, h₄, tk₄, i + 1, m₄, news₄, rfl, hlt, rfl, hSt _ _ _ _ _ hst₂ heI zI F₄.keep N₄' hS₄, F₄, N₄', fun p hp => off₄ p hp _ List.mem_cons_self, hS₄, hJ₄⟩
      cases f with
      | next => exact go _ h₃'
      | cont => exact go _ h₃'
      | brk => exact h₃'
      | ret v => exact h₃'
  · obtain rfl : i = n := Nat.le_antisymm hi (Nat.not_lt.mp hlt)
    refine W.done _ _ _ hst' fun h₂ tk₂ hk₂ => wpAny_execs_nil ?_
    exact fin m' news' h₂ tk₂ hJ' (fr_but F' hk₂ hIL hI₀) (news_but N' hk₂ off')
end
end Mine
end

section -- FZ
open PySem PySem.W PyProof.Rows PySem.Calls PySem.Spec PyProof.Rows.LCg
set_option maxRecDepth 100000
namespace Mine
section
variable {prog : Program} {w : World} {A : Around} {E : Value → Shared → Prop} {s : Shared} {h₀ : Heap} {L : Addr} {m : Str → Option Value} {env : Env}
structure ZipAt (h₀ : Heap) (L : Addr) (news : List (Addr × Obj)) (h : Heap) (z TI TO i1 i2 l1 l2 : Addr) (xs ys : Array Value) : Prop where
  st : TLSt z TI TO i1 i2 l1 l2 xs ys 0 h
  apart : ZipApart z TI TO i1 i2 l1 l2
  none₀ : ∀ a ∈ [z, TI, TO, i1, i2], h₀.get? a = none ∧ a ≠ L ∧ ∀ p ∈ news, p.1 ≠ a

theorem zip_call {l1 l2 : Addr} {xs ys : Array Value} {news : List (Addr × Obj)} {Q : Value → Shared → Prop} (F : Fr h₀ L s.heap m) (N : News h₀ L s.heap news) (S1 : Lies h₀ l1 (TupObj xs) news) (S2 : Lies h₀ l2 (ListObj ys) news)
    (h : ∀ h' z TI TO i1 i2, Fr h₀ L h' m → News h₀ L h' news → ZipAt h₀ L news h' z TI TO i1 i2 l1 l2 xs ys → Q (.ref z) { s with heap := h' }) :
    wpAny (model prog w) A (call (.type "zip") [.ref l1, .ref l2]) Q E s := by
  have hl1 : s.heap.IsTuple l1 xs := S1.get F.keep N
  have hl2 : s.heap.IsList l2 ys := S2.get F.keep N
  have lt1 : l1 < s.heap.objs.size := by obtain ⟨_, e, _⟩ := hl1; exact Heap.lt_size e
  have lt2 : l2 < s.heap.objs.size := by obtain ⟨_, e, _⟩ := hl2; exact Heap.lt_size e
  have fresh : ∀ a, s.heap.objs.size ≤ a → h₀.get? a = none ∧ a ≠ L ∧ ∀ p ∈ news, p.1 ≠ a := fun a ha => by
    refine ⟨?_, Nat.ne_of_gt (Nat.lt_of_lt_of_le F.ns.lt ha), fun p hp => Nat.ne_of_lt (Nat.lt_of_lt_of_le (Heap.lt_size (N p hp).1) ha)⟩
    cases e : h₀.get? a with
    | none => rfl
    | some o' => exact absurd (Heap.lt_size (F.keep a o' e)) (Nat.not_lt.mpr ha)
  refine call_zipTL hl1 hl2 fun h' st up => h h' _ _ _ _ _ (F.keeps up) (N.grown up) ⟨st, ?_, ?_⟩
  · generalize s.heap.objs.size = z at lt1 lt2
    have lt1' : @LT.lt Nat _ l1 z := lt1
    have lt2' : @LT.lt Nat _ l2 z := lt2
    have ne : ∀ {a b : Nat}, a ≠ b → @Ne Addr a b := fun h => h
    constructor <;> refine ne ?_ <;> omega
  · intro a ha
    refine fresh a ?_
    simp only [List.mem_cons, List.mem_nil_iff, or_false] at ha
    generalize s.heap.objs.size = z at ha ⊢
    have le : ∀ {a b : Nat}, a ≤ b → @LE.le Addr _ a b := fun h => h
    rcases ha with rfl | rfl | rfl | rfl | rfl <;> refine le ?_ <;> omega

def SrcZ (prog : Program) (w : World) (A : Around) (h₀ : Heap) (env : Env) (x y : Str) (body : List Stmt) (Q : Flow → Shared → Prop) (xv : Value) (s₁ : Shared) : Prop :=
  ∃ (xs ys : Array Value) (z TI TO i1 i2 l1 l2 : Addr) (J : Nat → (Str → Option Value) → List (Addr × Obj) → Prop) (m : Str → Option Value) (news : List (Addr × Obj)),
    xv = .ref z ∧ A.handled = none ∧ Fr h₀ env.locals s₁.heap m ∧ News h₀ env.locals s₁.heap news ∧ ZipAt h₀ env.locals news s₁.heap z TI TO i1 i2 l1 l2 xs ys ∧ xs.size = ys.size ∧
    (Lies h₀ l1 (TupObj xs) news ∧ Lies h₀ l2 (ListObj ys) news) ∧ J 0 m news ∧
    (∀ i vx vy m₁ news₁ oz oTI oTO o1 o2 h tk (E' : Value → Shared → Prop), xs[i]? = some vx → ys[i]? = some vy → J i m₁ news₁ → (Lies h₀ l1 (TupObj xs) news₁ ∧ Lies h₀ l2 (ListObj ys) news₁) →
      Fr h₀ env.locals h (fun z => if z = y then some vy else if z = x then some vx else m₁ z) → News h₀ env.locals h ((z, oz) :: (TI, oTI) :: (TO, oTO) :: (i1, o1) :: (i2, o2) :: news₁) →
      (∀ p ∈ news₁, ∀ q ∈ [(z, oz), (TI, oTI), (TO, oTO), (i1, o1), (i2, o2)], p.1 ≠ q.1) →
      wpAny (model prog w) A (execs body env) (FEnd h₀ env.locals s₁ [(z, oz), (TI, oTI), (TO, oTO), (i1, o1), (i2, o2)] (fun nw => Lies h₀ l1 (TupObj xs) nw ∧ Lies h₀ l2 (ListObj ys) nw) (J (i + 1)) Q) E' { s₁ with heap := h, toks := tk }) ∧
    ∀ m₁ news₁ h tk, J xs.size m₁ news₁ → Fr h₀ env.locals h m₁ → News h₀ env.locals h news₁ → Q .next { s₁ with heap := h, toks := tk }

theorem for_zip {x y : Str} {px py tp pos : Pos} {tk₀ : Nat} {iter : PySem.Expr} {body : List Stmt} {Q : Flow → Shared → Prop} (_F₀ : Fr h₀ env.locals s.heap m) (hk : env.scope.kind = .function) (hx : env.kindOf x = some .local) (hy : env.kindOf y = some .local)
    (h : wpAny (model prog w) A (eval iter env) (SrcZ prog w A h₀ env x y body Q) E s) (hs : ∀ x, foldedSetIterable iter env x = pure x) :
    wpAny (model prog w) A (exec (.For (.Tuple [.Name x px, .Name y py] tk₀ tp) iter body [] pos) env) Q E s := by
  refine wpAny_For (wpAny_mono h (fun xv s₁ h₁ => ?_) fun _ _ e => e) hs
  obtain ⟨xs, ys, z, TI, TO, i1, i2, l1, l2, J, m, news, rfl, hh, F, N, Z, hxy, hS, hJ, turn, fin⟩ := h₁
  have W := walks_zipTL (prog := prog) (w := w) (A := A) hh z TI TO i1 i2 l1 l2 Z.apart xs ys hxy
  have D := Z.apart
  have n₀ := fun a ha => Z.none₀ a ha
  have five : ∀ a, a ∈ [z, TO, i1, i2] → a ∈ [z, TI, TO, i1, i2] := fun a ha => by
    simp only [List.mem_cons, List.mem_nil_iff, or_false] at ha ⊢
    rcases ha with e | e | e | e <;> simp [e]
  have hL₀ : h₀.get? env.locals = none := Heap.get?_none_of_le F.above
  refine W.self 0 _ _ _ Z.st ?_
  refine codeAny_forLoop_any
    (fun k s' => ∃ h' tk i m' news', s' = { s₁ with heap := h', toks := tk } ∧ i ≤ xs.size ∧ k = xs.size + 1 - i ∧ TLSt z TI TO i1 i2 l1 l2 xs ys i h' ∧ Fr h₀ env.locals h' m' ∧ News h₀ env.locals h' news' ∧
      (∀ p ∈ news', ∀ a ∈ [z, TI, TO, i1, i2], p.1 ≠ a) ∧ (Lies h₀ l1 (TupObj xs) news' ∧ Lies h₀ l2 (ListObj ys) news') ∧ J i m' news') ?_ (xs.size + 1)
    ⟨s₁.heap, s₁.toks, 0, m, news, rfl, Nat.zero_le _, rfl, Z.st, F, N, fun p hp a ha => (n₀ a ha).2.2 p hp, hS, hJ⟩
  rintro k s' ⟨h', tk, i, m', news', rfl, hi, rfl, hst', F', N', off', hS', hJ'⟩
  have frk : ∀ {g g' : Heap} {m'}, Fr h₀ env.locals g m' → (∀ b o, b ∉ [z, TO, i1, i2] → g.get? b = some o → g'.get? b = some o) → Fr h₀ env.locals g' m' := fun F hk =>
    ⟨F.ns.at' fun o e => hk _ o (fun hm => (n₀ _ (five _ hm)).2.1 rfl) e, fun b o e => hk b o (fun hm => by rw [(n₀ _ (five _ hm)).1] at e; cases e) (F.keep b o e), F.above⟩
  have nwk : ∀ {g g' : Heap}, News h₀ env.locals g news' → (∀ b o, b ∉ [z, TO, i1, i2] → g.get? b = some o → g'.get? b = some o) → News h₀ env.locals g' news' := fun N hk p hp =>
    ⟨hk _ _ (fun hm => off' p hp _ (five _ hm) rfl) (N p hp).1, (N p hp).2⟩
  by_cases hlt : i < xs.size
  · refine W.item i _ _ _ hlt hst' fun T vals h₂ tk₂ hP _ hT hmid hk₂ => ?_
    obtain ⟨vx, vy, ex, ey, rfl⟩ := hP
    have hTw := W.apart _ _ _ hmid
    refine W.go _ _ _ _ _ _ _ _ hmid fun h₃ hst₃ hk₃ => ?_
    have hT₃ : h₃.IsTuple T #[vx, vy] := at_tup hT fun o e => hk₃ _ o hTw e
    have F₃ := frk (frk F' hk₂) hk₃
    have N₃ := nwk (nwk N' hk₂) hk₃
    refine assign_Tuple_tuple hh (show IsTup h₃ T #[vx, vy] from hT₃) rfl rfl fun h₅ he => ?_
    have he' : ∀ b o, h₃.get? b = some o → h₅.get? b = some o := fun b o e => he b o (Nat.ne_of_lt (Heap.lt_size e)) e
    refine assignInOrder_cons (wpAny_assign_Name (wpAny_storeName_local hx (F₃.keeps he').ns (fun h₆ hn₆ hs₆ => ?_) (by rw [hk]; rfl)))
    have F₆ := (F₃.keeps he').set hn₆ hs₆
    refine assignInOrder_cons (wpAny_assign_Name (wpAny_storeName_local hy F₆.ns (fun h₇ hn₇ hs₇ => ?_) (by rw [hk]; rfl)))
    have F₇ := F₆.set hn₇ hs₇
    refine assignInOrder_nil ?_
    have up : ∀ b o, b ≠ env.locals → h₃.get? b = some o → h₇.get? b = some o := fun b o hb e => hs₇.extBut b o hb (hs₆.extBut b o hb (he' b o e))
    obtain ⟨gz, gTI, ⟨va, vb, gTO⟩, ⟨o1, g1, r1⟩, ⟨o2, g2, r2⟩, _, _⟩ := hst₃
    obtain ⟨oz, gz, rz⟩ : ∃ o, h₃.get? z = some o ∧ ∀ h : Heap, h.get? z = some o → IsZip h z TI TO .none := ⟨_, gz, fun _ e => e⟩
    obtain ⟨oTI, gTI, rTI⟩ : ∃ o, h₃.get? TI = some o ∧ ∀ h : Heap, h.get? TI = some o → IsPair h TI (.ref i1) (.ref i2) := ⟨_, gTI, fun _ e => e⟩
    obtain ⟨oTO, gTO, rTO⟩ : ∃ o, h₃.get? TO = some o ∧ ∀ h : Heap, h.get? TO = some o → IsPair h TO va vb := ⟨_, gTO, fun _ e => e⟩
    have nL : ∀ a, a ∈ [z, TI, TO, i1, i2] → a ≠ env.locals := fun a ha => (n₀ a ha).2.1
    refine wpAny_mono (turn i vx vy m' news' oz oTI oTO o1 o2 h₇ _ _ ex ey hJ' hS' F₇ (fun p hp => ?_) fun p hp q hq => ?_) (fun f s₃ h₃' => ?_) fun _ _ e => e
    · simp only [List.mem_cons] at hp
      rcases hp with rfl | rfl | rfl | rfl | rfl | hp
      · exact ⟨up _ _ (nL _ (by simp)) gz, nL _ (by simp), (n₀ _ (by simp)).1⟩
      · exact ⟨up _ _ (nL _ (by simp)) gTI, nL _ (by simp), (n₀ _ (by simp)).1⟩
      · exact ⟨up _ _ (nL _ (by simp)) gTO, nL _ (by simp), (n₀ _ (by simp)).1⟩
      · exact ⟨up _ _ (nL _ (by simp)) g1, nL _ (by simp), (n₀ _ (by simp)).1⟩
      · exact ⟨up _ _ (nL _ (by simp)) g2, nL _ (by simp), (n₀ _ (by simp)).1⟩
      · exact ⟨up _ _ (N₃ p hp).2.1 (N₃ p hp).1, (N₃ p hp).2⟩
    · refine off' p hp _ ?_
      simp only [List.mem_cons, List.mem_nil_iff, or_false] at hq ⊢
      rcases hq with rfl | rfl | rfl | rfl | rfl <;> simp
    · have go : ∀ s₃, FEnd h₀ env.locals s₁ [(z, oz), (TI, oTI), (TO, oTO), (i1, o1), (i2, o2)] (fun nw => Lies h₀ l1 (TupObj xs) nw ∧ Lies h₀ l2 (ListObj ys) nw) (J (i + 1)) Q .next s₃ →
          ∃ m, m < xs.size + 1 - i ∧ ∃ h' tk i m' news', s₃ = { s₁ with heap := h', toks := tk } ∧ i ≤ xs.size ∧ m = xs.size + 1 - i ∧ TLSt z TI TO i1 i2 l1 l2 xs ys i h' ∧ Fr h₀ env.locals h' m' ∧ News h₀ env.locals h' news' ∧
            (∀ p ∈ news', ∀ a ∈ [z, TI, TO, i1, i2], p.1 ≠ a) ∧ (Lies h₀ l1 (TupObj xs) news' ∧ Lies h₀ l2 (ListObj ys) news') ∧ J i m' news' := by
        rintro s₃ ⟨h₄, tk₄, m₄, news₄, rfl, F₄, N₄, off₄, hS₄, hJ₄⟩
        have zz := fun q hq => (N₄ q (List.mem_append_left _ hq)).1
        have N₄' : News h₀ env.locals h₄ news₄ := fun p hp => N₄ p (List.mem_append_right _ hp)
        refine ⟨xs.size + 1 - (i + 1), by omega, h₄, tk₄, i + 1, m₄, news₄, rfl, hlt, rfl, ⟨rz _ (zz _ (.head _)), rTI _ (zz _ (.tail _ (.head _))), ⟨_, _, rTO _ (zz _ (.tail _ (.tail _ (.head _))))⟩, ⟨_, zz _ (.tail _ (.tail _ (.tail _ (.head _)))), r1⟩,
          ⟨_, zz _ (.tail _ (.tail _ (.tail _ (.tail _ (.head _))))), r2⟩, hS₄.1.get F₄.keep N₄', hS₄.2.get F₄.keep N₄'⟩, F₄, N₄', fun p hp a ha => ?_, hS₄, hJ₄⟩
        simp only [List.mem_cons, List.mem_nil_iff, or_false] at ha
        rcases ha with rfl | rfl | rfl | rfl | rfl
        · exact off₄ p hp _ (.head _)
        · exact off₄ p hp _ (.tail _ (.head _))
        · exact off₄ p hp _ (.tail _ (.tail _ (.head _)))
        · exact off₄ p hp _ (.tail _ (.tail _ (.tail _ (.head _))))
        · exact off₄ p hp _ (.tail _ (.tail _ (.tail _ (.tail _ (.head _)))))
      cases f with
      | next => exact go _ h₃'
      | cont => exact go _ h₃'
      | brk => exact h₃'
      | ret v => exact h₃'
  · obtain rfl : i = xs.size := Nat.le_antisymm hi (Nat.not_lt.mp hlt)
    refine W.done _ _ _ hst' fun h₂ tk₂ hk₂ => wpAny_execs_nil ?_
    exact fin m' news' h₂ tk₂ hJ' (frk F' hk₂) (nwk N' hk₂)
end
end Mine
end

section -- SX
open PySem PySem.W PyProof.Rows PySem.Calls PySem.Spec PyProof.Rows.LCg
set_option maxRecDepth 100000
namespace Mine
abbrev In3 (k : Int) : Prop := k = 0 ∨ k = 1 ∨ k = 2
abbrev lsO (vs : Array Value) (n : Nat) : Obj := { cls := .type "list", data := .seq vs n }
abbrev tpO (vs : Array Value) (n : Nat) : Obj := { cls := .type "tuple", data := .seq vs n }
abbrev refsO (wa : Int → Addr) (n : Nat) : Obj := lsO #[.ref (wa 0), .ref (wa 1), .ref (wa 2)] n
abbrev rowO (W : Int → Int → Int) (T : Int → Int → Tok) (n : Int → Nat) (i : Int) : Obj := lsO #[.int (W i 0) (T i 0), .int (W i 1) (T i 1), .int (W i 2) (T i 2)] (n i)
abbrev intsT (f : Int → Int) (t : Int → Tok) : Obj := tpO #[.int (f 0) (t 0), .int (f 1) (t 1), .int (f 2) (t 2)] 0
abbrev strsT (f : Int → Str) (t : Int → Tok) : Obj := tpO #[.str (f 0) (t 0), .str (f 1) (t 1), .str (f 2) (t 2)] 0
section
variable {prog : Program} {w : World} {A : Around} {E : Value → Shared → Prop} {s : Shared} {h₀ : Heap} {L : Addr} {m : Str → Option Value} {news : List (Addr × Obj)}
theorem mem3 {wa : Int → Addr} {W : Int → Int → Int} {T : Int → Int → Tok} {n : Int → Nat} {i : Int} (hi : In3 i) (h0 : (wa 0, rowO W T n 0) ∈ news) (h1 : (wa 1, rowO W T n 1) ∈ news) (h2 : (wa 2, rowO W T n 2) ∈ news) : (wa i, rowO W T n i) ∈ news := by
  rcases hi with rfl | rfl | rfl
  · exact h0
  · exact h1
  · exact h2
theorem in3_nn {k : Int} (h : In3 k) : 0 ≤ k ∧ k < 2 ^ 63 := by rcases h with rfl | rfl | rfl <;> decide
theorem sub_refs {value slice : PySem.Expr} {ax : Addr} {n : Nat} {k : Int} {t : Tok} {wa : Int → Addr} {Q : Value → Shared → Prop} (N : News h₀ L s.heap news) (hm : (ax, refsO wa n) ∈ news) (hk : In3 k) (h : Q (.ref (wa k)) s)
    (hs : subscripted slice false (.ref ax) (.int k t) = operate [.ref ax, .int k t] (getItem (.ref ax) (.int k t))) :
    wpAny (model prog w) A (subscriptTail value slice (.ref ax) (.int k t)) Q E s :=
  sub_list N hm (in3_nn hk).1 (in3_nn hk).2 (by rcases hk with rfl | rfl | rfl <;> rfl) h hs
theorem sub_row {value slice : PySem.Expr} {n : Int → Nat} {i k : Int} {t : Tok} {wa : Int → Addr} {W : Int → Int → Int} {T : Int → Int → Tok} {Q : Value → Shared → Prop} (N : News h₀ L s.heap news) (hm : (wa i, rowO W T n i) ∈ news) (hk : In3 k) (h : Q (.int (W i k) (T i k)) s)
    (hs : subscripted slice false (.ref (wa i)) (.int k t) = operate [.ref (wa i), .int k t] (getItem (.ref (wa i)) (.int k t))) :
    wpAny (model prog w) A (subscriptTail value slice (.ref (wa i)) (.int k t)) Q E s :=
  sub_list N hm (in3_nn hk).1 (in3_nn hk).2 (by rcases hk with rfl | rfl | rfl <;> rfl) h hs
theorem sub_tup {value slice : PySem.Expr} {ax : Addr} {its : Array Value} {n : Nat} {k : Int} {t : Tok} {v : Value} {Q : Value → Shared → Prop} (F : Fr h₀ L s.heap m) (hg : h₀.get? ax = some (tpO its n)) (h0 : 0 ≤ k) (hk : k < its.size) (hfit : k < 2 ^ 63) (hx : its.toList[k.toNat]? = some v) (h : Q v s)
    (hs : subscripted slice false (.ref ax) (.int k t) = operate [.ref ax, .int k t] (getItem (.ref ax) (.int k t))) :
    wpAny (model prog w) A (subscriptTail value slice (.ref ax) (.int k t)) Q E s :=
  have ht : IsTup s.heap ax its := ⟨_, F.keep _ _ hg, rfl, n, rfl⟩
  subscriptTail_builtinR ht.typeIs _root_.PySem.F.slot_tuple_getitem.lookup (PyProof.Rows.getItem_tuple (Q := fun r s' => r = v ∧ Q r s') ht (by omega) hfit (seqIndex_of h0 hk) (by rw [← Array.getElem?_toList]; exact hx) ⟨rfl, h⟩) hs
theorem sub_ints {value slice : PySem.Expr} {ax : Addr} {k : Int} {t : Tok} {f : Int → Int} {u : Int → Tok} {Q : Value → Shared → Prop} (F : Fr h₀ L s.heap m) (hg : h₀.get? ax = some (intsT f u)) (hk : In3 k) (h : Q (.int (f k) (u k)) s)
    (hs : subscripted slice false (.ref ax) (.int k t) = operate [.ref ax, .int k t] (getItem (.ref ax) (.int k t))) :
    wpAny (model prog w) A (subscriptTail value slice (.ref ax) (.int k t)) Q E s :=
  sub_tup F hg (in3_nn hk).1 (by show k < ((3 : Nat) : Int); rcases hk with rfl | rfl | rfl <;> decide) (in3_nn hk).2 (by rcases hk with rfl | rfl | rfl <;> rfl) h hs
theorem sub_strs {value slice : PySem.Expr} {ax : Addr} {k : Int} {t : Tok} {f : Int → Str} {u : Int → Tok} {Q : Value → Shared → Prop} (F : Fr h₀ L s.heap m) (hg : h₀.get? ax = some (strsT f u)) (hk : In3 k) (h : Q (.str (f k) (u k)) s)
    (hs : subscripted slice false (.ref ax) (.int k t) = operate [.ref ax, .int k t] (getItem (.ref ax) (.int k t))) :
    wpAny (model prog w) A (subscriptTail value slice (.ref ax) (.int k t)) Q E s :=
  sub_tup F hg (in3_nn hk).1 (by show k < ((3 : Nat) : Int); rcases hk with rfl | rfl | rfl <;> decide) (in3_nn hk).2 (by rcases hk with rfl | rfl | rfl <;> rfl) h hs
end
end Mine
end

section -- PM
open PySem PySem.W PyProof.Rows PySem.Calls PySem.Spec
set_option maxRecDepth 100000
namespace Mine
theorem fillPM : (PySem.Challenge.rw_fq5045_02, hd.heap_39) = (PySem.Challenge.rw_fq5045_02, hd.heap_39) := by
  w_top off
  k_fill
  rfl
/-- the p-th way -/
def wy (p : Nat) (k : Int) : Int :=
  if k = 0 then (if p < 2 then 0 else if p < 4 then 1 else 2)
  else if k = 1 then (match p with | 0 => 1 | 1 => 2 | 2 => 0 | 3 => 2 | 4 => 0 | _ => 1)
  else (match p with | 0 => 2 | 1 => 1 | 2 => 2 | 3 => 0 | 4 => 1 | _ => 0)
def th (k : Int) : Str := if k = 0 then Str.ofString "axe" else if k = 1 then Str.ofString "bow" else Str.ofString "cup"
abbrev tkw (p : Nat) (k : Int) : Tok := 527 + 3 * p + k.toNat
theorem wy_in {p : Nat} {k : Int} (hp : p < 6) (hk : In3 k) : In3 (wy p k) := by
  have : p = 0 ∨ p = 1 ∨ p = 2 ∨ p = 3 ∨ p = 4 ∨ p = 5 := by omega
  rcases this with rfl | rfl | rfl | rfl | rfl | rfl <;> rcases hk with rfl | rfl | rfl <;> decide
theorem wy_inj {p : Nat} {i k : Int} (hp : p < 6) (hi : In3 i) (hk : In3 k) (h : wy p i = wy p k) : i = k := by
  have : p = 0 ∨ p = 1 ∨ p = 2 ∨ p = 3 ∨ p = 4 ∨ p = 5 := by omega
  rcases this with rfl | rfl | rfl | rfl | rfl | rfl <;> rcases hi with rfl | rfl | rfl <;> rcases hk with rfl | rfl | rfl <;> first | rfl | (exact absurd h (by decide))
theorem th_inj {i k : Int} (hi : In3 i) (hk : In3 k) (h : th i = th k) : i = k := by
  rcases hi with rfl | rfl | rfl <;> rcases hk with rfl | rfl | rfl <;> first | rfl | (exact absurd h (by decide))
section
variable {w : World} {h₀ : Heap}
theorem wayAt (X : Frag.In (hd.heap_39 w.params) h₀) {p : Nat} (hp : p < 6) : h₀.get? (211 + p) = some (intsT (wy p) (tkw p)) := by
  have : p = 0 ∨ p = 1 ∨ p = 2 ∨ p = 3 ∨ p = 4 ∨ p = 5 := by omega
  rcases this with rfl | rfl | rfl | rfl | rfl | rfl <;> exact X _ _ (by k_is)
theorem thingsAt (X : Frag.In (hd.heap_39 w.params) h₀) : h₀.get? 218 = some (strsT th fun k => 546 + k.toNat) := X _ _ (by k_is)
theorem waysAt (X : Frag.In (hd.heap_39 w.params) h₀) : h₀.get? 217 = some (tpO #[.ref 211, .ref 212, .ref 213, .ref 214, .ref 215, .ref 216] 0) := X _ _ (by k_is)
end
end Mine
end

section -- PE
open PySem PySem.W PyProof.Rows PySem.Calls PySem.Spec
namespace Mine
def edge (W : Int → Int → Int) (f : Int → Int) (i j : Int) : Edge := (th (f i), th j, W i (f i) - W i j)
structure DoneSt (W : Int → Int → Int) (f : Int → Int) (done : List Int) (es : List Edge) : Prop where
  mem : ∀ e, e ∈ es ↔ ∃ i ∈ done, ∃ j, In3 j ∧ j ≠ f i ∧ e = edge W f i j
  cnt : ∀ u, (es.countP fun e => e.1 = u) ≤ 3
structure EdgeSt (W : Int → Int → Int) (f : Int → Int) (done : List Int) (cur : Int) (n : Nat) (es : List Edge) : Prop where
  mem : ∀ e, e ∈ es ↔ (∃ i ∈ done, ∃ j, In3 j ∧ j ≠ f i ∧ e = edge W f i j) ∨ ∃ j : Nat, j < n ∧ (j : Int) ≠ f cur ∧ e = edge W f cur j
  c1 : (es.countP fun e => e.1 = th (f cur)) ≤ n
  c2 : ∀ u, u ≠ th (f cur) → (es.countP fun e => e.1 = u) ≤ 3
section
variable {W : Int → Int → Int} {f : Int → Int} {done : List Int} {cur : Int} {n : Nat} {es : List Edge}
theorem DoneSt.nil : DoneSt W f [] [] := ⟨fun e => by simp, fun u => by simp⟩
theorem DoneSt.start (h : DoneSt W f done es) (hf : ∀ i ∈ done, th (f i) ≠ th (f cur)) : EdgeSt W f done cur 0 es where
  mem e := by rw [h.mem]; simp
  c1 := by
    rw [Nat.le_zero, List.countP_eq_zero]
    intro e he
    obtain ⟨i, hi, j, _, _, rfl⟩ := (h.mem e).mp he
    exact fun q => hf i hi (of_decide_eq_true q)
  c2 u _ := h.cnt u
theorem EdgeSt.skip (h : EdgeSt W f done cur n es) (e : (n : Int) = f cur) : EdgeSt W f done cur (n + 1) es where
  mem x := by
    rw [h.mem]
    refine or_congr Iff.rfl ⟨fun ⟨j, hj, r⟩ => ⟨j, Nat.lt_succ_of_lt hj, r⟩, fun ⟨j, hj, r, q⟩ => ⟨j, ?_, r, q⟩⟩
    rcases Nat.lt_succ_iff_lt_or_eq.mp hj with hj | rfl
    · exact hj
    · exact absurd e r
  c1 := Nat.le_succ_of_le h.c1
  c2 := h.c2
theorem EdgeSt.add (h : EdgeSt W f done cur n es) (e : (n : Int) ≠ f cur) : EdgeSt W f done cur (n + 1) (es ++ [(th (f cur), th n, W cur (f cur) - W cur n)]) where
  mem x := by
    rw [List.mem_append, h.mem, or_assoc]
    refine or_congr Iff.rfl ⟨?_, fun ⟨j, hj, r, q⟩ => ?_⟩
    · rintro (⟨j, hj, r⟩ | hx)
      · exact ⟨j, Nat.lt_succ_of_lt hj, r⟩
      · exact ⟨n, Nat.lt_succ_self _, e, List.mem_singleton.mp hx⟩
    · rcases Nat.lt_succ_iff_lt_or_eq.mp hj with hj | rfl
      · exact .inl ⟨j, hj, r, q⟩
      · exact .inr (List.mem_singleton.mpr q)
  c1 := by
    rw [List.countP_append]
    have := h.c1
    simp only [List.countP_singleton]
    split <;> omega
  c2 u hu := by
    rw [List.countP_append]
    have := h.c2 u hu
    have : ¬ th (f cur) = u := fun e => hu e.symm
    simp [this]; exact h.c2 u hu
theorem nat_in3 {n : Nat} (h : n < 3) : In3 (n : Int) := by unfold In3; omega
theorem EdgeSt.sideXY (hc : In3 (f cur)) (hn : n < 3) (e : (n : Int) ≠ f cur) : th (f cur) ≠ th n := fun q => e (th_inj hc (nat_in3 hn) q).symm
abbrev UU : List Str := [th 0, th 1, th 2]
theorem th_U {k : Int} (h : In3 k) : th k ∈ UU := by rcases h with rfl | rfl | rfl <;> simp
theorem EdgeSt.sideU (h : EdgeSt W f done cur n es) (hn : n ≤ 3) : ∀ e ∈ es, e.2.1 ∈ UU := fun e he => by
  rcases (h.mem e).mp he with ⟨i, _, j, hj, _, rfl⟩ | ⟨j, hj, _, rfl⟩
  · exact th_U hj
  · exact th_U (nat_in3 (Nat.lt_of_lt_of_le hj hn))
theorem EdgeSt.sideNot (h : EdgeSt W f done cur n es) (hn : n < 3) (hf : ∀ i ∈ done, th (f i) ≠ th (f cur)) : ∀ v, (th (f cur), th n, v) ∉ es := fun v hv => by
  rcases (h.mem _).mp hv with ⟨i, hi, j, hj, _, e⟩ | ⟨j, hj, _, e⟩
  · exact hf i hi (congrArg (·.1) e).symm
  · have : th n = th j := congrArg (·.2.1) e
    have := th_inj (nat_in3 hn) (nat_in3 (Nat.lt_trans hj hn)) this
    omega
theorem EdgeSt.side3 (h : EdgeSt W f done cur n es) (hn : n ≤ 3) : (es.countP fun e => e.1 = th (f cur)) ≤ 3 := Nat.le_trans h.c1 hn
theorem EdgeSt.side4 (h : EdgeSt W f done cur n es) (hn : n ≤ 3) : ∀ u, (es.countP fun e => e.1 = u) ≤ 4 := fun u => by
  by_cases e : u = th (f cur)
  · subst e; have := h.c1; omega
  · have := h.c2 u e; omega
theorem EdgeSt.fin (h : EdgeSt W f done cur 3 es) : DoneSt W f (done ++ [cur]) es where
  mem e := by
    rw [h.mem]
    constructor
    · rintro (⟨i, hi, r⟩ | ⟨j, hj, r, q⟩)
      · exact ⟨i, List.mem_append_left _ hi, r⟩
      · exact ⟨cur, by simp, j, nat_in3 hj, r, q⟩
    · rintro ⟨i, hi, j, hj, r, q⟩
      rcases List.mem_append.mp hi with hi | hi
      · exact .inl ⟨i, hi, j, hj, r, q⟩
      · rw [List.mem_singleton.mp hi] at r q
        refine .inr ⟨j.toNat, by rcases hj with rfl | rfl | rfl <;> decide, ?_, ?_⟩
        · rw [Int.toNat_of_nonneg (by rcases hj with rfl | rfl | rfl <;> decide)]; exact r
        · rw [Int.toNat_of_nonneg (by rcases hj with rfl | rfl | rfl <;> decide)]; exact q
  cnt u := by
    by_cases e : u = th (f cur)
    · subst e; exact h.c1
    · exact h.c2 u e
end
end Mine
end

section -- GI
open PySem PySem.W PyProof.Rows PySem.Calls PySem.Spec PyProof.Rows.LCg
set_option maxRecDepth 100000
namespace Mine
section
variable {prog : Program} {w : World} {A : Around} {s : Shared} {h₀ : Heap} {L : Addr} {m : Str → Option Value} {env : Env}
theorem CompEnd.imp {I C D : Addr} {oI oC oD : Obj} {S : List (Addr × Obj) → Prop} {R R' : Value → List (Addr × Obj) → Prop} {y : Value} {s₂ : Shared} (h : CompEnd h₀ L m s I oI C oC D oD S R y s₂) (k : ∀ y nw, R y nw → R' y nw) : CompEnd h₀ L m s I oI C oC D oD S R' y s₂ := by
  obtain ⟨h', tk, nw, a, b, c, d, e, f⟩ := h
  exact ⟨h', tk, nw, a, b, c, d, e, k _ _ f⟩
/-- the turns of a block that leaves the ledger as it is -/
theorem GRest.ind {elt target : PySem.Expr} {ifs : List PySem.Expr} {scope : Scope} {cl : List (Str × Addr)} {S : List (Addr × Obj) → Prop} {P : Nat → Value → Prop} {Fin : List Value → List (Addr × Obj) → Prop} {n : Nat} {news : List (Addr × Obj)}
    (J : Nat → List Value → Prop) (h0 : J 0 [])
    (step : ∀ i ys v, i < n → J i ys → P i v → ∃ bs : List (Str × Value), (∀ C, Asg prog w A h₀ L m news (compEnvC scope cl C env) C target v bs) ∧
      ∀ I oI C oC D m₂ h tk (E' : Value → Shared → Prop), NsObj oC m₂ → (∀ b ∈ bs, m₂ b.1 = some b.2) → Fr h₀ L h m → News h₀ L h ((I, oI) :: (C, oC) :: (D, lst ys) :: news) → Off3 I C D news → ((@Ne Nat I C) ∧ (@Ne Nat I D) ∧ (@Ne Nat C D)) →
        TurnT prog w A elt (compEnvC scope cl C env) (CompEnd h₀ L m { s with heap := h, toks := tk } I oI C oC D (lst ys) S (fun y news' => news' = news ∧ J (i + 1) (ys ++ [y])))
          (CompEnd h₀ L m { s with heap := h, toks := tk } I oI C oC D (lst ys) S (fun _ news' => news' = news ∧ J (i + 1) ys)) E' { s with heap := h, toks := tk } ifs)
    (fin : ∀ ys, J n ys → Fin ys news) : GRest prog w A h₀ L m env elt target ifs scope cl s S P Fin n 0 [] news := by
  have key : ∀ k i ys, i + k = n → J i ys → GRest prog w A h₀ L m env elt target ifs scope cl s S P Fin k i ys news := by
    intro k
    induction k with
    | zero => intro i ys e hJ; exact fin ys (by rw [← show i = n by omega]; exact hJ)
    | succ k ih =>
      intro i ys e hJ v hv
      obtain ⟨bs, ha, t⟩ := step i ys v (by omega) hJ hv
      refine ⟨bs, ha, fun I oI C oC D m₂ h tk E' a b c d e' f => ?_⟩
      have t := t I oI C oC D m₂ h tk E' a b c d e' f
      have k1 : ∀ y nw, (nw = news ∧ J (i + 1) (ys ++ [y])) → GRest prog w A h₀ L m env elt target ifs scope cl s S P Fin k (i + 1) (ys ++ [y]) nw := fun y nw ⟨e₁, e₂⟩ => e₁ ▸ ih _ _ (by omega) e₂
      have k2 : ∀ (_ : Value) nw, (nw = news ∧ J (i + 1) ys) → GRest prog w A h₀ L m env elt target ifs scope cl s S P Fin k (i + 1) ys nw := fun y nw ⟨e₁, e₂⟩ => e₁ ▸ ih _ _ (by omega) e₂
      match ifs, t with
      | [], t => exact wpAny_mono t (fun y s₂ h₂ => CompEnd.imp h₂ k1) fun _ _ x => x
      | c :: _, t =>
        refine wpAny_mono t (fun ok s₂ h₂ => ?_) fun _ _ x => x
        cases ok with
        | true =>
          simp only [if_true] at h₂ ⊢
          exact wpAny_mono h₂ (fun y s₂ h₂ => CompEnd.imp h₂ k1) fun _ _ x => x
        | false =>
          simp only [Bool.false_eq_true, if_false] at h₂ ⊢
          exact CompEnd.imp h₂ k2
  exact key n 0 [] (by omega) h0
end
/-- a list of ints, by what they are -/
def IntsL (f : Nat → Int) (n : Nat) (ys : List Value) : Prop := ys.length = n ∧ ∀ i, i < n → ∃ t, ys[i]? = some (.int (f i) t)
theorem IntsL.nil {f : Nat → Int} : IntsL f 0 [] := ⟨rfl, fun _ h => absurd h (Nat.not_lt_zero _)⟩
theorem IntsL.snoc {f : Nat → Int} {n : Nat} {ys : List Value} {t : Tok} (h : IntsL f n ys) : IntsL f (n + 1) (ys ++ [.int (f n) t]) := by
  refine ⟨by simp [h.1], fun i hi => ?_⟩
  rcases Nat.lt_succ_iff_lt_or_eq.mp hi with hi | rfl
  · obtain ⟨t, e⟩ := h.2 i hi
    exact ⟨t, by rw [List.getElem?_append_left (by rw [h.1]; exact hi)]; exact e⟩
  · exact ⟨t, by rw [List.getElem?_append_right (by rw [h.1]; exact Nat.le_refl _), h.1]; simp⟩
theorem IntsL.six {f : Nat → Int} {ys : List Value} (h : IntsL f 6 ys) : ∃ t0 t1 t2 t3 t4 t5, ys = [.int (f 0) t0, .int (f 1) t1, .int (f 2) t2, .int (f 3) t3, .int (f 4) t4, .int (f 5) t5] := by
  obtain ⟨hl, h⟩ := h
  match ys, hl with
  | [a, b, c, d, e, g], _ =>
    obtain ⟨t0, e0⟩ := h 0 (by omega)
    obtain ⟨t1, e1⟩ := h 1 (by omega)
    obtain ⟨t2, e2⟩ := h 2 (by omega)
    obtain ⟨t3, e3⟩ := h 3 (by omega)
    obtain ⟨t4, e4⟩ := h 4 (by omega)
    obtain ⟨t5, e5⟩ := h 5 (by omega)
    simp only [List.getElem?_cons_zero, List.getElem?_cons_succ, Option.some.injEq] at e0 e1 e2 e3 e4 e5
    subst e0 e1 e2 e3 e4 e5
    exact ⟨_, _, _, _, _, _, rfl⟩
def tot (W : Int → Int → Int) (p : Nat) : Int := W 0 (wy p 0) + W 1 (wy p 1) + W 2 (wy p 2)
theorem ways_item {i : Nat} {v : Value} (hi : i < 6) (h : (#[.ref 211, .ref 212, .ref 213, .ref 214, .ref 215, .ref 216] : Array Value)[i]? = some v) : v = .ref (211 + i) := by
  have : i = 0 ∨ i = 1 ∨ i = 2 ∨ i = 3 ∨ i = 4 ∨ i = 5 := by omega
  rcases this with rfl | rfl | rfl | rfl | rfl | rfl <;> (simp at h; exact h.symm)
end Mine
end

section -- PG
open PySem PySem.W PyProof.Rows PySem.Calls PySem.Spec
namespace Mine
/-- prices (negated) that bear the way f -/
def PF (W : Int → Int → Int) (f : Int → Int) (P : Int → Int) : Prop := ∀ i j, In3 i → In3 j → j ≠ f i → P j ≤ P (f i) + (W i (f i) - W i j)
structure Best (W : Int → Int → Int) (f : Int → Int) (D : Int → Int) : Prop where
  le0 : ∀ k, In3 k → D k ≤ 0
  feas : PF W f D
  great : ∀ P, PF W f P → (∀ k, In3 k → P k ≤ 0) → ∀ k, In3 k → P k ≤ D k
section
variable {W : Int → Int → Int} {P : Int → Int}
theorem six {p : Nat} (h : p < 6) : p = 0 ∨ p = 1 ∨ p = 2 ∨ p = 3 ∨ p = 4 ∨ p = 5 := by omega
/-- the six bounds, written out -/
theorem PF.iff {f : Int → Int} {a b c : Int} (h0 : f 0 = a) (h1 : f 1 = b) (h2 : f 2 = c) (hp : (a = 0 ∧ b = 1 ∧ c = 2) ∨ (a = 0 ∧ b = 2 ∧ c = 1) ∨ (a = 1 ∧ b = 0 ∧ c = 2) ∨ (a = 1 ∧ b = 2 ∧ c = 0) ∨ (a = 2 ∧ b = 0 ∧ c = 1) ∨ (a = 2 ∧ b = 1 ∧ c = 0)) :
    PF W f P ↔ (P b ≤ P a + (W 0 a - W 0 b) ∧ P c ≤ P a + (W 0 a - W 0 c)) ∧ (P a ≤ P b + (W 1 b - W 1 a) ∧ P c ≤ P b + (W 1 b - W 1 c)) ∧ (P a ≤ P c + (W 2 c - W 2 a) ∧ P b ≤ P c + (W 2 c - W 2 b)) := by
  subst h0 h1 h2
  constructor
  · intro h
    have ha : In3 (f 0) := by unfold In3; omega
    have hb : In3 (f 1) := by unfold In3; omega
    have hc : In3 (f 2) := by unfold In3; omega
    have i0 : In3 0 := .inl rfl
    have i1 : In3 1 := .inr (.inl rfl)
    have i2 : In3 2 := .inr (.inr rfl)
    exact ⟨⟨h 0 _ i0 hb (by omega), h 0 _ i0 hc (by omega)⟩, ⟨h 1 _ i1 ha (by omega), h 1 _ i1 hc (by omega)⟩, ⟨h 2 _ i2 ha (by omega), h 2 _ i2 hb (by omega)⟩⟩
  · rintro ⟨⟨h1, h2⟩, ⟨h3, h4⟩, h5, h6⟩ i j hi hj ne
    have key : j = f 0 ∨ j = f 1 ∨ j = f 2 := by rcases hj with rfl | rfl | rfl <;> omega
    rcases hi with rfl | rfl | rfl <;> rcases key with rfl | rfl | rfl <;> first | exact absurd rfl ne | assumption
theorem wy_perm {p : Nat} (hp : p < 6) : (wy p 0 = 0 ∧ wy p 1 = 1 ∧ wy p 2 = 2) ∨ (wy p 0 = 0 ∧ wy p 1 = 2 ∧ wy p 2 = 1) ∨ (wy p 0 = 1 ∧ wy p 1 = 0 ∧ wy p 2 = 2) ∨ (wy p 0 = 1 ∧ wy p 1 = 2 ∧ wy p 2 = 0) ∨ (wy p 0 = 2 ∧ wy p 1 = 0 ∧ wy p 2 = 1) ∨ (wy p 0 = 2 ∧ wy p 1 = 1 ∧ wy p 2 = 0) := by
  rcases six hp with rfl | rfl | rfl | rfl | rfl | rfl <;> simp [wy]
theorem PF.wy_iff {p : Nat} (hp : p < 6) : PF W (wy p) P ↔ (P (wy p 1) ≤ P (wy p 0) + (W 0 (wy p 0) - W 0 (wy p 1)) ∧ P (wy p 2) ≤ P (wy p 0) + (W 0 (wy p 0) - W 0 (wy p 2))) ∧ (P (wy p 0) ≤ P (wy p 1) + (W 1 (wy p 1) - W 1 (wy p 0)) ∧ P (wy p 2) ≤ P (wy p 1) + (W 1 (wy p 1) - W 1 (wy p 2))) ∧ (P (wy p 0) ≤ P (wy p 2) + (W 2 (wy p 2) - W 2 (wy p 0)) ∧ P (wy p 1) ≤ P (wy p 2) + (W 2 (wy p 2) - W 2 (wy p 1))) :=
  PF.iff rfl rfl rfl (wy_perm hp)
theorem tot_le_of_PF {p r : Nat} (hp : p < 6) (hr : r < 6) (h : PF W (wy p) P) : tot W r ≤ tot W p := by
  have h := (PF.wy_iff hp).mp h
  rcases six hp with rfl | rfl | rfl | rfl | rfl | rfl <;> rcases six hr with rfl | rfl | rfl | rfl | rfl | rfl <;> simp [wy, tot] at h ⊢ <;> omega
theorem PF_of_PF {p r : Nat} (hp : p < 6) (hr : r < 6) (h : PF W (wy p) P) (e : tot W r = tot W p) : PF W (wy r) P := by
  have h := (PF.wy_iff hp).mp h
  refine (PF.wy_iff hr).mpr ?_
  rcases six hp with rfl | rfl | rfl | rfl | rfl | rfl <;> rcases six hr with rfl | rfl | rfl | rfl | rfl | rfl <;> simp [wy, tot] at h e ⊢ <;> omega
theorem min5 (a b c d e : Int) : ∃ x, (x ≤ a ∧ x ≤ b ∧ x ≤ c ∧ x ≤ d ∧ x ≤ e) ∧ (x = a ∨ x = b ∨ x = c ∨ x = d ∨ x = e) := by
  have m2 : ∀ a b : Int, ∃ x, x ≤ a ∧ x ≤ b ∧ (x = a ∨ x = b) := fun a b => by
    by_cases h : a ≤ b
    · exact ⟨a, Int.le_refl _, h, .inl rfl⟩
    · exact ⟨b, by omega, Int.le_refl _, .inr rfl⟩
  obtain ⟨x, h1, h2, h3⟩ := m2 a b
  obtain ⟨y, k1, k2, k3⟩ := m2 c d
  obtain ⟨z, l1, l2, l3⟩ := m2 x y
  obtain ⟨u, n1, n2, n3⟩ := m2 z e
  exact ⟨u, by omega, by omega⟩
/-- three nodes, no negative ring: the least ways from nought -/
theorem sp3 {c01 c02 c10 c12 c20 c21 : Int} (r01 : 0 ≤ c01 + c10) (r02 : 0 ≤ c02 + c20) (r12 : 0 ≤ c12 + c21) (s1 : 0 ≤ c01 + c12 + c20) (s2 : 0 ≤ c02 + c21 + c10) :
    ∃ x0 x1 x2 : Int, (x1 ≤ x0 + c01 ∧ x2 ≤ x0 + c02 ∧ x0 ≤ x1 + c10 ∧ x2 ≤ x1 + c12 ∧ x0 ≤ x2 + c20 ∧ x1 ≤ x2 + c21) ∧ (x0 ≤ 0 ∧ x1 ≤ 0 ∧ x2 ≤ 0) ∧
      (x0 = 0 ∨ x0 = c10 ∨ x0 = c20 ∨ x0 = c12 + c20 ∨ x0 = c21 + c10) ∧ (x1 = 0 ∨ x1 = c01 ∨ x1 = c21 ∨ x1 = c02 + c21 ∨ x1 = c20 + c01) ∧ (x2 = 0 ∨ x2 = c02 ∨ x2 = c12 ∨ x2 = c01 + c12 ∨ x2 = c10 + c02) := by
  obtain ⟨x0, a0, b0⟩ := min5 0 c10 c20 (c12 + c20) (c21 + c10)
  obtain ⟨x1, a1, b1⟩ := min5 0 c01 c21 (c02 + c21) (c20 + c01)
  obtain ⟨x2, a2, b2⟩ := min5 0 c02 c12 (c01 + c12) (c10 + c02)
  refine ⟨x0, x1, x2, ⟨?_, ?_, ?_, ?_, ?_, ?_⟩, by omega, b0, b1, b2⟩
  · rcases b0 with rfl | rfl | rfl | rfl | rfl <;> omega
  · rcases b0 with rfl | rfl | rfl | rfl | rfl <;> omega
  · rcases b1 with rfl | rfl | rfl | rfl | rfl <;> omega
  · rcases b1 with rfl | rfl | rfl | rfl | rfl <;> omega
  · rcases b2 with rfl | rfl | rfl | rfl | rfl <;> omega
  · rcases b2 with rfl | rfl | rfl | rfl | rfl <;> omega
end
end Mine
end

section -- PH
open PySem PySem.W PyProof.Rows PySem.Calls PySem.Spec
namespace Mine
section
variable {W : Int → Int → Int} {P D : Int → Int}
/-- the owner of a thing -/
def ow (p : Nat) (k : Int) : Int := if wy p 0 = k then 0 else if wy p 1 = k then 1 else 2
abbrev cc (W : Int → Int → Int) (p : Nat) (a b : Int) : Int := W (ow p a) a - W (ow p a) b
abbrev tri (x0 x1 x2 : Int) : Int → Int := fun k => if k = 0 then x0 else if k = 1 then x1 else x2
theorem PF.own_iff {p : Nat} (hp : p < 6) : PF W (wy p) P ↔ (P 1 ≤ P 0 + cc W p 0 1 ∧ P 2 ≤ P 0 + cc W p 0 2 ∧ P 0 ≤ P 1 + cc W p 1 0 ∧ P 2 ≤ P 1 + cc W p 1 2 ∧ P 0 ≤ P 2 + cc W p 2 0 ∧ P 1 ≤ P 2 + cc W p 2 1) := by
  rw [PF.wy_iff hp]
  rcases six hp with rfl | rfl | rfl | rfl | rfl | rfl <;> simp [wy, ow, cc] <;> omega
theorem rings {p : Nat} (hp : p < 6) (h : ∀ r, r < 6 → tot W r ≤ tot W p) : 0 ≤ cc W p 0 1 + cc W p 1 0 ∧ 0 ≤ cc W p 0 2 + cc W p 2 0 ∧ 0 ≤ cc W p 1 2 + cc W p 2 1 ∧ 0 ≤ cc W p 0 1 + cc W p 1 2 + cc W p 2 0 ∧ 0 ≤ cc W p 0 2 + cc W p 2 1 + cc W p 1 0 := by
  have h0 := h 0 (by omega)
  have h1 := h 1 (by omega)
  have h2 := h 2 (by omega)
  have h3 := h 3 (by omega)
  have h4 := h 4 (by omega)
  have h5 := h 5 (by omega)
  rcases six hp with rfl | rfl | rfl | rfl | rfl | rfl <;> simp [wy, ow, tot, cc] at h0 h1 h2 h3 h4 h5 ⊢ <;> omega
theorem sp_of {p : Nat} (hp : p < 6) (h : ∀ r, r < 6 → tot W r ≤ tot W p) : ∃ x0 x1 x2 : Int, PF W (wy p) (tri x0 x1 x2) ∧ (x0 ≤ 0 ∧ x1 ≤ 0 ∧ x2 ≤ 0) ∧
    (x0 = 0 ∨ x0 = cc W p 1 0 ∨ x0 = cc W p 2 0 ∨ x0 = cc W p 1 2 + cc W p 2 0 ∨ x0 = cc W p 2 1 + cc W p 1 0) ∧ (x1 = 0 ∨ x1 = cc W p 0 1 ∨ x1 = cc W p 2 1 ∨ x1 = cc W p 0 2 + cc W p 2 1 ∨ x1 = cc W p 2 0 + cc W p 0 1) ∧ (x2 = 0 ∨ x2 = cc W p 0 2 ∨ x2 = cc W p 1 2 ∨ x2 = cc W p 0 1 + cc W p 1 2 ∨ x2 = cc W p 1 0 + cc W p 0 2) := by
  obtain ⟨r1, r2, r3, s1, s2⟩ := rings hp h
  obtain ⟨x0, x1, x2, a, b, c⟩ := sp3 r1 r2 r3 s1 s2
  exact ⟨x0, x1, x2, (PF.own_iff hp).mpr (by simpa [tri] using a), b, c⟩
theorem Best.total {p r : Nat} (hp : p < 6) (hr : r < 6) (h : Best W (wy p) D) : tot W r ≤ tot W p := tot_le_of_PF hp hr h.feas
/-- all best ways bear the same prices -/
theorem Best.same {p r : Nat} {D' : Int → Int} (hp : p < 6) (hr : r < 6) (h : Best W (wy p) D) (h' : Best W (wy r) D') : ∀ k, In3 k → D k = D' k := by
  have e : tot W r = tot W p := Int.le_antisymm (h.total hp hr) (h'.total hr hp)
  intro k hk
  exact Int.le_antisymm (h'.great D (PF_of_PF hp hr h.feas e) h.le0 k hk) (h.great D' (PF_of_PF hr hp h'.feas e.symm) h'.le0 k hk)
/-- what the two others can have, without buyer i (a, b the others) -/
abbrev two (W : Int → Int → Int) (a b : Int) (p : Nat) : Int := W a (wy p 0) + W b (wy p 1)
theorem Best.price {p : Nat} {M i a b : Int} (hp : p < 6) (h : Best W (wy p) D) (hi : (i = 0 ∧ a = 1 ∧ b = 2) ∨ (i = 1 ∧ a = 0 ∧ b = 2) ∨ (i = 2 ∧ a = 0 ∧ b = 1))
    (hM : M = two W a b 0 ∨ M = two W a b 1 ∨ M = two W a b 2 ∨ M = two W a b 3 ∨ M = two W a b 4 ∨ M = two W a b 5)
    (hle : two W a b 0 ≤ M ∧ two W a b 1 ≤ M ∧ two W a b 2 ≤ M ∧ two W a b 3 ≤ M ∧ two W a b 4 ≤ M ∧ two W a b 5 ≤ M) :
    -1 * D (wy p i) = M - W a (wy p a) - W b (wy p b) := by
  obtain ⟨x0, x1, x2, hx, ⟨z0, z1, z2⟩, o0, o1, o2⟩ := sp_of hp fun r hr => h.total hp hr
  have g := h.great (tri x0 x1 x2) hx (fun k hk => by rcases hk with rfl | rfl | rfl <;> simp [tri, z0, z1, z2])
  have g0 := g 0 (.inl rfl)
  have g1 := g 1 (.inr (.inl rfl))
  have g2 := g 2 (.inr (.inr rfl))
  have n0 := h.le0 0 (.inl rfl)
  have n1 := h.le0 1 (.inr (.inl rfl))
  have n2 := h.le0 2 (.inr (.inr rfl))
  have f := (PF.own_iff hp).mp h.feas
  simp only [tri, if_true, show ((1 : Int) = 0) = False by decide, show ((2 : Int) = 0) = False by decide, show ((2 : Int) = 1) = False by decide, if_false] at g0 g1 g2
  clear g hx h z0 z1 z2
  rcases six hp with rfl | rfl | rfl | rfl | rfl | rfl <;> rcases hi with ⟨rfl, rfl, rfl⟩ | ⟨rfl, rfl, rfl⟩ | ⟨rfl, rfl, rfl⟩ <;> (simp [wy, ow, two, cc] at *; omega)
end
end Mine
end

section -- PL
open PySem PySem.W PyProof.Rows PySem.Calls PySem.Spec
namespace Mine
section
variable {W : Int → Int → Int}
theorem max6 (a b c d e g : Int) : ∃ M, (M = a ∨ M = b ∨ M = c ∨ M = d ∨ M = e ∨ M = g) ∧ (a ≤ M ∧ b ≤ M ∧ c ≤ M ∧ d ≤ M ∧ e ≤ M ∧ g ≤ M) := by
  have m2 : ∀ a b : Int, ∃ x, a ≤ x ∧ b ≤ x ∧ (x = a ∨ x = b) := fun a b => by
    by_cases h : a ≤ b
    · exact ⟨b, h, Int.le_refl _, .inr rfl⟩
    · exact ⟨a, Int.le_refl _, by omega, .inl rfl⟩
  obtain ⟨x, h1, h2, h3⟩ := m2 a b
  obtain ⟨y, k1, k2, k3⟩ := m2 c d
  obtain ⟨z, l1, l2, l3⟩ := m2 e g
  obtain ⟨u, n1, n2, n3⟩ := m2 x y
  obtain ⟨v, q1, q2, q3⟩ := m2 u z
  exact ⟨v, by omega, by omega⟩
/-- telling the truth is best -/
theorem truth {W' : Int → Int → Int} {p r : Nat} {D D' : Int → Int} {i a b : Int} (hp : p < 6) (hr : r < 6) (h : Best W (wy p) D) (h' : Best W' (wy r) D')
    (hi : (i = 0 ∧ a = 1 ∧ b = 2) ∨ (i = 1 ∧ a = 0 ∧ b = 2) ∨ (i = 2 ∧ a = 0 ∧ b = 1)) (ha : W' a = W a) (hb : W' b = W b) :
    W i (wy r i) - (-1 * D' (wy r i)) ≤ W i (wy p i) - (-1 * D (wy p i)) := by
  obtain ⟨M, hM, hle⟩ := max6 (two W a b 0) (two W a b 1) (two W a b 2) (two W a b 3) (two W a b 4) (two W a b 5)
  have e1 := h.price hp hi hM hle
  have e2 := h'.price (M := M) hr hi (by simpa only [two, ha, hb] using hM) (by simpa only [two, ha, hb] using hle)
  rw [ha, hb] at e2
  rw [e1, e2]
  have t := h.total hp hr
  rcases hi with ⟨rfl, rfl, rfl⟩ | ⟨rfl, rfl, rfl⟩ | ⟨rfl, rfl, rfl⟩ <;> unfold tot at t <;> omega

/-- what the edges of a market say -/
theorem feasE_iff {p : Nat} {es : List Edge} {P : Str → Int} {done : List Int} (h : DoneSt W (wy p) done es) (hd : ∀ i, i ∈ done ↔ In3 i) : FeasE es P ↔ PF W (wy p) fun k => P (th k) := by
  constructor
  · intro hP i j hi hj ne
    exact hP _ _ _ ((h.mem _).mpr ⟨i, (hd i).mpr hi, j, hj, ne, rfl⟩)
  · intro hP u v c hm
    obtain ⟨i, hi, j, hj, ne, e⟩ := (h.mem _).mp hm
    cases e
    exact hP i j ((hd i).mp hi) hj ne
def lift (P : Int → Int) (v : Str) : Int := if v = th 0 then P 0 else if v = th 1 then P 1 else if v = th 2 then P 2 else 0
theorem lift_th {P : Int → Int} {k : Int} (hk : In3 k) : lift P (th k) = P k := by
  rcases hk with rfl | rfl | rfl
  · exact if_pos rfl
  · exact (if_neg (by decide)).trans (if_pos rfl)
  · exact (if_neg (by decide)).trans ((if_neg (by decide)).trans (if_pos rfl))
theorem lift_le {P : Int → Int} (h : ∀ k, In3 k → P k ≤ 0) (v : Str) : lift P v ≤ 0 := by
  unfold lift
  split
  · exact h 0 (.inl rfl)
  · split
    · exact h 1 (.inr (.inl rfl))
    · split
      · exact h 2 (.inr (.inr rfl))
      · exact Int.le_refl _
theorem PF.congr {f P P' : Int → Int} (hf : ∀ i, In3 i → In3 (f i)) (e : ∀ k, In3 k → P k = P' k) (h : PF W f P) : PF W f P' := fun i j hi hj ne => by
  rw [← e j hj, ← e _ (hf i hi)]; exact h i j hi hj ne
section
variable {p : Nat} {es : List Edge} {done : List Int} {base : List Str} {sat : Bool} {C : Chs} {D : Str → Int} {nC nD : List Str}
theorem NetP.feasD (h : NetP base es true C D nC nD) : FeasE es D := fun u v c hm => h.feas rfl u v c ((h.edges rfl u v c).mpr hm)
theorem NetP.best (n : NetP base es true C D nC nD) (hp : p < 6) (h : DoneSt W (wy p) done es) (hd : ∀ i, i ∈ done ↔ In3 i) : Best W (wy p) fun k => D (th k) where
  le0 k _ := n.le0 _
  feas := (feasE_iff h hd).mp n.feasD
  great P hP hl k hk := by
    have := n.great (lift P) ((feasE_iff h hd).mpr (hP.congr (fun i hi => wy_in hp hi) fun k hk => (lift_th hk).symm)) (lift_le hl) (th k)
    rwa [lift_th hk] at this
theorem NetP.stands (n : NetP base es sat C D nC nD) (hp : p < 6) (h : DoneSt W (wy p) done es) (hd : ∀ i, i ∈ done ↔ In3 i) {M : Int}
    (hM : M = tot W 0 ∨ M = tot W 1 ∨ M = tot W 2 ∨ M = tot W 3 ∨ M = tot W 4 ∨ M = tot W 5)
    (hle : tot W 0 ≤ M ∧ tot W 1 ≤ M ∧ tot W 2 ≤ M ∧ tot W 3 ≤ M ∧ tot W 4 ≤ M ∧ tot W 5 ≤ M) : sat = decide (tot W p = M) := by
  have hpM : tot W p ≤ M := by rcases six hp with rfl | rfl | rfl | rfl | rfl | rfl <;> omega
  cases sat with
  | true =>
    have b := n.best hp h hd
    have g0 := b.total hp (show 0 < 6 by omega)
    have g1 := b.total hp (show 1 < 6 by omega)
    have g2 := b.total hp (show 2 < 6 by omega)
    have g3 := b.total hp (show 3 < 6 by omega)
    have g4 := b.total hp (show 4 < 6 by omega)
    have g5 := b.total hp (show 5 < 6 by omega)
    exact (decide_eq_true (by omega)).symm
  | false =>
    refine (decide_eq_false fun e => ?_).symm
    obtain ⟨x0, x1, x2, hx, _⟩ := sp_of (W := W) hp fun r hr => by rcases six hr with rfl | rfl | rfl | rfl | rfl | rfl <;> omega
    exact n.unsat rfl (lift (tri x0 x1 x2)) ((feasE_iff h hd).mpr (hx.congr (fun i hi => wy_in hp hi) fun k hk => (lift_th hk).symm))
end
end
end Mine
end

section -- MM
open PySem PySem.W PyProof.Rows PySem.Calls PySem.Spec PyProof.Rows.LCg
namespace Mine
abbrev PRG : Program := PySem.Challenge.rw_fq5045_02.row.prog
/-- a map but for some names -/
def ovs : List Str → (Str → Option Value) → (Str → Option Value) → Str → Option Value
  | [], _, mf => mf
  | a :: r, u, mf => fun z => if z = a then u a else ovs r u mf z
theorem ovs_at {m mf : Str → Option Value} {z : Str} : ∀ {l : List Str}, (z ∉ l → m z = mf z) → m z = ovs l m mf z
  | [], h => h (by simp)
  | a :: r, h => by
    by_cases e : z = a
    · subst e; simp [ovs]
    · simp only [ovs, if_neg e]; exact ovs_at fun hz => h (by simp [e, hz])
theorem ovs_eq {m mf : Str → Option Value} {l : List Str} (h : ∀ z, z ∉ l → m z = mf z) : m = ovs l m mf := funext fun z => ovs_at (h z)
theorem ovs_ex {m mf : Str → Option Value} {l : List Str} (h : ∀ z, z ∉ l → m z = mf z) : ∃ u, m = ovs l u mf := ⟨m, ovs_eq h⟩
theorem ovs_off {u mf : Str → Option Value} {z : Str} : ∀ {l : List Str}, z ∉ l → ovs l u mf z = mf z
  | [], _ => rfl
  | a :: r, h => by
    simp only [List.mem_cons, not_or] at h
    simp only [ovs, if_neg h.1]; exact ovs_off h.2

/-- a market that stands, by what lies in the ledger's tail -/
def NetIn (w : World) (W : Int → Int → Int) (p : Nat) (x : Addr) (tail : List (Addr × Obj)) : Prop :=
  ∃ (dx dc dd : Addr) (od : Obj) (a1 a2 a3 a4 : Int) (t1 t2 t3 t4 t5 : Tok) (D : Str → Int) (nD : List Str) (kd : Nat),
    (x, instObj SC dx) ∈ tail ∧ (dx, netD a1 a2 a3 a4 t1 t2 t3 t4 t5 dc dd true 4) ∈ tail ∧ (dd, od) ∈ tail ∧ IsD PRG w od D nD kd ∧ (∀ k, In3 k → th k ∈ nD) ∧ Best W (wy p) fun k => D (th k)
def Mkt (w : World) (W : Int → Int → Int) (tail : List (Addr × Obj)) (p : Nat) (v : Value) : Prop :=
  ∃ (tp x : Addr) (n : Nat), v = .ref tp ∧ (tp, tpO #[.ref (211 + p), .ref x] n) ∈ tail ∧ NetIn w W p x tail
theorem Mkt.mono {w : World} {W : Int → Int → Int} {tail tail' : List (Addr × Obj)} {p : Nat} {v : Value} (h : Mkt w W tail p v) (k : ∀ q ∈ tail, q ∈ tail') : Mkt w W tail' p v := by
  obtain ⟨tp, x, n, e, h1, dx, dc, dd, od, a1, a2, a3, a4, t1, t2, t3, t4, t5, D, nD, kd, h2, h3, h4, r⟩ := h
  exact ⟨tp, x, n, e, k _ h1, dx, dc, dd, od, a1, a2, a3, a4, t1, t2, t3, t4, t5, D, nD, kd, k _ h2, k _ h3, k _ h4, r⟩
def bestOf (W : Int → Int → Int) (M : Int) (i : Nat) : List Nat := (List.range i).filter fun p => decide (tot W p = M)
theorem bestOf_succ {W : Int → Int → Int} {M : Int} {i : Nat} : bestOf W M (i + 1) = bestOf W M i ++ (if tot W i = M then [i] else []) := by
  unfold bestOf
  rw [List.range_succ, List.filter_append]
  by_cases h : tot W i = M <;> simp [h]
def MkOk (w : World) (W : Int → Int → Int) (M : Int) (i : Nat) (ms : List Value) (tail : List (Addr × Obj)) : Prop := Paired (Mkt w W tail) (bestOf W M i) ms
theorem Paired.imp {α β : Type} {F G : α → β → Prop} (k : ∀ a b, F a b → G a b) : ∀ {l₁ : List α} {l₂ : List β}, Paired F l₁ l₂ → Paired G l₁ l₂
  | _, _, .nil => .nil
  | _, _, .cons h t => .cons (k _ _ h) (Paired.imp k t)
section
variable {w : World} {W : Int → Int → Int} {M : Int} {i : Nat} {ms : List Value} {tail tail' : List (Addr × Obj)}
theorem MkOk.mono (h : MkOk w W M i ms tail) (k : ∀ q ∈ tail, q ∈ tail') : MkOk w W M i ms tail' := Paired.imp (fun _ _ x => Mkt.mono x k) h
theorem MkOk.zero : MkOk w W M 0 [] tail := .nil
theorem MkOk.skip (h : MkOk w W M i ms tail) (e : tot W i ≠ M) : MkOk w W M (i + 1) ms tail := by
  unfold MkOk; rw [bestOf_succ, if_neg e, List.append_nil]; exact h
theorem MkOk.push {v : Value} (h : MkOk w W M i ms tail) (e : tot W i = M) (hv : Mkt w W tail i v) : MkOk w W M (i + 1) (ms ++ [v]) tail := by
  unfold MkOk; rw [bestOf_succ, if_pos e]; exact Paired.snoc h hv
end

/-- the zip loop's state -/
abbrev nm1 : List Str := [Str.ofString "stands", Str.ofString "j", Str.ofString "own", Str.ofString "i", Str.ofString "market", Str.ofString "total", Str.ofString "way"]
def J1 (w : World) (W : Int → Int → Int) (M : Int) (mf : Str → Option Value) (lm : Addr) (fix rest : List (Addr × Obj)) (i : Nat) (m₁ : Str → Option Value) (news₁ : List (Addr × Obj)) : Prop :=
  ∃ (its : Array Value) (n : Nat) (tail : List (Addr × Obj)), (∀ z, z ∉ nm1 → m₁ z = mf z) ∧ news₁ = (lm, lsO its n) :: (fix ++ (rest ++ tail)) ∧ MkOk w W M i its.toList tail ∧ its.size ≤ i ∧ ∀ p ∈ tail, ∀ q ∈ (lm, lsO its n) :: (fix ++ rest), p.1 ≠ q.1
/-- the turn loop's state -/
abbrev nm2 : List Str := [Str.ofString "j", Str.ofString "own", Str.ofString "i"]
abbrev net4 (x dx dc dd : Addr) (a1 a2 a3 a4 : Int) (t1 t2 t3 t4 t5 : Tok) (sat : Bool) (oc od : Obj) : List (Addr × Obj) := [(x, instObj SC dx), (dx, netD a1 a2 a3 a4 t1 t2 t3 t4 t5 dc dd sat 4), (dc, oc), (dd, od)]
structure Net2 (w : World) (x dx dc dd : Addr) (fix rest ext : List (Addr × Obj)) (es : List Edge) (sat : Bool) (oc od : Obj) (n : Nat) : Prop where
  ok : NetOk PRG w (fun a o => (a, o) ∈ ext) [] es sat oc od n n
  off : ∀ p ∈ fix ++ (rest ++ ext), p.1 ∉ [x, dx, dc, dd]
  extOff : ∀ p ∈ ext, ∀ q ∈ fix ++ rest, p.1 ≠ q.1
def J2 (w : World) (W : Int → Int → Int) (f : Int → Int) (tn : Nat → Int) (mf : Str → Option Value) (x dx dc dd : Addr) (a1 a2 a3 a4 : Int) (t1 t2 t3 t4 t5 : Tok) (fix rest : List (Addr × Obj)) (i : Nat) (m₁ : Str → Option Value) (news₁ : List (Addr × Obj)) : Prop :=
  ∃ (es : List Edge) (sat : Bool) (oc od : Obj) (ext : List (Addr × Obj)), (∀ z, z ∉ nm2 → m₁ z = mf z) ∧ news₁ = net4 x dx dc dd a1 a2 a3 a4 t1 t2 t3 t4 t5 sat oc od ++ (fix ++ (rest ++ ext)) ∧
    Net2 w x dx dc dd fix rest ext es sat oc od (6 * i) ∧ DoneSt W f ((List.range i).map tn) es
def J3 (w : World) (W : Int → Int → Int) (f : Int → Int) (done : List Int) (cur : Int) (k₀ : Nat) (mf : Str → Option Value) (x dx dc dd : Addr) (a1 a2 a3 a4 : Int) (t1 t2 t3 t4 t5 : Tok) (fix rest : List (Addr × Obj)) (n : Nat) (m₁ : Str → Option Value) (news₁ : List (Addr × Obj)) : Prop :=
  ∃ (es : List Edge) (sat : Bool) (oc od : Obj) (ext : List (Addr × Obj)), (∀ z, z ∉ [Str.ofString "j"] → m₁ z = mf z) ∧ news₁ = net4 x dx dc dd a1 a2 a3 a4 t1 t2 t3 t4 t5 sat oc od ++ (fix ++ (rest ++ ext)) ∧
    Net2 w x dx dc dd fix rest ext es sat oc od (k₀ + 2 * n) ∧ EdgeSt W f done cur n es
end Mine
namespace Mine
theorem allLt_mem {d : Addr} {l : List (Addr × Obj)} : AllLt d l → ∀ p ∈ l, @LT.lt Nat _ p.1 d := by
  induction l with
  | nil => intro _ p hp; exact absurd hp List.not_mem_nil
  | cons a r ih =>
    intro h p hp
    obtain ⟨h1, h2⟩ : @LT.lt Nat _ a.1 d ∧ AllLt d r := h
    rcases List.mem_cons.mp hp with e | hp
    · rw [e]; exact h1
    · exact ih h2 p hp
theorem sub4 {a b c d p : Addr × Obj} {l : List (Addr × Obj)} (hp : p ∈ a :: b :: c :: d :: l) : p ∈ d :: c :: a :: b :: l := by
  simp only [List.mem_cons] at hp ⊢
  rcases hp with h | h | h | h | h <;> simp [h]
theorem netOk_new {w : World} {M : Addr → Obj → Prop} {oc od : Obj} (hc : Obj.IsDictOf (PySem.strKind PRG w) oc []) (hd : Obj.IsDictOf (PySem.strKind PRG w) od []) : NetOk PRG w M [] [] true oc od 0 0 :=
  ⟨fun _ => [], fun _ => 0, [], [], ⟨valueAt [], ⟨[], hc, fun _ => rfl, Nat.le_refl _⟩, fun _ h => (nomatch h), fun _ _ => ⟨rfl, rfl⟩⟩, ⟨valueAt [], ⟨[], hd, fun _ => rfl, Nat.le_refl _⟩, fun _ h => (nomatch h), fun _ _ => ⟨rfl, rfl⟩⟩, NetP.start⟩
theorem netOk_mono {w : World} {M M' : Addr → Obj → Prop} {bs : List Str} {es : List Edge} {sat : Bool} {oc od : Obj} {k k' n n' : Nat} (h : NetOk PRG w M bs es sat oc od k n) (hM : ∀ a o, M a o → M' a o) (hk : k ≤ k') (hn : n ≤ n') : NetOk PRG w M' bs es sat oc od k' n' := by
  obtain ⟨C, D, nC, nD, hc, hd, hp⟩ := h
  refine ⟨C, D, nC, nD, ?_, ?_, hp⟩
  · obtain ⟨f, a, b, c⟩ := hc.keeps (M' := M') hM
    exact ⟨f, a.mono hk, b, c⟩
  · obtain ⟨f, a, b, c⟩ := hd
    exact ⟨f, a.mono hn, b, c⟩
theorem off4_of {x dx dc dd : Addr} {l : List (Addr × Obj)} (h : AllLt dx l) (h1 : @LT.lt Nat _ dx x) (h2 : @LT.lt Nat _ dx dc) (h3 : @LT.lt Nat _ dx dd) : ∀ p ∈ l, p.1 ∉ [x, dx, dc, dd] := fun p hp => by
  have := allLt_mem h p hp
  exact off_of (fun e => by rw [e] at this; omega) (fun e => by rw [e] at this; omega) (fun e => by rw [e] at this; omega) (fun e => by rw [e] at this; omega)
end Mine
namespace Mine
theorem ints3_item {f : Int → Int} {t : Int → Tok} {k : Nat} {v : Value} (hk : k < 3) (h : (#[.int (f 0) (t 0), .int (f 1) (t 1), .int (f 2) (t 2)] : Array Value)[k]? = some v) : v = .int (f k) (t k) := by
  have : k = 0 ∨ k = 1 ∨ k = 2 := by omega
  rcases this with rfl | rfl | rfl <;> (simp at h; exact h.symm)
end Mine
end

section -- MH
open PySem PySem.W PyProof.Rows PySem.Calls PySem.Spec PyProof.Rows.LCg
namespace Mine
/-- a place where the walk is to stand still -/
def Halt (P : Prop) : Prop := P
theorem halt {P : Prop} (h : Halt P) : P := h
theorem Halt.intro {P : Prop} (h : P) : Halt P := h
theorem wy_done {i q k : Nat} (hi : i < 6) (hq : q < 6) (hk : k < 3) : ∀ a ∈ (List.range k).map (fun k : Nat => wy q k), th (wy i a) ≠ th (wy i (wy q k)) := by
  intro a ha e
  obtain ⟨j, hj, rfl⟩ := List.mem_map.mp ha
  have hj : j < k := List.mem_range.mp hj
  have h1 := wy_in hq (nat_in3 (Nat.lt_trans hj hk))
  have h2 := wy_in hq (nat_in3 hk)
  have e1 := wy_inj hi h1 h2 (th_inj (wy_in hi h1) (wy_in hi h2) e)
  have e2 := wy_inj hq (nat_in3 (Nat.lt_trans hj hk)) (nat_in3 hk) e1
  omega
theorem Net2.fixI {w : World} {x dx dc dd : Addr} {fix rest ext : List (Addr × Obj)} {es : List Edge} {sat : Bool} {oc od : Obj} {n : Nat} {I : Addr} {oI : Obj} {a1 a2 a3 a4 : Int} {t1 t2 t3 t4 t5 : Tok}
    (h : Net2 w x dx dc dd fix rest ext es sat oc od n) (off : ∀ p ∈ net4 x dx dc dd a1 a2 a3 a4 t1 t2 t3 t4 t5 sat oc od ++ (fix ++ (rest ++ ext)), p.1 ≠ I) : Net2 w x dx dc dd ((I, oI) :: fix) rest ext es sat oc od n where
  ok := h.ok
  off p hp := by
    rcases List.mem_cons.mp hp with rfl | hp
    · intro hb
      simp only [List.mem_cons, List.mem_nil_iff, or_false] at hb
      rcases hb with e | e | e | e
      · exact off (x, _) (.head _) e.symm
      · exact off (dx, _) (.tail _ (.head _)) e.symm
      · exact off (dc, _) (.tail _ (.tail _ (.head _))) e.symm
      · exact off (dd, _) (.tail _ (.tail _ (.tail _ (.head _)))) e.symm
    · exact h.off p hp
  extOff p hp q hq := by
    rcases List.mem_cons.mp hq with rfl | hq
    · exact off p (by simp [hp])
    · exact h.extOff p hp q hq
theorem memA {α : Type} {p a b c d e : α} {l : List α} (h : p ∈ [b, c, d, e] ++ (a :: l)) : p ∈ a :: b :: c :: d :: e :: l := by
  simp only [List.mem_append, List.mem_cons, List.mem_nil_iff, or_false] at h ⊢
  rcases h with (h | h | h | h) | h | h <;> simp [h]
theorem memB {α : Type} {p a : α} {n4 fix r e1 e2 : List α} (h : p ∈ [a] ++ (n4 ++ (fix ++ (r ++ (e1 ++ e2))))) : p ∈ n4 ++ ((a :: (fix ++ (r ++ e1))) ++ e2) := by
  simp only [List.mem_append, List.mem_cons, List.mem_nil_iff, or_false] at h ⊢
  rcases h with h | h | h | h | h | h <;> simp [h]
theorem memC {α : Type} {p a : α} {n4 r : List α} (h : p ∈ n4 ++ (a :: r)) : p ∈ a :: (n4 ++ r) := by
  simp only [List.mem_append, List.mem_cons] at h ⊢
  rcases h with h | h | h <;> simp [h]
theorem memC' {α : Type} {p a : α} {n4 r : List α} (h : p ∈ a :: (n4 ++ r)) : p ∈ n4 ++ (a :: r) := by
  simp only [List.mem_append, List.mem_cons] at h ⊢
  rcases h with h | h | h <;> simp [h]
theorem nodup4 {x dx dc dd : Addr} (h1 : @LT.lt Nat _ dx x) (h2 : @LT.lt Nat _ x dc) (h3 : @LT.lt Nat _ dx dc) (h4 : @LT.lt Nat _ dc dd) (h5 : @LT.lt Nat _ x dd) (h6 : @LT.lt Nat _ dx dd) : [x, dx, dc, dd].Nodup := by
  have ne : ∀ {a b : Nat}, a ≠ b → @Ne Addr a b := fun h => h
  simp only [List.nodup_cons, List.mem_cons, List.mem_nil_iff, or_false, not_or, List.nodup_nil, not_false_eq_true, and_true]
  refine ⟨⟨ne ?_, ne ?_, ne ?_⟩, ⟨ne ?_, ne ?_⟩, ne ?_⟩ <;> omega
section
variable {w : World} {x dx dc dd : Addr} {fix rest ext extn : List (Addr × Obj)} {es es' : List Edge} {sat r : Bool} {oc od oc' od' : Obj} {n : Nat} {I : Addr} {oI : Obj}
theorem Net2.step (h : Net2 w x dx dc dd fix rest ext es sat oc od n) (hok : NetOk PRG w (fun a o => (a, o) ∈ ext ++ extn) [] es' r oc' od' (n + 2) (n + 2))
    (ho : ∀ p ∈ extn, p.1 ∉ [x, dx, dc, dd] ∧ ∀ q ∈ (I, oI) :: (fix ++ (rest ++ ext)), q.1 ≠ p.1) : Net2 w x dx dc dd fix rest (ext ++ extn) es' r oc' od' (n + 2) where
  ok := hok
  off p hp := by
    simp only [List.mem_append] at hp
    rcases hp with hp | hp | hp | hp
    · exact h.off p (by simp [hp])
    · exact h.off p (by simp [hp])
    · exact h.off p (by simp [hp])
    · exact (ho p hp).1
  extOff p hp q hq := by
    rcases List.mem_append.mp hp with hp | hp
    · exact h.extOff p hp q hq
    · refine Ne.symm ((ho p hp).2 q ?_)
      rcases List.mem_append.mp hq with hq | hq <;> simp [hq]
theorem Net2.skip (h : Net2 w x dx dc dd fix rest ext es sat oc od n) : Net2 w x dx dc dd fix rest ext es sat oc od (n + 2) where
  ok := netOk_mono h.ok (fun _ _ h => h) (by omega) (by omega)
  off := h.off
  extOff := h.extOff
theorem Net2.offI {a1 a2 a3 a4 : Int} {t1 t2 t3 t4 t5 : Tok} (_h : Net2 w x dx dc dd fix rest ext es sat oc od n) (off : ∀ p ∈ net4 x dx dc dd a1 a2 a3 a4 t1 t2 t3 t4 t5 sat oc od ++ (fix ++ (rest ++ ext)), p.1 ≠ I)
    (ho : ∀ p ∈ extn, p.1 ∉ [x, dx, dc, dd] ∧ ∀ q ∈ (I, oI) :: (fix ++ (rest ++ ext)), q.1 ≠ p.1) :
    ∀ p ∈ net4 x dx dc dd a1 a2 a3 a4 t1 t2 t3 t4 t5 r oc' od' ++ (fix ++ (rest ++ (ext ++ extn))), ∀ q ∈ [(I, oI)], p.1 ≠ q.1 := by
  intro p hp q hq
  obtain rfl := List.mem_singleton.mp hq
  rcases List.mem_append.mp hp with hp | hp
  · simp only [net4, List.mem_cons, List.mem_nil_iff, or_false] at hp
    rcases hp with rfl | rfl | rfl | rfl
    · exact off (x, instObj SC dx) (.head _)
    · exact off (dx, netD a1 a2 a3 a4 t1 t2 t3 t4 t5 dc dd sat 4) (.tail _ (.head _))
    · exact off (dc, oc) (.tail _ (.tail _ (.head _)))
    · exact off (dd, od) (.tail _ (.tail _ (.tail _ (.head _))))
  · simp only [List.mem_append] at hp
    rcases hp with hp | hp | hp | hp
    · exact off p (by simp [hp])
    · exact off p (by simp [hp])
    · exact off p (by simp [hp])
    · exact Ne.symm ((ho p hp).2 _ (.head _))
theorem Net2.drop (h : Net2 w x dx dc dd ((I, oI) :: fix) rest ext es sat oc od n) : Net2 w x dx dc dd fix rest ext es sat oc od n where
  ok := h.ok
  off p hp := h.off p (.tail _ hp)
  extOff p hp q hq := h.extOff p hp q (.tail _ hq)
theorem Net2.dropI {a1 a2 a3 a4 : Int} {t1 t2 t3 t4 t5 : Tok} {N4 : List (Addr × Obj)} {ext₀ : List (Addr × Obj)} (h : Net2 w x dx dc dd ((I, oI) :: fix) rest ext es sat oc od n) (off : ∀ p ∈ N4 ++ (fix ++ (rest ++ ext₀)), p.1 ≠ I) :
    ∀ p ∈ net4 x dx dc dd a1 a2 a3 a4 t1 t2 t3 t4 t5 sat oc od ++ (fix ++ (rest ++ ext)), ∀ q ∈ [(I, oI)], p.1 ≠ q.1 := by
  intro p hp q hq
  obtain rfl := List.mem_singleton.mp hq
  have hI := h.off (I, oI) (.head _)
  simp only [List.mem_cons, List.mem_nil_iff, or_false, not_or] at hI
  obtain ⟨i1, i2, i3, i4⟩ := hI
  rcases List.mem_append.mp hp with hp | hp
  · simp only [net4, List.mem_cons, List.mem_nil_iff, or_false] at hp
    rcases hp with rfl | rfl | rfl | rfl
    · exact Ne.symm i1
    · exact Ne.symm i2
    · exact Ne.symm i3
    · exact Ne.symm i4
  · simp only [List.mem_append] at hp
    rcases hp with hp | hp | hp
    · exact off p (by simp [hp])
    · exact off p (by simp [hp])
    · exact h.extOff p hp _ (.head _)
end
theorem range_snoc {α : Type} {f : Nat → α} {k : Nat} : (List.range (k + 1)).map f = (List.range k).map f ++ [f k] := by
  rw [List.range_succ, List.map_append]; rfl
theorem wy_range {q : Nat} (hq : q < 6) : ∀ a, a ∈ (List.range 3).map (fun k : Nat => wy q k) ↔ In3 a := by
  intro a
  constructor
  · intro h
    obtain ⟨k, hk, rfl⟩ := List.mem_map.mp h
    exact wy_in hq (nat_in3 (List.mem_range.mp hk))
  · intro h
    have : ∃ k : Nat, k < 3 ∧ wy q k = a := by
      rcases six hq with rfl | rfl | rfl | rfl | rfl | rfl <;> rcases h with rfl | rfl | rfl <;>
        first | exact ⟨0, by omega, by decide⟩ | exact ⟨1, by omega, by decide⟩ | exact ⟨2, by omega, by decide⟩
    obtain ⟨k, hk, e⟩ := this
    exact List.mem_map.mpr ⟨k, List.mem_range.mpr hk, e⟩
theorem append_mem {prog : Program} {w : World} {A : Around} {E : Value → Shared → Prop} {s : Shared} {L D : Addr} {h₀ : Heap} {m : Str → Option Value} {news : List (Addr × Obj)} {its : Array Value} {n : Nat} {v : Value} {Q : Value → Shared → Prop}
    (F : Fr h₀ L s.heap m) (N : News h₀ L s.heap news) (hm : (D, lsO its n) ∈ news) (hsz : its.size ≤ sizeLine)
    (h : ∀ h', Fr h₀ L h' m → (∀ nw : List (Addr × Obj), (∀ p ∈ nw, p = (D, lsO (its.push v) (n + 1)) ∨ (p ∈ news ∧ p.1 ≠ D)) → News h₀ L h' nw) → Q .none { s with heap := h' }) :
    wpAny (model prog w) A (call (.builtin "list.append") [.ref D, v]) Q E s := by
  have z := N (D, lsO its n) hm
  refine append_at (hsz := hsz) z.1 fun h' hs ho' => h h' (F.change hs z.2.1 z.2.2) fun nw hnw p hp => ?_
  rcases hnw p hp with rfl | ⟨hp, hne⟩
  · exact ⟨ho', z.2.1, z.2.2⟩
  · exact ⟨hs.extBut _ _ hne (N p hp).1, (N p hp).2⟩
theorem NetP.nodes {W : Int → Int → Int} {p : Nat} {es : List Edge} {done : List Int} {C : Chs} {D : Str → Int} {nC nD : List Str} (n : NetP [] es true C D nC nD) (hp : p < 6) (h : DoneSt W (wy p) done es) (hd : ∀ i, i ∈ done ↔ In3 i) : ∀ k, In3 k → th k ∈ nD := by
  intro k hk
  have e0 : In3 0 := .inl rfl
  have e1 : In3 1 := .inr (.inl rfl)
  have e2 : In3 2 := .inr (.inr rfl)
  have key : ∀ i j, In3 i → In3 j → j ≠ wy p i → wy p i = k → th k ∈ nD := fun i j hi hj ne e => e ▸ (n.pres rfl _ _ _ ((h.mem _).mpr ⟨i, (hd i).mpr hi, j, hj, ne, rfl⟩)).1
  have : ∃ i j, In3 i ∧ In3 j ∧ j ≠ wy p i ∧ wy p i = k := by
    rcases six hp with rfl | rfl | rfl | rfl | rfl | rfl <;> rcases hk with rfl | rfl | rfl <;>
      first
      | exact ⟨0, 0, e0, e0, by decide, by decide⟩ | exact ⟨0, 1, e0, e1, by decide, by decide⟩
      | exact ⟨1, 0, e1, e0, by decide, by decide⟩ | exact ⟨1, 1, e1, e1, by decide, by decide⟩
      | exact ⟨2, 0, e2, e0, by decide, by decide⟩ | exact ⟨2, 1, e2, e1, by decide, by decide⟩
  obtain ⟨i, j, hi, hj, ne, e⟩ := this
  exact key i j hi hj ne e
section
variable {g h : Heap} {L lm T : Addr} {o o' tup : Obj} {own fix rest tail ext n4 : List (Addr × Obj)}
theorem j1_push (hN : ∀ nw : List (Addr × Obj), (∀ p ∈ nw, p = (lm, o') ∨ (p ∈ (T, tup) :: (n4 ++ ((own ++ (lm, o) :: fix) ++ ((rest ++ tail) ++ ext))) ∧ p.1 ≠ lm)) → News g L h nw)
    (hown : ∀ p ∈ (lm, o) :: (fix ++ (rest ++ tail)), ∀ q ∈ own, p.1 ≠ q.1) (hfix : ∀ p ∈ fix ++ rest, p.1 ≠ lm) (hoff : ∀ p ∈ tail, ∀ q ∈ (lm, o) :: (fix ++ rest), p.1 ≠ q.1)
    (hnet : ∀ p ∈ (own ++ (lm, o) :: fix) ++ ((rest ++ tail) ++ ext), ∀ a ∈ n4, p.1 ≠ a.1) (hext : ∀ p ∈ ext, ∀ q ∈ (own ++ (lm, o) :: fix) ++ (rest ++ tail), p.1 ≠ q.1)
    (hT : ∀ p ∈ n4 ++ ((own ++ (lm, o) :: fix) ++ ((rest ++ tail) ++ ext)), p.1 ≠ T) :
    News g L h (own ++ ((lm, o') :: (fix ++ (rest ++ (tail ++ ((T, tup) :: (n4 ++ ext))))))) ∧
    (∀ p ∈ (lm, o') :: (fix ++ (rest ++ (tail ++ ((T, tup) :: (n4 ++ ext))))), ∀ q ∈ own, p.1 ≠ q.1) ∧
    ∀ p ∈ tail ++ ((T, tup) :: (n4 ++ ext)), ∀ q ∈ (lm, o') :: (fix ++ rest), p.1 ≠ q.1 := by
  have hlmT : lm ≠ T := hT (lm, o) (by simp)
  have hn4 : ∀ a ∈ n4, lm ≠ a.1 := fun a ha => hnet (lm, o) (by simp) a ha
  have hel : ∀ p ∈ ext, p.1 ≠ lm := fun p hp => hext p hp (lm, o) (by simp)
  have hol : ∀ q ∈ own, q.1 ≠ lm := fun q hq => Ne.symm (hown (lm, o) (.head _) q hq)
  refine ⟨hN _ fun p hp => ?_, fun p hp q hq => ?_, fun p hp q hq => ?_⟩
  · simp only [List.mem_append, List.mem_cons] at hp
    rcases hp with hp | rfl | hp | hp | hp | rfl | hp | hp
    · exact .inr ⟨by simp [hp], hol p hp⟩
    · exact .inl rfl
    · exact .inr ⟨by simp [hp], hfix p (by simp [hp])⟩
    · exact .inr ⟨by simp [hp], hfix p (by simp [hp])⟩
    · exact .inr ⟨by simp [hp], hoff p hp (lm, o) (.head _)⟩
    · exact .inr ⟨.head _, Ne.symm hlmT⟩
    · exact .inr ⟨by simp [hp], Ne.symm (hn4 p hp)⟩
    · exact .inr ⟨by simp [hp], hel p hp⟩
  · simp only [List.mem_append, List.mem_cons] at hp
    rcases hp with rfl | hp | hp | hp | rfl | hp | hp
    · exact Ne.symm (hol q hq)
    · exact hown p (by simp [hp]) q hq
    · exact hown p (by simp [hp]) q hq
    · exact hown p (by simp [hp]) q hq
    · exact Ne.symm (hT q (by simp [hq]))
    · exact Ne.symm (hnet q (by simp [hq]) p hp)
    · exact hext p hp q (by simp [hq])
  · simp only [List.mem_append, List.mem_cons] at hp
    have hq' : q.1 = lm ∨ q ∈ fix ∨ q ∈ rest := by
      simp only [List.mem_append, List.mem_cons] at hq
      rcases hq with rfl | hq | hq <;> simp [*]
    rcases hp with hp | rfl | hp | hp
    · rcases hq' with e | hq | hq
      · exact fun e' => hoff p hp (lm, o) (.head _) (e'.trans e)
      · exact hoff p hp q (by simp [hq])
      · exact hoff p hp q (by simp [hq])
    · rcases hq' with e | hq | hq
      · exact fun e' => hlmT (e'.trans e).symm
      · exact Ne.symm (hT q (by simp [hq]))
      · exact Ne.symm (hT q (by simp [hq]))
    · rcases hq' with e | hq | hq
      · exact fun e' => hn4 p hp (e'.trans e).symm
      · exact Ne.symm (hnet q (by simp [hq]) p hp)
      · exact Ne.symm (hnet q (by simp [hq]) p hp)
    · rcases hq' with e | hq | hq
      · exact fun e' => hel p hp (e'.trans e)
      · exact hext p hp q (by simp [hq])
      · exact hext p hp q (by simp [hq])
theorem j1_skip {p : Addr × Obj} (h : p ∈ own ++ ((lm, o) :: (fix ++ (rest ++ tail)))) : p ∈ n4 ++ ((own ++ (lm, o) :: fix) ++ ((rest ++ tail) ++ ext)) := by
  simp only [List.mem_append, List.mem_cons] at h ⊢
  rcases h with h | h | h | h | h <;> simp [h]
end
theorem names_j1 {u u2 mf : Str → Option Value} {a b c d : Option Value} (hm : ∀ z, z ∉ nm1 → ovs nm1 u mf z = mf z)
    (hm2 : ∀ z, z ∉ nm2 → ovs nm2 u2 (fun y => if y = Str.ofString "market" then a else if y = Str.ofString "total" then b else if y = Str.ofString "way" then c else ovs nm1 u mf y) z = (fun y => if y = Str.ofString "market" then a else if y = Str.ofString "total" then b else if y = Str.ofString "way" then c else ovs nm1 u mf y) z) :
    ∀ z, z ∉ nm1 → (fun y => if y = Str.ofString "stands" then d else ovs nm2 u2 (fun y => if y = Str.ofString "market" then a else if y = Str.ofString "total" then b else if y = Str.ofString "way" then c else ovs nm1 u mf y) y) z = mf z := by
  intro z hz
  have hz' := hz
  simp only [List.mem_cons, List.mem_nil_iff, or_false, not_or] at hz'
  obtain ⟨h1, h2, h3, h4, h5, h6, h7⟩ := hz'
  show (if z = Str.ofString "stands" then d else ovs nm2 u2 (fun y => if y = Str.ofString "market" then a else if y = Str.ofString "total" then b else if y = Str.ofString "way" then c else ovs nm1 u mf y) z) = mf z
  rw [if_neg h1, hm2 z (by simp [h2, h3, h4])]
  show (if z = Str.ofString "market" then a else if z = Str.ofString "total" then b else if z = Str.ofString "way" then c else ovs nm1 u mf z) = mf z
  rw [if_neg h5, if_neg h6, if_neg h7, hm z hz]
theorem Net2.offN {w : World} {x dx dc dd : Addr} {fix rest ext : List (Addr × Obj)} {es : List Edge} {sat : Bool} {oc od : Obj} {n : Nat} {a1 a2 a3 a4 : Int} {t1 t2 t3 t4 t5 : Tok} {r : Bool} {oc' od' : Obj}
    (h : Net2 w x dx dc dd fix rest ext es sat oc od n) : ∀ p ∈ fix ++ (rest ++ ext), ∀ a ∈ net4 x dx dc dd a1 a2 a3 a4 t1 t2 t3 t4 t5 r oc' od', p.1 ≠ a.1 := fun p hp a ha e => h.off p hp (by
  rw [e]
  simp only [net4, List.mem_cons, List.mem_nil_iff, or_false] at ha
  rcases ha with rfl | rfl | rfl | rfl <;> simp)
theorem memD {α : Type} {p a b c : α} {r : List α} (h : p ∈ a :: r) : p ∈ a :: b :: c :: r := by
  rcases List.mem_cons.mp h with rfl | h
  · exact .head _
  · exact .tail _ (.tail _ (.tail _ h))
theorem max_at {W : Int → Int → Int} {M : Int} (h : M = tot W 0 ∨ M = tot W 1 ∨ M = tot W 2 ∨ M = tot W 3 ∨ M = tot W 4 ∨ M = tot W 5) : ∃ p, p < 6 ∧ M = tot W p := by
  rcases h with h | h | h | h | h | h
  · exact ⟨0, by omega, h⟩
  · exact ⟨1, by omega, h⟩
  · exact ⟨2, by omega, h⟩
  · exact ⟨3, by omega, h⟩
  · exact ⟨4, by omega, h⟩
  · exact ⟨5, by omega, h⟩
theorem Paired.length {α β : Type} {F : α → β → Prop} : ∀ {l₁ : List α} {l₂ : List β}, Paired F l₁ l₂ → l₁.length = l₂.length
  | _, _, .nil => rfl
  | _, _, .cons _ t => congrArg Nat.succ (Paired.length t)
theorem bestOf_pos {W : Int → Int → Int} {M : Int} (h : ∃ p, p < 6 ∧ M = tot W p) : 0 < (bestOf W M 6).length := by
  obtain ⟨p, hp, rfl⟩ := h
  refine List.length_pos_of_mem (a := p) ?_
  unfold bestOf
  simp [hp]
end Mine
end

section -- G8
open PySem PySem.W PyProof.Rows PySem.Calls PyProof.Rows.LCg
set_option maxRecDepth 100000
set_option maxHeartbeats 0
namespace Mine
theorem fillG8 : (PySem.Challenge.rw_fq5045_02, hd.heap_39) = (PySem.Challenge.rw_fq5045_02, hd.heap_39) := by
  w_top off
  k_fill
  rfl
local macro_rules | `(tactic| k_room) => `(tactic| ktr_room)
local macro_rules | `(tactic| k_units) => `(tactic| ktr_units)
local macro_rules | `(tactic| walk_at "exec Assign cons ListComp") => `(tactic| (k_here; k_dflt (refine' Assign_ListComp_G ?F ?a ?b ?c ?d ?e ?f ?_ ?g; (case F => k_asm); (case a => decide); (case b => with_unfolding_all rfl); (case c => with_unfolding_all rfl); (case d => decide); (case e => exact rfl); (case f => decide); (case g => intro _; with_unfolding_all rfl))))
local macro_rules | `(tactic| walk_at "eval ListComp") => `(tactic| (k_here; k_dflt (refine' ListComp_G ?F ?a ?c ?d ?e ?f ?_ ?g; (case F => k_asm); (case a => decide); (case c => with_unfolding_all rfl); (case d => decide); (case e => exact rfl); (case f => decide); (case g => intro _; with_unfolding_all rfl))))
local macro_rules | `(tactic| walk_at "FinS") => `(tactic| (k_here; k_dflt (first
  | refine FinS.local_ (by rfl) (by with_unfolding_all rfl) (by with_unfolding_all rfl) ?_)))
local macro_rules | `(tactic| walk_at "CompEnd") => `(tactic| (refine' CompEnd.intro ?F ?N _ ?sub ?off ?src ?_; (case F => assumption); (case N => assumption); (case sub => exact fun _ h => h); (case off => assumption); (case src => lcg_src)))
local macro_rules | `(tactic| lcg_src) => `(tactic| exact lies_base (by k_asm) (by k_is) ⟨rfl, _, rfl⟩)
local macro_rules | `(tactic| walk_at "MySub") => `(tactic| (k_here; (show wpAny _ _ (subscriptTail _ _ (Value.ref _) (Value.int _ _)) _ _ _); k_dflt (first
  | (refine' sub_ints ?F ?m ?k ?_ ?s; (case F => k_asm); (case m => assumption); (case k => assumption); (case s => with_unfolding_all rfl))
  | (refine' sub_strs ?F ?m ?k ?_ ?s; (case F => k_asm); (case m => assumption); (case k => assumption); (case s => with_unfolding_all rfl))
  | (refine' sub_refs ?N ?m ?k ?_ ?s; (case N => k_asm); (case m => k_mem); (case k => assumption); (case s => with_unfolding_all rfl))
  | (refine' sub_row ?N ?m ?k ?_ ?s; (case N => k_asm); (case m => first | k_mem | exact mem3 (by assumption) (by k_mem) (by k_mem) (by k_mem)); (case k => assumption); (case s => with_unfolding_all rfl)))))
local macro_rules | `(tactic| walk_at "subscriptTail Name Name ref int") => `(tactic| walk_at "MySub")
local macro_rules | `(tactic| walk_at "subscriptTail Subscript Name Name Name ref int") => `(tactic| walk_at "MySub")
local macro_rules | `(tactic| walk_at "subscriptTail Name Constant ref int") => `(tactic| walk_at "MySub")
local macro_rules | `(tactic| walk_at "subscriptTail Subscript Name Constant int Name ref int") => `(tactic| walk_at "MySub")
local macro_rules | `(tactic| walk_at "call ref") => `(tactic| (k_here; (with_reducible show wpAny _ _ (call (Value.ref 152) _ _) _ _ _); refine halt ?_))
local macro_rules | `(tactic| walk_at "call ref") => `(tactic| (k_here; (with_reducible show wpAny _ _ (call (Value.ref 159) _ _) _ _ _); refine halt ?_))
local macro_rules | `(tactic| walk_at "call builtin:list.append") => `(tactic| (k_here; (with_reducible show wpAny _ _ (call (Value.builtin "list.append") [Value.ref _, Value.ref _] _) _ _ _); refine halt ?_))
local macro_rules | `(tactic| walk_at "exec For Tuple Call cons nil") => `(tactic| (k_here; k_dflt (refine' for_zip ?F ?a ?b ?c ?_ ?d; (case F => k_asm); (case a => exact rfl); (case b => exact rfl); (case c => exact rfl); (case d => intro _; with_unfolding_all rfl))))
local macro_rules | `(tactic| walk_at "exec For Name Name cons nil") => `(tactic| (k_here; k_dflt (refine' for_one ?F ?a ?b ?_ ?d; (case F => k_asm); (case a => exact rfl); (case b => exact rfl); (case d => intro _; with_unfolding_all rfl))))
local macro_rules | `(tactic| walk_at "exec For Name Call cons nil") => `(tactic| (k_here; k_dflt (refine' for_one ?F ?a ?b ?_ ?d; (case F => k_asm); (case a => exact rfl); (case b => exact rfl); (case d => intro _; with_unfolding_all rfl))))
set_option pp.deepTerms false
set_option pp.maxSteps 3000
theorem markets_spec {w : World} {p : Program} {loose : List Str} {mean : ExcName → Option Value} {mg mb : Str → Option Value}
  {dp un : Nat} {gd : Option (List Code)} {cn : Str} {cs : Scope} {a : Addr} {ccd : Value} {cl : List (Str × Addr)} {outer : List Env} {A₀ : Around} {base h₀ : Heap} {L : Addr} {m : Str → Option Value} {s : Shared}
    {Q E : Value → Shared → Prop} {wl : Addr} {wa : Int → Addr} {W : Int → Int → Int} {TT : Int → Int → Tok} {nw : Nat} {nr : Int → Nat} {q : Nat} {rest : List (Addr × Obj)}
    (B : Below A₀ base outer h₀) (F : Fr h₀ L s.heap m) (X : Frag.In (hd.heap_39 w.params) h₀)
    (N : News h₀ L s.heap ((wl, refsO wa nw) :: (wa 0, rowO W TT nr 0) :: (wa 1, rowO W TT nr 1) :: (wa 2, rowO W TT nr 2) :: rest)) (hq : q < 6)
    (T : Top p loose mean mg mb h₀) (hk : cs.kind = .function) (hd1 : dp + 40 < recursionLimit) (hu : un + 400 < cLine)
    (ret : ∀ h' tk' lm its n tail M, Fr h₀ L h' m → News h₀ L h' ((lm, lsO its n) :: (wl, refsO wa nw) :: (wa 0, rowO W TT nr 0) :: (wa 1, rowO W TT nr 1) :: (wa 2, rowO W TT nr 2) :: (rest ++ tail)) →
      (∀ p ∈ (lm, lsO its n) :: tail, ∀ q ∈ (wl, refsO wa nw) :: (wa 0, rowO W TT nr 0) :: (wa 1, rowO W TT nr 1) :: (wa 2, rowO W TT nr 2) :: rest, p.1 ≠ q.1) → (∀ p ∈ tail, p.1 ≠ lm) → its.size ≤ 6 → MkOk w W M 6 its.toList tail → (∃ p, p < 6 ∧ M = tot W p) → Q (.ref lm) { s with heap := h', toks := tk' }) :
    wpAny (model PySem.Challenge.rw_fq5045_02.row.prog w) (ktrTop dp un gd cn cs L a ccd cl outer) (call (.ref 223) [.ref wl, .ref (211 + q), .ref 217, .ref 218]) Q E s := by
  refine wpAny_call ?_
  k_dflt (refine' code_defC ?k1 ?k2 ?k3 ?k4 ?k5 ?kA ?kF ?kK ?k6 ?k7 ?k8 ?k9 ?kB ?kD ?_ ?c2 ?c3 ?c4; (case kA => exact rfl); (case kF => exact rfl); (case kK => assumption); (case k1 => k_asm); (case k2 => k_asm); (case k3 => k_asm); (case k4 => k_asm); (case k5 => k_asm); (case k6 => k_is); (case k7 => k_is); (case k8 => k_room); (case k9 => exact BindsTo.of_eq rfl); (case kB => exact rfl); (case kD => decide +kernel); (case c2 => exact rfl); (case c3 => exact rfl); (case c4 => exact rfl); k_whole; intro g' L' h' tk' cells' FG' F' N' Y' B' X' T' l1; (try k_lt l1); k_cells Y'; (try simp only [List.cons_append, List.nil_append] at N'); (try dsimp only); (try k_lift B'); (try k_fold))
  rename_i o' d1
  replace F' : Fr g' L' h' (fun y => if y = Str.ofString "things" then some (.ref 218) else if y = Str.ofString "ways" then some (.ref 217) else if y = Str.ofString "turn" then some (.ref (211 + q)) else none) := F'
  replace d1 : o'.data = .cell (some (.ref wl)) := d1
  have e0 : In3 0 := .inl rfl
  have e1 : In3 1 := .inr (.inl rfl)
  have e2 : In3 2 := .inr (.inr rfl)
  k_steps
  refine SrcG.tupleN 6 rfl F' N' (lies_at (waysAt X') ⟨rfl, _, rfl⟩) rfl (by decide) ?_
  intro g9
  refine GRest.ind (IntsL (tot W)) .nil (fun i ys v hi hJ hv => ?_) fun ys hJ => ?_
  · obtain rfl := ways_item hi hv
    refine ⟨_, fun C => asg_triple rfl (tup_at (wayAt X' hi) rfl rfl) rfl rfl rfl rfl (by decide) (by decide) (by decide), ?_⟩
    intro I9 oI9 C9 oC9 D9 m9 h9 tk9 E9 hC9 hb9 F9 N9 off9 ne9
    have hx := hb9 _ (.head _)
    have hy := hb9 _ (.tail _ (.head _))
    have hz := hb9 _ (.tail _ (.tail _ (.head _)))
    dsimp only at hx hy hz
    clear hb9
    have j0 := wy_in hi e0
    have j1 := wy_in hi e1
    have j2 := wy_in hi e2
    k_steps
    exact CompEnd.intro F9 N9 _ (fun _ h => h) off9 (lies_at (waysAt X') ⟨rfl, _, rfl⟩) ⟨rfl, hJ.snoc⟩
  · obtain ⟨t0, t1, t2, t3, t4, t5, rfl⟩ := hJ.six
    k_steps
    rename_i D1 h1 tk1 o1 h2 M tM k2 aM bM h3 tk3 lm h4 l1m h5 F5 N5
    refine zip_call F5 N5 (lies_at (waysAt X') ⟨rfl, _, rfl⟩) (lies_news (by k_mem) ⟨rfl, _, rfl⟩) ?_
    intro hz z TI TO i1 i2 Fz Nz Z
    refine ⟨_, _, z, TI, TO, i1, i2, 217, D1, J1 w W M (fun y => if y = Str.ofString "markets" then some (.ref lm) else if y = Str.ofString "best" then some (.int M tM) else if y = Str.ofString "totals" then some (.ref D1) else if y = Str.ofString "things" then some (.ref 218) else if y = Str.ofString "ways" then some (.ref 217) else if y = Str.ofString "turn" then some (.ref (211 + q)) else none) lm [(D1, lst [.int (tot W 0) t0, .int (tot W 1) t1, .int (tot W 2) t2, .int (tot W 3) t3, .int (tot W 4) t4, .int (tot W 5) t5]), (L' + 1, o'), (wl, refsO wa nw), (wa 0, rowO W TT nr 0), (wa 1, rowO W TT nr 1), (wa 2, rowO W TT nr 2)] rest, _, _, rfl, rfl, Fz, Nz, Z, rfl, ⟨lies_at (waysAt X') ⟨rfl, _, rfl⟩, lies_news (by k_mem) ⟨rfl, _, rfl⟩⟩, ?_, ?_, ?_⟩
    · exact ⟨#[], 0, [], fun z hz => rfl, by rw [List.append_nil]; rfl, .zero, Nat.le_refl _, fun _ h => nomatch h⟩
    · intro i vx vy m₁ news₁ oz oTI oTO oi1 oi2 hh tkk E1 ex ey hJ1 hS1 F6 N6 off6
      obtain ⟨its, n, tail, hm, rfl, hmk, hits, hoff⟩ := hJ1
      obtain ⟨u, rfl⟩ := ovs_ex hm
      have hi : i < 6 := by
        have : i < (#[.ref 211, .ref 212, .ref 213, .ref 214, .ref 215, .ref 216] : Array Value).size := by
          by_cases h : i < (#[.ref 211, .ref 212, .ref 213, .ref 214, .ref 215, .ref 216] : Array Value).size
          · exact h
          · rw [Array.getElem?_eq_none (Nat.not_lt.mp h)] at ex; cases ex
        exact this
      obtain rfl := ways_item hi ex
      obtain ⟨ty, hy⟩ := hJ.2 i hi
      have hvy : vy = .int (tot W i) ty := by
        have e2 : (#[.int (tot W 0) t0, .int (tot W 1) t1, .int (tot W 2) t2, .int (tot W 3) t3, .int (tot W 4) t4, .int (tot W 5) t5] : Array Value)[i]? = some (.int (tot W i) ty) := by simpa using hy
        rw [e2] at ey; exact (Option.some.inj ey).symm
      subst hvy
      k_steps
      rename_i x dx hx1 Fx1 Nx1 lx1 lx2 gx Lx hx2 Bx Xx Tx tkx dc hx3 oc loc hsc fsc hic fic lx3 hx4 dd hx5 od lod hsd fsd hid fid lx4 hx6 hx7 hx8 Fx2 Nx2 Tcx kXx hx9 F7 N7
      have lt7 : AllLt dx ([(z, oz), (TI, oTI), (TO, oTO), (i1, oi1), (i2, oi2), (lm, lsO its n), (D1, lst [.int (tot W 0) t0, .int (tot W 1) t1, .int (tot W 2) t2, .int (tot W 3) t3, .int (tot W 4) t4, .int (tot W 5) t5]), (L' + 1, o'), (wl, refsO wa nw), (wa 0, rowO W TT nr 0), (wa 1, rowO W TT nr 1), (wa 2, rowO W TT nr 2)] ++ (rest ++ tail)) := lx1
      have off7 := off4_of lt7 lx2 lx3.2.1 lx4.2.2.1
      have nd4 : [x, dx, dc, dd].Nodup := nodup4 lx2 lx3.1 lx3.2.1 lx4.1 lx4.2.1 lx4.2.2.1
      obtain ⟨ka1, ka2, ka3, ka4, kt1, kt2, kt3, kt4, kt5, N8⟩ : ∃ ka1 ka2 ka3 ka4 kt1 kt2 kt3 kt4 kt5, News g' L' hx9 (net4 x dx dc dd ka1 ka2 ka3 ka4 kt1 kt2 kt3 kt4 kt5 true oc od ++ ([(z, oz), (TI, oTI), (TO, oTO), (i1, oi1), (i2, oi2), (lm, lsO its n), (D1, lst [.int (tot W 0) t0, .int (tot W 1) t1, .int (tot W 2) t2, .int (tot W 3) t3, .int (tot W 4) t4, .int (tot W 5) t5]), (L' + 1, o'), (wl, refsO wa nw), (wa 0, rowO W TT nr 0), (wa 1, rowO W TT nr 1), (wa 2, rowO W TT nr 2)] ++ ((rest ++ tail) ++ [])))   := ⟨_, _, _, _, _, _, _, _, _, fun p hp => N7 p (by rw [List.append_nil] at hp; exact sub4 hp)⟩
      clear N7 Nx2 Nx1 Fx2 Fx1 Bx Xx Tx lx1 lx4 lx3
      have iS : ∀ news, Lies g' (211 + q) (TupObj #[.int (wy q 0) (tkw q 0), .int (wy q 1) (tkw q 1), .int (wy q 2) (tkw q 2)]) news := fun _ => lies_at (wayAt X' hq) ⟨rfl, _, rfl⟩
      refine ⟨3, _, _, J2 w W (wy i) (fun k => wy q k) _ x dx dc dd _ _ _ _ _ _ _ _ _ _ _, _, _, F7, N8, iS _, ⟨[], true, oc, od, [], fun _ _ => rfl, rfl, ⟨netOk_new hsc hsd, by rw [List.append_nil]; exact off7, fun _ h => nomatch h⟩, .nil⟩, fun Q E k => it_tuple rfl F7 N8 (iS _) k, ?_, ?_⟩
      · intro k v m₂ news₂ I1 oI1 hh2 tk2 E2 hk3 hv hJ2 hS2 F8 N9 off9
        obtain ⟨es, sat, oc2, od2, ext, hm2, rfl, net, hdone⟩ := hJ2
        obtain ⟨u2, rfl⟩ := ovs_ex hm2
        obtain rfl := ints3_item hk3 hv
        have hwi := wayAt X' hi
        have hth := thingsAt X'
        have hq3 : In3 (wy q k) := wy_in hq (nat_in3 hk3)
        have how : In3 (wy i (wy q k)) := wy_in hi hq3
        clear N8 F7
        simp only [net4, List.cons_append, List.nil_append] at N9
        k_steps
        rename_i tkS hA FA NA hB tkB tB uB vB isR FB NB upB
        have net' := Net2.fixI (oI := oI1) net off9
        refine ⟨3, fun _ => True, _, J3 w W (wy i) ((List.range k).map fun k : Nat => wy q k) (wy q k) (6 * k) _ x dx dc dd ka1 ka2 ka3 ka4 kt1 kt2 kt3 kt4 kt5 _ (rest ++ tail), _, _, FB, (fun p hp => NB p (memA hp)), trivial, ⟨es, sat, oc2, od2, ext, fun _ _ => rfl, rfl, net', hdone.start (wy_done hi hq hk3)⟩, fun Q E kk => it_range rfl isR rfl rfl kk, ?_, ?_⟩
        · intro j vj m₃ news₃ I2 oI2 hh3 tk3' E3 hj3 hvj hJ3 _ F9 N9' off10
          obtain ⟨es3, sat3, oc3, od3, ext3, hm3, rfl, net3, hes3⟩ := hJ3
          obtain ⟨u3, rfl⟩ := ovs_ex hm3
          obtain ⟨tj, rfl⟩ := hvj
          rw [Int.zero_add] at F9
          have hjI : In3 (j : Int) := nat_in3 hj3
          have N10 := fun p hp => N9' p (memC hp)
          simp only [net4, List.cons_append, List.nil_append] at N9'
          skip
          k_steps
          
          · rename_i hne9
            refine Halt.intro (add_use (U := UU) (bs := []) (fin := ext3) B' F9 X' N10 nd4 (net3.fixI off10).off T' rfl (by show dp + 1 + 20 < recursionLimit; omega) (by show un + 3 + 200 < cLine; omega) loc lod
              (fun p hp => .tail _ (List.mem_append_right _ (List.mem_append_right _ hp))) net3.ok (by rw [sizeLine_eq]; omega) (by rw [sizeLine_eq]; omega) (EdgeSt.sideXY how hj3 hne9) (by decide) (hes3.sideU (Nat.le_of_lt hj3)) (th_U hjI) (hes3.sideNot hj3 (wy_done hi hq hk3)) (hes3.side3 (Nat.le_of_lt hj3)) (hes3.side4 (Nat.le_of_lt hj3)) ?_)
            intro h9 tk9 r9 oc9 od9 ex9 F10 N11 ho9 ok9
            clear N10 N9'
            k_steps
            exact FEnd.next _ F10 N11 (fun p hp => memB hp) (net3.offI off10 ho9) trivial ⟨_, _, _, _, _, fun z hz => (if_neg fun (e : z = Str.ofString "j") => hz (e ▸ .head _)).trans (hm3 z hz), rfl, net3.step ok9 ho9, hes3.add hne9⟩
          · rename_i heq9
            exact FEnd.next _ F9 N10 (fun p hp => memC' hp) (fun p hp q hq => by rw [List.mem_singleton.mp hq]; exact off10 p hp) trivial ⟨_, _, _, _, _, fun z hz => (if_neg fun (e : z = Str.ofString "j") => hz (e ▸ .head _)).trans (hm3 z hz), rfl, net3.skip, hes3.skip heq9⟩
        · intro m₃ news₃ hh3 tk3' hJ3 F9 N9'
          obtain ⟨es3, sat3, oc3, od3, ext3, hm3, rfl, net3, hes3⟩ := hJ3
          k_steps
          exact FEnd.next _ F9 N9' (fun p hp => memC' hp) (net3.dropI off9) (iS _) ⟨_, _, _, _, _, fun z hz => (hm3 z fun h => hz (List.mem_singleton.mp h ▸ .head _)).trans ((if_neg fun (e : z = Str.ofString "own") => hz (e ▸ .tail _ (.head _))).trans ((if_neg fun (e : z = Str.ofString "i") => hz (e ▸ .tail _ (.tail _ (.head _)))).trans (hm2 z hz))), rfl, net3.drop, by rw [range_snoc]; exact hes3.fin⟩
      · intro m₂ news₂ hh2 tk2 hJ2 F8 N9
        obtain ⟨es, sat, oc2, od2, ext, hm2, rfl, net, hdone⟩ := hJ2
        obtain ⟨u2, rfl⟩ := ovs_ex hm2
        obtain ⟨C9, D9, nC9, nD9, hc9, hd9, hp9⟩ := net.ok
        have hsat := hp9.stands hi hdone (wy_range hq) aM bM
        have N10 := N9
        simp only [net4, List.cons_append, List.nil_append] at N10
        k_steps
        refine Halt.intro (chk_spec B' F8 X' (N9 (x, instObj SC dx) (.head _)).1 (N9 (dx, netD ka1 ka2 ka3 ka4 kt1 kt2 kt3 kt4 kt5 dc dd sat 4) (.tail _ (.head _))).1 T' rfl (by show dp + 1 + 20 < recursionLimit; omega) (by show un + 3 + 200 < cLine; omega) ?_)
        intro h9 tk9 F10 up9
        have N11 := N10.grown up9
        clear N10 N9 F8
        have hfix : ∀ p ∈ [(D1, lst [.int (tot W 0) t0, .int (tot W 1) t1, .int (tot W 2) t2, .int (tot W 3) t3, .int (tot W 4) t4, .int (tot W 5) t5]), (L' + 1, o'), (wl, refsO wa nw), (wa 0, rowO W TT nr 0), (wa 1, rowO W TT nr 1), (wa 2, rowO W TT nr 2)] ++ rest, p.1 ≠ lm := by
          have l1m' : AllLt lm ([(D1, lst [.int (tot W 0) t0, .int (tot W 1) t1, .int (tot W 2) t2, .int (tot W 3) t3, .int (tot W 4) t4, .int (tot W 5) t5]), (L' + 1, o'), (wl, refsO wa nw), (wa 0, rowO W TT nr 0), (wa 1, rowO W TT nr 1), (wa 2, rowO W TT nr 2)] ++ rest) := l1m
          exact fun p hp => Nat.ne_of_lt (allLt_mem l1m' p hp)
        by_cases e9 : tot W i = M
        · obtain rfl : sat = true := hsat.trans (decide_eq_true e9)
          k_steps
          · exact absurd (by assumption) (show ¬ (true != (tot W i == M)) = true by simp [e9])
          · rename_i h12 F12 N12 neq h13 F13 N13 hk13 nm13
            refine Halt.intro (append_mem (D := lm) (its := its) (n := n) F13 N13 (by k_mem) (by rw [sizeLine_eq]; omega) fun h14 F14 mk => ?_)
            have key := j1_push (own := [(z, oz), (TI, oTI), (TO, oTO), (i1, oi1), (i2, oi2)]) (fix := [(D1, lst [.int (tot W 0) t0, .int (tot W 1) t1, .int (tot W 2) t2, .int (tot W 3) t3, .int (tot W 4) t4, .int (tot W 5) t5]), (L' + 1, o'), (wl, refsO wa nw), (wa 0, rowO W TT nr 0), (wa 1, rowO W TT nr 1), (wa 2, rowO W TT nr 2)]) (rest := rest) (tail := tail) (ext := ext) (n4 := net4 x dx dc dd ka1 ka2 ka3 ka4 kt1 kt2 kt3 kt4 kt5 true oc2 od2)
              mk off6 hfix hoff net.offN net.extOff (fun p hp => Nat.ne_of_lt (Heap.lt_size (N12 p hp).1))
            k_steps
            refine FEnd.next _ F14 key.1 (fun p hp => hp) key.2.1 ⟨lies_at (waysAt X') ⟨rfl, _, rfl⟩, lies_news (by k_mem) ⟨rfl, _, rfl⟩⟩ ⟨_, _, _, names_j1 hm hm2, rfl, ?_, ?_, key.2.2⟩
            · rw [Array.toList_push]
              refine (hmk.mono fun q hq => List.mem_append_left _ hq).push e9 ⟨_, x, 0, rfl, List.mem_append_right _ (.head _), dx, dc, dd, od2, ka1, ka2, ka3, ka4, kt1, kt2, kt3, kt4, kt5, D9, nD9, 6 * 3, List.mem_append_right _ (.tail _ (.head _)), List.mem_append_right _ (.tail _ (.tail _ (.head _))), List.mem_append_right _ (.tail _ (.tail _ (.tail _ (.tail _ (.head _))))), hd9, hp9.nodes hi hdone (wy_range hq), hp9.best hi hdone (wy_range hq)⟩
            · rw [Array.size_push]; exact Nat.succ_le_succ hits
        · obtain rfl : sat = false := hsat.trans (decide_eq_false e9)
          k_steps
          · exact absurd (by assumption) (show ¬ (false != (tot W i == M)) = true by simp [e9])
          · rename_i h12 F12 N12 _
            exact FEnd.next _ F12 N12 (fun p hp => j1_skip (own := [(z, oz), (TI, oTI), (TO, oTO), (i1, oi1), (i2, oi2)]) (n4 := net4 x dx dc dd ka1 ka2 ka3 ka4 kt1 kt2 kt3 kt4 kt5 false oc2 od2) (ext := ext) hp) off6 hS1 ⟨its, n, tail, names_j1 hm hm2, rfl, hmk.skip e9, Nat.le_succ_of_le hits, hoff⟩
    · intro m₁ news₁ hh tkk hJ1 F6 N6
      obtain ⟨its, n, tail, hm, rfl, hmk, hits, hoff⟩ := hJ1
      obtain ⟨u, rfl⟩ := ovs_ex hm
      k_steps
      rename_i kF kN _ _
      have l1m' : AllLt lm ([(D1, lst [.int (tot W 0) t0, .int (tot W 1) t1, .int (tot W 2) t2, .int (tot W 3) t3, .int (tot W 4) t4, .int (tot W 5) t5]), (L' + 1, o')] ++ ((wl, refsO wa nw) :: (wa 0, rowO W TT nr 0) :: (wa 1, rowO W TT nr 1) :: (wa 2, rowO W TT nr 2) :: rest)) := l1m
      refine ret _ _ lm its n tail M kF (fun p hp => kN p (memD hp)) (fun p hp q hq => ?_) (fun p hp => hoff p hp _ (.head _)) hits hmk (max_at aM)
      rcases List.mem_cons.mp hp with rfl | hp
      · exact Nat.ne_of_gt (allLt_mem l1m' q (List.mem_append_right _ hq))
      · exact hoff p hp q (.tail _ (.tail _ (.tail _ hq)))
end Mine
end

section -- LW
open PySem PySem.W PyProof.Rows PySem.Calls PySem.Spec PyProof.Rows.LCg
namespace Mine
section
variable {prog : Program} {w : World} {A : Around} {E : Value → Shared → Prop} {s : Shared} {L : Addr} {h₀ : Heap} {σ : Type}
/-- a while by a state; its end apart -/
theorem while_to {Q : Flow → Shared → Prop} {env : Env} {test : PySem.Expr} {body : List Stmt} {pos : Pos} (mf : σ → Str → Option Value) (nf : σ → List (Addr × Obj)) (I I' : σ → Prop) (M : σ → Nat) (st₀ : σ) {m : Str → Option Value} {news : List (Addr × Obj)}
    (F : Fr h₀ L s.heap m) (N : News h₀ L s.heap news) (hm : m = mf st₀) (hn : news = nf st₀) (hI : I st₀)
    (turn : ∀ st h tk, I st → Fr h₀ L h (mf st) → News h₀ L h (nf st) →
      wpAny (model prog w) A (isTrue test env (eval test env)) (fun b s₂ =>
        if b = true then wpAny (model prog w) A (execs body env) (fun f s₃ => Halt (f = .next ∧ WEnd h₀ L s mf nf I M st s₃)) E s₂ else Halt (∃ h' tk', s₂ = { s with heap := h', toks := tk' } ∧ Fr h₀ L h' (mf st) ∧ News h₀ L h' (nf st) ∧ I' st)) E { s with heap := h, toks := tk })
    (fin : ∀ st h tk, I' st → Fr h₀ L h (mf st) → News h₀ L h (nf st) → Q .next { s with heap := h, toks := tk })
    (hE : PassesOwn (model prog w) A env E := by passes_own) :
    wpAny (model prog w) A (exec (.While test body [] pos) env) Q E s := by
  refine while_st mf nf I M st₀ F N hm hn hI (fun st h tk a b c => wpAny_mono (turn st h tk a b c) (fun bb s₂ p => ?_) fun _ _ x => x) hE
  cases bb with
  | true =>
    simp only [if_true] at p ⊢
    refine wpAny_mono p (fun f s₃ q => ?_) fun _ _ x => x
    obtain ⟨rfl, q⟩ : f = .next ∧ WEnd h₀ L s mf nf I M st s₃ := q
    exact q
  | false =>
    simp only [Bool.false_eq_true, if_false] at p ⊢
    obtain ⟨h', tk', rfl, F', N', hI'⟩ := p
    exact fin st h' tk' hI' F' N'
end
theorem grow_end {h₀ h : Heap} {L dl : Addr} {ws : List Value} {c : Nat} {v : Value} {cells : List (Addr × Obj)} (hl : AllLt dl cells)
    (mk : ∀ nw : List (Addr × Obj), (∀ p ∈ nw, p = (dl, lsO (ws.toArray.push v) (c + 1)) ∨ (p ∈ (dl, lsO ws.toArray c) :: cells ∧ p.1 ≠ dl)) → News h₀ L h nw) : News h₀ L h ((dl, lsO (ws ++ [v]).toArray (c + 1)) :: cells) := by
  refine mk _ fun p hp => ?_
  rcases List.mem_cons.mp hp with rfl | hp
  · left; rw [List.push_toArray]
  · exact .inr ⟨.tail _ hp, Nat.ne_of_lt (allLt_mem hl p hp)⟩
theorem with_passes {M : Model} {A : Around} {env : Env} {ss : List Stmt} {Q : Flow → Shared → Prop} {E : Value → Shared → Prop} {s : Shared} (h : PassesOwn M A env E → wpAny M A (execs ss env) Q E s) (hE : PassesOwn M A env E := by passes_own) : wpAny M A (execs ss env) Q E s := h hE
theorem ints15 {vs : List Value} {is : List Int} (h : IntsAre vs is) (hl : is.length = 15) : ∃ (d : Nat → Int) (u : Nat → Tok), vs = [.int (d 0) (u 0), .int (d 1) (u 1), .int (d 2) (u 2), .int (d 3) (u 3), .int (d 4) (u 4), .int (d 5) (u 5), .int (d 6) (u 6), .int (d 7) (u 7), .int (d 8) (u 8), .int (d 9) (u 9), .int (d 10) (u 10), .int (d 11) (u 11), .int (d 12) (u 12), .int (d 13) (u 13), .int (d 14) (u 14)] := by
  have hl' := h.length
  rw [hl] at hl'
  match vs, hl' with
  | [a0, a1, a2, a3, a4, a5, a6, a7, a8, a9, b0, b1, b2, b3, b4], _ =>
    have all := h.all
    have g : ∀ k, k < 15 → ∃ n t, [a0, a1, a2, a3, a4, a5, a6, a7, a8, a9, b0, b1, b2, b3, b4].getD k .none = .int n t := fun k hk => by
      refine all _ ?_
      rw [List.getD_eq_getElem?_getD]
      have : k < [a0, a1, a2, a3, a4, a5, a6, a7, a8, a9, b0, b1, b2, b3, b4].length := hk
      rw [List.getElem?_eq_getElem this]
      exact List.getElem_mem this
    have g' : ∀ k, ∃ n t, k < 15 → [a0, a1, a2, a3, a4, a5, a6, a7, a8, a9, b0, b1, b2, b3, b4].getD k .none = .int n t := fun k => by
      by_cases hk : k < 15
      · obtain ⟨n, t, e⟩ := g k hk; exact ⟨n, t, fun _ => e⟩
      · exact ⟨0, 0, fun h => absurd h hk⟩
    refine ⟨fun k => (g' k).choose, fun k => (g' k).choose_spec.choose, ?_⟩
    have e := fun k (hk : k < 15) => (g' k).choose_spec.choose_spec hk
    have e0 := e 0 (by omega)
    have e1 := e 1 (by omega)
    have e2 := e 2 (by omega)
    have e3 := e 3 (by omega)
    have e4 := e 4 (by omega)
    have e5 := e 5 (by omega)
    have e6 := e 6 (by omega)
    have e7 := e 7 (by omega)
    have e8 := e 8 (by omega)
    have e9 := e 9 (by omega)
    have e10 := e 10 (by omega)
    have e11 := e 11 (by omega)
    have e12 := e 12 (by omega)
    have e13 := e 13 (by omega)
    have e14 := e 14 (by omega)
    exact congr (congrArg List.cons e0) (congr (congrArg List.cons e1) (congr (congrArg List.cons e2) (congr (congrArg List.cons e3) (congr (congrArg List.cons e4) (congr (congrArg List.cons e5) (congr (congrArg List.cons e6) (congr (congrArg List.cons e7) (congr (congrArg List.cons e8) (congr (congrArg List.cons e9) (congr (congrArg List.cons e10) (congr (congrArg List.cons e11) (congr (congrArg List.cons e12) (congr (congrArg List.cons e13) (congrArg (fun x => [x]) e14))))))))))))))
end Mine
end

section -- LX
open PySem PySem.W PyProof.Rows PySem.Calls PySem.Spec PyProof.Rows.LCg
namespace Mine
def sel3 {α : Type} (k : Int) (a b c : α) : α := if k = 0 then a else if k = 1 then b else c
section
variable {prog : Program} {w : World} {A : Around} {E : Value → Shared → Prop} {s : Shared} {h₀ : Heap} {L : Addr} {m : Str → Option Value} {news : List (Addr × Obj)}
/-- an item of a tuple of the ledger -/
theorem sub_tupN {value slice : PySem.Expr} {ax : Addr} {its : Array Value} {n : Nat} {k : Int} {t : Tok} {v : Value} {Q : Value → Shared → Prop} (N : News h₀ L s.heap news) (hm : (ax, tpO its n) ∈ news) (h0 : 0 ≤ k) (hk : k < its.size) (hfit : k < 2 ^ 63) (hx : its.toList[k.toNat]? = some v) (h : Q v s)
    (hs : subscripted slice false (.ref ax) (.int k t) = operate [.ref ax, .int k t] (getItem (.ref ax) (.int k t))) :
    wpAny (model prog w) A (subscriptTail value slice (.ref ax) (.int k t)) Q E s :=
  have ht : IsTup s.heap ax its := ⟨_, (N _ hm).1, rfl, n, rfl⟩
  subscriptTail_builtinR ht.typeIs _root_.PySem.F.slot_tuple_getitem.lookup (PyProof.Rows.getItem_tuple (Q := fun r s' => r = v ∧ Q r s') ht (by omega) hfit (seqIndex_of h0 hk) (by rw [← Array.getElem?_toList]; exact hx) ⟨rfl, h⟩) hs
theorem sub_menu3 {value slice : PySem.Expr} {ax : Addr} {n : Nat} {k a b c : Int} {t ta tb tc : Tok} {Q : Value → Shared → Prop} (N : News h₀ L s.heap news) (hm : (ax, tpO #[.int a ta, .int b tb, .int c tc] n) ∈ news) (hk : In3 k) (h : Q (.int (sel3 k a b c) (sel3 k ta tb tc)) s)
    (hs : subscripted slice false (.ref ax) (.int k t) = operate [.ref ax, .int k t] (getItem (.ref ax) (.int k t))) :
    wpAny (model prog w) A (subscriptTail value slice (.ref ax) (.int k t)) Q E s :=
  sub_tupN N hm (in3_nn hk).1 (by show k < ((3 : Nat) : Int); rcases hk with rfl | rfl | rfl <;> decide) (in3_nn hk).2 (by rcases hk with rfl | rfl | rfl <;> rfl) h hs
theorem sub_way {value slice : PySem.Expr} {k : Int} {t : Tok} {Q : Value → Shared → Prop} (F : Fr h₀ L s.heap m) (hg : h₀.get? 217 = some (tpO #[.ref 211, .ref 212, .ref 213, .ref 214, .ref 215, .ref 216] 0)) (h0 : 0 ≤ k) (h6 : k < 6) (h : Q (.ref (211 + k.toNat)) s)
    (hs : subscripted slice false (.ref 217) (.int k t) = operate [.ref 217, .int k t] (getItem (.ref 217) (.int k t))) :
    wpAny (model prog w) A (subscriptTail value slice (.ref 217) (.int k t)) Q E s :=
  sub_tup F hg h0 h6 (by omega) (by
    have : k = 0 ∨ k = 1 ∨ k = 2 ∨ k = 3 ∨ k = 4 ∨ k = 5 := by omega
    rcases this with rfl | rfl | rfl | rfl | rfl | rfl <;> rfl) h hs
theorem items12 {d : Nat → Int} {u : Nat → Tok} {i : Nat} {v : Value} (hi : i < 12) (h : (#[.int (d 3) (u 3), .int (d 4) (u 4), .int (d 5) (u 5), .int (d 6) (u 6), .int (d 7) (u 7), .int (d 8) (u 8), .int (d 9) (u 9), .int (d 10) (u 10), .int (d 11) (u 11), .int (d 12) (u 12), .int (d 13) (u 13), .int (d 14) (u 14)] : Array Value)[i]? = some v) : v = .int (d (3 + i)) (u (3 + i)) := by
  have : i = 0 ∨ i = 1 ∨ i = 2 ∨ i = 3 ∨ i = 4 ∨ i = 5 ∨ i = 6 ∨ i = 7 ∨ i = 8 ∨ i = 9 ∨ i = 10 ∨ i = 11 := by omega
  rcases this with rfl | rfl | rfl | rfl | rfl | rfl | rfl | rfl | rfl | rfl | rfl | rfl <;> (simp at h; exact h.symm)
theorem IntsL.snocV {f : Nat → Int} {n : Nat} {ys : List Value} {t : Tok} {x : Int} (h : IntsL f n ys) (e : f n = x) : IntsL f (n + 1) (ys ++ [.int x t]) := e ▸ h.snoc
theorem IntsL.twelve {f : Nat → Int} {ys : List Value} (h : IntsL f 12 ys) : ∃ t : Nat → Tok, ys = [.int (f 0) (t 0), .int (f 1) (t 1), .int (f 2) (t 2), .int (f 3) (t 3), .int (f 4) (t 4), .int (f 5) (t 5), .int (f 6) (t 6), .int (f 7) (t 7), .int (f 8) (t 8), .int (f 9) (t 9), .int (f 10) (t 10), .int (f 11) (t 11)] := by
  obtain ⟨hl, h⟩ := h
  have g : ∀ i, ∃ t, i < 12 → ys[i]? = some (.int (f i) t) := fun i => by
    by_cases hi : i < 12
    · obtain ⟨t, e⟩ := h i hi; exact ⟨t, fun _ => e⟩
    · exact ⟨0, fun x => absurd x hi⟩
  refine ⟨fun i => (g i).choose, ?_⟩
  have e := fun i (hi : i < 12) => (g i).choose_spec hi
  refine List.ext_getElem? fun i => ?_
  by_cases hi : i < 12
  · rw [e i hi]
    have : i = 0 ∨ i = 1 ∨ i = 2 ∨ i = 3 ∨ i = 4 ∨ i = 5 ∨ i = 6 ∨ i = 7 ∨ i = 8 ∨ i = 9 ∨ i = 10 ∨ i = 11 := by omega
    rcases this with rfl | rfl | rfl | rfl | rfl | rfl | rfl | rfl | rfl | rfl | rfl | rfl <;> rfl
  · rw [List.getElem?_eq_none (by omega), List.getElem?_eq_none (by simpa using hi)]
abbrev tri3 {α : Type} (a b c : α) (k : Int) : α := if k = 0 then a else if k = 1 then b else c
abbrev W3 (f : Nat → Int) (i j : Int) : Int := f (3 * i + j).toNat
abbrev T3 (t : Nat → Tok) (i j : Int) : Tok := t (3 * i + j).toNat
theorem mod_in3 (k : Int) : In3 (k.fmod 3) := by
  rw [Int.fmod_eq_emod_of_nonneg _ (by decide)]; unfold In3; omega
theorem mod6_0 (k : Int) : 0 ≤ k.fmod 6 := by rw [Int.fmod_eq_emod_of_nonneg _ (by decide)]; omega
theorem mod6_6 (k : Int) : k.fmod 6 < 6 := by rw [Int.fmod_eq_emod_of_nonneg _ (by decide)]; omega
end
end Mine
end

section -- LY
open PySem PySem.W PyProof.Rows PySem.Calls PySem.Spec PyProof.Rows.LCg
namespace Mine
section
variable {prog : Program} {w : World} {A : Around} {s : Shared} {h₀ : Heap} {L : Addr} {m : Str → Option Value} {env : Env}
theorem GRest.imp_fin {elt target : PySem.Expr} {ifs : List PySem.Expr} {scope : Scope} {cl : List (Str × Addr)} {S : List (Addr × Obj) → Prop} {P : Nat → Value → Prop} {Fin Fin' : List Value → List (Addr × Obj) → Prop}
    (k : ∀ ys nw, Fin' ys nw → Fin ys nw) : ∀ {n i : Nat} {ys : List Value} {news : List (Addr × Obj)}, GRest prog w A h₀ L m env elt target ifs scope cl s S P Fin' n i ys news → GRest prog w A h₀ L m env elt target ifs scope cl s S P Fin n i ys news
  | 0, _, _, _, h => k _ _ h
  | n + 1, i, ys, news, h => fun v hv => by
    obtain ⟨bs, ha, t⟩ := h v hv
    refine ⟨bs, ha, fun I oI C oC D m₂ h tk E' a b c d e' f => ?_⟩
    have t := t I oI C oC D m₂ h tk E' a b c d e' f
    match ifs, t with
    | [], t => exact wpAny_mono t (fun y s₂ h₂ => CompEnd.imp h₂ fun _ _ => GRest.imp_fin k) fun _ _ x => x
    | c :: _, t =>
      refine wpAny_mono t (fun ok s₂ h₂ => ?_) fun _ _ x => x
      cases ok with
      | true =>
        simp only [if_true] at h₂ ⊢
        exact wpAny_mono h₂ (fun y s₂ h₂ => CompEnd.imp h₂ fun _ _ => GRest.imp_fin k) fun _ _ x => x
      | false =>
        simp only [Bool.false_eq_true, if_false] at h₂ ⊢
        exact CompEnd.imp h₂ fun _ _ => GRest.imp_fin k
end
def wb (wa : Int → Addr) (b : Int) (x : Addr) (k : Int) : Addr := if k = b then x else wa k
/-- the end of a turn that has made one list -/
theorem CompEnd.new1 {h₀ : Heap} {L I C D x : Addr} {m : Str → Option Value} {s₁ : Shared} {oI oC oD ox : Obj} {S : List (Addr × Obj) → Prop} {rest : Value → List (Addr × Obj) → Prop} {y : Value} {h' : Heap} {tk : Nat} {news : List (Addr × Obj)}
    (F : Fr h₀ L h' m) (N : News h₀ L h' ((x, ox) :: (I, oI) :: (C, oC) :: (D, oD) :: news)) (off : Off3 I C D news) (l1 : @LT.lt Nat _ I x) (l2 : @LT.lt Nat _ C x) (l3 : @LT.lt Nat _ D x) (hS : S ((x, ox) :: news)) (r : rest y ((x, ox) :: news)) :
    CompEnd h₀ L m s₁ I oI C oC D oD S rest y { s₁ with heap := h', toks := tk } := by
  refine CompEnd.intro F N ((x, ox) :: news) (fun p hp => ?_) (Off3.of fun p hp => ?_) hS r
  · simp only [List.mem_cons] at hp ⊢
    rcases hp with h | h | h | h | h <;> simp [h]
  · rcases List.mem_cons.mp hp with rfl | hp
    · exact ⟨Nat.ne_of_gt l1, Nat.ne_of_gt l2, Nat.ne_of_gt l3⟩
    · exact off.mem p hp
def FinL (wa : Int → Addr) (b : Int) (row : Obj) (news : List (Addr × Obj)) (ys : List Value) (nw : List (Addr × Obj)) : Prop :=
  ∃ x, ys = [.ref (wb wa b x 0), .ref (wb wa b x 1), .ref (wb wa b x 2)] ∧ nw = (x, row) :: news ∧ AllLt x news
section
variable {prog : Program} {w : World} {A : Around} {s : Shared} {h₀ : Heap} {L : Addr} {m : Str → Option Value} {env : Env}
theorem GRest.lied {elt target : PySem.Expr} {ifs : List PySem.Expr} {scope : Scope} {cl : List (Str × Addr)} {S : List (Addr × Obj) → Prop} {P : Nat → Value → Prop} {Fin : List Value → List (Addr × Obj) → Prop} {n : Nat} {news : List (Addr × Obj)} (wa : Int → Addr) (b : Int) (row : Obj)
    (h : GRest prog w A h₀ L m env elt target ifs scope cl s S P (FinL wa b row news) n 0 [] news)
    (k : ∀ x, AllLt x news → Fin [.ref (wb wa b x 0), .ref (wb wa b x 1), .ref (wb wa b x 2)] ((x, row) :: news)) : GRest prog w A h₀ L m env elt target ifs scope cl s S P Fin n 0 [] news :=
  GRest.imp_fin (fun ys nw ⟨x, e1, e2, l⟩ => e1 ▸ e2 ▸ k x l) h
end
/-- the second market's worths -/
def W4 (W : Int → Int → Int) (f : Nat → Int) (b : Int) (i j : Int) : Int := if i = b then f (9 + j).toNat else W i j
def T4 (TT : Int → Int → Tok) (t : Nat → Tok) (b : Int) (i j : Int) : Tok := if i = b then t (9 + j).toNat else TT i j
theorem W4_ne {W : Int → Int → Int} {f : Nat → Int} {b a : Int} (h : a ≠ b) : W4 W f b a = W a := by
  funext j; exact if_neg h
theorem row4 {wa : Int → Addr} {W : Int → Int → Int} {TT : Int → Int → Tok} {f : Nat → Int} {t : Nat → Tok} {b i : Int} {x : Addr} {l : List (Addr × Obj)} 
    (h1 : (x, lsO #[.int (f 9) (t 9), .int (f 10) (t 10), .int (f 11) (t 11)] 0) ∈ l) (h2 : (wa i, rowO W TT (fun _ => 0) i) ∈ l) : (wb wa b x i, rowO (W4 W f b) (T4 TT t b) (fun _ => 0) i) ∈ l := by
  by_cases e : i = b
  · have e1 : wb wa b x i = x := if_pos e
    have e2 : ∀ j, W4 W f b i j = f (9 + j).toNat := fun j => if_pos e
    have e3 : ∀ j, T4 TT t b i j = t (9 + j).toNat := fun j => if_pos e
    rw [e1]; unfold rowO; rw [e2, e2, e2, e3, e3, e3]; exact h1
  · have e1 : wb wa b x i = wa i := if_neg e
    have e2 : ∀ j, W4 W f b i j = W i j := fun j => if_neg e
    have e3 : ∀ j, T4 TT t b i j = TT i j := fun j => if_neg e
    rw [e1]; unfold rowO; rw [e2, e2, e2, e3, e3, e3]; exact h2
theorem truthy_pos {prog : Program} {w : World} {A : Around} {E : Value → Shared → Prop} {s : Shared} {h₀ : Heap} {L ax : Addr} {news : List (Addr × Obj)} {its : Array Value} {n : Nat} {Q : Bool → Shared → Prop}
    (N : News h₀ L s.heap news) (hm : (ax, lsO its n) ∈ news) (hp : 0 < its.size) (h6 : its.size ≤ 6) (h : Q true { s with toks := s.toks + 1 + 1 }) : wpAny (model prog w) A (truthy (.ref ax)) Q E s :=
  have hl : s.heap.IsList ax its := ⟨_, (N _ hm).1, rfl, n, rfl⟩
  wpAny_truthy_list hl (by omega) (by
    have : (!its.isEmpty) = true := by
      unfold Array.isEmpty
      have : its.size ≠ 0 := by omega
      simp [this]
    rw [this]; exact h)
end Mine
end

section -- LC2
open PySem PySem.W PyProof.Rows PySem.Calls PySem.Spec PyProof.Rows.LCg
set_option maxRecDepth 100000
namespace Mine
abbrev cellNil : Obj := { cls := .type "cell", data := .cell none }
section
variable {prog : Program} {w : World} {A : Around} {E : Value → Shared → Prop} {s : Shared} {h₀ : Heap} {L : Addr} {m : Str → Option Value} {env : Env}
theorem newFnEnv_cell1 {M : Model} {scope : Scope} {globals : Addr} {closure : List (Str × Addr)} {qual : Str} {code : Value} {outer : Env} {builtins : Addr} {y : Str} {Q : Env → Shared → Prop}
    (hc : ∀ n acc, cellsFrom n scope.names acc = (y, n) :: acc) (hp : ∀ h, pushCells h scope.names = h.push cellNil)
    (hQ : ∀ h', h'.Ns s.heap.objs.size (fun _ => none) → h'.get? (s.heap.objs.size + 1) = some cellNil → (∀ b o, s.heap.get? b = some o → h'.get? b = some o) →
      Q (newEnv scope s.heap.objs.size globals ((y, s.heap.objs.size + 1) :: closure) qual none code (some outer) builtins) { s with heap := h' }) :
    wpAny M A (newFunctionEnv scope globals closure [] qual none code (some outer) builtins) Q E s := by
  simp only [newFunctionEnv, Option.isSome_some, if_true]
  refine wpAny_bind (wpAny_alloc ?_)
  refine wpAny_bind (wpAny_layCells _ (fun name kind cells => by cases kind <;> simp) _ _ _ _ ?_)
  rw [show ({ s with heap := s.heap.push { cls := .type "dict", data := .dict #[] } } : Shared).heap.objs.size = s.heap.objs.size + 1 from Heap.size_push ..]
  rw [hc, List.forIn_nil]
  refine wpAny_bind (wpAny_pure (wpAny_pure (hQ _ ?_ ?_ ?_)))
  · rw [hp]; exact (Heap.Ns.new s.heap (.type "dict")).keeps fun b o e => Heap.get?_push_of_some _ e
  · rw [hp]
    have := Heap.get?_push_size (s.heap.push { cls := .type "dict", data := .dict #[] }) (o := cellNil) rfl
    rw [Heap.size_push] at this
    exact this
  · intro b o e
    rw [hp]; exact Heap.get?_push_of_some _ (Heap.get?_push_of_some _ e)
end

def CompEndC (h₀ : Heap) (L : Addr) (m : Str → Option Value) (s : Shared) (I : Addr) (oI : Obj) (C : Addr) (oC : Obj) (D : Addr) (oD : Obj) (K : Addr) (oK : Obj) (S : List (Addr × Obj) → Prop) (rest : Value → List (Addr × Obj) → Prop) (y : Value) (s₂ : Shared) : Prop :=
  ∃ h' tk news', s₂ = { s with heap := h', toks := tk } ∧ Fr h₀ L h' m ∧ News h₀ L h' ((I, oI) :: (C, oC) :: (D, oD) :: (K, oK) :: news') ∧ (∀ p ∈ news', p.1 ≠ I ∧ p.1 ≠ C ∧ p.1 ≠ D ∧ p.1 ≠ K) ∧ S news' ∧ rest y news'
def GCRest (prog : Program) (w : World) (A : Around) (h₀ : Heap) (L : Addr) (m : Str → Option Value) (env : Env) (elt : PySem.Expr) (x y : Str) (scope : Scope) (cl : List (Str × Addr)) (s : Shared) (S : List (Addr × Obj) → Prop) (P : Nat → Value → Prop)
    (Fin : List Value → List (Addr × Obj) → Prop) : Nat → Nat → List Value → List (Addr × Obj) → Prop
  | 0, _, ys, news => Fin ys news
  | k + 1, i, ys, news => ∀ v, P i v → ∃ t v₁ v₂, v = .ref t ∧ (∀ h : Heap, News h₀ L h news → (∀ b o, h₀.get? b = some o → h.get? b = some o) → IsTup h t #[v₁, v₂]) ∧
      ∀ I oI C oC D K oK m₂ h tk (E' : Value → Shared → Prop), NsObj oC m₂ → m₂ x = some v₁ → oK.data = .cell (some v₂) → Fr h₀ L h m → News h₀ L h ((I, oI) :: (C, oC) :: (D, lst ys) :: (K, oK) :: news) →
        (∀ p ∈ news, p.1 ≠ I ∧ p.1 ≠ C ∧ p.1 ≠ D ∧ p.1 ≠ K) → ((@Ne Nat I C) ∧ (@Ne Nat I D) ∧ (@Ne Nat C D) ∧ (@Ne Nat K I) ∧ (@Ne Nat K C) ∧ (@Ne Nat K D)) →
        wpAny (model prog w) A (eval elt (compEnvC scope ((y, K) :: cl) C env)) (CompEndC h₀ L m { s with heap := h, toks := tk } I oI C oC D (lst ys) K oK S (fun y' news' => GCRest prog w A h₀ L m env elt x y scope cl s S P Fin k (i + 1) (ys ++ [y']) news')) E' { s with heap := h, toks := tk }

section
variable {prog : Program} {w : World} {A : Around} {E : Value → Shared → Prop} {s : Shared} {h₀ : Heap} {L : Addr} {m : Str → Option Value} {env : Env}
theorem block_GC {elt iter : PySem.Expr} {x y : Str} {px py tp : Pos} {tk₀ : Nat} {scope : Scope} {cl : List (Str × Addr)} {pos : Pos} {s₂ : Shared} {g : Heap} {I : Addr} {n : Nat} {P : Nat → Value → Prop} {S : List (Addr × Obj) → Prop} {news : List (Addr × Obj)}
    {Fin : List Value → List (Addr × Obj) → Prop} {RR : Value → Addr → Result → Shared → Prop}
    (W : ItOk prog w A h₀ L S (.Tuple [.Name x px, .Name y py] tk₀ tp) n P g s₂.heap I) (hsz : n ≤ sizeLine) (hh : A.handled = none)
    (hc : ∀ n acc, cellsFrom n scope.names acc = (y, n) :: acc) (hp : ∀ h, pushCells h scope.names = h.push cellNil) (hkind : scope.kind = .function)
    (hxk : ∀ C K, (compEnvC scope ((y, K) :: cl) C env).kindOf x = some .local) (hyk : ∀ C K, (compEnvC scope ((y, K) :: cl) C env).kindOf y = some .cell)
    (F : Fr h₀ L g m) (N : News h₀ L g news) (hS : S news)
    (R : GCRest prog w A h₀ L m env elt x y scope cl s₂ S P Fin n 0 [] news)
    (hRR : ∀ D C h tk m' ys news', Fr h₀ L h m → News h₀ L h ((D, lst ys) :: news') → Off1 D news' → h.Ns C m' → h₀.get? C = none → h₀.get? D = none → C ≠ L → D ≠ L → C ≠ D → (∀ p ∈ news', p.1 ≠ C) → Fin ys news' → RR (.ref D) C (.ok .next) { s₂ with heap := h, toks := tk }) :
    wpAny (model prog w) A (newList []) (fun acc s₃ => wpAny (model prog w) A (newFunctionEnv scope env.globals cl [] env.qual none .none (some env)) (fun cenv s₄ =>
      codeAny (model prog w) A (.compStart (.ListComp elt [⟨.Tuple [.Name x px, .Name y py] tk₀ tp, iter, [], 0⟩] scope pos) 0 (.ref I) acc { cenv with scope := relabel scope env }) (RR acc cenv.locals) s₄) E s₃) E s₂ := by
  obtain ⟨⟨fp, St, W, hIo, hSt, hst, hfp, own⟩, up, hIn⟩ := W
  have hIL : L ≠ I := Nat.ne_of_lt (Nat.lt_of_lt_of_le F.ns.lt hIn)
  have hI₀ : h₀.get? I = none := by
    cases e : h₀.get? I with
    | none => rfl
    | some o' => exact absurd (Heap.lt_size (F.keep I o' e)) (Nat.not_lt.mpr hIn)
  have off : ∀ p ∈ news, p.1 ≠ I := fun p hp => Nat.ne_of_lt (Nat.lt_of_lt_of_le (Heap.lt_size (N p hp).1) hIn)
  replace F : Fr h₀ L s₂.heap m := F.keeps up
  replace N : News h₀ L s₂.heap news := N.grown up
  clear up hIn
  refine wpAny_newObj_type (newFnEnv_cell1 hc hp fun h₁ hns₁ hK₁ keep₁ => ?_)
  dsimp only at hns₁ hK₁ keep₁ ⊢
  generalize hH2 : s₂.heap.push { cls := .type "list", dict := none, data := .seq ([] : List Value).toArray } = H2 at hns₁ hK₁ keep₁ ⊢
  have hC : H2.objs.size = s₂.heap.objs.size + 1 := by rw [← hH2, Heap.size_push]
  have hDlt : s₂.heap.objs.size < H2.objs.size := by rw [hC]; exact Nat.lt_succ_self _
  generalize hKe : H2.objs.size + 1 = K at hK₁ ⊢
  have hCK : H2.objs.size < K := by rw [← hKe]; exact Nat.lt_succ_self _
  have hDC : s₂.heap.objs.size ≠ H2.objs.size := Nat.ne_of_lt hDlt
  have hDK : s₂.heap.objs.size ≠ K := Nat.ne_of_lt (Nat.lt_trans hDlt hCK)
  have below : ∀ b, b < s₂.heap.objs.size → b ≠ H2.objs.size ∧ b ≠ s₂.heap.objs.size ∧ b ≠ K := fun b hb => ⟨Nat.ne_of_lt (Nat.lt_trans hb hDlt), Nat.ne_of_lt hb, Nat.ne_of_lt (Nat.lt_trans (Nat.lt_trans hb hDlt) hCK)⟩
  have hnf : ∀ a, s₂.heap.objs.size ≤ a → a ∉ fp := fun a ha hm => Nat.lt_irrefl _ (Nat.lt_of_lt_of_le (hfp _ hm) ha)
  have hDf : s₂.heap.objs.size ∉ fp := hnf _ (Nat.le_refl _)
  have hCf : H2.objs.size ∉ fp := hnf _ (Nat.le_of_lt hDlt)
  have hKf : K ∉ fp := hnf _ (Nat.le_of_lt (Nat.lt_trans hDlt hCK))
  have hIlt : I < s₂.heap.objs.size := hfp I (W.sub I (List.mem_singleton.mpr rfl))
  have old : ∀ b o, s₂.heap.get? b = some o → h₁.get? b = some o := fun b o e => keep₁ b o (hH2 ▸ Heap.get?_push_of_some _ e)
  have hacc : h₁.get? s₂.heap.objs.size = some (lst []) := keep₁ _ _ (hH2 ▸ Heap.get?_push_size _ rfl)
  have hst₁ : St 0 h₁ := W.frame _ _ _ hst fun b _ o e => old b o e
  have fresh₀ : ∀ a, s₂.heap.objs.size ≤ a → h₀.get? a = none := fun a ha => by
    cases e : h₀.get? a with
    | none => rfl
    | some o' => exact absurd (Heap.lt_size (F.keep a o' e)) (Nat.not_lt.mpr ha)
  have hD₀ : h₀.get? s₂.heap.objs.size = none := fresh₀ _ (Nat.le_refl _)
  have hC₀ : h₀.get? H2.objs.size = none := fresh₀ _ (Nat.le_of_lt hDlt)
  have hK₀ : h₀.get? K = none := fresh₀ _ (Nat.le_of_lt (Nat.lt_trans hDlt hCK))
  have hLlt : L < s₂.heap.objs.size := F.ns.lt
  have hDL : s₂.heap.objs.size ≠ L := Ne.symm (below L hLlt).2.1
  have hCL : H2.objs.size ≠ L := Ne.symm (below L hLlt).1
  have hKL : K ≠ L := Ne.symm (below L hLlt).2.2
  have hCI : I ≠ H2.objs.size := (below I hIlt).1
  have hDI : I ≠ s₂.heap.objs.size := (below I hIlt).2.1
  have hKI : I ≠ K := (below I hIlt).2.2
  have hKC : K ≠ H2.objs.size := Nat.ne_of_gt hCK
  have off₀ : ∀ p ∈ news, p.1 ≠ I ∧ p.1 ≠ H2.objs.size ∧ p.1 ≠ s₂.heap.objs.size ∧ p.1 ≠ K := fun p hp => ⟨off p hp, (below _ (Heap.lt_size (N p hp).1)).1, (below _ (Heap.lt_size (N p hp).1)).2.1, (below _ (Heap.lt_size (N p hp).1)).2.2⟩
  have loop : ∀ s₃ : Shared, s₃ = { s₂ with heap := h₁ } →
      codeAny (model prog w) A (.compLoop (.ListComp elt [⟨.Tuple [.Name x px, .Name y py] tk₀ tp, iter, [], 0⟩] scope pos) 0 (.ref I) (.ref s₂.heap.objs.size) (compEnvC scope ((y, K) :: cl) H2.objs.size env))
        (RR (.ref s₂.heap.objs.size) H2.objs.size) s₃ := by
    rintro s₃ rfl
    refine comp_loop
      (fun k s' => ∃ h' tk i ys m' oK v₀ news', s' = { s₂ with heap := h', toks := tk } ∧ i ≤ n ∧ k = n + 1 - i ∧ ys.length ≤ i ∧ St i h' ∧ Fr h₀ L h' m ∧ h'.Ns H2.objs.size m' ∧ oK.data = .cell v₀ ∧ News h₀ L h' ((s₂.heap.objs.size, lst ys) :: (K, oK) :: news') ∧
        (∀ p ∈ news', p.1 ≠ I ∧ p.1 ≠ H2.objs.size ∧ p.1 ≠ s₂.heap.objs.size ∧ p.1 ≠ K) ∧ S news' ∧ GCRest prog w A h₀ L m env elt x y scope cl s₂ S P Fin (n - i) i ys news') ?_ (n + 1)
      ⟨h₁, _, 0, [], _, cellNil, none, news, rfl, Nat.zero_le _, rfl, Nat.le_refl _, hst₁, F.keeps old, hns₁, rfl, fun p hp => ?_, off₀, hS, R⟩
    · rintro k s' ⟨h', tk, i, ys, m', oK, v₀, news', rfl, hi, rfl, hyl, hst', F', hn', hoK, N', off', hS', R'⟩
      by_cases hlt : i < n
      · obtain ⟨j, hj⟩ : ∃ j, n - i = j + 1 := ⟨n - i - 1, by omega⟩
        rw [hj] at R'
        refine W.item i _ _ _ hlt hst' fun v h₂ tk₂ hPv hst₂ hk₂ => ?_
        obtain ⟨t, v₁, v₂, rfl, htup, R''⟩ := R' v hPv
        have N₂ : News h₀ L h₂ ((s₂.heap.objs.size, lst ys) :: (K, oK) :: news') := news_but N' hk₂ fun p hp => by
          rcases List.mem_cons.mp hp with rfl | hp
          · exact Ne.symm hDI
          rcases List.mem_cons.mp hp with rfl | hp
          · exact Ne.symm hKI
          · exact (off' p hp).1
        have N₂' : News h₀ L h₂ news' := fun p hp => N₂ p (List.mem_cons_of_mem _ (List.mem_cons_of_mem _ hp))
        have F₂ : Fr h₀ L h₂ m := fr_but F' hk₂ hIL hI₀
        refine own _ _ _ _ _ hst₂ ?_
        refine assign_Tuple_tuple hh (htup _ N₂' F₂.keep) rfl rfl fun h₅ he => ?_
        have he' : ∀ b o, h₂.get? b = some o → h₅.get? b = some o := fun b o e => he b o (Nat.ne_of_lt (Heap.lt_size e)) e
        have hn₂ : h₂.Ns H2.objs.size m' := hn'.at' fun o e => hk₂ _ o (by simpa using Ne.symm hCI) e
        refine assignInOrder_cons (wpAny_assign_Name (wpAny_storeName_local (hxk _ _) (hn₂.at' fun o e => he' _ o e) (fun h₆ hn₆ hs₆ => ?_) (by simp [compEnvC, relabel, hkind])))
        have hKat : h₆.get? K = some oK := hs₆.extBut _ _ hKC (he' _ _ (N₂ (K, oK) (List.mem_cons_of_mem _ List.mem_cons_self)).1)
        refine assignInOrder_cons (wpAny_assign_Name (wpAny_storeName_cell (c := K) hkind (hyk _ _) (by simp [compEnvC, List.lookup]) ⟨oK, hKat, hoK⟩ fun h₃ hv₃ hs₃ => ?_))
        refine assignInOrder_nil ?_
        obtain ⟨oK₃, hK₃, hdK₃⟩ := hv₃
        have old3 : ∀ b o, b ≠ H2.objs.size → b ≠ K → h₂.get? b = some o → h₃.get? b = some o := fun b o hb hb' e => (hs₃.2 b hb').trans (hs₆.extBut b o hb (he' b o e))
        have hn₃ : h₃.Ns H2.objs.size (fun z => if z = x then some v₁ else m' z) := hn₆.sameBut hs₃ (Ne.symm hKC)
        have hst₃ : St (i + 1) h₃ := W.frame _ _ _ hst₂ fun b hb o e => old3 b o (fun q => hCf (q ▸ hb)) (fun q => hKf (q ▸ hb)) e
        obtain ⟨oI, heI⟩ := hIo _ _ hst₃
        obtain ⟨oC, heC, hoC⟩ := ns_obj hn₃
        have F₃ : Fr h₀ L h₃ m := ⟨F₂.ns.at' fun o e => old3 L o (Ne.symm hCL) (Ne.symm hKL) e, fun b o e => old3 b o (fun q => by rw [q, hC₀] at e; cases e) (fun q => by rw [q, hK₀] at e; cases e) (F₂.keep b o e), F₂.above⟩
        have N₃ : News h₀ L h₃ ((I, oI) :: (H2.objs.size, oC) :: (s₂.heap.objs.size, lst ys) :: (K, oK₃) :: news') := fun p hp => by
          rcases List.mem_cons.mp hp with rfl | hp
          · exact ⟨heI, Ne.symm hIL, hI₀⟩
          rcases List.mem_cons.mp hp with rfl | hp
          · exact ⟨heC, hCL, hC₀⟩
          rcases List.mem_cons.mp hp with rfl | hp
          · have z := N₂ (s₂.heap.objs.size, lst ys) List.mem_cons_self
            exact ⟨old3 _ _ hDC hDK z.1, z.2⟩
          rcases List.mem_cons.mp hp with rfl | hp
          · exact ⟨hK₃, hKL, hK₀⟩
          · have z := N₂' p hp
            exact ⟨old3 _ _ (off' p hp).2.1 (off' p hp).2.2.2 z.1, z.2⟩
        have fin : ∀ (E' : Value → Shared → Prop) y' s₄, CompEndC h₀ L m { s₂ with heap := h₃, toks := tk₂ + 1 } I oI H2.objs.size oC s₂.heap.objs.size (lst ys) K oK₃ S (fun y' news' => GCRest prog w A h₀ L m env elt x y scope cl s₂ S P Fin j (i + 1) (ys ++ [y']) news') y' s₄ →
            wpAny (model prog w) A (call (.builtin "list.append") [.ref s₂.heap.objs.size, y']) (fun _ s₅ => ∃ k', k' < n + 1 - i ∧ ∃ h' tk i ys m' oK v₀ news', s₅ = { s₂ with heap := h', toks := tk } ∧ i ≤ n ∧ k' = n + 1 - i ∧ ys.length ≤ i ∧ St i h' ∧ Fr h₀ L h' m ∧ h'.Ns H2.objs.size m' ∧ oK.data = .cell v₀ ∧ News h₀ L h' ((s₂.heap.objs.size, lst ys) :: (K, oK) :: news') ∧
              (∀ p ∈ news', p.1 ≠ I ∧ p.1 ≠ H2.objs.size ∧ p.1 ≠ s₂.heap.objs.size ∧ p.1 ≠ K) ∧ S news' ∧ GCRest prog w A h₀ L m env elt x y scope cl s₂ S P Fin (n - i) i ys news') E' s₄ := by
          rintro E' y' s₄ ⟨h₄, tk₄, news₄, rfl, F₄, N₄, off₄, hS₄, R₄⟩
          have zI := (N₄ (I, oI) List.mem_cons_self).1
          have zC := (N₄ (H2.objs.size, oC) (List.mem_cons_of_mem _ List.mem_cons_self)).1
          have zD := (N₄ (s₂.heap.objs.size, lst ys) (List.mem_cons_of_mem _ (List.mem_cons_of_mem _ List.mem_cons_self))).1
          have zK := N₄ (K, oK₃) (List.mem_cons_of_mem _ (List.mem_cons_of_mem _ (List.mem_cons_of_mem _ List.mem_cons_self)))
          have N₄' : News h₀ L h₄ news₄ := fun p hp => N₄ p (List.mem_cons_of_mem _ (List.mem_cons_of_mem _ (List.mem_cons_of_mem _ (List.mem_cons_of_mem _ hp))))
          have hst₄ : St (i + 1) h₄ := hSt _ _ _ _ _ hst₃ heI zI F₄.keep N₄' hS₄
          refine append_at (hsz := by show ys.toArray.size ≤ sizeLine; rw [List.size_toArray]; omega) zD fun h₅ hs₅ hD₅ => ?_
          refine ⟨n + 1 - (i + 1), by omega, h₅, tk₄, i + 1, ys ++ [y'], _, oK₃, _, news₄, rfl, hlt, rfl, by rw [List.length_append, List.length_singleton]; omega, W.frame _ _ _ hst₄ fun b hb o e => hs₅.extBut b o (fun q => hDf (q ▸ hb)) e, F₄.change hs₅ hDL hD₀,
            (hoC.ns zC).sameBut hs₅ (Ne.symm hDC), hdK₃, fun p hp => ?_, off₄, hS₄, ?_⟩
          · rcases List.mem_cons.mp hp with rfl | hp
            · exact ⟨hD₅.trans (congrArg some (lst_snoc ys y')), hDL, hD₀⟩
            rcases List.mem_cons.mp hp with rfl | hp
            · exact ⟨hs₅.extBut _ _ (Ne.symm hDK) zK.1, zK.2⟩
            · exact ⟨hs₅.extBut _ _ (off₄ p hp).2.2.1 (N₄' p hp).1, (N₄' p hp).2⟩
          · rw [show n - (i + 1) = j by omega]
            exact R₄
        refine wpAny_tests_nil ?_
        simp only [if_true]
        exact wpAny_mono (R'' I oI H2.objs.size oC s₂.heap.objs.size K oK₃ _ h₃ (tk₂ + 1) _ hoC (by simp) hdK₃ F₃ N₃ off' ⟨hCI, hDI, Ne.symm hDC, Ne.symm hKI, hKC, Ne.symm hDK⟩) (fun y' s₄ h₄ => fin _ y' s₄ h₄) fun _ _ e => e
      · obtain rfl : i = n := Nat.le_antisymm hi (Nat.not_lt.mp hlt)
        rw [Nat.sub_self] at R'
        refine W.done _ _ _ hst' fun h₂ tk₂ hk₂ => ?_
        have N₂ : News h₀ L h₂ ((s₂.heap.objs.size, lst ys) :: (K, oK) :: news') := news_but N' hk₂ fun p hp => by
          rcases List.mem_cons.mp hp with rfl | hp
          · exact Ne.symm hDI
          rcases List.mem_cons.mp hp with rfl | hp
          · exact Ne.symm hKI
          · exact (off' p hp).1
        refine hRR _ _ h₂ tk₂ _ ys news' (fr_but F' hk₂ hIL hI₀) (fun p hp => ?_) ?_ (hn'.at' fun o e => hk₂ _ o (by simpa using Ne.symm hCI) e) hC₀ hD₀ hCL hDL (Ne.symm hDC) (fun p hp => (off' p hp).2.1) R'
        · rcases List.mem_cons.mp hp with rfl | hp
          · exact N₂ _ List.mem_cons_self
          · exact N₂ _ (List.mem_cons_of_mem _ (List.mem_cons_of_mem _ hp))
        · exact (Off3.of (I := I) (C := H2.objs.size) (D := s₂.heap.objs.size) fun p hp => ⟨(off' p hp).1, (off' p hp).2.1, (off' p hp).2.2.1⟩).one
    · rcases List.mem_cons.mp hp with rfl | hp
      · exact ⟨hacc, hDL, hD₀⟩
      rcases List.mem_cons.mp hp with rfl | hp
      · exact ⟨hK₁, hKL, hK₀⟩
      · exact ⟨old _ _ (N p hp).1, (N p hp).2⟩
  exact codeAny_compStart_list (loop _ rfl) (W.self 0 _ _ _ hst₁ (loop _ rfl))
end

section
variable {prog : Program} {w : World} {A : Around} {E : Value → Shared → Prop} {s : Shared} {h₀ : Heap} {L : Addr} {m : Str → Option Value} {env : Env}
def SrcGC (prog : Program) (w : World) (A : Around) (h₀ : Heap) (L : Addr) (m : Str → Option Value) (env : Env) (elt target : PySem.Expr) (x y : Str) (scope : Scope) (cl : List (Str × Addr)) (Fin : Shared → List Value → List (Addr × Obj) → Prop) (xv : Value) (s₁ : Shared) : Prop :=
  ∃ n S P news, Fr h₀ L s₁.heap m ∧ News h₀ L s₁.heap news ∧ S news ∧ n ≤ sizeLine ∧
    (∀ (Q E : Value → Shared → Prop), (∀ I h', ItOk prog w A h₀ L S target n P s₁.heap h' I → Q (.ref I) { s₁ with heap := h' }) → wpAny (model prog w) A (pyIter xv) Q E s₁) ∧
    ∀ g, GCRest prog w A h₀ L m env elt x y scope cl { s₁ with heap := g } S P (Fin { s₁ with heap := g }) n 0 [] news
theorem SrcGC.list {elt target : PySem.Expr} {x y : Str} {scope : Scope} {cl : List (Str × Addr)} {Fin : Shared → List Value → List (Addr × Obj) → Prop} {ax : Addr} {its : Array Value} {news : List (Addr × Obj)} {s₁ : Shared}
    (hh : A.handled = none) (F : Fr h₀ L s₁.heap m) (N : News h₀ L s₁.heap news) (S : Lies h₀ ax (ListObj its) news) (hsz : its.size ≤ sizeLine)
    (h : ∀ g, GCRest prog w A h₀ L m env elt x y scope cl { s₁ with heap := g } (Lies h₀ ax (ListObj its)) (fun i v => its[i]? = some v) (Fin { s₁ with heap := g }) its.size 0 [] news) :
    SrcGC prog w A h₀ L m env elt target x y scope cl Fin (.ref ax) s₁ := ⟨_, _, _, news, F, N, S, hsz, fun _ _ k => it_list hh F N S k, h⟩
theorem ListComp_GC {elt iter : PySem.Expr} {x y : Str} {px py tp : Pos} {tk₀ : Nat} {scope : Scope} {cl : List (Str × Addr)} {pos : Pos} {Q : Value → Shared → Prop} (_F₀ : Fr h₀ L s.heap m) (hh : A.handled = none)
    (hclos : closureFor scope env = pure cl) (hc : ∀ n acc, cellsFrom n scope.names acc = (y, n) :: acc) (hp : ∀ h, pushCells h scope.names = h.push cellNil) (hkind : scope.kind = .function)
    (hxk : ∀ C K, (compEnvC scope ((y, K) :: cl) C env).kindOf x = some .local) (hyk : ∀ C K, (compEnvC scope ((y, K) :: cl) C env).kindOf y = some .cell)
    (hnames : ∀ y ∈ scope.names, y.2 = .local → scope.names.lookup y.1 = some .local)
    (h : wpAny (model prog w) A (eval iter env) (SrcGC prog w A h₀ L m env elt (.Tuple [.Name x px, .Name y py] tk₀ tp) x y scope cl (fun s₂ => FinE h₀ L m s₂ Q)) E s)
    (hs : ∀ x, foldedSetIterable iter env x = pure x) :
    wpAny (model prog w) A (eval (.ListComp elt [⟨.Tuple [.Name x px, .Name y py] tk₀ tp, iter, [], 0⟩] scope pos) env) Q E s := by
  rw [eval_ListComp]
  refine wpAny_comprehension_free (use := none) rfl hs hclos hkind hnames (wpAny_mono h (fun xv s₁ h₁ => ?_) fun _ _ e => e)
  obtain ⟨n, S, P, news, F, N, hS, hsz, it, R⟩ := h₁
  refine it _ _ fun I h' ok => ?_
  refine block_GC (s₂ := { s₁ with heap := h' }) ok hsz hh hc hp hkind hxk hyk F N hS (R h') fun D C h tk m' ys news' F' N' o1 hn hC₀ hD₀ hCL hDL hCD offC fin => ?_
  refine ⟨m', hn, fun h'' hs'' => fin D h'' tk (F'.change hs'' hCL hC₀) (fun p hp => ?_) o1⟩
  refine ⟨hs''.extBut _ _ ?_ (N' p hp).1, (N' p hp).2⟩
  rcases List.mem_cons.mp hp with rfl | hp
  · exact Ne.symm hCD
  · exact offC p hp
theorem CompEndC.imp {I C D K : Addr} {oI oC oD oK : Obj} {S : List (Addr × Obj) → Prop} {R R' : Value → List (Addr × Obj) → Prop} {y : Value} {s₂ : Shared} (h : CompEndC h₀ L m s I oI C oC D oD K oK S R y s₂) (k : ∀ y nw, R y nw → R' y nw) : CompEndC h₀ L m s I oI C oC D oD K oK S R' y s₂ := by
  obtain ⟨h', tk, nw, a, b, c, d, e, f⟩ := h
  exact ⟨h', tk, nw, a, b, c, d, e, k _ _ f⟩
theorem GCRest.ind {elt : PySem.Expr} {x y : Str} {scope : Scope} {cl : List (Str × Addr)} {S : List (Addr × Obj) → Prop} {P : Nat → Value → Prop} {Fin : List Value → List (Addr × Obj) → Prop} {n : Nat} {news : List (Addr × Obj)}
    (J : Nat → List Value → List (Addr × Obj) → Prop) (h0 : J 0 [] news)
    (step : ∀ i ys nw v, i < n → J i ys nw → P i v → ∃ t v₁ v₂, v = .ref t ∧ (∀ h : Heap, News h₀ L h nw → (∀ b o, h₀.get? b = some o → h.get? b = some o) → IsTup h t #[v₁, v₂]) ∧
      ∀ I oI C oC D K oK m₂ h tk (E' : Value → Shared → Prop), NsObj oC m₂ → m₂ x = some v₁ → oK.data = .cell (some v₂) → Fr h₀ L h m → News h₀ L h ((I, oI) :: (C, oC) :: (D, lst ys) :: (K, oK) :: nw) →
        (∀ p ∈ nw, p.1 ≠ I ∧ p.1 ≠ C ∧ p.1 ≠ D ∧ p.1 ≠ K) → ((@Ne Nat I C) ∧ (@Ne Nat I D) ∧ (@Ne Nat C D) ∧ (@Ne Nat K I) ∧ (@Ne Nat K C) ∧ (@Ne Nat K D)) →
        wpAny (model prog w) A (eval elt (compEnvC scope ((y, K) :: cl) C env)) (CompEndC h₀ L m { s with heap := h, toks := tk } I oI C oC D (lst ys) K oK S (fun y' nw' => J (i + 1) (ys ++ [y']) nw')) E' { s with heap := h, toks := tk })
    (fin : ∀ ys nw, J n ys nw → Fin ys nw) : GCRest prog w A h₀ L m env elt x y scope cl s S P Fin n 0 [] news := by
  have key : ∀ k i ys nw, i + k = n → J i ys nw → GCRest prog w A h₀ L m env elt x y scope cl s S P Fin k i ys nw := by
    intro k
    induction k with
    | zero => intro i ys nw e hJ; exact fin ys nw (by rw [← show i = n by omega]; exact hJ)
    | succ k ih =>
      intro i ys nw e hJ v hv
      obtain ⟨t, v₁, v₂, rfl, ht, step⟩ := step i ys nw v (by omega) hJ hv
      refine ⟨t, v₁, v₂, rfl, ht, fun I oI C oC D K oK m₂ h tk E' a b c d e' f g => ?_⟩
      exact wpAny_mono (step I oI C oC D K oK m₂ h tk E' a b c d e' f g) (fun y' s₂ h₂ => CompEndC.imp h₂ fun y' nw' hJ' => ih _ _ _ (by omega) hJ') fun _ _ x => x
  exact key n 0 [] news (by omega) h0
end
end Mine
end

section -- LN2
open PySem PySem.W PyProof.Rows PySem.Calls PySem.Spec PyProof.Rows.LCg
set_option maxRecDepth 100000
namespace Mine
theorem compTurn_20 (elt t1 i1 t2 i2 : PySem.Expr) (scope : Scope) (pos : Pos) (it acc : Value) (env : Env) :
    compTurn (.ListComp elt [⟨t1, i1, [], 0⟩, ⟨t2, i2, [], 0⟩] scope pos) 0 it acc env = (standAt i1.pos >>= fun _ => pyNext it >>= fun r => match r with
      | none => pure (.done .next)
      | some v => letOwnedTupleGo t1 it v >>= fun _ => assign t1 env v >>= fun _ =>
          eval i2 env >>= fun x => standAt i2.pos >>= fun _ => foldedSetIterable i2 env x >>= fun x => holding [x] (pyIter x) >>= fun it' =>
            runOwn (.compStart (.ListComp elt [⟨t1, i1, [], 0⟩, ⟨t2, i2, [], 0⟩] scope pos) 1 it' acc env) env >>= fun _ =>
          again (.compLoop (.ListComp elt [⟨t1, i1, [], 0⟩, ⟨t2, i2, [], 0⟩] scope pos) 0 it acc env)) := by rfl
theorem compTurn_21 (elt t1 i1 t2 i2 : PySem.Expr) (scope : Scope) (pos : Pos) (it acc : Value) (env : Env) :
    compTurn (.ListComp elt [⟨t1, i1, [], 0⟩, ⟨t2, i2, [], 0⟩] scope pos) 1 it acc env = (standAt i2.pos >>= fun _ => pyNext it >>= fun r => match r with
      | none => pure (.done .next)
      | some v => letOwnedTupleGo t2 it v >>= fun _ => assign t2 env v >>= fun _ =>
        (eval elt env >>= fun x => call (.builtin "list.append") [acc, x] >>= fun _ => pure ()) >>= fun _ =>
          again (.compLoop (.ListComp elt [⟨t1, i1, [], 0⟩, ⟨t2, i2, [], 0⟩] scope pos) 1 it acc env)) := by rfl
section
variable {prog : Program} {w : World} {A : Around} {E : Value → Shared → Prop} {s : Shared} {h₀ : Heap} {L : Addr} {m : Str → Option Value} {env : Env} {R : Result → Shared → Prop}
theorem codeAny_compStart_21 {elt t1 i1 t2 i2 scope pos it acc env}
    (h0 : codeAny (model prog w) A (.compLoop (.ListComp elt [⟨t1, i1, [], 0⟩, ⟨t2, i2, [], 0⟩] scope pos) 1 it acc env) R s)
    (h : wpAny (model prog w) A (pyIter it) (fun it' s' => codeAny (model prog w) A (.compLoop (.ListComp elt [⟨t1, i1, [], 0⟩, ⟨t2, i2, [], 0⟩] scope pos) 1 it' acc env) R s')
      (notedBy (model prog w) A env fun x s' => R (.error x) s') s) :
    codeAny (model prog w) A (.compStart (.ListComp elt [⟨t1, i1, [], 0⟩, ⟨t2, i2, [], 0⟩] scope pos) 1 it acc env) R s := by
  refine codeAny_of_tree ?_
  show wpAny _ _ ((compStart (.ListComp elt [⟨t1, i1, [], 0⟩, ⟨t2, i2, [], 0⟩] scope pos) 1 it acc env).onRaise (fun x => do noteFrame x env; standAt theWindowsPlace)) _ _ s
  refine wpAny_notedAt ?_
  unfold compStart
  show wpAny _ _ (ask >>= _) _ _ s
  refine wpAny_bind (wpAny_askSetting (wpAny_ite ?_))
  split
  · first
      | exact wpAny_bind (wpAny_pure (wpAny_pure (And.intro rfl h0)))
      | exact wpAny_pure (And.intro rfl h0)
  · first
      | exact wpAny_bind (wpAny_rule (wpAny_bind (wpAny_standAt (wpAny_bind (wpAny_mono h (fun it' s' h' => wpAny_pure (And.intro rfl h')) fun _ _ x => x)))))
      | (refine wpAny_bind (wpAny_rule ?_); show wpAny _ _ (standAt i2.pos >>= _) _ _ s; exact wpAny_bind (wpAny_standAt (wpAny_bind (wpAny_mono h (fun it' s' h' => wpAny_pure (And.intro rfl h')) fun _ _ x => x))))

theorem lies_news' {ax : Addr} {its : Array Value} {n : Nat} {news : List (Addr × Obj)} (e : (ax, lsO its n) ∈ news) : Lies h₀ ax (ListObj its) news := .inr ⟨_, e, rfl, n, rfl⟩
theorem nest_outer {elt i1 i2 : PySem.Expr} {x y : Str} {px py : Pos} {scope : Scope} {pos : Pos} {it acc : Value} {env : Env} (I : Nat → Shared → Prop)
    (turn : ∀ n s, I n s → wpAny (model prog w) A (pyNext it) (fun r s₁ => match r with
      | none => R (.ok .next) s₁
      | some v => wpAny (model prog w) A (assign (.Name x px) env v) (fun _ s₂ => wpAny (model prog w) A (eval i2 env) (fun x₂ s₃ => wpAny (model prog w) A (foldedSetIterable i2 env x₂) (fun x₂ s₃ => wpAny (model prog w) A (pyIter x₂) (fun it' s₄ =>
          wpAny (model prog w) A (runOwn (.compStart (.ListComp elt [⟨.Name x px, i1, [], 0⟩, ⟨.Name y py, i2, [], 0⟩] scope pos) 1 it' acc env) env) (fun _ s₅ => ∃ m, m < n ∧ I m s₅) (notedBy (model prog w) A env fun e s' => R (.error e) s') s₄)
          (notedBy (model prog w) A env fun e s' => R (.error e) s') s₃) (notedBy (model prog w) A env fun e s' => R (.error e) s') s₃) (notedBy (model prog w) A env fun e s' => R (.error e) s') s₂) (notedBy (model prog w) A env fun e s' => R (.error e) s') s₁) (notedBy (model prog w) A env fun e s' => R (.error e) s') s)
    (n : Nat) (h : I n s) :
    codeAny (model prog w) A (.compLoop (.ListComp elt [⟨.Name x px, i1, [], 0⟩, ⟨.Name y py, i2, [], 0⟩] scope pos) 0 it acc env) R s := by
  refine codeAny_loop rfl I (fun n s hI => ?_) n h
  show wpAny _ A ((compTurn (.ListComp elt [⟨.Name x px, i1, [], 0⟩, ⟨.Name y py, i2, [], 0⟩] scope pos) 0 it acc env).onRaise (fun x => do noteFrame x env; theTreesLotGoes x)) _ _ s
  refine wpAny_noted ?_
  rw [compTurn_20]
  refine wpAny_bind (wpAny_standAt (wpAny_bind (wpAny_mono (turn n s hI) (fun r s₁ h₁ => ?_) fun _ _ h' => h')))
  cases r with
  | none => exact wpAny_pure h₁
  | some v =>
    refine wpAny_bind (wpAny_of_eq (show letOwnedTupleGo (.Name x px) it v = pure () by rfl) ?_)
    refine wpAny_bind (wpAny_mono h₁ (fun _ s₂ h₂ => wpAny_bind (wpAny_mono h₂ (fun x₂ s₃ h₃ => wpAny_bind (wpAny_standAt (wpAny_bind (wpAny_mono h₃ (fun x₃ s₃' h₃' => wpAny_bind (wpAny_holding (wpAny_mono h₃' (fun it' s₄ h₄ => ?_) fun _ _ h' => h'))) fun _ _ h' => h')))) fun _ _ h' => h')) fun _ _ h' => h')
    exact wpAny_bind (wpAny_mono h₄ (fun _ s₅ h₅ => wpAny_pure ⟨rfl, h₅⟩) fun _ _ h' => h')
theorem nest_inner {elt i1 i2 : PySem.Expr} {x y : Str} {px py : Pos} {scope : Scope} {pos : Pos} {it acc : Value} {env : Env} (I : Nat → Shared → Prop)
    (turn : ∀ n s, I n s → wpAny (model prog w) A (pyNext it) (fun r s₁ => match r with
      | none => R (.ok .next) s₁
      | some v => wpAny (model prog w) A (assign (.Name y py) env v) (fun _ s₂ => wpAny (model prog w) A (eval elt env) (fun z s₄ =>
              wpAny (model prog w) A (call (.builtin "list.append") [acc, z]) (fun _ s₅ => ∃ m, m < n ∧ I m s₅) (notedBy (model prog w) A env fun e s' => R (.error e) s') s₄) (notedBy (model prog w) A env fun e s' => R (.error e) s') s₂) (notedBy (model prog w) A env fun e s' => R (.error e) s') s₁) (notedBy (model prog w) A env fun e s' => R (.error e) s') s)
    (n : Nat) (h : I n s) :
    codeAny (model prog w) A (.compLoop (.ListComp elt [⟨.Name x px, i1, [], 0⟩, ⟨.Name y py, i2, [], 0⟩] scope pos) 1 it acc env) R s := by
  refine codeAny_loop rfl I (fun n s hI => ?_) n h
  show wpAny _ A ((compTurn (.ListComp elt [⟨.Name x px, i1, [], 0⟩, ⟨.Name y py, i2, [], 0⟩] scope pos) 1 it acc env).onRaise (fun x => do noteFrame x env; theTreesLotGoes x)) _ _ s
  refine wpAny_noted ?_
  rw [compTurn_21]
  refine wpAny_bind (wpAny_standAt (wpAny_bind (wpAny_mono (turn n s hI) (fun r s₁ h₁ => ?_) fun _ _ h' => h')))
  cases r with
  | none => exact wpAny_pure h₁
  | some v =>
    refine wpAny_bind (wpAny_of_eq (show letOwnedTupleGo (.Name y py) it v = pure () by rfl) ?_)
    exact wpAny_bind (wpAny_mono h₁ (fun _ s₂ h₂ => wpAny_bind (wpAny_bind (wpAny_mono h₂ (fun z s₃ h₃ => wpAny_bind (wpAny_mono h₃
      (fun _ s₄ h₄ => wpAny_pure (wpAny_pure ⟨rfl, h₄⟩)) fun _ _ h' => h')) fun _ _ h' => h'))) fun _ _ h' => h')
end
section
variable {prog : Program} {w : World} {A : Around} {E : Value → Shared → Prop} {s : Shared} {h₀ : Heap} {L : Addr} {m : Str → Option Value} {env : Env}
/-- a list of lists, block after block, each element the same value -/
theorem block_NN {elt i1 i2 : PySem.Expr} {x y : Str} {px py : Pos} {scope : Scope} {cl : List (Str × Addr)} {pos : Pos} {s₂ : Shared} {g : Heap} {I ax : Addr} {its : Array Value} {news : List (Addr × Obj)} {b : Value} {PI : Value → Prop} {nx : Nat}
    {RR : Value → Addr → Result → Shared → Prop}
    (W : ItOk prog w A h₀ L (Lies h₀ ax (ListObj its)) (.Name x px) its.size (fun i v => its[i]? = some v) g s₂.heap I) (hsz : its.size ≤ 1000) (hh : A.handled = none)
    (hcell : ∀ y ∈ scope.names, y.2 ≠ .cell) (hkind : scope.kind = .function) (hxk : ∀ C, (compEnvC scope cl C env).kindOf x = some .local) (hyk : ∀ C, (compEnvC scope cl C env).kindOf y = some .local)
    (hi2 : ∀ C v m₂ (s : Shared) (Q E : Value → Shared → Prop), s.heap.Ns C m₂ → m₂ x = some v → Q v s → wpAny (model prog w) A (eval i2 (compEnvC scope cl C env)) Q E s)
    (hs2 : ∀ C v, foldedSetIterable i2 (compEnvC scope cl C env) v = pure v)
    (F : Fr h₀ L g m) (N : News h₀ L g news) (hax : (ax, lsO its nx) ∈ news)
    (hin : ∀ (i : Nat) (v : Value), its[i]? = some v → ∃ r itr nr, v = .ref r ∧ (r, lsO itr nr) ∈ news ∧ itr.size ≤ 1000 ∧ ∀ (j : Nat) (u : Value), itr[j]? = some u → PI u)
    (helt : ∀ u J oJ I oI C oC D oD m₂ h tk (E' : Value → Shared → Prop), PI u → NsObj oC m₂ → m₂ y = some u → Fr h₀ L h m → News h₀ L h ((J, oJ) :: (I, oI) :: (C, oC) :: (D, oD) :: news) →
      wpAny (model prog w) A (eval elt (compEnvC scope cl C env)) (fun v s' => Halt (v = b ∧ ∃ h' tk', s' = { s₂ with heap := h', toks := tk' } ∧ Fr h₀ L h' m ∧ News h₀ L h' ((J, oJ) :: (I, oI) :: (C, oC) :: (D, oD) :: news))) E' { s₂ with heap := h, toks := tk })
    (hRR : ∀ D C h tk m' c, Fr h₀ L h m → News h₀ L h ((D, lst (List.replicate c b)) :: news) → Off1 D news → h.Ns C m' → h₀.get? C = none → h₀.get? D = none → C ≠ L → D ≠ L → C ≠ D → (∀ p ∈ news, p.1 ≠ C) → RR (.ref D) C (.ok .next) { s₂ with heap := h, toks := tk }) :
    wpAny (model prog w) A (newList []) (fun acc s₃ => wpAny (model prog w) A (newFunctionEnv scope env.globals cl [] env.qual none .none (some env)) (fun cenv s₄ =>
      codeAny (model prog w) A (.compStart (.ListComp elt [⟨.Name x px, i1, [], 0⟩, ⟨.Name y py, i2, [], 0⟩] scope pos) 0 (.ref I) acc { cenv with scope := relabel scope env }) (RR acc cenv.locals) s₄) E s₃) E s₂ := by
  obtain ⟨⟨fp, St, W, hIo, hSt, hst, hfp, own⟩, up, hIn⟩ := W
  have hIL : L ≠ I := Nat.ne_of_lt (Nat.lt_of_lt_of_le F.ns.lt hIn)
  have hI₀ : h₀.get? I = none := by
    cases e : h₀.get? I with
    | none => rfl
    | some o' => exact absurd (Heap.lt_size (F.keep I o' e)) (Nat.not_lt.mpr hIn)
  have off : ∀ p ∈ news, p.1 ≠ I := fun p hp => Nat.ne_of_lt (Nat.lt_of_lt_of_le (Heap.lt_size (N p hp).1) hIn)
  replace F : Fr h₀ L s₂.heap m := F.keeps up
  replace N : News h₀ L s₂.heap news := N.grown up
  clear up hIn
  refine wpAny_newObj_type (wpAny_newFunctionEnv hcell (by intro y hy; simp at hy) (fun h₁ hns₁ hsb₁ => ?_) hkind)
  dsimp only at hns₁ hsb₁ ⊢
  generalize hH2 : s₂.heap.push { cls := .type "list", dict := none, data := .seq ([] : List Value).toArray } = H2 at hns₁ hsb₁ ⊢
  have hC : H2.objs.size = s₂.heap.objs.size + 1 := by rw [← hH2, Heap.size_push]
  have hDC : s₂.heap.objs.size ≠ H2.objs.size := by rw [hC]; exact Nat.ne_of_lt (Nat.lt_succ_self _)
  have below : ∀ b, b < s₂.heap.objs.size → b ≠ H2.objs.size ∧ b ≠ s₂.heap.objs.size := fun b hb => ⟨by rw [hC]; exact Nat.ne_of_lt (Nat.lt_succ_of_lt hb), Nat.ne_of_lt hb⟩
  have hDf : s₂.heap.objs.size ∉ fp := fun hm => Nat.lt_irrefl _ (hfp _ hm)
  have hCf : H2.objs.size ∉ fp := fun hm => by have := hfp _ hm; rw [hC] at this; exact Nat.lt_irrefl _ (Nat.lt_of_succ_lt this)
  have hIlt : I < s₂.heap.objs.size := hfp I (W.sub I (List.mem_singleton.mpr rfl))
  have hnlt : ∀ p ∈ news, p.1 < s₂.heap.objs.size := fun p hp => Heap.lt_size (N p hp).1
  have old : ∀ b o, s₂.heap.get? b = some o → h₁.get? b = some o := fun b o e => hsb₁.extBut b o (below b (Heap.lt_size e)).1 (Heap.get?_push_of_some _ (hH2 ▸ Heap.get?_push_of_some _ e))
  have hacc : h₁.get? s₂.heap.objs.size = some (lst []) := hsb₁.extBut _ _ hDC (Heap.get?_push_of_some _ (hH2 ▸ Heap.get?_push_size _ rfl))
  have hst₁ : St 0 h₁ := W.frame _ _ _ hst fun b _ o e => old b o e
  have fresh₀ : ∀ a, s₂.heap.objs.size ≤ a → h₀.get? a = none := fun a ha => by
    cases e : h₀.get? a with
    | none => rfl
    | some o' => exact absurd (Heap.lt_size (F.keep a o' e)) (Nat.not_lt.mpr ha)
  have hD₀ : h₀.get? s₂.heap.objs.size = none := fresh₀ _ (Nat.le_refl _)
  have hC₀ : h₀.get? H2.objs.size = none := fresh₀ _ (by rw [hC]; exact Nat.le_succ _)
  have hLlt : L < s₂.heap.objs.size := F.ns.lt
  have hDL : s₂.heap.objs.size ≠ L := Ne.symm (below L hLlt).2
  have hCL : H2.objs.size ≠ L := Ne.symm (below L hLlt).1
  have hCI : I ≠ H2.objs.size := (below I hIlt).1
  have hDI : I ≠ s₂.heap.objs.size := (below I hIlt).2
  have offC : ∀ p ∈ news, p.1 ≠ H2.objs.size := fun p hp => (below _ (hnlt p hp)).1
  have offD : ∀ p ∈ news, p.1 ≠ s₂.heap.objs.size := fun p hp => (below _ (hnlt p hp)).2
  have hLies : Lies h₀ ax (ListObj its) news := lies_news' hax
  have loop : ∀ s₃ : Shared, s₃ = { s₂ with heap := h₁, toks := s₂.toks + ([] : List (Str × Value)).length } →
      codeAny (model prog w) A (.compLoop (.ListComp elt [⟨.Name x px, i1, [], 0⟩, ⟨.Name y py, i2, [], 0⟩] scope pos) 0 (.ref I) (.ref s₂.heap.objs.size) (compEnvC scope cl H2.objs.size env))
        (RR (.ref s₂.heap.objs.size) H2.objs.size) s₃ := by
    rintro s₃ rfl
    refine nest_outer
      (fun k s' => ∃ h' tk i c m', s' = { s₂ with heap := h', toks := tk } ∧ i ≤ its.size ∧ k = its.size + 1 - i ∧ c ≤ 1000 * i ∧ St i h' ∧ Fr h₀ L h' m ∧ h'.Ns H2.objs.size m' ∧ News h₀ L h' ((s₂.heap.objs.size, lst (List.replicate c b)) :: news)) ?_ (its.size + 1)
      ⟨h₁, _, 0, 0, _, rfl, Nat.zero_le _, rfl, Nat.le_refl _, hst₁, F.keeps old, hns₁, fun p hp => ?_⟩
    · rintro k s' ⟨h', tk, i, c, m', rfl, hi, rfl, hc, hst', F', hn', N'⟩
      by_cases hlt : i < its.size
      · refine W.item i _ _ _ hlt hst' fun v h₂ tk₂ hPv hst₂ hk₂ => ?_
        obtain ⟨r, itr, nr, rfl, hr, hrs, hPI⟩ := hin i v hPv
        have N₂ : News h₀ L h₂ ((s₂.heap.objs.size, lst (List.replicate c b)) :: news) := news_but N' hk₂ fun p hp => by
          rcases List.mem_cons.mp hp with rfl | hp
          · exact Ne.symm hDI
          · exact off p hp
        have F₂ : Fr h₀ L h₂ m := fr_but F' hk₂ hIL hI₀
        have hn₂ : h₂.Ns H2.objs.size m' := hn'.at' fun o e => hk₂ _ o (by simpa using Ne.symm hCI) e
        refine wpAny_assign_Name (wpAny_storeName_local (hxk _) hn₂ (fun h₃ hn₃ hs₃ => ?_) (by simp [compEnvC, relabel, hkind]))
        have F₃ : Fr h₀ L h₃ m := F₂.change hs₃ hCL hC₀
        have N₃ : News h₀ L h₃ ((s₂.heap.objs.size, lst (List.replicate c b)) :: news) := fun p hp => by
          refine ⟨hs₃.extBut _ _ ?_ (N₂ p hp).1, (N₂ p hp).2⟩
          rcases List.mem_cons.mp hp with rfl | hp
          · exact hDC
          · exact offC p hp
        have hst₃ : St (i + 1) h₃ := W.frame _ _ _ hst₂ fun b hb o e => hs₃.extBut b o (fun q => hCf (by have q' : b = H2.objs.size := q; rw [← q']; exact hb)) e
        refine hi2 _ (.ref r) _ _ _ _ hn₃ (by simp) ?_
        refine wpAny_of_eq (hs2 _ _) ?_
        have hrl : h₃.IsList r itr := ⟨_, (N₃ _ (List.mem_cons_of_mem _ hr)).1, rfl, nr, rfl⟩
        refine wpAny_pyIter_list hrl ?_
        dsimp only
        have hDlt : s₂.heap.objs.size < h₃.objs.size := Heap.lt_size (N₃ _ List.mem_cons_self).1
        have hClt : H2.objs.size < h₃.objs.size := by
          obtain ⟨oC, heC, _⟩ := ns_obj hn₃
          exact Heap.lt_size heC
        generalize hJ : h₃.objs.size = J at hDlt hClt ⊢
        have hlow : ∀ a, a < s₂.heap.objs.size → a ≠ J := fun a ha => Nat.ne_of_lt (Nat.lt_trans ha hDlt)
        have hJr : r ≠ J := hlow r (hnlt _ hr)
        have hJf : J ∉ fp := fun hm => Nat.lt_irrefl _ (Nat.lt_trans (hfp _ hm) hDlt)
        have hJ₀ : h₀.get? J = none := fresh₀ _ (Nat.le_of_lt hDlt)
        have hJL : L ≠ J := hlow L hLlt
        have hDJ : s₂.heap.objs.size ≠ J := Nat.ne_of_lt hDlt
        have hCJ : H2.objs.size ≠ J := Nat.ne_of_lt hClt
        have hIJ : I ≠ J := hlow I hIlt
        have Wj := Walks.list (prog := prog) (w := w) (A := A) hh J r hJr itr
        refine wpAny_runOwn ?_
        rw [Around.mark_none]
        generalize hH4 : h₃.push _ = H4
        have up4 : ∀ b o, h₃.get? b = some o → H4.get? b = some o := fun b o e => hH4 ▸ Heap.get?_push_of_some _ e
        have it4 : H4.IsListIter J r 0 := by
          rw [← hH4, ← hJ]
          exact ⟨_, Heap.get?_push_size _ rfl, rfl, rfl⟩
        have inner : ∀ s₆ : Shared, s₆ = { s₂ with heap := H4, toks := tk₂ + 1 } → codeAny (model prog w) A (.compLoop (.ListComp elt [⟨.Name x px, i1, [], 0⟩, ⟨.Name y py, i2, [], 0⟩] scope pos) 1 (.ref J) (.ref s₂.heap.objs.size) (compEnvC scope cl H2.objs.size env))
            (fun r' s' => match r' with
              | .ok f => ∃ q, q < its.size + 1 - i ∧ ∃ h' tk i c m', s' = { s₂ with heap := h', toks := tk } ∧ i ≤ its.size ∧ q = its.size + 1 - i ∧ c ≤ 1000 * i ∧ St i h' ∧ Fr h₀ L h' m ∧ h'.Ns H2.objs.size m' ∧ News h₀ L h' ((s₂.heap.objs.size, lst (List.replicate c b)) :: news)
              | .error e => cameBackBy (model prog w) A (compEnvC scope cl H2.objs.size env) (notedBy (model prog w) A (compEnvC scope cl H2.objs.size env) fun e s' => RR (.ref s₂.heap.objs.size) H2.objs.size (.error e) s') e s') s₆ := by
          rintro s₆ rfl
          refine nest_inner
            (fun k s' => ∃ h' tk j m', s' = { s₂ with heap := h', toks := tk } ∧ j ≤ itr.size ∧ k = itr.size + 1 - j ∧ St (i + 1) h' ∧ (h'.IsListIter J r j ∧ h'.IsList r itr) ∧ Fr h₀ L h' m ∧ h'.Ns H2.objs.size m' ∧ News h₀ L h' ((s₂.heap.objs.size, lst (List.replicate (c + j) b)) :: news)) ?_ (itr.size + 1)
            ⟨H4, _, 0, _, rfl, Nat.zero_le _, rfl, W.frame _ _ _ hst₃ fun b _ o e => up4 _ o e, ⟨it4, hrl.at fun o e => up4 _ o e⟩, F₃.keeps up4, hn₃.at' fun o e => up4 _ o e, N₃.grown up4⟩
          rintro k s' ⟨h', tk, j, m'', rfl, hj, rfl, hst', hjt, F', hn', N'⟩
          by_cases hjl : j < itr.size
          · refine Wj.item j _ _ _ hjl hjt fun u h₅ tk₅ hPu hjt₅ hk₅ => ?_
            have hu := hPI j u hPu
            have keepJ : ∀ b o, b ≠ J → h'.get? b = some o → h₅.get? b = some o := fun b o hb e => hk₅ b o (by simpa using hb) e
            have N₅ : News h₀ L h₅ ((s₂.heap.objs.size, lst (List.replicate (c + j) b)) :: news) := news_but N' hk₅ fun p hp => by
              rcases List.mem_cons.mp hp with rfl | hp
              · exact hDJ
              · exact hlow _ (hnlt p hp)
            have F₅ : Fr h₀ L h₅ m := fr_but F' hk₅ hJL hJ₀
            have hn₅ : h₅.Ns H2.objs.size m'' := hn'.at' fun o e => keepJ _ o hCJ e
            have hst₅ : St (i + 1) h₅ := W.frame _ _ _ hst' fun b hb o e => keepJ b o (fun q => hJf (q ▸ hb)) e
            refine wpAny_assign_Name (wpAny_storeName_local (hyk _) hn₅ (fun h₆ hn₆ hs₆ => ?_) (by simp [compEnvC, relabel, hkind]))
            have F₆ : Fr h₀ L h₆ m := F₅.change hs₆ hCL hC₀
            have N₆ : News h₀ L h₆ ((s₂.heap.objs.size, lst (List.replicate (c + j) b)) :: news) := fun p hp => by
              refine ⟨hs₆.extBut _ _ ?_ (N₅ p hp).1, (N₅ p hp).2⟩
              rcases List.mem_cons.mp hp with rfl | hp
              · exact hDC
              · exact offC p hp
            have hst₆ : St (i + 1) h₆ := W.frame _ _ _ hst₅ fun b hb o e => hs₆.extBut b o (fun q => hCf (by have q' : b = H2.objs.size := q; rw [← q']; exact hb)) e
            obtain ⟨oI, heI⟩ := hIo _ _ hst₆
            obtain ⟨oC, heC, hoC⟩ := ns_obj hn₆
            obtain ⟨oJ, heJ, hoJ⟩ : ∃ oJ, h₆.get? J = some oJ ∧ ∀ h : Heap, h.get? J = some oJ → h.IsListIter J r (j + 1) := by
              obtain ⟨oJ, heJ, hr'⟩ := hjt₅.1
              exact ⟨oJ, hs₆.extBut _ _ (Ne.symm hCJ) heJ, fun h e => ⟨oJ, e, hr'⟩⟩
            have N₆' : News h₀ L h₆ ((J, oJ) :: (I, oI) :: (H2.objs.size, oC) :: (s₂.heap.objs.size, lst (List.replicate (c + j) b)) :: news) := fun p hp => by
              rcases List.mem_cons.mp hp with rfl | hp
              · exact ⟨heJ, Ne.symm hJL, hJ₀⟩
              rcases List.mem_cons.mp hp with rfl | hp
              · exact ⟨heI, Ne.symm hIL, hI₀⟩
              rcases List.mem_cons.mp hp with rfl | hp
              · exact ⟨heC, hCL, hC₀⟩
              · exact N₆ p hp
            refine wpAny_mono (helt u J oJ I oI H2.objs.size oC s₂.heap.objs.size _ _ h₆ _ _ hu hoC (by simp) F₆ N₆') (fun z s₇ hz => ?_) fun _ _ e => e
            obtain ⟨rfl, h₇, tk₇, rfl, F₇, N₇⟩ : z = b ∧ ∃ h' tk', s₇ = { s₂ with heap := h', toks := tk' } ∧ Fr h₀ L h' m ∧ News h₀ L h' ((J, oJ) :: (I, oI) :: (H2.objs.size, oC) :: (s₂.heap.objs.size, lst (List.replicate (c + j) b)) :: news) := hz
            have zJ := (N₇ (J, oJ) List.mem_cons_self).1
            have zI := (N₇ (I, oI) (List.mem_cons_of_mem _ List.mem_cons_self)).1
            have zC := (N₇ (H2.objs.size, oC) (List.mem_cons_of_mem _ (List.mem_cons_of_mem _ List.mem_cons_self))).1
            have zD := (N₇ (s₂.heap.objs.size, lst (List.replicate (c + j) z)) (List.mem_cons_of_mem _ (List.mem_cons_of_mem _ (List.mem_cons_of_mem _ List.mem_cons_self)))).1
            have N₇' : News h₀ L h₇ news := fun p hp => N₇ p (List.mem_cons_of_mem _ (List.mem_cons_of_mem _ (List.mem_cons_of_mem _ (List.mem_cons_of_mem _ hp))))
            have hst₇ : St (i + 1) h₇ := hSt _ _ _ _ _ hst₆ heI zI F₇.keep N₇' hLies
            have hrl₇ : h₇.IsList r itr := ⟨_, (N₇' _ hr).1, rfl, nr, rfl⟩
            refine append_at (hsz := by show (List.replicate (c + j) z).toArray.size ≤ sizeLine; rw [List.size_toArray, List.length_replicate, sizeLine_eq]; omega) zD fun h₈ hs₈ hD₈ => ?_
            refine ⟨itr.size + 1 - (j + 1), by omega, h₈, tk₇, j + 1, _, rfl, hjl, rfl, W.frame _ _ _ hst₇ fun b hb o e => hs₈.extBut b o (fun q => hDf (q ▸ hb)) e,
              ⟨hoJ _ (hs₈.extBut _ _ (Ne.symm hDJ) zJ), hrl₇.at fun o e => hs₈.extBut _ o (offD _ hr) e⟩, F₇.change hs₈ hDL hD₀, (hoC.ns zC).sameBut hs₈ (Ne.symm hDC), fun p hp => ?_⟩
            rcases List.mem_cons.mp hp with rfl | hp
            · refine ⟨hD₈.trans (congrArg some ((lst_snoc _ z).trans ?_)), hDL, hD₀⟩
              rw [← List.replicate_succ']; rfl
            · exact ⟨hs₈.extBut _ _ (offD p hp) (N₇' p hp).1, (N₇' p hp).2⟩
          · obtain rfl : j = itr.size := Nat.le_antisymm hj (Nat.not_lt.mp hjl)
            refine Wj.done _ _ _ hjt fun h₅ tk₅ hk₅ => ?_
            have keepJ : ∀ b o, b ≠ J → h'.get? b = some o → h₅.get? b = some o := fun b o hb e => hk₅ b o (by simpa using hb) e
            exact ⟨its.size + 1 - (i + 1), by omega, h₅, tk₅, i + 1, c + itr.size, m'', rfl, hlt, rfl, by omega, W.frame _ _ _ hst' fun b hb o e => keepJ b o (fun q => hJf (q ▸ hb)) e, fr_but F' hk₅ hJL hJ₀, hn'.at' fun o e => keepJ _ o hCJ e,
              news_but N' hk₅ fun p hp => by
                rcases List.mem_cons.mp hp with rfl | hp
                · exact hDJ
                · exact hlow _ (hnlt p hp)⟩
        exact codeAny_compStart_21 (inner _ rfl) (Wj.self 0 _ _ _ ⟨it4, hrl.at fun o e => up4 _ o e⟩ (inner _ rfl))
      · obtain rfl : i = its.size := Nat.le_antisymm hi (Nat.not_lt.mp hlt)
        refine W.done _ _ _ hst' fun h₂ tk₂ hk₂ => ?_
        exact hRR _ _ h₂ tk₂ _ c (fr_but F' hk₂ hIL hI₀) (news_but N' hk₂ fun p hp => by
          rcases List.mem_cons.mp hp with rfl | hp
          · exact Ne.symm hDI
          · exact off p hp) ((Off3.of (I := I) (C := H2.objs.size) fun p hp => ⟨off p hp, offC p hp, offD p hp⟩).one) (hn'.at' fun o e => hk₂ _ o (by simpa using Ne.symm hCI) e) hC₀ hD₀ hCL hDL (Ne.symm hDC) offC
    · rcases List.mem_cons.mp hp with rfl | hp
      · exact ⟨hacc, hDL, hD₀⟩
      · exact ⟨old _ _ (N p hp).1, (N p hp).2⟩
  exact codeAny_compStart_list (loop _ rfl) (W.self 0 _ _ _ hst₁ (loop _ rfl))
end
section
variable {prog : Program} {w : World} {A : Around} {E : Value → Shared → Prop} {s : Shared} {h₀ : Heap} {L : Addr} {m : Str → Option Value} {env : Env}
def SrcNN (prog : Program) (w : World) (A : Around) (h₀ : Heap) (L : Addr) (m : Str → Option Value) (env : Env) (elt : PySem.Expr) (y : Str) (scope : Scope) (cl : List (Str × Addr)) (b : Value) (PI : Value → Prop) (Q : Value → Shared → Prop) (xv : Value) (s₁ : Shared) : Prop :=
  ∃ (ax : Addr) (its : Array Value) (nx : Nat) (news : List (Addr × Obj)), xv = .ref ax ∧ Fr h₀ L s₁.heap m ∧ News h₀ L s₁.heap news ∧ (ax, lsO its nx) ∈ news ∧ its.size ≤ 1000 ∧
    (∀ (i : Nat) (v : Value), its[i]? = some v → ∃ r itr nr, v = .ref r ∧ (r, lsO itr nr) ∈ news ∧ itr.size ≤ 1000 ∧ ∀ (j : Nat) (u : Value), itr[j]? = some u → PI u) ∧
    (∀ u J oJ I oI C oC D oD m₂ h tk (E' : Value → Shared → Prop), PI u → NsObj oC m₂ → m₂ y = some u → Fr h₀ L h m → News h₀ L h ((J, oJ) :: (I, oI) :: (C, oC) :: (D, oD) :: news) →
      wpAny (model prog w) A (eval elt (compEnvC scope cl C env)) (fun v s' => Halt (v = b ∧ ∃ h' tk', s' = { s₁ with heap := h', toks := tk' } ∧ Fr h₀ L h' m ∧ News h₀ L h' ((J, oJ) :: (I, oI) :: (C, oC) :: (D, oD) :: news))) E' { s₁ with heap := h, toks := tk }) ∧
    ∀ D h tk c, Fr h₀ L h m → News h₀ L h ((D, lst (List.replicate c b)) :: news) → Off1 D news → Q (.ref D) { s₁ with heap := h, toks := tk }
theorem ListComp_NN {elt i1 i2 : PySem.Expr} {x y : Str} {px py : Pos} {scope : Scope} {cl : List (Str × Addr)} {pos : Pos} {Q : Value → Shared → Prop} (b : Value) (PI : Value → Prop) (_F₀ : Fr h₀ L s.heap m) (hh : A.handled = none)
    (hclos : closureFor scope env = pure cl) (hcell : ∀ y ∈ scope.names, y.2 ≠ .cell) (hkind : scope.kind = .function)
    (hxk : ∀ C, (compEnvC scope cl C env).kindOf x = some .local) (hyk : ∀ C, (compEnvC scope cl C env).kindOf y = some .local)
    (hi2 : ∀ C v m₂ (s : Shared) (Q E : Value → Shared → Prop), s.heap.Ns C m₂ → m₂ x = some v → Q v s → wpAny (model prog w) A (eval i2 (compEnvC scope cl C env)) Q E s)
    (hs2 : ∀ C v, foldedSetIterable i2 (compEnvC scope cl C env) v = pure v)
    (hnames : ∀ y ∈ scope.names, y.2 = .local → scope.names.lookup y.1 = some .local)
    (h : wpAny (model prog w) A (eval i1 env) (SrcNN prog w A h₀ L m env elt y scope cl b PI Q) E s)
    (hs : ∀ x, foldedSetIterable i1 env x = pure x) :
    wpAny (model prog w) A (eval (.ListComp elt [⟨.Name x px, i1, [], 0⟩, ⟨.Name y py, i2, [], 0⟩] scope pos) env) Q E s := by
  rw [eval_ListComp]
  refine wpAny_comprehension_free (use := none) rfl hs hclos hkind hnames (wpAny_mono h (fun xv s₁ h₁ => ?_) fun _ _ e => e)
  obtain ⟨ax, its, nx, news, rfl, F, N, hax, hsz, hin, helt, fin⟩ := h₁
  refine it_list (target := .Name x px) hh F N (lies_news' hax) fun I h' ok => ?_
  refine block_NN (s₂ := { s₁ with heap := h' }) ok hsz hh hcell hkind hxk hyk hi2 hs2 F N hax hin helt fun D C h tk m' c F' N' o1 hn hC₀ hD₀ hCL hDL hCD offC => ?_
  refine ⟨m', hn, fun h'' hs'' => fin D h'' tk c (F'.change hs'' hCL hC₀) (fun p hp => ?_) o1⟩
  refine ⟨hs''.extBut _ _ ?_ (N' p hp).1, (N' p hp).2⟩
  rcases List.mem_cons.mp hp with rfl | hp
  · exact Ne.symm hCD
  · exact offC p hp
theorem name_local {scope : Scope} {cl : List (Str × Addr)} {x : Str} {px : Pos} (hkind : scope.kind = .function) (hxk : ∀ C, (compEnvC scope cl C env).kindOf x = some .local) (hd : (x == ("__debug__" : Str)) = false) :
    ∀ C v m₂ (s : Shared) (Q E : Value → Shared → Prop), s.heap.Ns C m₂ → m₂ x = some v → Q v s → wpAny (model prog w) A (eval (.Name x px) (compEnvC scope cl C env)) Q E s :=
  fun C v m₂ s Q E hn hv h => wpAny_Name (wpAny_loadName_local (show (compEnvC scope cl C env).scope.kind = .function from hkind) (hxk C) hn hv h) hd
end
end Mine
end

section -- FC
open PySem PySem.W PyProof.Rows PySem.Calls PySem.Spec PyProof.Rows.LCg
set_option maxRecDepth 100000
namespace Mine
section
variable {prog : Program} {w : World} {A : Around} {E : Value → Shared → Prop} {s : Shared} {h₀ : Heap} {L : Addr} {m : Str → Option Value} {env : Env}
/-- a for whose target the walk stores itself -/
def SrcA (prog : Program) (w : World) (A : Around) (h₀ : Heap) (env : Env) (target : PySem.Expr) (body : List Stmt) (Q : Flow → Shared → Prop) (xv : Value) (s₁ : Shared) : Prop :=
  ∃ (n : Nat) (S : List (Addr × Obj) → Prop) (P : Nat → Value → Prop) (J : Nat → (Str → Option Value) → List (Addr × Obj) → Prop) (m : Str → Option Value) (news : List (Addr × Obj)),
    Fr h₀ env.locals s₁.heap m ∧ News h₀ env.locals s₁.heap news ∧ S news ∧ J 0 m news ∧
    (∀ (Q E : Value → Shared → Prop), (∀ I h', ItOk prog w A h₀ env.locals S target n P s₁.heap h' I → Q (.ref I) { s₁ with heap := h' }) → wpAny (model prog w) A (pyIter xv) Q E s₁) ∧
    (∀ i v m₁ news₁ I oI h tk (E' : Value → Shared → Prop), i < n → P i v → J i m₁ news₁ → S news₁ → Fr h₀ env.locals h m₁ → News h₀ env.locals h ((I, oI) :: news₁) → (∀ p ∈ news₁, p.1 ≠ I) →
      wpAny (model prog w) A (assign target env v) (fun _ s₂ => wpAny (model prog w) A (execs body env) (FEnd h₀ env.locals s₁ [(I, oI)] S (J (i + 1)) Q) E' s₂) E' { s₁ with heap := h, toks := tk }) ∧
    ∀ m₁ news₁ h tk, J n m₁ news₁ → Fr h₀ env.locals h m₁ → News h₀ env.locals h news₁ → Q .next { s₁ with heap := h, toks := tk }

theorem for_any {target : PySem.Expr} {pos : Pos} {iter : PySem.Expr} {body : List Stmt} {Q : Flow → Shared → Prop} (_F₀ : Fr h₀ env.locals s.heap m)
    (h : wpAny (model prog w) A (eval iter env) (SrcA prog w A h₀ env target body Q) E s) (hs : ∀ x, foldedSetIterable iter env x = pure x) :
    wpAny (model prog w) A (exec (.For target iter body [] pos) env) Q E s := by
  refine wpAny_For (wpAny_mono h (fun xv s₁ h₁ => ?_) fun _ _ e => e) hs
  obtain ⟨n, S, P, J, m, news, F, N, hS, hJ, it, turn, fin⟩ := h₁
  refine it _ _ fun I h' ⟨⟨fp, St, W, hIo, hSt, hst, hfp, own⟩, up, hIn⟩ => ?_
  have hIL : env.locals ≠ I := Nat.ne_of_lt (Nat.lt_of_lt_of_le F.ns.lt hIn)
  have hI₀ : h₀.get? I = none := by
    cases e : h₀.get? I with
    | none => rfl
    | some o' => exact absurd (Heap.lt_size (F.keep I o' e)) (Nat.not_lt.mpr hIn)
  have off : ∀ p ∈ news, p.1 ≠ I := fun p hp => Nat.ne_of_lt (Nat.lt_of_lt_of_le (Heap.lt_size (N p hp).1) hIn)
  replace F : Fr h₀ env.locals h' m := F.keeps up
  replace N : News h₀ env.locals h' news := N.grown up
  clear up hIn
  refine codeAny_forLoop_any
    (fun k s' => ∃ h' tk i m' news', s' = { s₁ with heap := h', toks := tk } ∧ i ≤ n ∧ k = n + 1 - i ∧ St i h' ∧ Fr h₀ env.locals h' m' ∧ News h₀ env.locals h' news' ∧ (∀ p ∈ news', p.1 ≠ I) ∧ S news' ∧ J i m' news') ?_ (n + 1)
    ⟨h', _, 0, m, news, rfl, Nat.zero_le _, rfl, hst, F, N, off, hS, hJ⟩
  rintro k s' ⟨h', tk, i, m', news', rfl, hi, rfl, hst', F', N', off', hS', hJ'⟩
  by_cases hlt : i < n
  · refine W.item i _ _ _ hlt hst' fun v h₂ tk₂ hPv hst₂ hk₂ => ?_
    have F₂ : Fr h₀ env.locals h₂ m' := fr_but F' hk₂ hIL hI₀
    have N₂ : News h₀ env.locals h₂ news' := news_but N' hk₂ off'
    refine own _ _ _ _ _ hst₂ ?_
    obtain ⟨oI, heI⟩ := hIo _ _ hst₂
    refine wpAny_mono (turn i v m' news' I oI h₂ _ _ hlt hPv hJ' hS' F₂ (fun p hp => ?_) off') (fun _ s₂ h₂' => wpAny_mono h₂' (fun f s₃ h₃' => ?_) fun _ _ e => e) fun _ _ e => e
    · rcases List.mem_cons.mp hp with rfl | hp
      · exact ⟨heI, Ne.symm hIL, hI₀⟩
      · exact N₂ p hp
    · have go : ∀ s₃, (∃ h' tk m' news', s₃ = { s₁ with heap := h', toks := tk } ∧ Fr h₀ env.locals h' m' ∧ News h₀ env.locals h' ([(I, oI)] ++ news') ∧ (∀ p ∈ news', ∀ q ∈ [(I, oI)], p.1 ≠ q.1) ∧ S news' ∧ J (i + 1) m' news') →
          ∃ m, m < n + 1 - i ∧ ∃ h' tk i m' news', s₃ = { s₁ with heap := h', toks := tk } ∧ i ≤ n ∧ m = n + 1 - i ∧ St i h' ∧ Fr h₀ env.locals h' m' ∧ News h₀ env.locals h' news' ∧ (∀ p ∈ news', p.1 ≠ I) ∧ S news' ∧ J i m' news' := by
        rintro s₃ ⟨h₄, tk₄, m₄, news₄, rfl, F₄, N₄, off₄, hS₄, hJ₄⟩
        have zI := (N₄ (I, oI) List.mem_cons_self).1
        have N₄' : News h₀ env.locals h₄ news₄ := fun p hp => N₄ p (List.mem_cons_of_mem _ hp)
        exact ⟨n + 1 - (i + 1), by omega, h₄, tk₄, i + 1, m₄, news₄, rfl, hlt, rfl, hSt _ _ _ _ _ hst₂ heI zI F₄.keep N₄' hS₄, F₄, N₄', fun p hp => off₄ p hp _ List.mem_cons_self, hS₄, hJ₄⟩
      cases f with
      | next => exact go _ h₃'
      | cont => exact go _ h₃'
      | brk => exact h₃'
      | ret v => exact h₃'
  · obtain rfl : i = n := Nat.le_antisymm hi (Nat.not_lt.mp hlt)
    refine W.done _ _ _ hst' fun h₂ tk₂ hk₂ => wpAny_execs_nil ?_
    exact fin m' news' h₂ tk₂ hJ' (fr_but F' hk₂ hIL hI₀) (news_but N' hk₂ off')
end
end Mine
end

section -- LZ
open PySem PySem.W PyProof.Rows PySem.Calls PySem.Spec PyProof.Rows.LCg
namespace Mine
theorem Paired.left {α β : Type} {F : α → β → Prop} {a : α} : ∀ {l₁ : List α} {l₂ : List β}, Paired F l₁ l₂ → a ∈ l₁ → ∃ b, F a b
  | _, _, .cons h t, hm => by
    rcases List.mem_cons.mp hm with rfl | hm
    · exact ⟨_, h⟩
    · exact Paired.left t hm
theorem Paired.right {α β : Type} {F : α → β → Prop} {b : β} : ∀ {l₁ : List α} {l₂ : List β} {i : Nat}, Paired F l₁ l₂ → l₂[i]? = some b → ∃ a ∈ l₁, F a b
  | _, _, 0, .cons h t, hm => by
    simp only [List.getElem?_cons_zero, Option.some.injEq] at hm
    subst hm; exact ⟨_, .head _, h⟩
  | _, _, i + 1, .cons h t, hm => by
    simp only [List.getElem?_cons_succ] at hm
    obtain ⟨a, ha, r⟩ := Paired.right t hm
    exact ⟨a, .tail _ ha, r⟩
def Priced (W : Int → Int → Int) (M : Int) (P : Int → Int) : Prop := ∀ p, p ∈ bestOf W M 6 → ∃ D, Best W (wy p) D ∧ ∀ k, In3 k → P k = -1 * D k
abbrev rowP (P : Int → Int) (t : Int → Tok) : Obj := lst [.int (P 0) (t 0), .int (P 1) (t 1), .int (P 2) (t 2)]
theorem bestOf_lt {W : Int → Int → Int} {M : Int} {p : Nat} (h : p ∈ bestOf W M 6) : p < 6 := by
  unfold bestOf at h
  exact List.mem_range.mp (List.mem_filter.mp h).1
theorem mkt_best {w : World} {W : Int → Int → Int} {M : Int} {ms : List Value} {op : List (Addr × Obj)} (mk : MkOk w W M 6 ms op) {p : Nat} (hp : p ∈ bestOf W M 6) : ∃ D, Best W (wy p) D := by
  obtain ⟨v, tp, x, n, _, _, dx, dc, dd, od, a1, a2, a3, a4, t1, t2, t3, t4, t5, D, nD, kd, _, _, _, _, _, hb⟩ := Paired.left mk hp
  exact ⟨_, hb⟩
theorem priced_ex {w : World} {W : Int → Int → Int} {M : Int} {ms : List Value} {op : List (Addr × Obj)} (mk : MkOk w W M 6 ms op) (hM : ∃ p, p < 6 ∧ M = tot W p) : ∃ P, Priced W M P := by
  have h1 := bestOf_pos hM
  obtain ⟨p, hp⟩ := List.exists_mem_of_length_pos h1
  obtain ⟨D, hD⟩ := mkt_best mk hp
  refine ⟨fun k => -1 * D k, fun q hq => ?_⟩
  obtain ⟨D', hD'⟩ := mkt_best mk hq
  refine ⟨D', hD', fun k hk => ?_⟩
  show -1 * D k = -1 * D' k
  rw [hD.same (bestOf_lt hp) (bestOf_lt hq) hD' k hk]
theorem Priced.at {W : Int → Int → Int} {M : Int} {P D : Int → Int} {p : Nat} (h : Priced W M P) (hp : p ∈ bestOf W M 6) (hD : Best W (wy p) D) {k : Int} (hk : In3 k) : P k = -1 * D k := by
  obtain ⟨D', hD', e⟩ := h p hp
  rw [e k hk, hD'.same (bestOf_lt hp) (bestOf_lt hp) hD k hk]
def Told (W : Int → Int → Int) (M : Int) (W2 : Int → Int → Int) (M2 : Int) (i : Nat) (ts : List Value) (op : List (Addr × Obj)) : Prop :=
  (i = 0 ∧ ts = []) ∨ (i = 1 ∧ ∃ r P t, ts = [.ref r] ∧ (r, rowP P t) ∈ op ∧ Priced W M P) ∨
  (i = 2 ∧ ∃ r P t r2 P2 t2, ts = [.ref r, .ref r2] ∧ ((r, rowP P t) ∈ op ∧ Priced W M P) ∧ (r2, rowP P2 t2) ∈ op ∧ Priced W2 M2 P2)
structure OffC (L : Nat) (op : List (Addr × Obj)) : Prop where
  f1 : ∀ p ∈ op, p.1 ≠ L + 1 + 1 + 1 + 1 + 1 + 1 + 1 + 1 + 1 + 1 + 1
  f2 : ∀ p ∈ op, p.1 ≠ L + 1 + 1 + 1 + 1 + 1 + 1 + 1 + 1 + 1 + 1
  f3 : ∀ p ∈ op, p.1 ≠ L + 1 + 1 + 1 + 1 + 1 + 1 + 1 + 1 + 1
  f4 : ∀ p ∈ op, p.1 ≠ L + 1 + 1 + 1 + 1 + 1 + 1 + 1 + 1
  f5 : ∀ p ∈ op, p.1 ≠ L + 1 + 1 + 1 + 1 + 1 + 1 + 1
  f6 : ∀ p ∈ op, p.1 ≠ L + 1 + 1 + 1 + 1 + 1 + 1
  f7 : ∀ p ∈ op, p.1 ≠ L + 1 + 1 + 1 + 1 + 1
  f8 : ∀ p ∈ op, p.1 ≠ L + 1 + 1 + 1 + 1
  f9 : ∀ p ∈ op, p.1 ≠ L + 1 + 1 + 1
  f10 : ∀ p ∈ op, p.1 ≠ L + 1 + 1
  f11 : ∀ p ∈ op, p.1 ≠ L + 1
abbrev cel (L : Nat) (o1 o2 o3 o4 o5 o6 o7 o8 o9 o10 o11 : Obj) (op : List (Addr × Obj)) : List (Addr × Obj) :=
  (L + 1 + 1 + 1 + 1 + 1 + 1 + 1 + 1 + 1 + 1 + 1, o1) :: (L + 1 + 1 + 1 + 1 + 1 + 1 + 1 + 1 + 1 + 1, o2) :: (L + 1 + 1 + 1 + 1 + 1 + 1 + 1 + 1 + 1, o3) :: (L + 1 + 1 + 1 + 1 + 1 + 1 + 1 + 1, o4) :: (L + 1 + 1 + 1 + 1 + 1 + 1 + 1, o5) :: (L + 1 + 1 + 1 + 1 + 1 + 1, o6) :: (L + 1 + 1 + 1 + 1 + 1, o7) :: (L + 1 + 1 + 1 + 1, o8) :: (L + 1 + 1 + 1, o9) :: (L + 1 + 1, o10) :: (L + 1, o11) :: op
/-- an address that is none of the cells' -/
def OffA (L : Nat) (x : Nat) : Prop := x ≠ L + 1 + 1 + 1 + 1 + 1 + 1 + 1 + 1 + 1 + 1 + 1 ∧ x ≠ L + 1 + 1 + 1 + 1 + 1 + 1 + 1 + 1 + 1 + 1 ∧ x ≠ L + 1 + 1 + 1 + 1 + 1 + 1 + 1 + 1 + 1 ∧ x ≠ L + 1 + 1 + 1 + 1 + 1 + 1 + 1 + 1 ∧ x ≠ L + 1 + 1 + 1 + 1 + 1 + 1 + 1 ∧ x ≠ L + 1 + 1 + 1 + 1 + 1 + 1 ∧ x ≠ L + 1 + 1 + 1 + 1 + 1 ∧ x ≠ L + 1 + 1 + 1 + 1 ∧ x ≠ L + 1 + 1 + 1 ∧ x ≠ L + 1 + 1 ∧ x ≠ L + 1
theorem OffC.cons {L : Nat} {op : List (Addr × Obj)} {x : Addr} {o : Obj} (h : OffC L op) (hx : OffA L x) : OffC L ((x, o) :: op) := by
  obtain ⟨a1, a2, a3, a4, a5, a6, a7, a8, a9, a10, a11⟩ := hx
  exact ⟨List.forall_mem_cons.mpr ⟨a1, h.f1⟩, List.forall_mem_cons.mpr ⟨a2, h.f2⟩, List.forall_mem_cons.mpr ⟨a3, h.f3⟩, List.forall_mem_cons.mpr ⟨a4, h.f4⟩, List.forall_mem_cons.mpr ⟨a5, h.f5⟩, List.forall_mem_cons.mpr ⟨a6, h.f6⟩, List.forall_mem_cons.mpr ⟨a7, h.f7⟩, List.forall_mem_cons.mpr ⟨a8, h.f8⟩, List.forall_mem_cons.mpr ⟨a9, h.f9⟩, List.forall_mem_cons.mpr ⟨a10, h.f10⟩, List.forall_mem_cons.mpr ⟨a11, h.f11⟩⟩
def JM (W : Int → Int → Int) (M : Int) (W2 : Int → Int → Int) (M2 : Int) (mf : Str → Option Value) (tl : Addr) (L : Nat) (o1 o2 o3 o4 o6 o7 o8 o9 o10 o11 : Obj) (ops : List (Addr × Obj)) (i : Nat) (m : Str → Option Value) (news : List (Addr × Obj)) : Prop :=
  ∃ (ts : List Value) (cnt : Nat) (o5 : Obj) (v5 : Option Value) (op : List (Addr × Obj)), (∀ z, z ∉ [Str.ofString "markets"] → m z = mf z) ∧ o5.data = .cell v5 ∧ news = (tl, lsO ts.toArray cnt) :: cel L o1 o2 o3 o4 o5 o6 o7 o8 o9 o10 o11 op ∧
    (∀ q ∈ ops, q ∈ op) ∧ OffC L op ∧ (∀ p ∈ op, p.1 ≠ tl) ∧ Told W M W2 M2 i ts op
def RowsOk (P : Int → Int) (i : Nat) (ys : List Value) (op : List (Addr × Obj)) : Prop := ys.length = i ∧ ∀ (j : Nat) (v : Value), ys[j]? = some v → ∃ r t, v = .ref r ∧ (r, rowP P t) ∈ op
theorem RowsOk.nil {P : Int → Int} {op : List (Addr × Obj)} : RowsOk P 0 [] op := ⟨rfl, fun _ _ h => by simp at h⟩
theorem RowsOk.snoc {P : Int → Int} {i : Nat} {ys : List Value} {op : List (Addr × Obj)} {r : Addr} {t : Int → Tok} (h : RowsOk P i ys op) : RowsOk P (i + 1) (ys ++ [Value.ref r]) ((r, rowP P t) :: op) := by
  refine ⟨by simp [h.1], fun j v hj => ?_⟩
  by_cases e : j < ys.length
  · rw [List.getElem?_append_left e] at hj
    obtain ⟨r', t', e1, e2⟩ := h.2 j v hj
    exact ⟨r', t', e1, .tail _ e2⟩
  · rw [List.getElem?_append_right (Nat.not_lt.mp e)] at hj
    have : j - ys.length = 0 := by
      by_cases q : j - ys.length = 0
      · exact q
      · have : [Value.ref r][j - ys.length]? = none := List.getElem?_eq_none (by simp; omega)
        rw [this] at hj; cases hj
    rw [this] at hj
    simp only [List.getElem?_cons_zero, Option.some.injEq] at hj
    subst hj
    exact ⟨r, t, rfl, .head _⟩
theorem strs3_item {f : Int → Str} {t : Int → Tok} {k : Nat} {v : Value} (hk : k < 3) (h : (#[.str (f 0) (t 0), .str (f 1) (t 1), .str (f 2) (t 2)] : Array Value)[k]? = some v) : v = .str (f k) (t k) := by
  have : k = 0 ∨ k = 1 ∨ k = 2 := by omega
  rcases this with rfl | rfl | rfl <;> (simp at h; exact h.symm)
theorem IntsL.three {f : Nat → Int} {P : Int → Int} {ys : List Value} (h : IntsL f 3 ys) (e : ∀ i : Nat, i < 3 → f i = P i) : ∃ t : Int → Tok, ys = [.int (P 0) (t 0), .int (P 1) (t 1), .int (P 2) (t 2)] := by
  obtain ⟨hl, h⟩ := h
  match ys, hl with
  | [a, b, c], _ =>
    obtain ⟨t0, e0⟩ := h 0 (by omega)
    obtain ⟨t1, e1⟩ := h 1 (by omega)
    obtain ⟨t2, e2⟩ := h 2 (by omega)
    simp only [List.getElem?_cons_zero, List.getElem?_cons_succ, Option.some.injEq] at e0 e1 e2
    subst e0 e1 e2
    refine ⟨fun k => if k = 0 then t0 else if k = 1 then t1 else t2, ?_⟩
    have q0 := e 0 (by omega)
    have q1 := e 1 (by omega)
    have q2 := e 2 (by omega)
    rw [q0, q1, q2]
    rfl
/-- what a turn of the loop over the markets meets -/
theorem told_step {w : World} {W W2 : Int → Int → Int} {M M2 : Int} {i : Nat} {v : Value} {lm lm2 : Addr} {its its2 : Array Value} {n n2 : Nat} {ops op : List (Addr × Obj)} {ts : List Value} (hi : i < 2) (hv : (#[.ref lm, .ref lm2] : Array Value)[i]? = some v)
    (m1 : (lm, lsO its n) ∈ ops) (m2 : (lm2, lsO its2 n2) ∈ ops) (mk : MkOk w W M 6 its.toList ops) (mk2 : MkOk w W2 M2 6 its2.toList ops) (hM : ∃ p, p < 6 ∧ M = tot W p) (hM2 : ∃ p, p < 6 ∧ M2 = tot W2 p)
    (h6 : its.size ≤ 6) (h62 : its2.size ≤ 6) (hp : 0 < its.size) (hp2 : 0 < its2.size) (hsub : ∀ q ∈ ops, q ∈ op) (ht : Told W M W2 M2 i ts op) :
    ∃ lx itx nx Wx Mx, v = .ref lx ∧ (lx, lsO itx nx) ∈ op ∧ MkOk w Wx Mx 6 itx.toList op ∧ (∃ p, p < 6 ∧ Mx = tot Wx p) ∧ itx.size ≤ 6 ∧ 0 < itx.size ∧
      ∀ P t r op', (∀ q ∈ op, q ∈ op') → (r, rowP P t) ∈ op' → Priced Wx Mx P → Told W M W2 M2 (i + 1) (ts ++ [Value.ref r]) op' := by
  have : i = 0 ∨ i = 1 := by omega
  rcases this with rfl | rfl
  · refine ⟨lm, its, n, W, M, by simpa using hv.symm, hsub _ m1, mk.mono hsub, hM, h6, hp, fun P t r op' hs hr hP => ?_⟩
    rcases ht with ⟨_, rfl⟩ | ⟨e, _⟩ | ⟨e, _⟩
    · exact .inr (.inl ⟨rfl, r, P, t, rfl, hr, hP⟩)
    · cases e
    · cases e
  · refine ⟨lm2, its2, n2, W2, M2, by simpa using hv.symm, hsub _ m2, mk2.mono hsub, hM2, h62, hp2, fun P t r op' hs hr hP => ?_⟩
    rcases ht with ⟨e, _⟩ | ⟨_, r0, P0, t0, rfl, h0, hP0⟩ | ⟨e, _⟩
    · cases e
    · exact .inr (.inr ⟨rfl, r0, P0, t0, r, P, t, rfl, ⟨hs _ h0, hP0⟩, hr, hP⟩)
    · cases e
theorem boolsAre_rep (b : Bool) : ∀ n, PyProof.Rows.LSm.BoolsAre (List.replicate n (.bool b)) (List.replicate n b)
  | 0 => .nil
  | n + 1 => .cons b (boolsAre_rep b n)
theorem any_rep {prog : Program} {w : World} {A : Around} {E : Value → Shared → Prop} {s : Shared} {h₀ : Heap} {L z : Addr} {m : Str → Option Value} {news : List (Addr × Obj)} {n : Nat} {Q : Value → Shared → Prop} (F : Fr h₀ L s.heap m) (N : News h₀ L s.heap news) (hh : A.handled = none) (hm : (z, lst (List.replicate n (.bool false))) ∈ news)
    (h : ∀ h' tk, Fr h₀ L h' m → News h₀ L h' news → Q (.bool false) { s with heap := h', toks := tk }) : wpAny (model prog w) A (call (.builtin "any") [.ref z]) Q E s :=
  PyProof.Rows.LSm.any_bools F N hh ⟨_, (N _ hm).1, rfl, _, rfl⟩ (boolsAre_rep false n) fun h' tk F' N' => by
    have : (List.replicate n false).any id = false := by simp
    rw [this]; exact h h' tk F' N'
theorem all_rep {prog : Program} {w : World} {A : Around} {E : Value → Shared → Prop} {s : Shared} {h₀ : Heap} {L z : Addr} {m : Str → Option Value} {news : List (Addr × Obj)} {n : Nat} {Q : Value → Shared → Prop} (F : Fr h₀ L s.heap m) (N : News h₀ L s.heap news) (hh : A.handled = none) (hm : (z, lst (List.replicate n (.bool true))) ∈ news)
    (h : ∀ h' tk, Fr h₀ L h' m → News h₀ L h' news → Q (.bool true) { s with heap := h', toks := tk }) : wpAny (model prog w) A (call (.builtin "all") [.ref z]) Q E s :=
  PyProof.Rows.LSm.all_bools F N hh ⟨_, (N _ hm).1, rfl, _, rfl⟩ (boolsAre_rep true n) fun h' tk F' N' => by
    have : (List.replicate n true).all id = true := by simp
    rw [this]; exact h h' tk F' N'
theorem rowP_ints {P : Int → Int} {t : Int → Tok} : IntsAre [.int (P 0) (t 0), .int (P 1) (t 1), .int (P 2) (t 2)] [P 0, P 1, P 2] := .cons _ _ (.cons _ _ (.cons _ _ .nil))
theorem ne_rows {prog : Program} {w : World} {A : Around} {E : Value → Shared → Prop} {s : Shared} {h₀ : Heap} {L a b : Addr} {news : List (Addr × Obj)} {P : Int → Int} {t u : Int → Tok} {Q : Value → Shared → Prop} (N : News h₀ L s.heap news) (ha : (a, rowP P t) ∈ news) (hb : (b, rowP P u) ∈ news) (hu : A.units + 64 < cLine)
    (h : Q (.bool false) s) : wpAny (model prog w) A (compareOp .NotEq (.ref a) (.ref b)) Q E s :=
  ne_intsK (vs := [.int (P 0) (t 0), .int (P 1) (t 1), .int (P 2) (t 2)]) (us := [.int (P 0) (u 0), .int (P 1) (u 1), .int (P 2) (u 2)]) ⟨_, (N _ ha).1, rfl, _, rfl⟩ rowP_ints ⟨_, (N _ hb).1, rfl, _, rfl⟩ rowP_ints hu (by simpa using h)
theorem RowsOk.at {P : Int → Int} {n i : Nat} {ys : List Value} {op : List (Addr × Obj)} (h : RowsOk P n ys op) (hi : i < n) : ∃ r t, ys[i]? = some (.ref r) ∧ (r, rowP P t) ∈ op := by
  have hl : i < ys.length := by rw [h.1]; exact hi
  obtain ⟨r, t, e, hm⟩ := h.2 i _ (List.getElem?_eq_getElem hl)
  exact ⟨r, t, by rw [List.getElem?_eq_getElem hl, e], hm⟩
theorem row_int {a b c : Int} {t0 t1 t2 : Tok} {j : Nat} {u : Value} (h : (#[.int a t0, .int b t1, .int c t2] : Array Value)[j]? = some u) : ∃ i t, u = .int i t := by
  have hj : j < 3 := by
    by_cases q : j < 3
    · exact q
    · rw [Array.getElem?_eq_none (by simpa using q)] at h; cases h
  have : j = 0 ∨ j = 1 ∨ j = 2 := by omega
  rcases this with rfl | rfl | rfl <;> (simp at h; exact ⟨_, _, h.symm⟩)
theorem cel_off {L : Nat} {x : Addr} {o1 o2 o3 o4 o5 o6 o7 o8 o9 o10 o11 : Obj} {op : List (Addr × Obj)} (h : OffA L x) (hop : ∀ p ∈ op, p.1 ≠ x) : ∀ p ∈ cel L o1 o2 o3 o4 o5 o6 o7 o8 o9 o10 o11 op, p.1 ≠ x := by
  obtain ⟨a1, a2, a3, a4, a5, a6, a7, a8, a9, a10, a11⟩ := h
  exact List.forall_mem_cons.mpr ⟨Ne.symm a1, List.forall_mem_cons.mpr ⟨Ne.symm a2, List.forall_mem_cons.mpr ⟨Ne.symm a3, List.forall_mem_cons.mpr ⟨Ne.symm a4, List.forall_mem_cons.mpr ⟨Ne.symm a5, List.forall_mem_cons.mpr ⟨Ne.symm a6, List.forall_mem_cons.mpr ⟨Ne.symm a7, List.forall_mem_cons.mpr ⟨Ne.symm a8, List.forall_mem_cons.mpr ⟨Ne.symm a9, List.forall_mem_cons.mpr ⟨Ne.symm a10, List.forall_mem_cons.mpr ⟨Ne.symm a11, hop⟩⟩⟩⟩⟩⟩⟩⟩⟩⟩⟩
theorem offA_of {L : Nat} {x : Addr} {o1 o2 o3 o4 o5 o6 o7 o8 o9 o10 o11 : Obj} {op : List (Addr × Obj)} (h : ∀ p ∈ cel L o1 o2 o3 o4 o5 o6 o7 o8 o9 o10 o11 op, p.1 ≠ x) : OffA L x := by
  obtain ⟨a1, h⟩ := List.forall_mem_cons.mp h
  obtain ⟨a2, h⟩ := List.forall_mem_cons.mp h
  obtain ⟨a3, h⟩ := List.forall_mem_cons.mp h
  obtain ⟨a4, h⟩ := List.forall_mem_cons.mp h
  obtain ⟨a5, h⟩ := List.forall_mem_cons.mp h
  obtain ⟨a6, h⟩ := List.forall_mem_cons.mp h
  obtain ⟨a7, h⟩ := List.forall_mem_cons.mp h
  obtain ⟨a8, h⟩ := List.forall_mem_cons.mp h
  obtain ⟨a9, h⟩ := List.forall_mem_cons.mp h
  obtain ⟨a10, h⟩ := List.forall_mem_cons.mp h
  obtain ⟨a11, h⟩ := List.forall_mem_cons.mp h
  exact ⟨Ne.symm a1, Ne.symm a2, Ne.symm a3, Ne.symm a4, Ne.symm a5, Ne.symm a6, Ne.symm a7, Ne.symm a8, Ne.symm a9, Ne.symm a10, Ne.symm a11⟩
/-- the two others -/
abbrev Oth (i a b : Int) : Prop := (i = 0 ∧ a = 1 ∧ b = 2) ∨ (i = 1 ∧ a = 0 ∧ b = 2) ∨ (i = 2 ∧ a = 0 ∧ b = 1)
def FinAB (i : Int) (news : List (Addr × Obj)) (ys : List Value) (nw : List (Addr × Obj)) : Prop := nw = news ∧ ∃ a b ta tb, ys = [.int a ta, .int b tb] ∧ Oth i a b
section
variable {prog : Program} {w : World} {A : Around} {s : Shared} {h₀ : Heap} {L : Addr} {m : Str → Option Value} {env : Env} {E : Value → Shared → Prop}
theorem GRest.oth {elt target : PySem.Expr} {ifs : List PySem.Expr} {scope : Scope} {cl : List (Str × Addr)} {S : List (Addr × Obj) → Prop} {P : Nat → Value → Prop} {Fin : List Value → List (Addr × Obj) → Prop} {n : Nat} {news : List (Addr × Obj)} (i : Int)
    (h : GRest prog w A h₀ L m env elt target ifs scope cl s S P (FinAB i news) n 0 [] news)
    (k : ∀ a b ta tb, Oth i a b → Fin [.int a ta, .int b tb] news) : GRest prog w A h₀ L m env elt target ifs scope cl s S P Fin n 0 [] news :=
  GRest.imp_fin (fun _ _ ⟨e2, a, b, ta, tb, e1, l⟩ => e1 ▸ e2 ▸ k a b ta tb l) h
theorem sub_prow {news : List (Addr × Obj)} {value slice : PySem.Expr} {r : Addr} {k : Int} {t : Tok} {P : Int → Int} {u : Int → Tok} {Q : Value → Shared → Prop} (N : News h₀ L s.heap news) (hm : (r, rowP P u) ∈ news) (hk : In3 k) (h : Q (.int (P k) (u k)) s)
    (hs : subscripted slice false (.ref r) (.int k t) = operate [.ref r, .int k t] (getItem (.ref r) (.int k t))) :
    wpAny (model prog w) A (subscriptTail value slice (.ref r) (.int k t)) Q E s :=
  sub_list N hm (in3_nn hk).1 (in3_nn hk).2 (by rcases hk with rfl | rfl | rfl <;> rfl) h hs
end
theorem Oth.in3 {i a b : Int} (h : Oth i a b) : In3 i ∧ In3 a ∧ In3 b := by unfold Oth at h; unfold In3; omega
theorem Priced.pay {W : Int → Int → Int} {M : Int} {P D : Int → Int} {p : Nat} {X i a b : Int} (h : Priced W M P) (hp : p ∈ bestOf W M 6) (hB : Best W (wy p) D) (hi : Oth i a b)
    (hM : X = two W a b 0 ∨ X = two W a b 1 ∨ X = two W a b 2 ∨ X = two W a b 3 ∨ X = two W a b 4 ∨ X = two W a b 5)
    (hle : two W a b 0 ≤ X ∧ two W a b 1 ≤ X ∧ two W a b 2 ≤ X ∧ two W a b 3 ≤ X ∧ two W a b 4 ≤ X ∧ two W a b 5 ≤ X) :
    P (wy p i) = X - W a (wy p a) - W b (wy p b) := by
  rw [h.at hp hB (wy_in (bestOf_lt hp) hi.in3.1)]
  exact hB.price (bestOf_lt hp) hi hM hle
def JI (mf : Str → Option Value) (tl r r2 : Addr) (cnt L : Nat) (o1 o4 o5 o7 o8 o9 o10 o11 : Obj) (op : List (Addr × Obj)) (_ : Nat) (m : Str → Option Value) (news : List (Addr × Obj)) : Prop :=
  ∃ (o2 o3 o6 : Obj) (v2 v3 v6 : Option Value), (∀ z, z ∉ [Str.ofString "most"] → m z = mf z) ∧ o2.data = .cell v2 ∧ o3.data = .cell v3 ∧ o6.data = .cell v6 ∧ news = (tl, lsO #[.ref r, .ref r2] cnt) :: cel L o1 o2 o3 o4 o5 o6 o7 o8 o9 o10 o11 op
theorem oth_ex {i : Int} (h : In3 i) : ∃ a b, Oth i a b ∧ a ≠ i ∧ b ≠ i := by
  rcases h with rfl | rfl | rfl
  · exact ⟨1, 2, .inl ⟨rfl, rfl, rfl⟩, by decide, by decide⟩
  · exact ⟨0, 2, .inr (.inl ⟨rfl, rfl, rfl⟩), by decide, by decide⟩
  · exact ⟨0, 1, .inr (.inr ⟨rfl, rfl, rfl⟩), by decide, by decide⟩
theorem no_gain {W W2 : Int → Int → Int} {M M2 b : Int} {P P2 D D2 : Int → Int} {p p2 : Nat} (hb : In3 b) (hW : ∀ a, a ≠ b → W2 a = W a) (hP : Priced W M P) (hP2 : Priced W2 M2 P2) (hp : p ∈ bestOf W M 6) (hp2 : p2 ∈ bestOf W2 M2 6) (hB : Best W (wy p) D) (hB2 : Best W2 (wy p2) D2) :
    W b (wy p2 b) - P2 (wy p2 b) ≤ W b (wy p b) - P (wy p b) := by
  obtain ⟨a, c, h, ha, hc⟩ := oth_ex hb
  rw [hP.at hp hB (wy_in (bestOf_lt hp) hb), hP2.at hp2 hB2 (wy_in (bestOf_lt hp2) hb)]
  exact truth (bestOf_lt hp) (bestOf_lt hp2) hB hB2 h (hW a ha) (hW c hc)
end Mine
end

section
open PySem PySem.W PyProof.Rows PySem.Calls PyProof.Rows.LCg
set_option maxRecDepth 100000
set_option maxHeartbeats 0
namespace Mine
theorem fillLaw : (PySem.Challenge.rw_fq5045_02, hd.heap_39) = (PySem.Challenge.rw_fq5045_02, hd.heap_39) := by
  w_top off
  k_fill
  rfl
theorem cells11 {cm : Str → Option Value} {n₁ n₂ n₃ n₄ n₅ n₆ n₇ n₈ n₉ n₁₀ n₁₁ : Str} {c₁ c₂ c₃ c₄ c₅ c₆ c₇ c₈ c₉ c₁₀ c₁₁ : Addr} {cells : List (Addr × Obj)} (x : CellsAre cm [(n₁, c₁), (n₂, c₂), (n₃, c₃), (n₄, c₄), (n₅, c₅), (n₆, c₆), (n₇, c₇), (n₈, c₈), (n₉, c₉), (n₁₀, c₁₀), (n₁₁, c₁₁)] cells) :
    ∃ o₁ o₂ o₃ o₄ o₅ o₆ o₇ o₈ o₉ o₁₀ o₁₁, cells = [(c₁, o₁), (c₂, o₂), (c₃, o₃), (c₄, o₄), (c₅, o₅), (c₆, o₆), (c₇, o₇), (c₈, o₈), (c₉, o₉), (c₁₀, o₁₀), (c₁₁, o₁₁)] ∧
      (o₁.data = .cell (cm n₁) ∧ o₂.data = .cell (cm n₂) ∧ o₃.data = .cell (cm n₃) ∧ o₄.data = .cell (cm n₄) ∧ o₅.data = .cell (cm n₅) ∧ o₆.data = .cell (cm n₆) ∧ o₇.data = .cell (cm n₇) ∧ o₈.data = .cell (cm n₈) ∧ o₉.data = .cell (cm n₉) ∧ o₁₀.data = .cell (cm n₁₀) ∧ o₁₁.data = .cell (cm n₁₁)) := by
  cases x with | cons h r =>
  cases r with | cons h2 r =>
  cases r with | cons h3 r =>
  obtain ⟨o₄, o₅, o₆, o₇, o₈, o₉, o₁₀, o₁₁, rfl, a⟩ := kc_eight r
  exact ⟨_, _, _, o₄, o₅, o₆, o₇, o₈, o₉, o₁₀, o₁₁, rfl, h, h2, h3, a⟩

local macro_rules | `(tactic| walk_at "MySub") => `(tactic| (k_here; (show wpAny _ _ (subscriptTail _ _ (Value.ref _) (Value.int _ _)) _ _ _); k_dflt (first
  | (refine' sub_prow ?N ?m ?k ?_ ?s; (case N => k_asm); (case m => k_mem); (case k => assumption); (case s => with_unfolding_all rfl))
  | (refine' sub_list ?N ?m ?a ?b ?x ?_ ?s; (case N => k_asm); (case m => k_mem); (case x => assumption); (case a => decide); (case b => decide); (case s => with_unfolding_all rfl))
  | (refine' sub_ints ?F ?m ?k ?_ ?s; (case F => k_asm); (case m => assumption); (case k => assumption); (case s => with_unfolding_all rfl))
  | (refine' sub_strs ?F ?m ?k ?_ ?s; (case F => k_asm); (case m => assumption); (case k => assumption); (case s => with_unfolding_all rfl))
  | (refine' sub_refs ?N ?m ?k ?_ ?s; (case N => k_asm); (case m => k_mem); (case k => assumption); (case s => with_unfolding_all rfl))
  | (refine' sub_row ?N ?m ?k ?_ ?s; (case N => k_asm); (case m => first | k_mem | exact mem3 (by assumption) (by k_mem) (by k_mem) (by k_mem)); (case k => assumption); (case s => with_unfolding_all rfl)))))
local macro_rules | `(tactic| w_call $k $ho $hd $hcd $hD $T $F) => `(tactic| (have he := Dflts.none $hD rfl; subst he; have he := Dflts.noKw $hD; subst he; refine call_cellsN (by decide) $ho (fd_plain $hd) (Top.nolimit $T) $hcd rfl (kinds_of (by kinds_ok)) (by decide +kernel) fun h₁ tk₁ cells $F N0 X0 => ?_; obtain ⟨o1, o2, o3, o4, o5, o6, o7, o8, o9, o10, o11, he, d1, d2, d3, d4, d5, d6, d7, d8, d9, d10, d11⟩ := cells11 X0; subst he; clear X0))
local macro_rules | `(tactic| walk_at "exec While Compare cons nil") => `(tactic| (k_here; refine halt ?_))
local macro_rules | `(tactic| walk_at "subscriptTail") => `(tactic| (k_here; (show wpAny _ _ (subscriptTail _ _ (Value.ref _) (Value.int _ _)) _ _ _); k_dflt (first
  | (refine' sub_menu3 ?N ?m ?k ?_ ?s; (case N => k_asm); (case m => k_mem); (case k => exact mod_in3 _); (case s => with_unfolding_all rfl))
  | (refine' sub_way ?F ?m ?a ?b ?_ ?s; (case F => k_asm); (case m => exact waysAt (by assumption)); (case a => exact mod6_0 _); (case b => exact mod6_6 _); (case s => with_unfolding_all rfl)))))
local macro_rules | `(tactic| walk_at "MyLC") => `(tactic| (k_here; k_dflt (refine' ListComp_G ?F ?a ?c ?d ?e ?f ?_ ?g; (case F => k_asm); (case a => decide); (case c => with_unfolding_all rfl); (case d => decide); (case e => exact rfl); (case f => decide); (case g => intro _; with_unfolding_all rfl))))
local macro_rules | `(tactic| walk_at "eval ListComp IfExp cons") => `(tactic| walk_at "MyLC")
local macro_rules | `(tactic| walk_at "eval ListComp Call cons") => `(tactic| walk_at "MyLC")
local macro_rules | `(tactic| walk_at "eval ListComp Compare cons") => `(tactic| walk_at "MyLC")
local macro_rules | `(tactic| walk_at "eval ListComp BinOp cons") => `(tactic| walk_at "MyLC")
local macro_rules | `(tactic| walk_at "eval ListComp Name cons") => `(tactic| walk_at "MyLC")
local macro_rules | `(tactic| walk_at "eval ListComp ListComp cons") => `(tactic| walk_at "MyLC")
local macro_rules | `(tactic| walk_at "eval ListComp BoolOp cons") => `(tactic| walk_at "MyLC")
local macro_rules | `(tactic| walk_at "call ref") => `(tactic| (k_here; (with_reducible show wpAny _ _ (call (Value.ref 223) _ _) _ _ _); refine halt ?_))
local macro_rules | `(tactic| walk_at "subscriptTail Name Name ref int") => `(tactic| walk_at "MySub")
local macro_rules | `(tactic| walk_at "subscriptTail Subscript Name Name Name ref int") => `(tactic| walk_at "MySub")
local macro_rules | `(tactic| walk_at "subscriptTail Name Constant ref int") => `(tactic| walk_at "MySub")
local macro_rules | `(tactic| walk_at "subscriptTail Subscript Name Constant int Name ref int") => `(tactic| walk_at "MySub")
local macro_rules | `(tactic| k_mem) => `(tactic| assumption)
local macro_rules | `(tactic| k_all) => `(tactic| assumption)
local macro_rules | `(tactic| walk_at "truthy ref") => `(tactic| (k_here; k_dflt (refine' truthy_pos ?N ?m ?p ?h ?_; (case N => k_asm); (case m => k_mem); (case p => assumption); (case h => assumption))))
local macro_rules | `(tactic| walk_at "exec For Name Tuple cons nil") => `(tactic| (k_here; k_dflt (refine' for_one ?F ?a ?b ?_ ?d; (case F => k_asm); (case a => exact rfl); (case b => exact rfl); (case d => intro _; with_unfolding_all rfl))))
local macro_rules | `(tactic| walk_at "eval ListComp ListComp cons") => `(tactic| (k_here; k_dflt (refine' ListComp_GC ?F ?hh ?a ?b ?c ?d ?e ?f ?g ?_ ?h; (case F => k_asm); (case hh => rfl); (case a => with_unfolding_all rfl); (case b => exact fun _ _ => rfl); (case c => exact fun _ => rfl); (case d => exact rfl); (case e => exact fun _ _ => rfl); (case f => exact fun _ _ => rfl); (case g => decide); (case h => intro _; with_unfolding_all rfl))))
local macro_rules | `(tactic| walk_at "call ref") => `(tactic| (k_here; (with_reducible show wpAny _ _ (call (Value.ref 166) _ _) _ _ _); refine halt ?_))
local macro_rules | `(tactic| walk_at "exec Assign cons ListComp") => `(tactic| (k_here; k_dflt (refine' wpAny_Assign_Name ?_ ?s; (case s => with_unfolding_all rfl))))
local macro_rules | `(tactic| walk_at "eval ListComp BoolOp cons") => `(tactic| (k_here; k_dflt (refine' ListComp_NN (.bool true) (fun u => ∃ i t, u = Value.int i t) ?F ?hh ?a ?b ?c ?d ?e ?f ?g ?i ?_ ?j; (case F => k_asm); (case hh => rfl); (case a => with_unfolding_all rfl); (case b => decide); (case c => exact rfl); (case d => exact fun _ => rfl); (case e => exact fun _ => rfl); (case f => exact name_local rfl (fun _ => rfl) (by decide)); (case g => intro _ _; with_unfolding_all rfl); (case i => decide); (case j => intro _; with_unfolding_all rfl))))
local macro_rules | `(tactic| walk_at "subscriptTail Name Constant int ref int") => `(tactic| walk_at "MySub")
local macro_rules | `(tactic| walk_at "compareOp NotEq ref ref") => `(tactic| (k_here; k_dflt (refine' ne_rows ?N ?a ?b ?u ?_; (case N => k_asm); (case a => k_mem); (case b => k_mem); (case u => decide))))
local macro_rules | `(tactic| walk_at "call builtin:any") => `(tactic| (k_here; k_dflt (refine' any_rep ?F ?N ?h ?m ?_; (case F => k_asm); (case N => k_asm); (case h => rfl); (case m => k_mem)); intro h9 tk9 F9 N9; (try k_sweep)))
local macro_rules | `(tactic| walk_at "call builtin:all") => `(tactic| (k_here; k_dflt (refine' all_rep ?F ?N ?h ?m ?_; (case F => k_asm); (case N => k_asm); (case h => rfl); (case m => k_mem)); intro h9 tk9 F9 N9; (try k_sweep)))
local macro_rules | `(tactic| walk_at "call builtin:list.append cons nil") => `(tactic| (k_here; refine halt ?_))
local macro_rules | `(tactic| walk_at "exec For Name Call cons nil") => `(tactic| (k_here; k_dflt (refine' for_any ?F ?_ ?d; (case F => k_asm); (case d => intro _; with_unfolding_all rfl))))
local macro_rules | `(tactic| walk_at "subscriptTail Name Subscript ref int") => `(tactic| walk_at "MySub")
local macro_rules | `(tactic| walk_at "subscriptTail Subscript Name Name Subscript ref int") => `(tactic| walk_at "MySub")
theorem main_law : PySem.Challenge.rw_fq5045_02.Holds := hd (by
  k_go0
  rename_i w s0 s1 mg mb G Y fa o pm doc ho hg KX X V GL T B TE TW mA mO M a7 a6 hcd ns hs hlay0 hL1 hr1 hl2 a4 a3 sc vs a0 hL ra w1 r0 hI hr hlen hT K0 hD h1 tk1 F o1 o2 o3 o4 o5 o6 o7 o8 o9 o10 o11 d1 d2 d3 d4 d5 d6 d7 d8 d9 d10 d11 N0
  refine with_passes fun hE => ?_
  k_fold
  have fin : ∀ h' tk' m', Fr s1.heap s1.heap.objs.size h' m' → qk (.ret (.bool true)) { s1 with heap := h', toks := tk' } := by
    intro h' tk' m' F'
    k_unfold
    (try dsimp only)
    (k_end; wrow_close)
  generalize hq : qk = Qk at fin
  clear hq
  replace hE : PassesOwn _ _ _ ek := hE
  generalize ek = Ek at hE
  clear qk ek
  clear hg hs hlay0 hL1 hr1 hl2 ra w1 r0 hr hT hD V GL B TE TW M Y X G ho hcd
  replace d1 : o1.data = .cell none := d1
  replace d2 : o2.data = .cell none := d2
  replace d3 : o3.data = .cell none := d3
  replace d4 : o4.data = .cell none := d4
  replace d5 : o5.data = .cell none := d5
  replace d6 : o6.data = .cell none := d6
  replace d7 : o7.data = .cell none := d7
  replace d8 : o8.data = .cell none := d8
  replace d9 : o9.data = .cell none := d9
  replace d10 : o10.data = .cell none := d10
  replace d11 : o11.data = .cell none := d11
  replace F : Fr s1.heap s1.heap.objs.size h1 (fun y => if y = Str.ofString "script" then some (.ref sc) else none) := F
  generalize hLL : s1.heap.objs.size = L at *
  dsimp only at hE ⊢
  k_steps
  rename_i o11 d11 _ dsl ws hws hI9 hC9 hL9 lS dl cdl hdl lD h9 F9 N9
  have lD' : AllLt dl [(L + 1 + 1 + 1 + 1 + 1 + 1 + 1 + 1 + 1 + 1 + 1, o1), (L + 1 + 1 + 1 + 1 + 1 + 1 + 1 + 1 + 1 + 1, o2), (L + 1 + 1 + 1 + 1 + 1 + 1 + 1 + 1 + 1, o3), (L + 1 + 1 + 1 + 1 + 1 + 1 + 1 + 1, o4), (L + 1 + 1 + 1 + 1 + 1 + 1 + 1, o5), (L + 1 + 1 + 1 + 1 + 1 + 1, o6), (L + 1 + 1 + 1 + 1 + 1, o7), (L + 1 + 1 + 1 + 1, o8), (L + 1 + 1 + 1, o9), (L + 1 + 1, o10), (L + 1, o11)] := by simp only [AllLt, and_true]; exact lD.2.2
  have N10 : News s1.heap L h9 ((dl, lsO ws.toArray cdl) :: [(L + 1 + 1 + 1 + 1 + 1 + 1 + 1 + 1 + 1 + 1 + 1, o1), (L + 1 + 1 + 1 + 1 + 1 + 1 + 1 + 1 + 1 + 1, o2), (L + 1 + 1 + 1 + 1 + 1 + 1 + 1 + 1 + 1, o3), (L + 1 + 1 + 1 + 1 + 1 + 1 + 1 + 1, o4), (L + 1 + 1 + 1 + 1 + 1 + 1 + 1, o5), (L + 1 + 1 + 1 + 1 + 1 + 1, o6), (L + 1 + 1 + 1 + 1 + 1, o7), (L + 1 + 1 + 1 + 1, o8), (L + 1 + 1 + 1, o9), (L + 1 + 1, o10), (L + 1, o11)]) := fun p hp => N9 p (memD hp)
  have lDc := lD.2.2
  clear N9 lD lS
  have hlen15 : (List.take 15 ns).length ≤ 15 := by rw [hC9]; exact Nat.min_le_left _ _
  refine Halt.intro (while_to (σ := List Value × Nat × List Int) (fun _ => _) (fun st => (dl, lsO st.1.toArray st.2.1) :: [(L + 1 + 1 + 1 + 1 + 1 + 1 + 1 + 1 + 1 + 1 + 1, o1), (L + 1 + 1 + 1 + 1 + 1 + 1 + 1 + 1 + 1 + 1, o2), (L + 1 + 1 + 1 + 1 + 1 + 1 + 1 + 1 + 1, o3), (L + 1 + 1 + 1 + 1 + 1 + 1 + 1 + 1, o4), (L + 1 + 1 + 1 + 1 + 1 + 1 + 1, o5), (L + 1 + 1 + 1 + 1 + 1 + 1, o6), (L + 1 + 1 + 1 + 1 + 1, o7), (L + 1 + 1 + 1 + 1, o8), (L + 1 + 1 + 1, o9), (L + 1 + 1, o10), (L + 1, o11)]) (fun st => IntsAre st.1 st.2.2 ∧ st.2.2.length ≤ 15) (fun st => IntsAre st.1 st.2.2 ∧ st.2.2.length = 15) (fun st => 15 - st.2.2.length) (ws, cdl, List.take 15 ns) F9 N10 rfl rfl ⟨hI9, hlen15⟩ ?_ ?_ hE)
  clear hI9 hC9 hL9 hlen15 N10 F9
  · clear lDc
    rintro ⟨ws, c, is⟩ hx tkx ⟨hIs, hk⟩ Fx Nx
    dsimp only at hIs hk Nx
    have hsz : ws.toArray.size = is.length := by rw [List.size_toArray]; exact IntsAre.length hIs
    k_steps
    · rename_i hlt
      refine Halt.intro (append_mem (D := dl) (its := ws.toArray) (n := c) Fx Nx (.head _) (by rw [hsz, sizeLine_eq]; omega) fun hy Fy mk => ?_)
      k_steps
      have Ny := grow_end lD' mk
      refine Halt.intro ⟨rfl, WEnd.intro (_, _, is ++ [_]) Fy rfl Ny ⟨IntsAre.append hIs (.cons _ _ .nil), ?_⟩ ?_⟩
      · simp only [List.length_append, List.length_cons, List.length_nil]; omega
      · simp only [List.length_append, List.length_cons, List.length_nil]; omega
    · exact Halt.intro ⟨_, _, rfl, Fx, Nx, hIs, by show is.length = 15; omega⟩
  · rintro ⟨ws, c, is⟩ hx tkx ⟨hIs, hk⟩ Fx Nx
    dsimp only at hIs hk Nx
    obtain ⟨d, u, rfl⟩ := ints15 hIs hk
    clear hIs hI hL
    k_steps
    rename_i T1 hT1 lT1 _ hT2 o10 d10 D1 hD1 FD ND lD1
    obtain ⟨S, tS, d10⟩ : ∃ S tS, o10.data = .cell (some (.int S tS)) := ⟨_, _, d10⟩
    refine SrcG.listN 12 rfl FD ND (lies_news (by k_mem) ⟨rfl, _, rfl⟩) rfl (by decide) ?_
    intro g9
    obtain ⟨f, hf⟩ : ∃ f : Nat → Int, f = fun i => if S = 0 then d (3 + i) else (d (3 + i)).fmod S := ⟨_, rfl⟩
    refine GRest.ind (IntsL f) .nil (fun i ys v hi hJ hv => ?_) fun ys hJ => ?_
    · obtain rfl := items12 hi hv
      refine ⟨_, fun C => asg_Name rfl rfl, ?_⟩
      intro I9 oI9 C9 oC9 D9 m9 h9 tk9 E9 hC9 hb9 F9 N9 off9 ne9
      have hx := hb9 _ (.head _)
      dsimp only at hx
      clear hb9
      k_steps
      · rename_i hS
        exact CompEnd.intro F9 N9 _ (fun _ h => h) off9 (lies_news (by k_mem) ⟨rfl, _, rfl⟩) ⟨rfl, hJ.snocV (by rw [hf]; exact if_neg hS)⟩
      · rename_i hS
        exact CompEnd.intro F9 N9 _ (fun _ h => h) off9 (lies_news (by k_mem) ⟨rfl, _, rfl⟩) ⟨rfl, hJ.snocV (by rw [hf]; exact if_pos hS)⟩
    · obtain ⟨t, rfl⟩ := hJ.twelve
      clear hf hJ
      k_steps
      rename_i nl _ _ lnl _ o9 d9 _ w0 _ lw0 w1 _ lw1 w2 _ lw2 wl _ lwl _ o8 d8 _ _ tb hZ o7 FZ NZ d7
      obtain ⟨q, hq, eq⟩ : ∃ q : Nat, q < 6 ∧ ((d 1).fmod 6).toNat = q := ⟨_, by have := mod6_0 (d 1); have := mod6_6 (d 1); omega, rfl⟩
      obtain ⟨b, tb, hb, d7⟩ : ∃ b tb, In3 b ∧ o7.data = .cell (some (.int b tb)) := ⟨(d 2).fmod 3, _, mod_in3 _, d7⟩
      replace FZ : Fr s1.heap L hZ (fun y => if y = Str.ofString "turn" then some (.ref (211 + q)) else if y = Str.ofString "drawn" then some (.ref dl) else if y = Str.ofString "ways" then some (.ref 217) else if y = Str.ofString "script" then some (.ref sc) else none) := by rw [← eq]; exact FZ
      have NY : News s1.heap L hZ ((wl, refsO (tri3 w0 w1 w2) 0) :: (tri3 w0 w1 w2 0, rowO (W3 f) (T3 t) (fun _ => 0) 0) :: (tri3 w0 w1 w2 1, rowO (W3 f) (T3 t) (fun _ => 0) 1) :: (tri3 w0 w1 w2 2, rowO (W3 f) (T3 t) (fun _ => 0) 2) :: (nl, lst [.int (f 0) (t 0), .int (f 1) (t 1), .int (f 2) (t 2), .int (f 3) (t 3), .int (f 4) (t 4), .int (f 5) (t 5), .int (f 6) (t 6), .int (f 7) (t 7), .int (f 8) (t 8), .int (f 9) (t 9), .int (f 10) (t 10), .int (f 11) (t 11)]) :: [(L + 1 + 1 + 1 + 1 + 1 + 1 + 1 + 1 + 1 + 1 + 1, o1), (L + 1 + 1 + 1 + 1 + 1 + 1 + 1 + 1 + 1 + 1, o2), (L + 1 + 1 + 1 + 1 + 1 + 1 + 1 + 1 + 1, o3), (L + 1 + 1 + 1 + 1 + 1 + 1 + 1 + 1, o4), (L + 1 + 1 + 1 + 1 + 1 + 1 + 1, o5), (L + 1 + 1 + 1 + 1 + 1 + 1, o6), (L + 1 + 1 + 1 + 1 + 1, o7), (L + 1 + 1 + 1 + 1, o8), (L + 1 + 1 + 1, o9), (L + 1 + 1, o10), (L + 1, o11)]) := by
        intro p hp
        rcases List.mem_cons.mp hp with rfl | hp
        · exact NZ _ (.head _)
        rcases List.mem_cons.mp hp with rfl | hp
        · exact NZ _ (.tail _ (.tail _ (.tail _ (.head _))))
        rcases List.mem_cons.mp hp with rfl | hp
        · exact NZ _ (.tail _ (.tail _ (.head _)))
        rcases List.mem_cons.mp hp with rfl | hp
        · exact NZ _ (.tail _ (.head _))
        rcases List.mem_cons.mp hp with rfl | hp
        · exact NZ _ (.tail _ (.tail _ (.tail _ (.tail _ (.head _)))))
        · exact NZ p (.tail _ (.tail _ (.tail _ (.tail _ (.tail _ (.tail _ (.tail _ (.tail _ hp))))))))
      have lNL := lnl.2.2.2
      have hwa : AllLt (tri3 w0 w1 w2 0) [(L + 1 + 1 + 1 + 1 + 1 + 1 + 1 + 1 + 1 + 1 + 1, o1), (L + 1 + 1 + 1 + 1 + 1 + 1 + 1 + 1 + 1 + 1, o2), (L + 1 + 1 + 1 + 1 + 1 + 1 + 1 + 1 + 1, o3), (L + 1 + 1 + 1 + 1 + 1 + 1 + 1 + 1, o4), (L + 1 + 1 + 1 + 1 + 1 + 1 + 1, o5), (L + 1 + 1 + 1 + 1 + 1 + 1, o6), (L + 1 + 1 + 1 + 1 + 1, o7), (L + 1 + 1 + 1 + 1, o8), (L + 1 + 1 + 1, o9), (L + 1 + 1, o10), (L + 1, o11)] ∧ AllLt (tri3 w0 w1 w2 1) [(L + 1 + 1 + 1 + 1 + 1 + 1 + 1 + 1 + 1 + 1 + 1, o1), (L + 1 + 1 + 1 + 1 + 1 + 1 + 1 + 1 + 1 + 1, o2), (L + 1 + 1 + 1 + 1 + 1 + 1 + 1 + 1 + 1, o3), (L + 1 + 1 + 1 + 1 + 1 + 1 + 1 + 1, o4), (L + 1 + 1 + 1 + 1 + 1 + 1 + 1, o5), (L + 1 + 1 + 1 + 1 + 1 + 1, o6), (L + 1 + 1 + 1 + 1 + 1, o7), (L + 1 + 1 + 1 + 1, o8), (L + 1 + 1 + 1, o9), (L + 1 + 1, o10), (L + 1, o11)] ∧ AllLt (tri3 w0 w1 w2 2) [(L + 1 + 1 + 1 + 1 + 1 + 1 + 1 + 1 + 1 + 1 + 1, o1), (L + 1 + 1 + 1 + 1 + 1 + 1 + 1 + 1 + 1 + 1, o2), (L + 1 + 1 + 1 + 1 + 1 + 1 + 1 + 1 + 1, o3), (L + 1 + 1 + 1 + 1 + 1 + 1 + 1 + 1, o4), (L + 1 + 1 + 1 + 1 + 1 + 1 + 1, o5), (L + 1 + 1 + 1 + 1 + 1 + 1, o6), (L + 1 + 1 + 1 + 1 + 1, o7), (L + 1 + 1 + 1 + 1, o8), (L + 1 + 1 + 1, o9), (L + 1 + 1, o10), (L + 1, o11)] ∧ AllLt wl [(L + 1 + 1 + 1 + 1 + 1 + 1 + 1 + 1 + 1 + 1 + 1, o1), (L + 1 + 1 + 1 + 1 + 1 + 1 + 1 + 1 + 1 + 1, o2), (L + 1 + 1 + 1 + 1 + 1 + 1 + 1 + 1 + 1, o3), (L + 1 + 1 + 1 + 1 + 1 + 1 + 1 + 1, o4), (L + 1 + 1 + 1 + 1 + 1 + 1 + 1, o5), (L + 1 + 1 + 1 + 1 + 1 + 1, o6), (L + 1 + 1 + 1 + 1 + 1, o7), (L + 1 + 1 + 1 + 1, o8), (L + 1 + 1 + 1, o9), (L + 1 + 1, o10), (L + 1, o11)] := by
        refine ⟨?_, ?_, ?_, ?_⟩ <;> simp only [AllLt, and_true]
        · exact lw0.2.2.2.2
        · exact lw1.2.2.2.2.2
        · exact lw2.2.2.2.2.2.2
        · exact lwl.2.2.2.2.2.2.2
      clear NZ lnl lw0 lw1 lw2 lwl lD1 lT1 lDc hlen15 hk
      generalize hWA : tri3 w0 w1 w2 = wa at NY hwa
      generalize hWW : W3 f = W at NY
      generalize hTT : T3 t = TT at NY
      refine Halt.intro (markets_spec (rest := (nl, lst [.int (f 0) (t 0), .int (f 1) (t 1), .int (f 2) (t 2), .int (f 3) (t 3), .int (f 4) (t 4), .int (f 5) (t 5), .int (f 6) (t 6), .int (f 7) (t 7), .int (f 8) (t 8), .int (f 9) (t 9), .int (f 10) (t 10), .int (f 11) (t 11)]) :: [(L + 1 + 1 + 1 + 1 + 1 + 1 + 1 + 1 + 1 + 1 + 1, o1), (L + 1 + 1 + 1 + 1 + 1 + 1 + 1 + 1 + 1 + 1, o2), (L + 1 + 1 + 1 + 1 + 1 + 1 + 1 + 1 + 1, o3), (L + 1 + 1 + 1 + 1 + 1 + 1 + 1 + 1, o4), (L + 1 + 1 + 1 + 1 + 1 + 1 + 1, o5), (L + 1 + 1 + 1 + 1 + 1 + 1, o6), (L + 1 + 1 + 1 + 1 + 1, o7), (L + 1 + 1 + 1 + 1, o8), (L + 1 + 1 + 1, o9), (L + 1 + 1, o10), (L + 1, o11)]) K0 FZ KX NY (show ((d 1).fmod 6).toNat < 6 by rw [eq]; exact hq) T rfl (by decide) (by decide) ?_)
      intro hA tkA lm its n tail M FA NA offA offB hits mk hM
      rename_i d7'
      clear d7' NY FZ
      replace FA : Fr s1.heap L hA _ := FA
      replace NA : News s1.heap L hA _ := NA
      simp only [List.cons_append, List.nil_append] at NA
      k_steps
      rename_i hB _ hR _ t1 u1 v1 isR FR NR upR
      have e0 : In3 0 := .inl rfl
      have e1 : In3 1 := .inr (.inl rfl)
      have e2 : In3 2 := .inr (.inr rfl)
      refine SrcG.range (n := 3) rfl FR NR isR rfl rfl (by decide) ?_
      intro g9
      refine GRest.lied wa b (lsO #[.int (f 9) (t 9), .int (f 10) (t 10), .int (f 11) (t 11)] 0) ?_ fun x lx => ?_
      · rcases hb with rfl | rfl | rfl
        · refine GRest.one rfl rfl (fun v hv I9 oI9 C9 oC9 D9 m9 h9 tk9 E9 hC9 hx9 F9 N9 off9 ne9 => ?_)
          obtain ⟨tv, rfl⟩ : ∃ t, v = .int 0 t := hv
          k_steps
          rename_i xN hN FN NN lN
          refine CompEnd.new1 FN NN off9 lN.1 lN.2.1 lN.2.2.1 trivial ?_
          have lx := lN.2.2.2
          clear lN FN NN
          clear hC9 hx9 ne9 tv
          refine GRest.one rfl rfl (fun v hv I9 oI9 C9 oC9 D9 m9 h9 tk9 E9 hC9 hx9 F9 N9 off9 ne9 => ?_)
          obtain ⟨tv, rfl⟩ : ∃ t, v = .int 1 t := hv
          k_steps
          refine CompEnd.intro F9 N9 _ (fun _ h => h) off9 trivial ?_
          clear hC9 hx9 ne9 tv
          refine GRest.one rfl rfl (fun v hv I9 oI9 C9 oC9 D9 m9 h9 tk9 E9 hC9 hx9 F9 N9 off9 ne9 => ?_)
          obtain ⟨tv, rfl⟩ : ∃ t, v = .int 2 t := hv
          k_steps
          refine CompEnd.intro F9 N9 _ (fun _ h => h) off9 trivial ?_
          clear hC9 hx9 ne9 tv
          exact GRest.zero ⟨xN, rfl, rfl, lx⟩
        · refine GRest.one rfl rfl (fun v hv I9 oI9 C9 oC9 D9 m9 h9 tk9 E9 hC9 hx9 F9 N9 off9 ne9 => ?_)
          obtain ⟨tv, rfl⟩ : ∃ t, v = .int 0 t := hv
          k_steps
          refine CompEnd.intro F9 N9 _ (fun _ h => h) off9 trivial ?_
          clear hC9 hx9 ne9 tv
          refine GRest.one rfl rfl (fun v hv I9 oI9 C9 oC9 D9 m9 h9 tk9 E9 hC9 hx9 F9 N9 off9 ne9 => ?_)
          obtain ⟨tv, rfl⟩ : ∃ t, v = .int 1 t := hv
          k_steps
          rename_i xN hN FN NN lN
          refine CompEnd.new1 FN NN off9 lN.1 lN.2.1 lN.2.2.1 trivial ?_
          have lx := lN.2.2.2
          clear lN FN NN
          clear hC9 hx9 ne9 tv
          refine GRest.one rfl rfl (fun v hv I9 oI9 C9 oC9 D9 m9 h9 tk9 E9 hC9 hx9 F9 N9 off9 ne9 => ?_)
          obtain ⟨tv, rfl⟩ : ∃ t, v = .int 2 t := hv
          k_steps
          refine CompEnd.intro F9 N9 _ (fun _ h => h) off9 trivial ?_
          clear hC9 hx9 ne9 tv
          exact GRest.zero ⟨xN, rfl, rfl, lx⟩
        · refine GRest.one rfl rfl (fun v hv I9 oI9 C9 oC9 D9 m9 h9 tk9 E9 hC9 hx9 F9 N9 off9 ne9 => ?_)
          obtain ⟨tv, rfl⟩ : ∃ t, v = .int 0 t := hv
          k_steps
          refine CompEnd.intro F9 N9 _ (fun _ h => h) off9 trivial ?_
          clear hC9 hx9 ne9 tv
          refine GRest.one rfl rfl (fun v hv I9 oI9 C9 oC9 D9 m9 h9 tk9 E9 hC9 hx9 F9 N9 off9 ne9 => ?_)
          obtain ⟨tv, rfl⟩ : ∃ t, v = .int 1 t := hv
          k_steps
          refine CompEnd.intro F9 N9 _ (fun _ h => h) off9 trivial ?_
          clear hC9 hx9 ne9 tv
          refine GRest.one rfl rfl (fun v hv I9 oI9 C9 oC9 D9 m9 h9 tk9 E9 hC9 hx9 F9 N9 off9 ne9 => ?_)
          obtain ⟨tv, rfl⟩ : ∃ t, v = .int 2 t := hv
          k_steps
          rename_i xN hN FN NN lN
          refine CompEnd.new1 FN NN off9 lN.1 lN.2.1 lN.2.2.1 trivial ?_
          have lx := lN.2.2.2
          clear lN FN NN
          clear hC9 hx9 ne9 tv
          exact GRest.zero ⟨xN, rfl, rfl, lx⟩
      · k_steps
        rename_i al hal tkal Fal Nal oal
        have hx : (x, lsO #[.int (f 9) (t 9), .int (f 10) (t 10), .int (f 11) (t 11)] 0) ∈ (al, lst [.ref (wb wa b x 0), .ref (wb wa b x 1), .ref (wb wa b x 2)]) :: (x, lsO #[.int (f 9) (t 9), .int (f 10) (t 10), .int (f 11) (t 11)] 0) :: (lm, lsO its n) :: (wl, refsO wa 0) :: (wa 0, rowO W TT (fun _ => 0) 0) :: (wa 1, rowO W TT (fun _ => 0) 1) :: (wa 2, rowO W TT (fun _ => 0) 2) :: (nl, lst [.int (f 0) (t 0), .int (f 1) (t 1), .int (f 2) (t 2), .int (f 3) (t 3), .int (f 4) (t 4), .int (f 5) (t 5), .int (f 6) (t 6), .int (f 7) (t 7), .int (f 8) (t 8), .int (f 9) (t 9), .int (f 10) (t 10), .int (f 11) (t 11)]) :: ([(L + 1 + 1 + 1 + 1 + 1 + 1 + 1 + 1 + 1 + 1 + 1, o1), (L + 1 + 1 + 1 + 1 + 1 + 1 + 1 + 1 + 1 + 1, o2), (L + 1 + 1 + 1 + 1 + 1 + 1 + 1 + 1 + 1, o3), (L + 1 + 1 + 1 + 1 + 1 + 1 + 1 + 1, o4), (L + 1 + 1 + 1 + 1 + 1 + 1 + 1, o5), (L + 1 + 1 + 1 + 1 + 1 + 1, o6), (L + 1 + 1 + 1 + 1 + 1, o7), (L + 1 + 1 + 1 + 1, o8), (L + 1 + 1 + 1, o9), (L + 1 + 1, o10), (L + 1, o11)] ++ tail) := .tail _ (.head _)
        have NC : News s1.heap L hal ((al, refsO (wb wa b x) 3) :: (wb wa b x 0, rowO (W4 W f b) (T4 TT t b) (fun _ => 0) 0) :: (wb wa b x 1, rowO (W4 W f b) (T4 TT t b) (fun _ => 0) 1) :: (wb wa b x 2, rowO (W4 W f b) (T4 TT t b) (fun _ => 0) 2) :: (lm, lsO its n) :: (wl, refsO wa 0) :: (wa 0, rowO W TT (fun _ => 0) 0) :: (wa 1, rowO W TT (fun _ => 0) 1) :: (wa 2, rowO W TT (fun _ => 0) 2) :: (nl, lst [.int (f 0) (t 0), .int (f 1) (t 1), .int (f 2) (t 2), .int (f 3) (t 3), .int (f 4) (t 4), .int (f 5) (t 5), .int (f 6) (t 6), .int (f 7) (t 7), .int (f 8) (t 8), .int (f 9) (t 9), .int (f 10) (t 10), .int (f 11) (t 11)]) :: ([(L + 1 + 1 + 1 + 1 + 1 + 1 + 1 + 1 + 1 + 1 + 1, o1), (L + 1 + 1 + 1 + 1 + 1 + 1 + 1 + 1 + 1 + 1, o2), (L + 1 + 1 + 1 + 1 + 1 + 1 + 1 + 1 + 1, o3), (L + 1 + 1 + 1 + 1 + 1 + 1 + 1 + 1, o4), (L + 1 + 1 + 1 + 1 + 1 + 1 + 1, o5), (L + 1 + 1 + 1 + 1 + 1 + 1, o6), (L + 1 + 1 + 1 + 1 + 1, o7), (L + 1 + 1 + 1 + 1, o8), (L + 1 + 1 + 1, o9), (L + 1 + 1, o10), (L + 1, o11)] ++ tail)) := by
          intro p hp
          rcases List.mem_cons.mp hp with rfl | hp
          · exact Nal _ (.head _)
          rcases List.mem_cons.mp hp with rfl | hp
          · exact Nal _ (row4 hx (.tail _ (.tail _ (.tail _ (.tail _ (.head _))))))
          rcases List.mem_cons.mp hp with rfl | hp
          · exact Nal _ (row4 hx (.tail _ (.tail _ (.tail _ (.tail _ (.tail _ (.head _)))))))
          rcases List.mem_cons.mp hp with rfl | hp
          · exact Nal _ (row4 hx (.tail _ (.tail _ (.tail _ (.tail _ (.tail _ (.tail _ (.head _))))))))
          · exact Nal p (.tail _ (.tail _ hp))
        refine Halt.intro (markets_spec (rest := (lm, lsO its n) :: (wl, refsO wa 0) :: (wa 0, rowO W TT (fun _ => 0) 0) :: (wa 1, rowO W TT (fun _ => 0) 1) :: (wa 2, rowO W TT (fun _ => 0) 2) :: (nl, lst [.int (f 0) (t 0), .int (f 1) (t 1), .int (f 2) (t 2), .int (f 3) (t 3), .int (f 4) (t 4), .int (f 5) (t 5), .int (f 6) (t 6), .int (f 7) (t 7), .int (f 8) (t 8), .int (f 9) (t 9), .int (f 10) (t 10), .int (f 11) (t 11)]) :: ([(L + 1 + 1 + 1 + 1 + 1 + 1 + 1 + 1 + 1 + 1 + 1, o1), (L + 1 + 1 + 1 + 1 + 1 + 1 + 1 + 1 + 1 + 1, o2), (L + 1 + 1 + 1 + 1 + 1 + 1 + 1 + 1 + 1, o3), (L + 1 + 1 + 1 + 1 + 1 + 1 + 1 + 1, o4), (L + 1 + 1 + 1 + 1 + 1 + 1 + 1, o5), (L + 1 + 1 + 1 + 1 + 1 + 1, o6), (L + 1 + 1 + 1 + 1 + 1, o7), (L + 1 + 1 + 1 + 1, o8), (L + 1 + 1 + 1, o9), (L + 1 + 1, o10), (L + 1, o11)] ++ tail)) K0 Fal KX NC hq T rfl (by decide) (by decide) ?_)
        intro hA2 tkA2 lm2 its2 n2 tail2 M2 FA2 NA2 offA2 offB2 hits2 mk2 hM2
        obtain ⟨ops, hops⟩ : ∃ ops, ops = (lm, lsO its n) :: (lm2, lsO its2 n2) :: (wl, refsO wa 0) :: (wa 0, rowO W TT (fun _ => 0) 0) :: (wa 1, rowO W TT (fun _ => 0) 1) :: (wa 2, rowO W TT (fun _ => 0) 2) :: (tail ++ tail2) := ⟨_, rfl⟩
        have offO : ∀ q ∈ [(L + 1 + 1 + 1 + 1 + 1 + 1 + 1 + 1 + 1 + 1 + 1, o1), (L + 1 + 1 + 1 + 1 + 1 + 1 + 1 + 1 + 1 + 1, o2), (L + 1 + 1 + 1 + 1 + 1 + 1 + 1 + 1 + 1, o3), (L + 1 + 1 + 1 + 1 + 1 + 1 + 1 + 1, o4), (L + 1 + 1 + 1 + 1 + 1 + 1 + 1, o5), (L + 1 + 1 + 1 + 1 + 1 + 1, o6), (L + 1 + 1 + 1 + 1 + 1, o7), (L + 1 + 1 + 1 + 1, o8), (L + 1 + 1 + 1, o9), (L + 1 + 1, o10), (L + 1, o11)], ∀ p ∈ ops, p.1 ≠ q.1 := by
          intro q hq p hp
          rw [hops] at hp
          rcases List.mem_cons.mp hp with rfl | hp
          · exact offA _ (.head _) q (.tail _ (.tail _ (.tail _ (.tail _ (.tail _ hq)))))
          rcases List.mem_cons.mp hp with rfl | hp
          · exact offA2 _ (.head _) q (.tail _ (.tail _ (.tail _ (.tail _ (.tail _ (.tail _ (.tail _ (.tail _ (.tail _ (.tail _ (List.mem_append_left _ hq)))))))))))
          rcases List.mem_cons.mp hp with rfl | hp
          · exact Nat.ne_of_gt (allLt_mem hwa.2.2.2 q hq)
          rcases List.mem_cons.mp hp with rfl | hp
          · exact Nat.ne_of_gt (allLt_mem hwa.1 q hq)
          rcases List.mem_cons.mp hp with rfl | hp
          · exact Nat.ne_of_gt (allLt_mem hwa.2.1 q hq)
          rcases List.mem_cons.mp hp with rfl | hp
          · exact Nat.ne_of_gt (allLt_mem hwa.2.2.1 q hq)
          rcases List.mem_append.mp hp with hp | hp
          · exact offA p (.tail _ hp) q (.tail _ (.tail _ (.tail _ (.tail _ (.tail _ hq)))))
          · exact offA2 p (.tail _ hp) q (.tail _ (.tail _ (.tail _ (.tail _ (.tail _ (.tail _ (.tail _ (.tail _ (.tail _ (.tail _ (List.mem_append_left _ hq)))))))))))
        have N5 : News s1.heap L hA2 ((L + 1 + 1 + 1 + 1 + 1 + 1 + 1 + 1 + 1 + 1 + 1, o1) :: (L + 1 + 1 + 1 + 1 + 1 + 1 + 1 + 1 + 1 + 1, o2) :: (L + 1 + 1 + 1 + 1 + 1 + 1 + 1 + 1 + 1, o3) :: (L + 1 + 1 + 1 + 1 + 1 + 1 + 1 + 1, o4) :: (L + 1 + 1 + 1 + 1 + 1 + 1 + 1, o5) :: (L + 1 + 1 + 1 + 1 + 1 + 1, o6) :: (L + 1 + 1 + 1 + 1 + 1, o7) :: (L + 1 + 1 + 1 + 1, o8) :: (L + 1 + 1 + 1, o9) :: (L + 1 + 1, o10) :: (L + 1, o11) :: ops) := by
          intro p hp
          rcases List.mem_append.mp (show p ∈ [(L + 1 + 1 + 1 + 1 + 1 + 1 + 1 + 1 + 1 + 1 + 1, o1), (L + 1 + 1 + 1 + 1 + 1 + 1 + 1 + 1 + 1 + 1, o2), (L + 1 + 1 + 1 + 1 + 1 + 1 + 1 + 1 + 1, o3), (L + 1 + 1 + 1 + 1 + 1 + 1 + 1 + 1, o4), (L + 1 + 1 + 1 + 1 + 1 + 1 + 1, o5), (L + 1 + 1 + 1 + 1 + 1 + 1, o6), (L + 1 + 1 + 1 + 1 + 1, o7), (L + 1 + 1 + 1 + 1, o8), (L + 1 + 1 + 1, o9), (L + 1 + 1, o10), (L + 1, o11)] ++ ops from hp) with hp | hp
          · exact NA2 p (.tail _ (.tail _ (.tail _ (.tail _ (.tail _ (List.mem_append_left _ (.tail _ (.tail _ (.tail _ (.tail _ (.tail _ (.tail _ (List.mem_append_left _ hp)))))))))))))
          rw [hops] at hp
          rcases List.mem_cons.mp hp with rfl | hp
          · exact NA2 _ (.tail _ (.tail _ (.tail _ (.tail _ (.tail _ (List.mem_append_left _ (.head _)))))))
          rcases List.mem_cons.mp hp with rfl | hp
          · exact NA2 _ (.head _)
          rcases List.mem_cons.mp hp with rfl | hp
          · exact NA2 _ (.tail _ (.tail _ (.tail _ (.tail _ (.tail _ (List.mem_append_left _ (.tail _ (.head _))))))))
          rcases List.mem_cons.mp hp with rfl | hp
          · exact NA2 _ (.tail _ (.tail _ (.tail _ (.tail _ (.tail _ (List.mem_append_left _ (.tail _ (.tail _ (.head _)))))))))
          rcases List.mem_cons.mp hp with rfl | hp
          · exact NA2 _ (.tail _ (.tail _ (.tail _ (.tail _ (.tail _ (List.mem_append_left _ (.tail _ (.tail _ (.tail _ (.head _))))))))))
          rcases List.mem_cons.mp hp with rfl | hp
          · exact NA2 _ (.tail _ (.tail _ (.tail _ (.tail _ (.tail _ (List.mem_append_left _ (.tail _ (.tail _ (.tail _ (.tail _ (.head _)))))))))))
          rcases List.mem_append.mp hp with hp | hp
          · exact NA2 p (.tail _ (.tail _ (.tail _ (.tail _ (.tail _ (List.mem_append_left _ (.tail _ (.tail _ (.tail _ (.tail _ (.tail _ (.tail _ (List.mem_append_right _ hp)))))))))))))
          · exact NA2 p (.tail _ (.tail _ (.tail _ (.tail _ (.tail _ (List.mem_append_right _ hp))))))
        have f1 : ∀ p ∈ ops, p.1 ≠ L + 1 + 1 + 1 + 1 + 1 + 1 + 1 + 1 + 1 + 1 + 1 := offO (L + 1 + 1 + 1 + 1 + 1 + 1 + 1 + 1 + 1 + 1 + 1, o1) (.head _)
        have f2 : ∀ p ∈ ops, p.1 ≠ L + 1 + 1 + 1 + 1 + 1 + 1 + 1 + 1 + 1 + 1 := offO (L + 1 + 1 + 1 + 1 + 1 + 1 + 1 + 1 + 1 + 1, o2) (.tail _ (.head _))
        have f3 : ∀ p ∈ ops, p.1 ≠ L + 1 + 1 + 1 + 1 + 1 + 1 + 1 + 1 + 1 := offO (L + 1 + 1 + 1 + 1 + 1 + 1 + 1 + 1 + 1, o3) (.tail _ (.tail _ (.head _)))
        have f4 : ∀ p ∈ ops, p.1 ≠ L + 1 + 1 + 1 + 1 + 1 + 1 + 1 + 1 := offO (L + 1 + 1 + 1 + 1 + 1 + 1 + 1 + 1, o4) (.tail _ (.tail _ (.tail _ (.head _))))
        have f5 : ∀ p ∈ ops, p.1 ≠ L + 1 + 1 + 1 + 1 + 1 + 1 + 1 := offO (L + 1 + 1 + 1 + 1 + 1 + 1 + 1, o5) (.tail _ (.tail _ (.tail _ (.tail _ (.head _)))))
        have f6 : ∀ p ∈ ops, p.1 ≠ L + 1 + 1 + 1 + 1 + 1 + 1 := offO (L + 1 + 1 + 1 + 1 + 1 + 1, o6) (.tail _ (.tail _ (.tail _ (.tail _ (.tail _ (.head _))))))
        have f7 : ∀ p ∈ ops, p.1 ≠ L + 1 + 1 + 1 + 1 + 1 := offO (L + 1 + 1 + 1 + 1 + 1, o7) (.tail _ (.tail _ (.tail _ (.tail _ (.tail _ (.tail _ (.head _)))))))
        have f8 : ∀ p ∈ ops, p.1 ≠ L + 1 + 1 + 1 + 1 := offO (L + 1 + 1 + 1 + 1, o8) (.tail _ (.tail _ (.tail _ (.tail _ (.tail _ (.tail _ (.tail _ (.head _))))))))
        have f9 : ∀ p ∈ ops, p.1 ≠ L + 1 + 1 + 1 := offO (L + 1 + 1 + 1, o9) (.tail _ (.tail _ (.tail _ (.tail _ (.tail _ (.tail _ (.tail _ (.tail _ (.head _)))))))))
        have f10 : ∀ p ∈ ops, p.1 ≠ L + 1 + 1 := offO (L + 1 + 1, o10) (.tail _ (.tail _ (.tail _ (.tail _ (.tail _ (.tail _ (.tail _ (.tail _ (.tail _ (.head _))))))))))
        have f11 : ∀ p ∈ ops, p.1 ≠ L + 1 := offO (L + 1, o11) (.tail _ (.tail _ (.tail _ (.tail _ (.tail _ (.tail _ (.tail _ (.tail _ (.tail _ (.tail _ (.head _)))))))))))
        have m1 : (lm, lsO its n) ∈ ops := by rw [hops]; exact .head _
        have m2 : (lm2, lsO its2 n2) ∈ ops := by rw [hops]; exact .tail _ (.head _)
        have m3 : (wl, refsO wa 0) ∈ ops := by rw [hops]; exact .tail _ (.tail _ (.head _))
        have m4 : (wa 0, rowO W TT (fun _ => 0) 0) ∈ ops := by rw [hops]; exact .tail _ (.tail _ (.tail _ (.head _)))
        have m5 : (wa 1, rowO W TT (fun _ => 0) 1) ∈ ops := by rw [hops]; exact .tail _ (.tail _ (.tail _ (.tail _ (.head _))))
        have m6 : (wa 2, rowO W TT (fun _ => 0) 2) ∈ ops := by rw [hops]; exact .tail _ (.tail _ (.tail _ (.tail _ (.tail _ (.head _)))))
        replace mk := mk.mono (tail' := ops) (fun q hq => by rw [hops]; exact .tail _ (.tail _ (.tail _ (.tail _ (.tail _ (.tail _ (List.mem_append_left _ hq)))))))
        replace mk2 := mk2.mono (tail' := ops) (fun q hq => by rw [hops]; exact .tail _ (.tail _ (.tail _ (.tail _ (.tail _ (.tail _ (List.mem_append_right _ hq)))))))
        obtain ⟨W2, hW2⟩ : ∃ W2, W2 = W4 W f b := ⟨_, rfl⟩
        rw [← hW2] at mk2 hM2
        replace hW2 : ∀ a, a ≠ b → W2 a = W a := fun a h => by rw [hW2]; exact W4_ne h
        replace FA2 : Fr s1.heap L hA2 _ := FA2
        clear NA2 NC Nal hx offA2 offA offB offB2 offO hops lx oal FR NR upR isR hwa lNL hWA hWW hTT Fal
        rename_i hB' N' tk' _ _ _ _ _ _ _ _ _ _ _ _ _ _ _
        have hpos : 0 < its.size := by
          have h1 := mk.length
          have h2 := bestOf_pos hM
          rw [h1, Array.length_toList] at h2
          exact h2
        have hpos2 : 0 < its2.size := by
          have h1 := mk2.length
          have h2 := bestOf_pos hM2
          rw [h1, Array.length_toList] at h2
          exact h2
        k_steps
        rename_i _ _ _ tl _ ltl _ TD hD FD ND lTD
        have hin1 : ∀ q ∈ ops, q ∈ (TD, tpO #[.ref lm, .ref lm2] 0) :: ops := fun q hq => .tail _ hq
        have offTD : OffA L TD := by
          obtain ⟨_, h1, h2, h3, h4, h5, h6, h7, h8, h9, h10, h11, _⟩ := lTD
          exact ⟨Nat.ne_of_gt h1, Nat.ne_of_gt h2, Nat.ne_of_gt h3, Nat.ne_of_gt h4, Nat.ne_of_gt h5, Nat.ne_of_gt h6, Nat.ne_of_gt h7, Nat.ne_of_gt h8, Nat.ne_of_gt h9, Nat.ne_of_gt h10, Nat.ne_of_gt h11⟩
        have offTl : OffA L tl := by
          obtain ⟨h1, h2, h3, h4, h5, h6, h7, h8, h9, h10, h11, _⟩ := ltl
          exact ⟨Nat.ne_of_gt h1, Nat.ne_of_gt h2, Nat.ne_of_gt h3, Nat.ne_of_gt h4, Nat.ne_of_gt h5, Nat.ne_of_gt h6, Nat.ne_of_gt h7, Nat.ne_of_gt h8, Nat.ne_of_gt h9, Nat.ne_of_gt h10, Nat.ne_of_gt h11⟩
        have offops : OffC L ops := ⟨f1, f2, f3, f4, f5, f6, f7, f8, f9, f10, f11⟩
        have ND' : News s1.heap L hD ((tl, lsO #[] 0) :: cel L o1 o2 o3 o4 o5 o6 o7 o8 o9 o10 o11 ((TD, tpO #[.ref lm, .ref lm2] 0) :: ops)) := by
          intro p hp
          rcases List.mem_cons.mp hp with rfl | hp
          · exact ND _ (.tail _ (.head _))
          · have hp' : p ∈ [(L + 1 + 1 + 1 + 1 + 1 + 1 + 1 + 1 + 1 + 1 + 1, o1), (L + 1 + 1 + 1 + 1 + 1 + 1 + 1 + 1 + 1 + 1, o2), (L + 1 + 1 + 1 + 1 + 1 + 1 + 1 + 1 + 1, o3), (L + 1 + 1 + 1 + 1 + 1 + 1 + 1 + 1, o4), (L + 1 + 1 + 1 + 1 + 1 + 1 + 1, o5), (L + 1 + 1 + 1 + 1 + 1 + 1, o6), (L + 1 + 1 + 1 + 1 + 1, o7), (L + 1 + 1 + 1 + 1, o8), (L + 1 + 1 + 1, o9), (L + 1 + 1, o10), (L + 1, o11)] ++ ((TD, tpO #[.ref lm, .ref lm2] 0) :: ops) := hp
            rcases List.mem_append.mp hp' with hp | hp
            · exact ND p (.tail _ (.tail _ (List.mem_append_left ops hp)))
            rcases List.mem_cons.mp hp with rfl | hp
            · exact ND _ (.head _)
            · exact ND p (.tail _ (.tail _ (List.mem_append_right [(L + 1 + 1 + 1 + 1 + 1 + 1 + 1 + 1 + 1 + 1 + 1, o1), (L + 1 + 1 + 1 + 1 + 1 + 1 + 1 + 1 + 1 + 1, o2), (L + 1 + 1 + 1 + 1 + 1 + 1 + 1 + 1 + 1, o3), (L + 1 + 1 + 1 + 1 + 1 + 1 + 1 + 1, o4), (L + 1 + 1 + 1 + 1 + 1 + 1 + 1, o5), (L + 1 + 1 + 1 + 1 + 1 + 1, o6), (L + 1 + 1 + 1 + 1 + 1, o7), (L + 1 + 1 + 1 + 1, o8), (L + 1 + 1 + 1, o9), (L + 1 + 1, o10), (L + 1, o11)] hp)))
        refine ⟨2, Lies s1.heap TD (TupObj #[.ref lm, .ref lm2]), _, JM W M W2 M2 _ tl L o1 o2 o3 o4 o6 o7 o8 o9 o10 o11 ((TD, tpO #[.ref lm, .ref lm2] 0) :: ops), _, _, FD, ND', lies_news (by k_mem) ⟨rfl, _, rfl⟩, ⟨[], 0, o5, none, _, fun _ _ => rfl, d5, rfl, fun _ h => h, offops.cons offTD, ?_, .inl ⟨rfl, rfl⟩⟩, fun Q E k => it_tuple rfl FD ND' (lies_news (by k_mem) ⟨rfl, _, rfl⟩) k, ?_, ?_⟩
        · obtain ⟨_, _, _, _, _, _, _, _, _, _, _, lto⟩ := ltl
          exact List.forall_mem_cons.mpr ⟨Nat.ne_of_gt lTD.1, fun p hp => Nat.ne_of_lt (allLt_mem lto p hp)⟩
        · intro i v m₁ news₁ I1 oI1 hh1 tk1 E1 hi hv hJ hS F9 N9 off9
          obtain ⟨ts, cnt, o5', v5, op, hm, d5', rfl, hsub, hoff, htl, htold⟩ := hJ
          obtain ⟨uu, rfl⟩ := ovs_ex hm
          obtain ⟨lx, itx, nx, Wx, Mx, rfl, hmx, mkx, hMx, h6x, hpx, hstep⟩ := told_step hi hv m1 m2 mk mk2 hM hM2 hits hits2 hpos hpos2 (fun q hq => hsub q (hin1 q hq)) htold
          obtain ⟨P, hP⟩ := priced_ex mkx hMx
          have hcnt : ts.length ≤ 2 := by
            rcases htold with ⟨_, rfl⟩ | ⟨_, _, _, _, rfl, _⟩ | ⟨_, _, _, _, _, _, _, rfl, _⟩ <;> simp
          obtain ⟨g1, g2, g3, g4, g5, g6, g7, g8, g9, g10, g11⟩ := hoff
          replace F9 : Fr s1.heap L hh1 _ := F9
          replace N9 : News s1.heap L hh1 _ := N9
          have hI := allNe_of off9
          simp only [cel, AllNe, and_true] at hI
          dsimp only [cel] at N9
          clear f1 f2 f3 f4 f5 f6 f7 f8 f9 f10 f11 ND ND' FD mk mk2 hM hM2 hits hits2 hpos hpos2 m1 m2 hW2 lTD htold hMx
          k_steps
          have hitx : ∀ (i : Nat) (v : Value), itx[i]? = some v → itx.toList[i]? = some v := fun i v h => by rw [Array.getElem?_toList]; exact h
          refine SrcGC.list rfl F9 N9 (lies_news (by k_mem) ⟨rfl, _, rfl⟩) (by rw [sizeLine_eq]; omega) fun g0 => ?_
          refine GCRest.ind (fun i ys nw => ∃ op', nw = (I1, oI1) :: (tl, lsO ts.toArray cnt) :: cel L o1 o2 o3 o4 o5' o6 o7 o8 o9 o10 o11 op' ∧ (∀ q ∈ op, q ∈ op') ∧ OffC L op' ∧ (∀ p ∈ op', p.1 ≠ tl ∧ p.1 ≠ I1) ∧ RowsOk P i ys op') ⟨op, rfl, fun _ h => h, ⟨g1, g2, g3, g4, g5, g6, g7, g8, g9, g10, g11⟩, fun p hp => ⟨htl p hp, ?_⟩, .nil⟩ (fun j ys nw v hj hJ hv => ?_) fun ys nw hJ => ?_
          · exact off9 p (.tail _ (.tail _ (.tail _ (.tail _ (.tail _ (.tail _ (.tail _ (.tail _ (.tail _ (.tail _ (.tail _ (.tail _ hp))))))))))))
          · obtain ⟨op', rfl, hs', ho', ht', hr'⟩ := hJ
            obtain ⟨p, hp, tp, x, n', rfl, htp, dx, dc, dd, od, a1, a2, a3, a4, t1, t2, t3, t4, t5, D, nD, kd, hx, hdx, hdd, hD, hnD, hB⟩ := Paired.right mkx (hitx _ _ hv)
            replace htp := hs' _ htp
            have hmx' := hs' _ hmx
            replace hx := hs' _ hx
            replace hdx := hs' _ hdx
            replace hdd := hs' _ hdd
            refine ⟨tp, .ref (211 + p), .ref x, rfl, tup_news (by k_mem) rfl rfl, ?_⟩
            intro I9 oI9 C9 oC9 D9 K9 oK9 m9 h9 tk9 E9 hC9 hx9 hK9 F9 N9 off9 ne9
            dsimp only [cel] at N9
            k_steps
            refine SrcG.tupleN 3 rfl F9 N9 (lies_at (thingsAt KX) ⟨rfl, _, rfl⟩) rfl (by decide) ?_
            intro g1'
            refine GRest.ind (IntsL fun i : Nat => P i) .nil (fun i2 ys2 v2 hi2 hJ2 hv2 => ?_) fun ys2 hJ2 => ?_
            · obtain rfl := strs3_item (f := th) (t := fun k => 546 + k.toNat) hi2 hv2
              refine ⟨_, fun C => asg_Name rfl rfl, ?_⟩
              intro I8 oI8 C8 oC8 D8 m8 h8 tk8 E8 hC8 hb8 F8 N8 off8 ne8
              have hx8 := hb8 _ (.head _)
              dsimp only at hx8
              clear hb8
              k_steps
              refine Halt.intro (get_spec K0 F8 KX (N8 (x, instObj SC dx) (by k_mem)).1 (N8 (dx, netD a1 a2 a3 a4 t1 t2 t3 t4 t5 dc dd true 4) (by k_mem)).1 (N8 (dd, od) (by k_mem)).1 hD (hnD _ (nat_in3 hi2)) T rfl (by decide) (by decide) ?_)
              intro h7 tk7 t7 F7 up7
              have N7 := N8.grown up7
              k_steps
              exact CompEnd.intro F7 N7 _ (fun _ h => h) off8 (lies_at (thingsAt KX) ⟨rfl, _, rfl⟩) ⟨rfl, hJ2.snocV (hP.at hp hB (nat_in3 hi2))⟩
            · obtain ⟨t, rfl⟩ := hJ2.three (P := P) (fun _ _ => rfl)
              clear hJ2
              k_steps
              rename_i D2 h6 tk6 F6 N6 o6'
              obtain ⟨z1, z2, z3, z4, z5, z6, y1, y2, y3, y4, y5, y6, y7, y8, y9, y10, y11, zo⟩ := o6'
              refine ⟨_, _, (I1, oI1) :: (tl, lsO ts.toArray cnt) :: cel L o1 o2 o3 o4 o5' o6 o7 o8 o9 o10 o11 ((D2, rowP P t) :: op'), rfl, F6, fun p hp => N6 p (memC (n4 := [(I9, oI9), (C9, oC9), (D9, lst ys), (K9, oK9), (I1, oI1), (tl, lsO ts.toArray cnt), (L + 1 + 1 + 1 + 1 + 1 + 1 + 1 + 1 + 1 + 1 + 1, o1), (L + 1 + 1 + 1 + 1 + 1 + 1 + 1 + 1 + 1 + 1, o2), (L + 1 + 1 + 1 + 1 + 1 + 1 + 1 + 1 + 1, o3), (L + 1 + 1 + 1 + 1 + 1 + 1 + 1 + 1, o4), (L + 1 + 1 + 1 + 1 + 1 + 1 + 1, o5'), (L + 1 + 1 + 1 + 1 + 1 + 1, o6), (L + 1 + 1 + 1 + 1 + 1, o7), (L + 1 + 1 + 1 + 1, o8), (L + 1 + 1 + 1, o9), (L + 1 + 1, o10), (L + 1, o11)]) hp), fun p hp => ?_, lies_news (by k_mem) ⟨rfl, _, rfl⟩, ⟨(D2, rowP P t) :: op', rfl, fun q hq => .tail _ (hs' q hq), ho'.cons ⟨Ne.symm y1, Ne.symm y2, Ne.symm y3, Ne.symm y4, Ne.symm y5, Ne.symm y6, Ne.symm y7, Ne.symm y8, Ne.symm y9, Ne.symm y10, Ne.symm y11⟩, List.forall_mem_cons.mpr ⟨⟨Ne.symm z6, Ne.symm z5⟩, ht'⟩, hr'.snoc⟩⟩
              rcases List.mem_cons.mp (memC (n4 := [(I1, oI1), (tl, lsO ts.toArray cnt), (L + 1 + 1 + 1 + 1 + 1 + 1 + 1 + 1 + 1 + 1 + 1, o1), (L + 1 + 1 + 1 + 1 + 1 + 1 + 1 + 1 + 1 + 1, o2), (L + 1 + 1 + 1 + 1 + 1 + 1 + 1 + 1 + 1, o3), (L + 1 + 1 + 1 + 1 + 1 + 1 + 1 + 1, o4), (L + 1 + 1 + 1 + 1 + 1 + 1 + 1, o5'), (L + 1 + 1 + 1 + 1 + 1 + 1, o6), (L + 1 + 1 + 1 + 1 + 1, o7), (L + 1 + 1 + 1 + 1, o8), (L + 1 + 1 + 1, o9), (L + 1 + 1, o10), (L + 1, o11)]) hp) with rfl | hp
              · exact ⟨Ne.symm z1, Ne.symm z2, Ne.symm z3, Ne.symm z4⟩
              · exact off9 p hp
          · obtain ⟨op', rfl, hs', ho', ht', hr'⟩ := hJ
            clear g1 g2 g3 g4 g5 g6 g7 g8 g9 g10 g11 N9 F9
            obtain ⟨g1, g2, g3, g4, g5, g6, g7, g8, g9, g10, g11⟩ := ho'
            replace hmx := hs' _ hmx
            dsimp only [cel]
            k_steps
            rename_i R hR tkR oR hR2 oR5 FR NR dR
            obtain ⟨r0, t0, hy0, hr0⟩ := hr'.at hpx
            have hsy : ys.toArray.size = itx.size := by rw [List.size_toArray]; exact hr'.1
            have hy0' : ys.toArray.toList[(0 : Int).toNat]? = some (.ref r0) := hy0
            refine SrcG.list rfl FR NR (lies_news (by k_mem) ⟨rfl, _, rfl⟩) (by rw [hsy, sizeLine_eq]; omega) fun g0 => ?_
            refine GRest.ind (fun i zs => zs = List.replicate i (.bool false)) rfl (fun j zs v hj hJ hv => ?_) fun zs hJ => ?_
            · rw [hsy] at hj
              obtain ⟨r1, t1, hy1, hr1⟩ := hr'.at hj
              obtain rfl : v = .ref r1 := by
                have : ys[j]? = some v := by simpa using hv
                rw [hy1] at this; exact (Option.some.inj this).symm
              refine ⟨_, fun C => asg_Name rfl rfl, ?_⟩
              intro I8 oI8 C8 oC8 D8 m8 h8 tk8 E8 hC8 hb8 F8 N8 off8 ne8
              have hx8 := hb8 _ (.head _)
              dsimp only at hx8
              clear hb8
              k_steps
              refine CompEnd.intro F8 N8 _ (fun _ h => h) off8 (lies_news (by k_mem) ⟨rfl, _, rfl⟩) ⟨rfl, ?_⟩
              rw [hJ, List.replicate_succ']
            · subst hJ
              k_steps
              rename_i Z1 hZ1 tkZ1 oZ1 hZ2 tkZ2 FZ NZ
              refine ⟨R, ys.toArray, ys.length, _, rfl, FZ, NZ, by k_mem, by rw [hsy]; omega, fun j v hv => ?_, ?_, ?_⟩
              · obtain ⟨r, t, rfl, hr⟩ := hr'.2 j v (by simpa using hv)
                exact ⟨r, #[.int (P 0) (t 0), .int (P 1) (t 1), .int (P 2) (t 2)], 3, rfl, by k_mem, (by show 3 ≤ 1000; decide), fun _ _ h => row_int h⟩
              · rintro u J8 oJ8 I8 oI8 C8 oC8 D8 oD8 m8 h8 tk8 E8 ⟨iu, tu, rfl⟩ hC8 hm8 F8 N8
                k_steps
                exact Halt.intro ⟨rfl, _, _, rfl, F8, N8⟩
              · intro Z2 hZ3 tkZ3 cZ FZ2 NZ2 oZ2
                have hts : ts.toArray.size ≤ sizeLine := by rw [List.size_toArray, sizeLine_eq]; omega
                have htl1 : ∀ p ∈ op', p.1 ≠ tl := fun p hp => (ht' p hp).1
                k_steps
                rename_i hZ4 tkZ4 FZ4 NZ4
                refine Halt.intro (append_mem (D := tl) (its := ts.toArray) (n := cnt) FZ4 NZ4 (by k_mem) hts fun hE FE mk => ?_)
                k_steps
                have hItl : I1 ≠ tl := Ne.symm (off9 (tl, _) (.head _))
                have offI1 : OffA L I1 := offA_of fun p hp => off9 p (.tail _ hp)
                refine FEnd.next ((tl, lsO (ts.toArray.push (.ref r0)) (cnt + 1)) :: cel L o1 o2 o3 o4 oR5 o6 o7 o8 o9 o10 o11 op') FE (mk ((I1, oI1) :: (tl, lsO (ts.toArray.push (.ref r0)) (cnt + 1)) :: cel L o1 o2 o3 o4 oR5 o6 o7 o8 o9 o10 o11 op') fun p hp => ?_) (fun p hp => hp) (fun p hp q hq => ?_) (lies_news (by have hTD := hs' _ (hsub _ (.head _)); k_mem) ⟨rfl, _, rfl⟩)
                  ⟨ts ++ [.ref r0], cnt + 1, oR5, _, op', fun z hz => (if_neg fun (e : z = Str.ofString "markets") => hz (e ▸ .head _)).trans (hm z hz), dR, (by rw [List.push_toArray]), fun q hq => hs' q (hsub q hq), ⟨g1, g2, g3, g4, g5, g6, g7, g8, g9, g10, g11⟩, htl1, hstep P t0 r0 op' hs' hr0 hP⟩
                · rcases List.mem_cons.mp hp with rfl | hp
                  · exact .inr ⟨by k_mem, hItl⟩
                  rcases List.mem_cons.mp hp with rfl | hp
                  · exact .inl rfl
                  · exact .inr ⟨.tail _ (.tail _ (.tail _ (.tail _ (.tail _ hp)))), cel_off offTl htl1 p hp⟩
                · obtain rfl := List.mem_singleton.mp hq
                  rcases List.mem_cons.mp hp with rfl | hp
                  · exact Ne.symm hItl
                  · exact cel_off offI1 (fun p hp => (ht' p hp).2) p hp
        · intro m₁ news₁ hh1 tk1 hJ F9 N9
          obtain ⟨ts, cnt, o5', v5, op, hm, d5', rfl, hsub, hoff, htl, htold⟩ := hJ
          obtain ⟨uu, rfl⟩ := ovs_ex hm
          obtain ⟨r, P, t, r2, P2, t2, rfl, ⟨hr, hP⟩, hr2, hP2⟩ : ∃ r P t r2 P2 t2, ts = [.ref r, .ref r2] ∧ ((r, rowP P t) ∈ op ∧ Priced W M P) ∧ (r2, rowP P2 t2) ∈ op ∧ Priced W2 M2 P2 := by
            rcases htold with ⟨e, _⟩ | ⟨e, _⟩ | ⟨_, h⟩
            · exact absurd e (by decide)
            · exact absurd e (by decide)
            · exact h
          have hsub' : ∀ q ∈ ops, q ∈ op := fun q hq => hsub q (hin1 q hq)
          replace m1 := hsub' _ m1
          replace m2 := hsub' _ m2
          replace m3 := hsub' _ m3
          replace m4 := hsub' _ m4
          replace m5 := hsub' _ m5
          replace m6 := hsub' _ m6
          replace mk := mk.mono hsub'
          replace mk2 := mk2.mono hsub'
          have hTD := hsub _ (.head _)
          clear f1 f2 f3 f4 f5 f6 f7 f8 f9 f10 f11 ND ND' FD htold hin1 hsub hsub'
          obtain ⟨f1, f2, f3, f4, f5, f6, f7, f8, f9, f10, f11⟩ := hoff
          replace F9 : Fr s1.heap L hh1 _ := F9
          replace N9 : News s1.heap L hh1 _ := N9
          dsimp only [cel] at N9
          have hits0 : ∃ v, its.toList[0]? = some v := ⟨its.toList[0]'(by rw [Array.length_toList]; exact hpos), List.getElem?_eq_getElem _⟩
          obtain ⟨v0, hv0⟩ := hits0
          obtain ⟨p, hp, tp, x, n', rfl, htp, dx, dc, dd, od, a1, a2, a3, a4, t1, t2, t3, t4, t5, D, nD, kd, _, _, _, _, _, hB⟩ := Paired.right mk hv0
          have hv0' : its.toList[(0 : Int).toNat]? = some (.ref tp) := hv0
          k_steps
          rename_i o4' F4 N4 d4' hR tkR t1' u1' v1' isR FR NR upR
          have hp6 := bestOf_lt hp
          have hway := wayAt KX hp6
          refine ⟨3, fun _ => True, _, JI _ tl r r2 cnt L o1 o4' o5' o7 o8 o9 o10 o11 op, _, _, FR, NR, trivial, ⟨o2, o3, o6, none, none, none, fun _ _ => rfl, d2, d3, d6, rfl⟩, fun Q E kk => it_range rfl isR rfl rfl kk, ?_, ?_⟩
          · intro j vj m₁ news₁ I1 oI1 hh2 tk2 E2 hj hvj hJ _ F8 N8 off8
            obtain ⟨o2', o3', o6', v2, v3, v6, hm1, d2', d3', d6', rfl⟩ := hJ
            obtain ⟨u4, rfl⟩ := ovs_ex hm1
            obtain ⟨tj, rfl⟩ := hvj
            rw [Int.zero_add]
            obtain ⟨ii, hii⟩ : ∃ ii : Int, ii = (j : Int) := ⟨_, rfl⟩
            have hi3 : In3 ii := hii ▸ nat_in3 hj
            rw [← hii]
            replace F8 : Fr s1.heap L hh2 _ := F8
            replace N8 : News s1.heap L hh2 _ := N8
            have offI1 : OffA L I1 := offA_of fun p hp => off8 p (.tail _ hp)
            have hItl : tl ≠ I1 := off8 (tl, _) (.head _)
            have offIop : ∀ p ∈ op, p.1 ≠ I1 := fun p hp => off8 p (.tail _ (.tail _ (.tail _ (.tail _ (.tail _ (.tail _ (.tail _ (.tail _ (.tail _ (.tail _ (.tail _ (.tail _ hp)))))))))))) 
            have offI2 := offI1
            have offTl2 := offTl
            unfold OffA at offI2 offTl2
            dsimp only [cel] at N8
            k_steps
            rename_i o6n FN6 NN6 d6n hRR tkRR ta1 tb1 tc1 isR2 FR2 NR2 upR2
            refine SrcG.range (n := 3) rfl FR2 NR2 isR2 rfl rfl (by decide) ?_
            intro g9
            refine GRest.oth ii ?_ fun a b3 ta tb3 hab => ?_
            · rcases hi3 with rfl | rfl | rfl
              · refine GRest.oneIf rfl rfl (fun v hv I9 oI9 C9 oC9 D9 m9 h9 tk9 E9 hC9 hx9 F9 N9 off9 ne9 => ?_)
                obtain ⟨tv0, rfl⟩ : ∃ t, v = .int 0 t := hv
                k_steps
                refine CompEnd.intro F9 N9 _ (fun _ h => h) off9 trivial ?_
                clear hC9 hx9 ne9 F9 N9 off9
                refine GRest.oneIf rfl rfl (fun v hv I9 oI9 C9 oC9 D9 m9 h9 tk9 E9 hC9 hx9 F9 N9 off9 ne9 => ?_)
                obtain ⟨tv1, rfl⟩ : ∃ t, v = .int 1 t := hv
                k_steps
                refine CompEnd.intro F9 N9 _ (fun _ h => h) off9 trivial ?_
                clear hC9 hx9 ne9 F9 N9 off9
                refine GRest.oneIf rfl rfl (fun v hv I9 oI9 C9 oC9 D9 m9 h9 tk9 E9 hC9 hx9 F9 N9 off9 ne9 => ?_)
                obtain ⟨tv2, rfl⟩ : ∃ t, v = .int 2 t := hv
                k_steps
                refine CompEnd.intro F9 N9 _ (fun _ h => h) off9 trivial ?_
                clear hC9 hx9 ne9 F9 N9 off9
                exact GRest.zero ⟨rfl, 1, 2, tv1, tv2, rfl, .inl ⟨rfl, rfl, rfl⟩⟩
              · refine GRest.oneIf rfl rfl (fun v hv I9 oI9 C9 oC9 D9 m9 h9 tk9 E9 hC9 hx9 F9 N9 off9 ne9 => ?_)
                obtain ⟨tv0, rfl⟩ : ∃ t, v = .int 0 t := hv
                k_steps
                refine CompEnd.intro F9 N9 _ (fun _ h => h) off9 trivial ?_
                clear hC9 hx9 ne9 F9 N9 off9
                refine GRest.oneIf rfl rfl (fun v hv I9 oI9 C9 oC9 D9 m9 h9 tk9 E9 hC9 hx9 F9 N9 off9 ne9 => ?_)
                obtain ⟨tv1, rfl⟩ : ∃ t, v = .int 1 t := hv
                k_steps
                refine CompEnd.intro F9 N9 _ (fun _ h => h) off9 trivial ?_
                clear hC9 hx9 ne9 F9 N9 off9
                refine GRest.oneIf rfl rfl (fun v hv I9 oI9 C9 oC9 D9 m9 h9 tk9 E9 hC9 hx9 F9 N9 off9 ne9 => ?_)
                obtain ⟨tv2, rfl⟩ : ∃ t, v = .int 2 t := hv
                k_steps
                refine CompEnd.intro F9 N9 _ (fun _ h => h) off9 trivial ?_
                clear hC9 hx9 ne9 F9 N9 off9
                exact GRest.zero ⟨rfl, 0, 2, tv0, tv2, rfl, .inr (.inl ⟨rfl, rfl, rfl⟩)⟩
              · refine GRest.oneIf rfl rfl (fun v hv I9 oI9 C9 oC9 D9 m9 h9 tk9 E9 hC9 hx9 F9 N9 off9 ne9 => ?_)
                obtain ⟨tv0, rfl⟩ : ∃ t, v = .int 0 t := hv
                k_steps
                refine CompEnd.intro F9 N9 _ (fun _ h => h) off9 trivial ?_
                clear hC9 hx9 ne9 F9 N9 off9
                refine GRest.oneIf rfl rfl (fun v hv I9 oI9 C9 oC9 D9 m9 h9 tk9 E9 hC9 hx9 F9 N9 off9 ne9 => ?_)
                obtain ⟨tv1, rfl⟩ : ∃ t, v = .int 1 t := hv
                k_steps
                refine CompEnd.intro F9 N9 _ (fun _ h => h) off9 trivial ?_
                clear hC9 hx9 ne9 F9 N9 off9
                refine GRest.oneIf rfl rfl (fun v hv I9 oI9 C9 oC9 D9 m9 h9 tk9 E9 hC9 hx9 F9 N9 off9 ne9 => ?_)
                obtain ⟨tv2, rfl⟩ : ∃ t, v = .int 2 t := hv
                k_steps
                refine CompEnd.intro F9 N9 _ (fun _ h => h) off9 trivial ?_
                clear hC9 hx9 ne9 F9 N9 off9
                exact GRest.zero ⟨rfl, 0, 1, tv0, tv1, rfl, .inr (.inr ⟨rfl, rfl, rfl⟩)⟩
            · obtain ⟨_, ha3, hb3⟩ := hab.in3
              have hwa := mem3 ha3 m4 m5 m6
              have hwb := mem3 hb3 m4 m5 m6
              k_steps
              rename_i DL hDL tkDL oDL hDL2 hDL3 o3n d3n hDL4 o2n FDL NDL d2n
              refine SrcG.tupleN 6 rfl FDL NDL (lies_at (waysAt KX) ⟨rfl, _, rfl⟩) rfl (by decide) ?_
              intro g9
              refine GRest.ind (IntsL (two W a b3)) .nil (fun j2 ys v hj2 hJ hv => ?_) fun ys hJ => ?_
              · obtain rfl := ways_item hj2 hv
                refine ⟨_, fun C => asg_triple rfl (tup_at (wayAt KX hj2) rfl rfl) rfl rfl rfl rfl (by decide) (by decide) (by decide), ?_⟩
                intro I9 oI9 C9 oC9 D9 m9 h9 tk9 E9 hC9 hb9 F9 N9 off9 ne9
                have hx := hb9 _ (.head _)
                have hy := hb9 _ (.tail _ (.head _))
                have hz := hb9 _ (.tail _ (.tail _ (.head _)))
                dsimp only at hx hy hz
                clear hb9
                have j0 := wy_in hj2 (show In3 0 from .inl rfl)
                have j1 := wy_in hj2 (show In3 1 from .inr (.inl rfl))
                k_steps
                exact CompEnd.intro F9 N9 _ (fun _ h => h) off9 (lies_at (waysAt KX) ⟨rfl, _, rfl⟩) ⟨rfl, hJ.snoc⟩
              · obtain ⟨s0, s1', s2, s3, s4, s5, rfl⟩ := hJ.six
                clear hJ
                have hw1 := wy_in hp6 hi3
                have hw2 := wy_in hp6 ha3
                have hw3 := wy_in hp6 hb3
                k_steps
                · exact absurd (hP.pay hp hB hab (by assumption) (by assumption)) (by assumption)
                · rename_i FM NM _ _
                  refine FEnd.next ((tl, lsO #[.ref r, .ref r2] cnt) :: cel L o1 o2n o3n o4' o5' o6n o7 o8 o9 o10 o11 op) FM NM (fun p hp => .tail _ (.tail _ hp)) (fun p hp q hq => ?_) trivial ⟨o2n, o3n, o6n, _, _, _, fun z hz => (if_neg fun (e : z = Str.ofString "most") => hz (e ▸ .head _)).trans (hm1 z hz), d2n, d3n, d6n, rfl⟩
                  obtain rfl := List.mem_singleton.mp hq
                  rcases List.mem_cons.mp hp with rfl | hp
                  · exact hItl
                  · exact cel_off offI1 offIop p hp
          · intro m₁ news₁ hh2 tk2 hJ F8 N8
            obtain ⟨o2n, o3n, o6n, v2, v3, v6, hm1, d2n, d3n, d6n, rfl⟩ := hJ
            obtain ⟨u4, rfl⟩ := ovs_ex hm1
            replace F8 : Fr s1.heap L hh2 _ := F8
            replace N8 : News s1.heap L hh2 _ := N8
            have offTl2 := offTl
            unfold OffA at offTl2
            dsimp only [cel] at N8
            have hwb := mem3 hb m4 m5 m6
            have hw1 := wy_in hp6 hb
            have hits2' : ∀ (i : Nat) (v : Value), its2[i]? = some v → its2.toList[i]? = some v := fun i v h => by rw [Array.getElem?_toList]; exact h
            k_steps
            rename_i hG o1n FG NG dG
            refine SrcG.list rfl FG NG (lies_news (by k_mem) ⟨rfl, _, rfl⟩) (by rw [sizeLine_eq]; omega) fun g0 => ?_
            refine GRest.ind (fun i zs => zs = List.replicate i (.bool true)) rfl (fun j zs v hj hJ hv => ?_) fun zs hJ => ?_
            · obtain ⟨p2, hp2, tp2, x2, n2', rfl, htp2, dx2, dc2, dd2, od2, a1', a2', a3', a4', t1', t2', t3', t4', t5', D2, nD2, kd2, _, _, _, _, _, hB2⟩ := Paired.right mk2 (hits2' _ _ hv)
              refine ⟨_, fun C => asg_pair rfl (tup_news (by k_mem) rfl rfl) rfl rfl rfl (by decide), ?_⟩
              intro I9 oI9 C9 oC9 D9 m9 h9 tk9 E9 hC9 hb9 F9 N9 off9 ne9
              have hx9 := hb9 _ (.head _)
              dsimp only at hx9
              clear hb9
              have hway2 := wayAt KX (bestOf_lt hp2)
              have hw2 := wy_in (bestOf_lt hp2) hb
              k_steps
              have e := no_gain hb hW2 hP hP2 hp hp2 hB hB2
              exact CompEnd.intro F9 N9 _ (fun _ h => h) off9 (lies_news (by k_mem) ⟨rfl, _, rfl⟩) ⟨rfl, by rw [hJ, List.replicate_succ', decide_eq_true e]⟩
            · subst hJ
              k_steps
              exact fin _ _ _ (by assumption))
end Mine
end

theorem PySem.Challenge.cw_fq5045_02_holds : PySem.Challenge.rw_fq5045_02.Holds := by
  exact Mine.main_law
