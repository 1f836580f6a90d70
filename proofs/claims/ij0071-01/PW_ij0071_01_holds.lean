import PyProof.Rows.All
import Wide.All
import OpenK.AllK
import Wide.FinOn
import PySem.Challenge.RW_ij0071_01
open PySem PySem.W PySem.Calls PyProof.Rows
set_option Elab.async false
set_option maxRecDepth 100000
set_option maxHeartbeats 8000000
namespace Mine
open_top hd for PySem.Challenge.rw_ij0071_01
/-- a mark that the walk does not open -/
def Stop (P : Prop) : Prop := P
theorem Stop.out {P : Prop} (h : Stop P) : P := h
theorem Stop.intro {P : Prop} (h : P) : Stop P := h
/-- the surroundings of a call, written out -/
abbrev AA (dp un : Nat) (fr : Option (List Env)) (gd : Option (List Code)) : Around := { handled := none, depth := dp, frames := fr, guards := gd, units := un }
def Led (h₀ h : Heap) (news : List (Addr × Obj)) : Prop :=
  (∀ b o, h₀.get? b = some o → h.get? b = some o) ∧ ∀ p ∈ news, h.get? p.1 = some p.2 ∧ h₀.get? p.1 = none
theorem execs_cons_pos {M : Model} {A : Around} {E : Value → Shared → Prop} {s : Shared} {env : Env} {st : Stmt} {rest : List Stmt} {Q : Flow → Shared → Prop} (h0 : 0 < s.toks)
    (h : wpAny M A (exec st env) (fun f s' => 0 < s'.toks → (match f with | .next => wpAny M A (execs rest env) Q E s' | f => Q f s')) E s) : wpAny M A (execs (st :: rest) env) Q E s :=
  wpAny_execs_cons (wpAny_mono (wpAny_toks_of (n := 1) h0 h) (fun _ _ x => x.2 x.1) fun _ _ x => x.2)
def KeepsEnd (s : Shared) (g : Heap) (L : Addr) (news : List (Addr × Obj)) : Prop :=
  ∀ h' tk m' news', Fr g L h' m' → News g L h' news' → (∀ p ∈ news, p ∈ news') → Keeps s { s with heap := h', toks := tk }
theorem enterN {prog : Program} {w : World} {A : Around} {s : Shared} {Q E : Value → Shared → Prop} {name qual : Str} {params : Arguments} {body : List Stmt} {scope : Scope}
    {dV kV doc pm cdv ct oc : Value} {an od : Option Addr} {osl : Array (Option Value)} {f : Addr} {args : List Value} {binds : List (Str × Value)} {K : Frag} {h₀ : Heap}
    {p : Program} {loose : List Str} {mean : ExcName → Option Value} {mg mb : Str → Option Value} {news : List (Addr × Obj)}
    (X : K.In h₀) (T : Top p loose mean mg mb h₀) (D : Led h₀ s.heap news) (ho : K.lookup f = some ⟨oc, od, .func (fnOf name qual params body scope dV kV doc pm an cdv ct), osl⟩) (hcd : codeIn K cdv qual = true)
    (hroom : A.depth < recursionLimit) (hbind : ∀ (_ : K.In s.heap), BindsTo s (fnOf name qual params body scope dV kV doc pm an cdv ct) ⟨args, []⟩ binds)
    (hloc : ∀ y ∈ binds, scope.names.lookup y.1 = some .local)
    (h : ∀ g L h₁, K.In g → Top p loose mean mg mb g → Fr g L h₁ (fun y => binds.reverse.lookup y) → News g L h₁ news → KeepsEnd s g L news →
      wpAny (model prog w) (A.deeper (envOf qual scope L f cdv)) (execs body (envOf qual scope L f cdv))
        (fun fl s' => Q (match fl with | .ret v => v | _ => .none) s') (fun _ _ => False) { s with heap := h₁, toks := s.toks + binds.length })
    (hcell : ∀ x ∈ scope.names, x.2 ≠ .cell := by decide)
    (hco : scope.isCoroutine = false := by rfl) (hgen : scope.isGenerator = false := by rfl) (hk : scope.kind = .function := by rfl) :
    wpAny (model prog w) A (call (.ref f) args) Q E s := by
  have Xs : K.In s.heap := X.keeps D.1
  have nm : ∀ b o, h₀.get? b = some o → b ∉ news.map (·.1) := fun b o e q => by
    obtain ⟨p, hp, rfl⟩ := List.mem_map.mp q
    rw [(D.2 p hp).2] at e; cases e
  have st : ∀ b o, h₀.get? b = some o → (hideAll s.heap (news.map (·.1))).get? b = some o := fun b o e => hideAll_get _ (D.1 b o e) (nm b o e)
  refine wpAny_call (codeAny_call_def (fd := fnOf name qual params body scope dV kV doc pm an cdv ct) (body := body) (binds := binds) hroom (Xs _ _ ho) rfl (T.nolimit.keeps D.1) (codeRec_of Xs hcd) rfl (hbind Xs) hcell hloc (fun h₁ hns hk₁ => ?_) hco hgen hk)
  refine wpAny_mono (h (hideAll s.heap (news.map (·.1))) s.heap.objs.size h₁ (X.keeps st) (T.keeps st) ⟨hns, fun b o e => hk₁ b o (of_hideAll _ e), Nat.le_of_eq (hideAll_size _ _)⟩
    (fun p hp => ⟨hk₁ _ _ (D.2 p hp).1, Nat.ne_of_lt (Heap.lt_size (D.2 p hp).1), hideAll_none _ (List.mem_map_of_mem hp)⟩) ?_) (fun _ _ q => q) fun _ _ q => q.elim
  intro h' tk m' news' F N hsub
  refine ⟨h', tk, rfl, fun b o e => ?_⟩
  by_cases hb : b ∈ news.map (·.1)
  · obtain ⟨p, hp, rfl⟩ := List.mem_map.mp hb
    have h1 := (D.2 p hp).1
    rw [e] at h1
    have h2 := (N p (hsub p hp)).1
    rw [h2, ← h1]
  · exact F.keep b o (hideAll_get _ e hb)
theorem enterF {prog : Program} {w : World} {A : Around} {s : Shared} {Q E : Value → Shared → Prop} {name qual : Str} {params : Arguments} {body : List Stmt} {scope : Scope}
    {dV kV doc pm cdv ct oc : Value} {an od : Option Addr} {osl : Array (Option Value)} {f : Addr} {args : List Value} {binds : List (Str × Value)} {K : Frag}
    {p : Program} {loose : List Str} {mean : ExcName → Option Value} {mg mb : Str → Option Value}
    (X : K.In s.heap) (T : Top p loose mean mg mb s.heap) (ho : K.lookup f = some ⟨oc, od, .func (fnOf name qual params body scope dV kV doc pm an cdv ct), osl⟩) (hcd : codeIn K cdv qual = true)
    (hroom : A.depth < recursionLimit) (hbind : BindsTo s (fnOf name qual params body scope dV kV doc pm an cdv ct) ⟨args, []⟩ binds)
    (hloc : ∀ y ∈ binds, scope.names.lookup y.1 = some .local)
    (h : ∀ L h₁, Fr s.heap L h₁ (fun y => binds.reverse.lookup y) →
      wpAny (model prog w) (A.deeper (envOf qual scope L f cdv)) (execs body (envOf qual scope L f cdv))
        (fun fl s' => Q (match fl with | .ret v => v | _ => .none) s') (fun _ _ => False) { s with heap := h₁, toks := s.toks + binds.length })
    (hcell : ∀ x ∈ scope.names, x.2 ≠ .cell := by decide)
    (hco : scope.isCoroutine = false := by rfl) (hgen : scope.isGenerator = false := by rfl) (hk : scope.kind = .function := by rfl) :
    wpAny (model prog w) A (call (.ref f) args) Q E s := by
  refine wpAny_call (codeAny_call_def (fd := fnOf name qual params body scope dV kV doc pm an cdv ct) (body := body) (binds := binds) hroom (X _ _ ho) rfl T.nolimit (codeRec_of X hcd) rfl hbind hcell hloc (fun h₁ hns hk₁ => ?_) hco hgen hk)
  exact wpAny_mono (h s.heap.objs.size h₁ ⟨hns, hk₁, Nat.le_refl _⟩) (fun _ _ q => q) fun _ _ q => q.elim
theorem replM {prog : Program} {w : World} {A : Around} {E : Value → Shared → Prop} {s : Shared} {x y z : Str} {t : Tok} {u v : Nat} {Q : Value → Shared → Prop}
    (hu : 0 < u) (hv : 0 < v) (huv : u ≠ v) (hyz : (y == z) = false) (hx : x.length ≤ 1000000) (hz : z.length ≤ 14)
    (hq : ∀ t' k, Q (.str (Txt.replace x y z) t') { s with toks := k }) : wpAny (model prog w) A (call (.builtin "str.replace") [.str x t, .str y u, .str z v]) Q E s :=
  SC.replaceW (Nat.ne_of_gt hu) (Nat.ne_of_gt hv) huv hyz (by omega) hz hq
theorem use_keeps {M : Model} {A : Around} {E : Value → Shared → Prop} {s : Shared} {tr : Sem Value} {P : Value → Prop} {Q : Value → Shared → Prop} {h₀ : Heap} {L : Addr} {m : Str → Option Value} {news : List (Addr × Obj)}
    (ht : 0 < s.toks) (F : Fr h₀ L s.heap m) (N : News h₀ L s.heap news) (C : wpAny M A tr (fun v s' => P v ∧ Keeps s s') (fun _ _ => False) s)
    (h : ∀ v h' tk, P v → 0 < tk → (∀ b o, s.heap.get? b = some o → h'.get? b = some o) → Fr h₀ L h' m → News h₀ L h' news → Q v { s with heap := h', toks := tk }) : wpAny M A tr Q E s := by
  refine wpAny_mono (wpAny_toks_of (n := 1) ht C) (fun v s' hv => ?_) fun _ _ x => x.2.elim
  obtain ⟨hp, hP, h', tk, rfl, hk⟩ := hv
  exact h v h' tk hP hp hk (F.keeps hk) (N.grown hk)
theorem upd1 {m : Str → Option Value} {a : Str} {v : Value} (h : m a = some v) : ∃ u : Str → Option Value, m = fun y => if y = a then some v else u y :=
  ⟨m, funext fun y => by by_cases q : y = a <;> simp [q, h]⟩
theorem upd2 {m : Str → Option Value} {a b : Str} {v w : Value} (h : m a = some v) (h' : m b = some w) : ∃ u : Str → Option Value, m = fun y => if y = a then some v else if y = b then some w else u y := by
  obtain ⟨u, e⟩ := upd1 h'
  refine ⟨u, funext fun y => ?_⟩
  by_cases q : y = a
  · rw [if_pos q, q, h]
  · rw [if_neg q]; exact congrFun e y
theorem upd3 {m : Str → Option Value} {a b c : Str} {v w x : Value} (h : m a = some v) (h' : m b = some w) (h'' : m c = some x) :
    ∃ u : Str → Option Value, m = fun y => if y = a then some v else if y = b then some w else if y = c then some x else u y := by
  obtain ⟨u, e⟩ := upd2 h' h''
  refine ⟨u, funext fun y => ?_⟩
  by_cases q : y = a
  · rw [if_pos q, q, h]
  · rw [if_neg q]; exact congrFun e y
theorem enterFC {prog : Program} {w : World} {A : Around} {s : Shared} {Q E : Value → Shared → Prop} {name qual : Str} {params : Arguments} {body : List Stmt} {scope : Scope}
    {dV kV doc pm cdv ct oc : Value} {an od : Option Addr} {osl : Array (Option Value)} {f : Addr} {args : List Value} {binds : List (Str × Value)} {K : Frag}
    {p : Program} {loose : List Str} {mean : ExcName → Option Value} {mg mb : Str → Option Value}
    (X : K.In s.heap) (T : Top p loose mean mg mb s.heap) (ht : 0 < s.toks) (ho : K.lookup f = some ⟨oc, od, .func (fnOf name qual params body scope dV kV doc pm an cdv ct), osl⟩) (hcd : codeIn K cdv qual = true)
    (hroom : A.depth < recursionLimit) (hbind : BindsTo s (fnOf name qual params body scope dV kV doc pm an cdv ct) ⟨args, []⟩ binds)
    (hkind : (binds.all fun y => scope.names.lookup y.1 == some .local || scope.names.lookup y.1 == some .cell) = true)
    (hnd : ((cellsFrom 0 scope.names []).map (·.1)).Nodup)
    (h : ∀ L h₁ tk cells, 0 < tk → Fr s.heap L h₁ (bindL (envOfC qual scope L f cdv).kindOf binds fun _ => none) → News s.heap L h₁ cells →
      CellsAre (bindC (envOfC qual scope L f cdv).kindOf binds fun _ => none) (cellsFrom (L + 1) scope.names []) cells →
      wpAny (model prog w) (A.deeper (envOfC qual scope L f cdv)) (execs body (envOfC qual scope L f cdv))
        (fun fl s' => Q (match fl with | .ret v => v | _ => .none) s') (fun _ _ => False) { s with heap := h₁, toks := tk })
    (hco : scope.isCoroutine = false := by rfl) (hgen : scope.isGenerator = false := by rfl) (hk : scope.kind = .function := by rfl) :
    wpAny (model prog w) A (call (.ref f) args) Q E s := by
  refine wpAny_call (codeAny_call_function hroom (X _ _ ho) rfl hco hgen rfl (codeRec_of X hcd) (hbind _ _ _ _ ?_))
  refine wpAny_with_toks (n := 1) ht (wpAny_newFunctionEnv_cells hk (kindsX hkind _) fun env' he s' x hpos => ?_)
  subst he
  refine ⟨T.nolimit.keeps x.toInCall.keep, codeAny_func ?_⟩
  obtain ⟨h₁, tk, rfl, _⟩ := x.done
  obtain ⟨cells, NC, Y⟩ := Cl.news (h₀ := s.heap) (Nat.le_refl _) fun n c hm => ⟨x.cell n c (lookup_of_mem_nodup (cellsFrom_names scope.names 0 (s.heap.objs.size + 1) [] [] rfl ▸ hnd) hm), x.above n c hm⟩
  exact wpAny_mono (h s.heap.objs.size h₁ tk cells hpos ⟨x.toInCall.ns, x.toInCall.keep, Nat.le_refl _⟩ NC Y) (fun _ _ q => q) fun _ _ q => q.elim
theorem pos_end {α : Type} {M : Model} {A : Around} {s : Shared} {t : Sem α} {Q : α → Shared → Prop} (hn : 0 < s.toks) (h : wpAny M A t (fun a s' => 0 < s'.toks → Q a s') (fun _ _ => False) s) : wpAny M A t Q (fun _ _ => False) s :=
  wpAny_mono (wpAny_toks_of (n := 1) hn h) (fun _ _ x => x.2 x.1) fun _ _ x => x.2
/-- a hypothesis that turns a Stop rule on -/
inductive Mode : Nat → Prop
  | intro (n : Nat) : Mode n
section
variable {prog : Program} {w : World} {A : Around} {E : Value → Shared → Prop} {s : Shared}
/-- one item of a dict whose entries are all written: the very key comes out, with its token -/
theorem items_item {it d : Addr} {i ep : Nat} {es : List DictEntry} {e : DictEntry} {ok ov : Value} {Q : Option Value → Shared → Prop}
    (hit : IsItemIter s.heap it d i es.length ep ok ov) (hod : s.heap.get? d = some (dictOf es ep)) (hx : es[i]? = some e)
    (hQ : ∀ h', IsItemIterOut h' it d (i + 1) es.length ep e.key e.val s.heap.objs.size →
      h'.get? s.heap.objs.size = some { cls := .type "tuple", data := .seq #[e.key, e.val] } → h'.objs.size = s.heap.objs.size + 1 →
      (∀ b o, b ≠ it → s.heap.get? b = some o → h'.get? b = some o) → Q (some (.ref s.heap.objs.size)) { s with heap := h' }) :
    wpAny (model prog w) A (pyNext (.ref it)) Q E s := by
  obtain ⟨hp, g, dr, tk, os⟩ := s
  have hT : Shared.TypeIs ⟨hp, g, dr, tk, os⟩ (.ref it) "dict_itemiterator" := ⟨_, hit, rfl⟩
  have hlt : i < es.length := (List.getElem?_eq_some_iff.mp hx).1
  have hgt : es.toArray[i]? = some e := by rw [List.getElem?_toArray]; exact hx
  unfold pyNext
  refine wpAny_bind (wpAny_attempt (wpAny_callSpecial?_slot (name := Str.ofString "__next__") hT PySem.F.slot_dict_itemiterator_next
    (wpAny_call_entry PySem.F.slot_dict_itemiterator_next hT PySem.F.entry_dict_itemiterator_next ?_ (PySem.F.args_dict_itemiterator_next_1 _))))
  refine wpAny_bind (wpAny_pure (wpAny_bind (wpAny_bind (wpAny_bind (wpAny_typeNameOfWhole_itemiter hT (wpAny_pure (wpAny_bind (wpAny_fieldsOf hit rfl ?_))))))))
  rw [if_pos (show Builtin.Dict_items.ownsTuple "dict_itemiterator" = true by decide)]
  show wpAny _ _ (if (Value.ref d == Value.none) = true then _ else _) _ _ _
  rw [if_neg (show ¬ ((Value.ref d == Value.none) = true) from Bool.false_ne_true)]
  refine wpAny_bind (wpAny_pure (wpAny_bind (wpAny_dictEntries hod rfl ?_)))
  rw [if_neg (by simp)]
  refine wpAny_bind (wpAny_pure (wpAny_bind (wpAny_dictEpoch hod rfl ?_)))
  rw [if_neg (by simp)]
  refine wpAny_pure ?_
  simp only [show ¬ ((i : Int) < 0) from by omega, if_false, Int.toNat_natCast, hgt]
  refine wpAny_bind (wpAny_bind (wpAny_typeNameOfWhole_itemiter hT (wpAny_pure (wpAny_bind (wpAny_isOneOf_itemiter hT ?_)))))
  show wpAny _ _ (setField (.ref it) 3 (rawInt ((i : Int) + 1)) >>= _) _ _ ⟨hp, g, dr, tk, os⟩
  refine wpAny_bind (wpAny_setField_rec hit (by simp) fun h₁ he₁ hs₁ => ?_)
  have c₁ : IsItemIter h₁ it d (i + 1) es.length ep ok ov := by
    have e0 : ((i + 1 : Nat) : Int) = (i : Int) + 1 := by omega
    unfold IsItemIter; rw [e0]; simpa [rawInt] using he₁
  have hT₁ : Shared.TypeIs ⟨h₁, g, dr, tk, os⟩ (.ref it) "dict_itemiterator" := ⟨_, c₁, rfl⟩
  refine wpAny_bind (wpAny_holding (wpAny_bind (wpAny_isOneOf_itemiter hT₁ (wpAny_bind (wpAny_isOneOf_itemiter hT₁ ?_)))))
  show wpAny _ _ (Builtin.Dict_items.pairFromOwner (.ref it) 6 e.key e.val) _ _ ⟨h₁, g, dr, tk, os⟩
  unfold Builtin.Dict_items.pairFromOwner
  refine wpAny_bind (wpAny_newTuple ?_)
  have sz₁ : h₁.objs.size = hp.objs.size := hs₁.1
  have hil : it < hp.objs.size := Heap.lt_size hit
  have new₂ : (h₁.push { cls := .type "tuple", data := .seq #[e.key, e.val] }).get? hp.objs.size = some { cls := .type "tuple", data := .seq #[e.key, e.val] } := by
    rw [← sz₁]; exact Heap.get?_push_size _ rfl
  have c₂ : IsItemIter (h₁.push { cls := .type "tuple", data := .seq #[e.key, e.val] }) it d (i + 1) es.length ep ok ov := Heap.get?_push_of_some _ c₁
  have k₂ : ∀ b o, b ≠ it → hp.get? b = some o → (h₁.push { cls := .type "tuple", data := .seq #[e.key, e.val] }).get? b = some o := fun b o hb x => Heap.get?_push_of_some _ (hs₁.extBut b o hb x)
  have sz₂ : (h₁.push { cls := .type "tuple", data := .seq #[e.key, e.val] }).objs.size = hp.objs.size + 1 := by rw [Heap.size_push, sz₁]
  generalize h₁.push { cls := .type "tuple", data := .seq #[e.key, e.val] } = h₂ at new₂ c₂ k₂ sz₂
  show wpAny _ _ (Builtin.Dict_items.ownedTupleIsFree (.ref it) >>= _) _ _ ⟨h₂, g, dr, tk, os⟩
  rw [sz₁]
  unfold Builtin.Dict_items.ownedTupleIsFree
  refine wpAny_bind (wpAny_bind (wpAny_field c₂ rfl (x := .none) rfl (wpAny_pure ?_)))
  rw [if_pos rfl]
  refine wpAny_bind (wpAny_field c₂ rfl (x := ok) rfl (wpAny_bind (wpAny_field c₂ rfl (x := ov) rfl ?_)))
  refine wpAny_bind (wpAny_setField_rec c₂ (by simp) fun h₃ c₃ b₃ => wpAny_bind (wpAny_setField_rec (s := ⟨h₃, g, dr, tk, os⟩) c₃ (by simp) fun h₄ c₄ b₄ =>
    wpAny_bind (wpAny_setField_rec (s := ⟨h₄, g, dr, tk, os⟩) c₄ (by simp) fun h₅ c₅ b₅ => wpAny_bind (wpAny_setField_rec (s := ⟨h₅, g, dr, tk, os⟩) c₅ (by simp) fun h₆ c₆ b₆ => ?_))))
  have up : ∀ b o, b ≠ it → h₂.get? b = some o → h₆.get? b = some o := fun b o hb x => b₆.extBut b o hb (b₅.extBut b o hb (b₄.extBut b o hb (b₃.extBut b o hb x)))
  refine wpAny_bind (wpAny_letGo (wpAny_pure (wpAny_pure ⟨_, rfl, wpAny_pure (hQ h₆ c₆ (up _ _ (Nat.ne_of_gt hil) new₂) ?_ fun b o hb x => up b o hb (k₂ b o hb x))⟩)))
  show h₆.objs.size = hp.objs.size + 1
  rw [b₆.1, b₅.1, b₄.1, b₃.1, sz₂]
end
/-- a table's entries: the key, its token, the reference, its token -/
abbrev Ent := Str × Tok × Str × Tok
def entOf (w : World) (e : Ent) : DictEntry := ⟨hashStr w e.1, .str e.1 e.2.1, .str e.2.2.1 e.2.2.2⟩
def tabO (w : World) (es : List Ent) (ep : Nat) : Obj := dictOf (es.map (entOf w)) ep
structure EntOk (e : Ent) : Prop where
  tk : 0 < e.2.1
  tr : 0 < e.2.2.2
  ne : e.2.1 ≠ e.2.2.2
  kr : (e.1 == e.2.2.1) = false
  len : e.2.2.1.length ≤ 14
  klen : e.1.length ≤ 14
def prs (es : List Ent) : List (Str × Value) := es.map fun e => (e.1, .str e.2.2.1 e.2.2.2)
theorem tab_at {prog : Program} {w : World} {h : Heap} {d : Addr} {es : List Ent} {ep : Nat} (ho : h.get? d = some (tabO w es ep)) (hn : (es.map (·.1)).Nodup) :
    h.DictAt (strKind prog w) d (prs es) ep := by
  refine ⟨_, _, ho, ⟨rfl, rfl, rfl⟩, rfl, ?_, ?_, ?_⟩
  · intro e he
    rw [List.mem_toArray] at he
    obtain ⟨x, _, rfl⟩ := List.mem_map.mp he
    exact ⟨x.1, by simp [PySem.strKind, Value.isStrOf, entOf], rfl⟩
  · show Pairs _ (es.map (entOf w)) (prs es)
    clear ho
    induction es with
    | nil => exact .nil
    | cons x r ih => exact .cons (by simp [PySem.strKind, Value.isStrOf, entOf]) rfl (ih (by simp only [List.map_cons, List.nodup_cons] at hn; exact hn.2))
  · rw [prs, List.map_map]; exact hn
theorem tab_of {prog : Program} {w : World} {h : Heap} {d : Addr} {es : List Ent} {ep : Nat} (ho : h.get? d = some (tabO w es ep)) (hn : (es.map (·.1)).Nodup) :
    h.DictOf (strKind prog w) d (prs es) := (tab_at ho hn).dictOf
theorem iter_base {prog : Program} {w : World} {A : Around} {E : Value → Shared → Prop} {s : Shared} {h₀ : Heap} {L l : Addr} {m : Str → Option Value} {news : List (Addr × Obj)} {items : Array Value} {Q : Value → Shared → Prop}
    (F : Fr h₀ L s.heap m) (N : News h₀ L s.heap news) (hl : s.heap.IsList l items)
    (h : ∀ (I : Addr) h', Fr h₀ L h' m → News h₀ L h' ((I, ({ cls := .type "list_iterator", data := .fields #[.ref l, .int 0 0] } : Obj)) :: news) → Q (.ref I) { s with heap := h' }) :
    wpAny (model prog w) A (call (.builtin "iter") [.ref l]) Q E s := by
  refine Calls.call_function_entry (by decide +kernel) (by decide +kernel) kdk_entry_iter (kdk_args_iter _) ?_
  unfold Builtin.«iter»
  refine wpAny_bind (m := someArgs "iter" 1 2 _) (wpAny_of_eq (a := [Value.ref l]) (by first | rfl | kernel_rfl!) ?_)
  show wpAny _ _ (pyIter (.ref l) >>= _) _ _ _
  refine wpAny_bind (wpAny_pyIter_list hl ?_)
  exact wpAny_pure ⟨_, rfl, h _ _ (F.push _) (News.push F N _ rfl)⟩
theorem is_str_ref {M : Model} {A : Around} {E : Value → Shared → Prop} {s : Shared} {x : Str} {t : Tok} {a : Addr} {Q : Value → Shared → Prop} (h : Q (.bool false) s) :
    wpAny M A (compareOp .Is (.str x t) (.ref a)) Q E s := fun _ _ _ => h
section
variable {prog : Program} {w : World} {A : Around} {E : Value → Shared → Prop} {s : Shared} {env : Env} {h₀ : Heap}
/-- a loop over the items of a table of the base -/
theorem for_items {Q : Flow → Shared → Prop} {xk xv : Str} {pk pv pt pos apos cpos : Pos} {x1} {o : Expr} {body : List Stmt} {d : Addr} {es : List Ent} {ep : Nat} {m : Str → Option Value}
    (hh : A.handled = none) (hxk : env.kindOf xk = some .local) (hxv : env.kindOf xv = some .local)
    (hp : (env.scope.kind == .class || (env.scope.kind == .module && env.locals != env.globals)) = false)
    (hd : h₀.get? d = some (tabO w es ep)) (lo : (d == sysModules) = false) (nd : (es.map (·.1)).Nodup) (F : Fr h₀ env.locals s.heap m) (htk : 0 < s.toks)
    (hbase : attributeBase o "items" env (eval o env) = eval o env) (hline : (apos.endLine == cpos.line) = true)
    (ho : ∀ Q' : Value → Shared → Prop, Q' (.ref d) s → wpAny (model prog w) A (eval o env) Q' E s)
    (J : Nat → (Str → Option Value) → Prop) (h0 : J 0 m)
    (step : ∀ i e m₁ h tk I oI, es[i]? = some e → 0 < tk → J i m₁ → Fr h₀ env.locals h (fun y => if y = xv then some (.str e.2.2.1 e.2.2.2) else if y = xk then some (.str e.1 e.2.1) else m₁ y) → News h₀ env.locals h [(I, oI)] →
      wpAny (model prog w) A (execs body env) (fun f s₂ => Stop (f = .next ∧ ∃ h' tk' m₂ nw, s₂ = { s with heap := h', toks := tk' } ∧ 0 < tk' ∧ Fr h₀ env.locals h' m₂ ∧ News h₀ env.locals h' nw ∧ (I, oI) ∈ nw ∧ J (i + 1) m₂))
        (fun _ _ => False) { s with heap := h, toks := tk })
    (hQ : ∀ h' tk m', 0 < tk → Fr h₀ env.locals h' m' → J es.length m' → Q .next { s with heap := h', toks := tk })
    (hs : ∀ x, foldedSetIterable (.Call (.Attribute o "items" apos) [] [] cpos) env x = pure x := by intro _; rfl) :
    wpAny (model prog w) A (exec (.For (.Tuple [.Name xk pk, .Name xv pv] x1 pt) (.Call (.Attribute o "items" apos) [] [] cpos) body [] pos) env) Q E s := by
  have hds : s.heap.get? d = some (tabO w es ep) := F.keep _ _ hd
  have hL₀ : h₀.get? env.locals = none := Heap.get?_none_of_le F.above
  have hdL : d ≠ env.locals := fun q => by rw [q, hL₀] at hd; cases hd
  refine wpAny_For (wpAny_Call_items (knd := PySem.strKind prog w) (kvs := prs es) lo (tab_of hds nd) hbase hline ho ?_) hs
  have Fv := F.push { cls := .type "dict_items", data := .fields #[.ref d] }
  have hV : (s.heap.push { cls := .type "dict_items", data := .fields #[.ref d] }).get? s.heap.objs.size = some { cls := .type "dict_items", data := .fields #[.ref d] } := Heap.get?_push_size _ rfl
  have szV : (s.heap.push { cls := .type "dict_items", data := .fields #[.ref d] }).objs.size = s.heap.objs.size + 1 := Heap.size_push ..
  generalize s.heap.push { cls := .type "dict_items", data := .fields #[.ref d] } = hv at Fv hV szV
  have hdv : hv.get? d = some (tabO w es ep) := Fv.keep _ _ hd
  refine wpAny_pyIter_items (s := { s with heap := hv }) (knd := PySem.strKind prog w) (d := d) (kvs := prs es) (ep := ep) ⟨_, hV, rfl, rfl⟩ (tab_at hdv nd) ?_
  have hlen : (prs es).length = (es.map (entOf w)).length := by simp [prs]
  rw [hlen]
  have Fi := Fv.push { cls := .type "dict_itemiterator", data := .fields #[.none, .bool false, .ref d, .int 0 0, .int (es.map (entOf w)).length 0, .int ep 0, .none, .none] }
  have hI : (hv.push { cls := .type "dict_itemiterator", data := .fields #[.none, .bool false, .ref d, .int 0 0, .int (es.map (entOf w)).length 0, .int ep 0, .none, .none] }).get? hv.objs.size
      = some { cls := .type "dict_itemiterator", data := .fields #[.none, .bool false, .ref d, .int 0 0, .int (es.map (entOf w)).length 0, .int ep 0, .none, .none] } := Heap.get?_push_size _ rfl
  have hI₀ : h₀.get? hv.objs.size = none := next_is_new Fv
  have hIL : hv.objs.size ≠ env.locals := Nat.ne_of_gt Fv.ns.lt
  have hdI : d ≠ hv.objs.size := Nat.ne_of_lt (Heap.lt_size hdv)
  generalize hv.objs.size = it at hI hI₀ hIL hdI ⊢
  generalize hv.push { cls := .type "dict_itemiterator", data := .fields #[.none, .bool false, .ref d, .int 0 0, .int (es.map (entOf w)).length 0, .int ep 0, .none, .none] } = hi at Fi hI
  show codeAny (model prog w) A (.forLoop (.Tuple [.Name xk pk, .Name xv pv] x1 pt) (.ref it) body [] env) _ { s with heap := hi }
  refine codeAny_forLoop_any (R := fun r s' => match r with | .ok f => Q f s' | .error e => cameBackBy (model prog w) A env E e s')
    (fun n s' => ∃ h tk m' i ok ov, s' = { s with heap := h, toks := tk } ∧ 0 < tk ∧ IsItemIter h it d i (es.map (entOf w)).length ep ok ov ∧ Fr h₀ env.locals h m' ∧ J i m' ∧ i ≤ es.length ∧ n = es.length + 1 - i) ?_ (es.length + 1)
    ⟨hi, s.toks, m, 0, .none, .none, rfl, htk, hI, Fi, h0, Nat.zero_le _, rfl⟩
  rintro n s' ⟨h, tk, m', i, ok, ov, rfl, hk0, hit, F', hJ, hile, rfl⟩
  have hd' : h.get? d = some (tabO w es ep) := F'.keep _ _ hd
  by_cases hlt : i < es.length
  · obtain ⟨e, he⟩ : ∃ e, es[i]? = some e := ⟨es[i], by simp [hlt]⟩
    have hx : (es.map (entOf w))[i]? = some (entOf w e) := by rw [List.getElem?_map, he]; rfl
    refine items_item hit hd' hx fun h₁ heo ht₁ hz₁ hk₁ => ?_
    have F₁ : Fr h₀ env.locals h₁ m' := ⟨F'.ns.at fun o x => hk₁ _ o (Ne.symm hIL) x, fun b o x => hk₁ b o (fun q => by rw [q, hI₀] at x; cases x) (F'.keep b o x), F'.above⟩
    refine wpAny_letOwnedTupleGo_items heo fun h₂ he₂ hs₂ => ?_
    have F₂ : Fr h₀ env.locals h₂ m' := F₁.change hs₂ hIL hI₀
    have hiH : it < h.objs.size := Heap.lt_size hit
    have ht₂ : h₂.IsTuple h.objs.size #[(entOf w e).key, (entOf w e).val] := ⟨_, (hs₂.2 _ (Nat.ne_of_gt hiH)).trans ht₁, rfl, _, rfl⟩
    have hz₂ : h₂.objs.size = h.objs.size + 1 := hs₂.1.trans hz₁
    refine wpAny_assign_Tuple hh ht₂ rfl rfl fun h₃ hx₃ => ?_
    have hx₃' : Heap.ExtBut h₂.objs.size h₂ h₃ := hx₃
    have lt₂ : ∀ b o, h₂.get? b = some o → h₃.get? b = some o := fun b o x => hx₃' b o (Nat.ne_of_lt (Heap.lt_size x)) x
    have F₃ : Fr h₀ env.locals h₃ m' := F₂.keeps lt₂
    show wpAny _ _ (do holding [(entOf w e).val] (assign (.Name xk pk) env (entOf w e).key); do holding [] (assign (.Name xv pv) env (entOf w e).val); pure ()) _ _ _
    refine wpAny_bind (wpAny_holding (wpAny_assign_Name (wpAny_storeName_local hxk F₃.ns (fun h₄ hn₄ hs₄ => ?_) hp)))
    have F₄ := F₃.set hn₄ hs₄
    refine wpAny_bind (wpAny_holding (wpAny_assign_Name (wpAny_storeName_local hxv F₄.ns (fun h₅ hn₅ hs₅ => wpAny_pure ?_) hp)))
    have F₅ := F₄.set hn₅ hs₅
    have it₅ : IsItemIter h₅ it d (i + 1) (es.map (entOf w)).length ep (entOf w e).key (entOf w e).val :=
      Heap.SameBut.extBut hs₅ _ _ hIL (Heap.SameBut.extBut hs₄ _ _ hIL (lt₂ _ _ he₂))
    refine wpAny_mono (step i e m' h₅ (tk + 1 + 1) it _ he (Nat.succ_pos _) hJ F₅ (fun p hp => by rw [List.mem_singleton.mp hp]; exact ⟨it₅, hIL, hI₀⟩)) (fun f s₃ hq => ?_) fun _ _ q => q.elim
    obtain ⟨rfl, h₆, tk₆, m₂, nw, rfl, hp₆, F₆, N₆, hm₆, J₆⟩ := hq
    exact ⟨es.length + 1 - (i + 1), by omega, h₆, tk₆, m₂, i + 1, _, _, rfl, hp₆, (N₆ _ hm₆).1, F₆, J₆, hlt, rfl⟩
  · have hin : i = es.length := by omega
    subst hin
    refine wpAny_pyNext_items_end (knd := PySem.strKind prog w) (kvs := prs es) hh (by rw [hlen]; exact hit) (tab_at hd' nd) (by simp [prs]) fun h₁ he₁ => wpAny_execs_nil ?_
    exact hQ h₁ tk m' hk0 ⟨F'.ns.extBut he₁ (Ne.symm hIL), fun b o x => he₁ b o (fun q => by have q' : b = it := q; rw [q', hI₀] at x; cases x) (F'.keep b o x), F'.above⟩ hJ
/-- a loop over the items of a list of the base, its iterator at hand -/
theorem loop_list {Q : Flow → Shared → Prop} {xv : Str} {pv : Pos} {body : List Stmt} {l I : Addr} {items : Array Value} {m : Str → Option Value} {oI : Obj}
    (hh : A.handled = none) (hxv : env.kindOf xv = some .local)
    (hp : (env.scope.kind == .class || (env.scope.kind == .module && env.locals != env.globals)) = false)
    (hl : h₀.IsList l items) (F : Fr h₀ env.locals s.heap m) (hI : News h₀ env.locals s.heap [(I, oI)]) (hoI : oI = { cls := .type "list_iterator", data := .fields #[.ref l, .int 0 0] }) (htk : 0 < s.toks)
    (J : Nat → (Str → Option Value) → Prop) (h0 : J 0 m)
    (step : ∀ i v m₁ h tk oJ, items[i]? = some v → 0 < tk → J i m₁ → Fr h₀ env.locals h (fun y => if y = xv then some v else m₁ y) → News h₀ env.locals h [(I, oJ)] →
      wpAny (model prog w) A (execs body env) (fun f s₂ => Stop (f = .next ∧ ∃ h' tk' m₂ nw, s₂ = { s with heap := h', toks := tk' } ∧ 0 < tk' ∧ Fr h₀ env.locals h' m₂ ∧ News h₀ env.locals h' nw ∧ (I, oJ) ∈ nw ∧ J (i + 1) m₂))
        (fun _ _ => False) { s with heap := h, toks := tk })
    (hQ : ∀ h' tk m', 0 < tk → Fr h₀ env.locals h' m' → J items.size m' → Q .next { s with heap := h', toks := tk }) :
    codeAny (model prog w) A (.forLoop (.Name xv pv) (.ref I) body [] env) (fun r s' => match r with | .ok f => Q f s' | .error e => cameBackBy (model prog w) A env E e s') s := by
  have hIn := hI _ (.head _)
  have hI₀ : h₀.get? I = none := hIn.2.2
  have hIL : I ≠ env.locals := hIn.2.1
  have hit₀ : s.heap.IsListIter I l 0 := by rw [hoI] at hIn; exact ⟨_, hIn.1, rfl, rfl⟩
  refine codeAny_forLoop (fun n s' => ∃ h tk m' i, s' = { s with heap := h, toks := tk } ∧ 0 < tk ∧ h.IsListIter I l i ∧ Fr h₀ env.locals h m' ∧ J i m' ∧ i ≤ items.size ∧ n = items.size + 1 - i) ?_ (items.size + 1)
    ⟨s.heap, s.toks, m, 0, rfl, htk, hit₀, F, h0, Nat.zero_le _, rfl⟩
  rintro n s' ⟨h, tk, m', i, rfl, hk0, hit, F', hJ, hile, rfl⟩
  have hl' : h.IsList l items := hl.at fun o e => F'.keep l o e
  by_cases hlt : i < items.size
  · obtain ⟨v, hv⟩ : ∃ v, items[i]? = some v := ⟨items[i], by simp [hlt]⟩
    refine wpAny_pyNext_list_item hit hl' hv fun h₁ hit₁ hs₁ => ?_
    have F₁ := F'.change hs₁ hIL hI₀
    refine wpAny_assign_Name (wpAny_storeName_local hxv F₁.ns (fun h₂ hn₂ hs₂ => ?_) hp)
    have F₂ := F₁.set hn₂ hs₂
    obtain ⟨oJ, hoJ, hcJ, hdJ⟩ := hit₁
    have hoJ₂ : h₂.get? I = some oJ := hs₂.extBut _ _ hIL hoJ
    refine wpAny_mono (step i v m' h₂ (tk + 1) oJ hv (Nat.succ_pos _) hJ F₂ (fun p hp => by rw [List.mem_singleton.mp hp]; exact ⟨hoJ₂, hIL, hI₀⟩)) (fun f s₃ hq => ?_) fun _ _ q => q.elim
    obtain ⟨rfl, h₃, tk₃, m₃, nw, rfl, hp₃, F₃, N₃, hm₃, J₃⟩ := hq
    exact ⟨items.size + 1 - (i + 1), by omega, h₃, tk₃, m₃, i + 1, rfl, hp₃, ⟨oJ, (N₃ _ hm₃).1, hcJ, hdJ⟩, F₃, J₃, hlt, rfl⟩
  · have hin : i = items.size := by omega
    subst hin
    refine wpAny_pyNext_list_end hh hit hl' (by simp) fun h₁ he₁ => wpAny_execs_nil ?_
    exact hQ h₁ tk m' hk0 ⟨F'.ns.extBut he₁ (Ne.symm hIL), fun b o x => he₁ b o (fun q => by have q' : b = I := q; rw [q', hI₀] at x; cases x) (F'.keep b o x), F'.above⟩ hJ
/-- for over a name that holds a list's iterator -/
theorem for_iter {Q : Flow → Shared → Prop} {xv : Str} {pv pos : Pos} {iter : Expr} {body : List Stmt} {l I : Addr} {items : Array Value} {m : Str → Option Value} {oI : Obj}
    (hh : A.handled = none) (hxv : env.kindOf xv = some .local)
    (hp : (env.scope.kind == .class || (env.scope.kind == .module && env.locals != env.globals)) = false)
    (hl : h₀.IsList l items) (F : Fr h₀ env.locals s.heap m) (hI : News h₀ env.locals s.heap [(I, oI)]) (hoI : oI = { cls := .type "list_iterator", data := .fields #[.ref l, .int 0 0] }) (htk : 0 < s.toks)
    (ho : ∀ Q' : Value → Shared → Prop, Q' (.ref I) s → wpAny (model prog w) A (eval iter env) Q' E s)
    (J : Nat → (Str → Option Value) → Prop) (h0 : J 0 m)
    (step : ∀ i v m₁ h tk oJ, items[i]? = some v → 0 < tk → J i m₁ → Fr h₀ env.locals h (fun y => if y = xv then some v else m₁ y) → News h₀ env.locals h [(I, oJ)] →
      wpAny (model prog w) A (execs body env) (fun f s₂ => Stop (f = .next ∧ ∃ h' tk' m₂ nw, s₂ = { s with heap := h', toks := tk' } ∧ 0 < tk' ∧ Fr h₀ env.locals h' m₂ ∧ News h₀ env.locals h' nw ∧ (I, oJ) ∈ nw ∧ J (i + 1) m₂))
        (fun _ _ => False) { s with heap := h, toks := tk })
    (hQ : ∀ h' tk m', 0 < tk → Fr h₀ env.locals h' m' → J items.size m' → Q .next { s with heap := h', toks := tk })
    (hs : ∀ x, foldedSetIterable iter env x = pure x := by intro _; rfl) :
    wpAny (model prog w) A (exec (.For (.Name xv pv) iter body [] pos) env) Q E s := by
  have hIn := hI _ (.head _)
  have hit₀ : s.heap.IsListIter I l 0 := by rw [hoI] at hIn; exact ⟨_, hIn.1, rfl, rfl⟩
  exact wpAny_For (ho _ (wpAny_pyIter_listiter hit₀ (loop_list hh hxv hp hl F hI hoI htk J h0 step hQ))) hs
/-- for over a name that holds a list of the base -/
theorem for_list {Q : Flow → Shared → Prop} {xv : Str} {pv pos : Pos} {iter : Expr} {body : List Stmt} {l : Addr} {items : Array Value} {m : Str → Option Value}
    (hh : A.handled = none) (hxv : env.kindOf xv = some .local)
    (hp : (env.scope.kind == .class || (env.scope.kind == .module && env.locals != env.globals)) = false)
    (hl : h₀.IsList l items) (F : Fr h₀ env.locals s.heap m) (htk : 0 < s.toks)
    (ho : ∀ Q' : Value → Shared → Prop, Q' (.ref l) s → wpAny (model prog w) A (eval iter env) Q' E s)
    (J : Nat → (Str → Option Value) → Prop) (h0 : J 0 m)
    (step : ∀ i v m₁ h tk I oJ, items[i]? = some v → 0 < tk → J i m₁ → Fr h₀ env.locals h (fun y => if y = xv then some v else m₁ y) → News h₀ env.locals h [(I, oJ)] →
      wpAny (model prog w) A (execs body env) (fun f s₂ => Stop (f = .next ∧ ∃ h' tk' m₂ nw, s₂ = { s with heap := h', toks := tk' } ∧ 0 < tk' ∧ Fr h₀ env.locals h' m₂ ∧ News h₀ env.locals h' nw ∧ (I, oJ) ∈ nw ∧ J (i + 1) m₂))
        (fun _ _ => False) { s with heap := h, toks := tk })
    (hQ : ∀ h' tk m', 0 < tk → Fr h₀ env.locals h' m' → J items.size m' → Q .next { s with heap := h', toks := tk })
    (hs : ∀ x, foldedSetIterable iter env x = pure x := by intro _; rfl) :
    wpAny (model prog w) A (exec (.For (.Name xv pv) iter body [] pos) env) Q E s := by
  refine wpAny_For (ho _ (wpAny_pyIter_list (hl.at fun o e => F.keep l o e) ?_)) hs
  exact loop_list (s := { s with heap := _ }) hh hxv hp hl (F.push _) (News.push F News.nil _ rfl) rfl htk J h0 (fun i v m₁ h tk oJ => step i v m₁ h tk _ oJ) hQ
end
def SignTo (g : Nat → Str) (v r : Value) : Prop := ∃ c u u', v = .str ⟨#[c]⟩ u ∧ r = .str (g c) u'
theorem signs_strs {g : Nat → Str} : ∀ {cs : List Nat} {vs ys : List Value}, vs.length = cs.length → (∀ (j : Nat) v, vs[j]? = some v → ∃ c u, cs[j]? = some c ∧ v = .str ⟨#[c]⟩ u) → Paired (SignTo g) vs ys → StrsAre ys (cs.map g)
  | [], [], _, _, _, h => by cases h; exact .nil
  | [], _ :: _, _, hl, _, _ => by simp at hl
  | _ :: _, [], _, hl, _, _ => by simp at hl
  | c :: cs, v :: vs, _, hl, hs, .cons hF hr => by
    obtain ⟨c', u, e, hv⟩ := hs 0 v rfl
    obtain ⟨c'', u1, u2, hv', rfl⟩ := hF
    have ec : c = c' := by simpa using e
    subst ec
    rw [hv] at hv'
    injection hv' with e1 _
    have ec : c = c'' := by injection e1 with e2; simpa using e2
    subst ec
    exact .cons _ _ (signs_strs (by simpa using hl) (fun j v hj => hs (j + 1) v (by simpa using hj)) hr)
section
variable {prog : Program} {w : World} {A : Around} {E : Value → Shared → Prop} {s : Shared} {env : Env}
/-- a list of texts, one for each sign of a text -/
theorem comp_signs {elt iter : Expr} {x : Str} {px : Pos} {scope : Scope} {cl : List (Str × Addr)} {pos : Pos} {Q : Value → Shared → Prop} {y : Str} {t : Tok} (g : Nat → Str) (hh : A.handled = none) (hsz : y.length ≤ sizeLine)
    (hclos : closureFor scope env = pure cl) (hcell : ∀ y ∈ scope.names, y.2 ≠ .cell) (hkind : scope.kind = .function)
    (hnames : ∀ y ∈ scope.names, y.2 = .local → scope.names.lookup y.1 = some .local) (hx : scope.names.lookup x = some .local)
    (hiter : ∀ Q' : Value → Shared → Prop, Q' (.str y t) s → wpAny (model prog w) A (eval iter env) Q' E s)
    (helt : ∀ C c u s₃ m₃ E', c ∈ y.cps.toList → s₃.heap.Ns C m₃ → m₃ x = some (.str ⟨#[c]⟩ u) → (∀ b o, s.heap.get? b = some o → s₃.heap.get? b = some o) → s.toks ≤ s₃.toks →
      wpAny (model prog w) A (eval elt (compEnvC scope cl C env)) (fun r s₄ => (∃ u', r = .str (g c) u') ∧ Keeps s₃ s₄) E' s₃)
    (hQ : ∀ D h' tk ys, h'.IsList D ys → s.heap.get? D = none → StrsAre ys.toList (y.cps.toList.map g) → (∀ b o, s.heap.get? b = some o → h'.get? b = some o) → Q (.ref D) { s with heap := h', toks := tk })
    (hs : ∀ x, foldedSetIterable iter env x = pure x := by intro _; rfl) :
    wpAny (model prog w) A (eval (.ListComp elt [⟨.Name x px, iter, [], 0⟩] scope pos) env) Q E s := by
  refine wpAny_ListComp_free (fun _ => true) (SignTo g) hclos hcell hkind hnames hx (hiter _ ?_) hs
  refine wpAny_pyIter_str fun o St W hst => ?_
  have old : ∀ (h' : Heap), (∀ b o', b ∉ [s.heap.objs.size] → (s.heap.push o).get? b = some o' → h'.get? b = some o') → ∀ b o', s.heap.get? b = some o' → h'.get? b = some o' :=
    fun h' hk b o' e => hk b o' (by rw [List.mem_singleton]; exact Nat.ne_of_lt (Heap.lt_size e)) (Heap.get?_push_of_some _ e)
  refine ⟨_, _, _, _, _, _, rfl, W A hh, hsz, hst, ?_, ⟨?_, ?_⟩, ?_⟩
  · intro b hb
    show b < (s.heap.push o).objs.size
    rw [Heap.size_push, List.mem_singleton.mp hb]
    exact Nat.lt_succ_self _
  · intro C i v s₃ m₃ E' _ _ _ _ _ _
    exact wpAny_pure ⟨rfl, _, _, rfl, fun _ _ e => e⟩
  · intro C i v s₃ m₃ E' _ hP _ hn hm hk htk
    obtain ⟨c, u, hc, rfl⟩ := hP
    refine wpAny_mono (helt C c u s₃ m₃ E' (by rw [Array.mem_toList_iff]; exact Array.mem_of_getElem? hc) hn hm (old _ hk) htk) (fun r s₄ hr => ?_) fun _ _ e => e
    obtain ⟨⟨u', rfl⟩, hkp⟩ := hr
    exact ⟨⟨c, u, u', rfl, rfl⟩, hkp⟩
  · intro D h' tk ys vs hD hl _ hlen hP hF hk
    refine hQ D h' tk ys hl ?_ (signs_strs (by rw [hlen]; simp) (fun j v hj => ?_) (by rw [List.filter_eq_self.mpr (fun _ _ => rfl)] at hF; exact hF)) (old _ hk)
    · cases e : s.heap.get? D with
      | none => rfl
      | some o' => have := Heap.get?_push_of_some (h := s.heap) o e; rw [this] at hD; cases hD
    · obtain ⟨c, u, hc, rfl⟩ := hP j v hj
      exact ⟨c, u, by rw [Array.getElem?_toList]; exact hc, rfl⟩
theorem news_same {h₀ h h' : Heap} {L a : Addr} {l : List (Addr × Obj)} (N : News h₀ L h l) (hs : Heap.SameBut a h h') (off : ∀ p ∈ l, p.1 ≠ a) : News h₀ L h' l :=
  fun p hp => ⟨(hs.2 p.1 (off p hp)).trans (N p hp).1, (N p hp).2⟩
theorem news_cons {h₀ h : Heap} {L a : Addr} {o : Obj} {l : List (Addr × Obj)} (ha : h.get? a = some o) (hL : a ≠ L) (h0 : h₀.get? a = none) (N : News h₀ L h l) : News h₀ L h ((a, o) :: l) := fun p hp => by
  rcases List.mem_cons.mp hp with rfl | hp
  · exact ⟨ha, hL, h0⟩
  · exact N p hp
/-- a loop over a made list of made pairs whose two targets are cells -/
theorem loop_pairs {h₀ : Heap} {Q : Flow → Shared → Prop} {xk xv : Str} {pk pv pt : Pos} {x1} {body : List Stmt} {l' I c1 c2 : Addr} {items : Array Value} {m : Str → Option Value} {nw : List (Addr × Obj)}
    {oI o1 o2 : Obj} {v1 v2 : Option Value} {Ts : Nat → Addr} {kv rv : Nat → Value}
    (hh : A.handled = none) (hxk : env.kindOf xk = some .cell) (hxv : env.kindOf xv = some .cell) (hk : env.scope.kind = .function) (hc1 : env.cells.lookup xk = some c1) (hc2 : env.cells.lookup xv = some c2)
    (F : Fr h₀ env.locals s.heap m) (N : News h₀ env.locals s.heap ((I, oI) :: (c1, o1) :: (c2, o2) :: nw)) (hoI : oI = { cls := .type "list_iterator", data := .fields #[.ref l', .int 0 0] }) (d1 : o1.data = .cell v1) (d2 : o2.data = .cell v2)
    (n1 : I ≠ c1) (n2 : I ≠ c2) (n3 : c1 ≠ c2) (off : ∀ p ∈ nw, p.1 ≠ I ∧ p.1 ≠ c1 ∧ p.1 ≠ c2)
    (hl : ∃ o, (l', o) ∈ nw ∧ o.cls = .type "list" ∧ ∃ k, o.data = .seq items k)
    (hit : ∀ i, i < items.size → items[i]? = some (.ref (Ts i)) ∧ ∃ o, (Ts i, o) ∈ nw ∧ o.cls = .type "tuple" ∧ ∃ k, o.data = .seq #[kv i, rv i] k) 
    (J : Nat → (Str → Option Value) → Prop) (h0 : J 0 m)
    (step : ∀ i m₁ h tk oJ p1 p2, i < items.size → J i m₁ → p1.data = .cell (some (kv i)) → p2.data = .cell (some (rv i)) → Fr h₀ env.locals h m₁ → News h₀ env.locals h ((I, oJ) :: (c1, p1) :: (c2, p2) :: nw) →
      wpAny (model prog w) A (execs body env) (fun f s₂ => Stop (f = .next ∧ ∃ h' tk' m₂, s₂ = { s with heap := h', toks := tk' } ∧ Fr h₀ env.locals h' m₂ ∧ News h₀ env.locals h' ((I, oJ) :: (c1, p1) :: (c2, p2) :: nw) ∧ J (i + 1) m₂))
        (fun _ _ => False) { s with heap := h, toks := tk })
    (hQ : ∀ h' tk m' p1 p2, Fr h₀ env.locals h' m' → News h₀ env.locals h' ((c1, p1) :: (c2, p2) :: nw) → (∃ v, p1.data = .cell v) → (∃ v, p2.data = .cell v) → J items.size m' → Q .next { s with heap := h', toks := tk }) :
    codeAny (model prog w) A (.forLoop (.Tuple [.Name xk pk, .Name xv pv] x1 pt) (.ref I) body [] env) (fun r s' => match r with | .ok f => Q f s' | .error e => cameBackBy (model prog w) A env E e s') s := by
  have hIn := N _ (.head _)
  have hI₀ : h₀.get? I = none := hIn.2.2
  have hIL : I ≠ env.locals := hIn.2.1
  have hC1 := N _ (.tail _ (.head _))
  have hC2 := N _ (.tail _ (.tail _ (.head _)))
  have hw₀ : News h₀ env.locals s.heap nw := fun p hp => N p (.tail _ (.tail _ (.tail _ hp)))
  have hit₀ : s.heap.IsListIter I l' 0 := by rw [hoI] at hIn; exact ⟨_, hIn.1, rfl, rfl⟩
  refine codeAny_forLoop_any (fun n s' => ∃ h tk m' i p1 p2, s' = { s with heap := h, toks := tk } ∧ h.IsListIter I l' i ∧ Fr h₀ env.locals h m' ∧ News h₀ env.locals h ((c1, p1) :: (c2, p2) :: nw) ∧ (∃ v, p1.data = .cell v) ∧ (∃ v, p2.data = .cell v) ∧
      J i m' ∧ i ≤ items.size ∧ n = items.size + 1 - i) ?_ (items.size + 1)
    ⟨s.heap, s.toks, m, 0, o1, o2, rfl, hit₀, F, fun p hp => N p (.tail _ hp), ⟨_, d1⟩, ⟨_, d2⟩, h0, Nat.zero_le _, rfl⟩
  rintro n s' ⟨h, tk, m', i, p1, p2, rfl, hitr, F', N', ⟨w1, e1⟩, ⟨w2, e2⟩, hJ, hile, rfl⟩
  have lst : ∀ {g : Heap}, News h₀ env.locals g nw → g.IsList l' items := fun Ng => by
    obtain ⟨o, hm, c, d⟩ := hl
    exact ⟨o, (Ng _ hm).1, c, d⟩
  have Nw : News h₀ env.locals h nw := fun p hp => N' p (.tail _ (.tail _ hp))
  by_cases hlt : i < items.size
  · obtain ⟨hv, oT, hTm, hTc, hTd⟩ := hit i hlt
    refine wpAny_pyNext_list_item hitr (lst Nw) hv fun h₁ hit₁ hs₁ => ?_
    have F₁ := F'.change hs₁ hIL hI₀
    have N₁ : News h₀ env.locals h₁ ((c1, p1) :: (c2, p2) :: nw) := news_same N' hs₁ fun p hp => by
      rcases List.mem_cons.mp hp with rfl | hp
      · exact Ne.symm n1
      · rcases List.mem_cons.mp hp with rfl | hp
        · exact Ne.symm n2
        · exact (off p hp).1
    obtain ⟨oJ, hoJ, hcJ, hdJ⟩ := id hit₁
    refine wpAny_letOwnedTupleGo_listiter (s := { s with heap := h₁, toks := tk }) hit₁ ?_
    have ht₁ : h₁.IsTuple (Ts i) #[kv i, rv i] := ⟨oT, (N₁ _ (.tail _ (.tail _ hTm))).1, hTc, hTd⟩
    refine wpAny_assign_Tuple (s := { s with heap := h₁, toks := tk }) hh ht₁ rfl rfl fun h₂ hx₂ => ?_
    have up₂ : ∀ b o, h₁.get? b = some o → h₂.get? b = some o := fun b o x => (show Heap.ExtBut h₁.objs.size h₁ h₂ from hx₂) b o (Nat.ne_of_lt (Heap.lt_size x)) x
    have F₂ := F₁.keeps up₂
    have N₂ := N₁.grown up₂
    show wpAny _ _ (do holding [rv i] (assign (.Name xk pk) env (kv i)); do holding [] (assign (.Name xv pv) env (rv i)); pure ()) _ _ _
    refine wpAny_bind (wpAny_holding (wpAny_assign_Name (wpAny_storeName_cell hk hxk hc1 ⟨p1, (N₂ _ (.head _)).1, e1⟩ fun h₃ hv₃ hs₃ => ?_)))
    obtain ⟨q1, hq1, eq1⟩ := hv₃
    have F₃ := F₂.change hs₃ hC1.2.1 hC1.2.2
    have N₃ : News h₀ env.locals h₃ ((c2, p2) :: nw) := news_same (fun p hp => N₂ p (.tail _ hp)) hs₃ fun p hp => by
      rcases List.mem_cons.mp hp with rfl | hp
      · exact Ne.symm n3
      · exact (off p hp).2.1
    refine wpAny_bind (wpAny_holding (wpAny_assign_Name (wpAny_storeName_cell (s := { s with heap := h₃, toks := tk }) hk hxv hc2 ⟨p2, (N₃ _ (.head _)).1, e2⟩ fun h₄ hv₄ hs₄ => wpAny_pure ?_)))
    obtain ⟨q2, hq2, eq2⟩ := hv₄
    have F₄ := F₃.change hs₄ hC2.2.1 hC2.2.2
    have N₄ : News h₀ env.locals h₄ nw := news_same (fun p hp => N₃ p (.tail _ hp)) hs₄ fun p hp => (off p hp).2.2
    have hq1' : h₄.get? c1 = some q1 := hs₄.extBut _ _ n3 hq1
    have hI₄ : h₄.get? I = some oJ := hs₄.extBut _ _ n2 (hs₃.extBut _ _ n1 (up₂ _ _ hoJ))
    have N₅ : News h₀ env.locals h₄ ((I, oJ) :: (c1, q1) :: (c2, q2) :: nw) := news_cons hI₄ hIL hI₀ (news_cons hq1' hC1.2.1 hC1.2.2 (news_cons hq2 hC2.2.1 hC2.2.2 N₄))
    refine wpAny_mono (step i m' h₄ tk oJ q1 q2 hlt hJ eq1 eq2 F₄ N₅) (fun f s₃ hq => ?_) fun _ _ q => q.elim
    obtain ⟨rfl, h₆, tk₆, m₆, rfl, F₆, N₆, J₆⟩ := hq
    exact ⟨items.size + 1 - (i + 1), by omega, h₆, tk₆, m₆, i + 1, q1, q2, rfl, ⟨oJ, (N₆ _ (.head _)).1, hcJ, hdJ⟩, F₆, fun p hp => N₆ p (.tail _ hp), ⟨_, eq1⟩, ⟨_, eq2⟩, J₆, hlt, rfl⟩
  · have hin : i = items.size := by omega
    subst hin
    refine wpAny_pyNext_list_end hh hitr (lst Nw) (by simp) fun h₁ he₁ => wpAny_execs_nil ?_
    have keepI : ∀ b o, b ≠ I → h.get? b = some o → h₁.get? b = some o := fun b o hb x => he₁ b o hb x
    refine hQ h₁ tk m' p1 p2 ⟨F'.ns.extBut he₁ (Ne.symm hIL), fun b o x => he₁ b o (fun q => by have q' : b = I := q; rw [q', hI₀] at x; cases x) (F'.keep b o x), F'.above⟩ (fun p hp => ⟨keepI _ _ ?_ (N' p hp).1, (N' p hp).2⟩) ⟨_, e1⟩ ⟨_, e2⟩ hJ
    rcases List.mem_cons.mp hp with rfl | hp
    · exact Ne.symm n1
    · rcases List.mem_cons.mp hp with rfl | hp
      · exact Ne.symm n2
      · exact (off p hp).1
/-- the same, the pairs written: from the made list on -/
theorem for_pairs {h₀ : Heap} {Q : Flow → Shared → Prop} {xk xv : Str} {pk pv pt : Pos} {x1} {body : List Stmt} {l' c1 c2 : Addr} {m : Str → Option Value} {nw : List (Addr × Obj)}
    {o1 o2 : Obj} {v1 v2 : Option Value} {ts : List (Addr × Value × Value)} {k0 : Nat}
    (hh : A.handled = none) (hxk : env.kindOf xk = some .cell) (hxv : env.kindOf xv = some .cell) (hk : env.scope.kind = .function) (hc1 : env.cells.lookup xk = some c1) (hc2 : env.cells.lookup xv = some c2)
    (F : Fr h₀ env.locals s.heap m) (N : News h₀ env.locals s.heap ((c1, o1) :: (c2, o2) :: nw)) (d1 : o1.data = .cell v1) (d2 : o2.data = .cell v2)
    (n3 : c1 ≠ c2) (off : ∀ p ∈ nw, p.1 ≠ c1 ∧ p.1 ≠ c2)
    (hl : (l', PySem.W.listOf (ts.map fun t => Value.ref t.1).toArray k0) ∈ nw)
    (hit : ∀ t ∈ ts, ∃ k, (t.1, ({ cls := .type "tuple", data := .seq #[t.2.1, t.2.2] k } : Obj)) ∈ nw)
    (J : Nat → (Str → Option Value) → Prop) (h0 : J 0 m)
    (step : ∀ i t I m₁ h tk oJ p1 p2, ts[i]? = some t → J i m₁ → p1.data = .cell (some t.2.1) → p2.data = .cell (some t.2.2) → Fr h₀ env.locals h m₁ → News h₀ env.locals h ((I, oJ) :: (c1, p1) :: (c2, p2) :: nw) →
      wpAny (model prog w) A (execs body env) (fun f s₂ => Stop (f = .next ∧ ∃ h' tk' m₂, s₂ = { s with heap := h', toks := tk' } ∧ Fr h₀ env.locals h' m₂ ∧ News h₀ env.locals h' ((I, oJ) :: (c1, p1) :: (c2, p2) :: nw) ∧ J (i + 1) m₂))
        (fun _ _ => False) { s with heap := h, toks := tk })
    (hQ : ∀ h' tk m' p1 p2, Fr h₀ env.locals h' m' → News h₀ env.locals h' ((c1, p1) :: (c2, p2) :: nw) → (∃ v, p1.data = .cell v) → (∃ v, p2.data = .cell v) → J ts.length m' → Q .next { s with heap := h', toks := tk }) :
    wpAny (model prog w) A (pyIter (.ref l')) (fun it s₂ => codeAny (model prog w) A (.forLoop (.Tuple [.Name xk pk, .Name xv pv] x1 pt) it body [] env) (fun r s' => match r with | .ok f => Q f s' | .error e => cameBackBy (model prog w) A env E e s') s₂) E s := by
  have hmem := N _ (.tail _ (.tail _ hl))
  have hls : s.heap.IsList l' (ts.map fun t => Value.ref t.1).toArray := ⟨_, hmem.1, rfl, _, rfl⟩
  refine wpAny_pyIter_list hls ?_
  have lt : ∀ p ∈ (c1, o1) :: (c2, o2) :: nw, p.1 < s.heap.objs.size := fun p hp => Heap.lt_size (N p hp).1
  have F₁ := F.push { cls := .type "list_iterator", data := .fields #[.ref l', .int 0 0] }
  have N₁ := News.push F N { cls := .type "list_iterator", data := .fields #[.ref l', .int 0 0] } rfl
  have hsz : (ts.map fun t => Value.ref t.1).toArray.size = ts.length := by simp
  refine loop_pairs (s := { s with heap := _ }) (Ts := fun i => (ts[i]?.getD (0, .none, .none)).1) (kv := fun i => (ts[i]?.getD (0, .none, .none)).2.1) (rv := fun i => (ts[i]?.getD (0, .none, .none)).2.2) hh hxk hxv hk hc1 hc2 F₁ N₁ rfl d1 d2
    (Nat.ne_of_gt (lt _ (.head _))) (Nat.ne_of_gt (lt _ (.tail _ (.head _)))) n3 (fun p hp => ⟨Nat.ne_of_lt (lt p (.tail _ (.tail _ hp))), off p hp⟩) ⟨_, hl, rfl, _, rfl⟩ (fun i hi => ?_) J h0 (fun i m₁ h tk oJ p1 p2 hi hJ e1 e2 F' N' => ?_) (fun h' tk m' p1 p2 F' N' e1 e2 hJ => hQ h' tk m' p1 p2 F' N' e1 e2 (by rw [hsz] at hJ; exact hJ))
  · rw [hsz] at hi
    have e : ts[i]? = some ts[i] := List.getElem?_eq_getElem hi
    obtain ⟨k, hk'⟩ := hit ts[i] (List.getElem_mem hi)
    simp only [e, Option.getD_some]
    exact ⟨by simp [e], _, hk', rfl, k, rfl⟩
  · rw [hsz] at hi
    have e : ts[i]? = some ts[i] := List.getElem?_eq_getElem hi
    simp only [e, Option.getD_some] at e1 e2
    exact step i ts[i] _ m₁ h tk oJ p1 p2 e hJ e1 e2 F' N'
theorem cells_front {h₀ h : Heap} {L c1 c2 : Addr} {o1 o2 : Obj} {nw : List (Addr × Obj)} (N : News h₀ L h (nw ++ [(c2, o2), (c1, o1)])) : News h₀ L h ((c1, o1) :: (c2, o2) :: nw) := fun p hp => by
  rcases List.mem_cons.mp hp with rfl | hp
  · exact N _ (by simp)
  · rcases List.mem_cons.mp hp with rfl | hp
    · exact N _ (by simp)
    · exact N _ (List.mem_append_left _ hp)
/-- what is no cell lies apart from the two cells -/
theorem off_cells {h₀ h : Heap} {L c1 c2 : Addr} {o1 o2 : Obj} {v1 v2 : Option Value} {nw : List (Addr × Obj)} (N : News h₀ L h ((c1, o1) :: (c2, o2) :: nw)) (d1 : o1.data = .cell v1) (d2 : o2.data = .cell v2)
    (H : ∀ p ∈ nw, (p.1 ≠ c1 ∧ p.1 ≠ c2) ∨ ∀ v, p.2.data ≠ .cell v) : ∀ p ∈ nw, p.1 ≠ c1 ∧ p.1 ≠ c2 := fun p hp => by
  rcases H p hp with q | q
  · exact q
  · have e := (N p (.tail _ (.tail _ hp))).1
    refine ⟨fun a => ?_, fun a => ?_⟩
    · have e' := (N _ (.head _)).1
      rw [a] at e
      have := Option.some.inj (e.symm.trans e')
      exact q v1 (by rw [this]; exact d1)
    · have e' := (N _ (.tail _ (.head _))).1
      rw [a] at e
      have := Option.some.inj (e.symm.trans e')
      exact q v2 (by rw [this]; exact d2)
/-- pairs of texts: the tuple's address, the key and its token, the reference and its token -/
abbrev Pr := Addr × Str × Tok × Str × Tok
theorem for_strs {h₀ : Heap} {Q : Flow → Shared → Prop} {xk xv : Str} {pk pv pt : Pos} {x1} {body : List Stmt} {l' c1 c2 : Addr} {m : Str → Option Value} {nw : List (Addr × Obj)}
    {o1 o2 : Obj} {v1 v2 : Option Value} (ts : List Pr) {k0 : Nat}
    (hh : A.handled = none) (hxk : env.kindOf xk = some .cell) (hxv : env.kindOf xv = some .cell) (hk : env.scope.kind = .function) (hc1 : env.cells.lookup xk = some c1) (hc2 : env.cells.lookup xv = some c2)
    (F : Fr h₀ env.locals s.heap m) (N : News h₀ env.locals s.heap ((c1, o1) :: (c2, o2) :: nw)) (d1 : o1.data = .cell v1) (d2 : o2.data = .cell v2)
    (n3 : c1 ≠ c2) (off : ∀ p ∈ nw, p.1 ≠ c1 ∧ p.1 ≠ c2)
    (hl : (l', PySem.W.listOf (ts.map fun t => Value.ref t.1).toArray k0) ∈ nw)
    (hit : ∀ t ∈ ts, (t.1, ({ cls := .type "tuple", data := .seq #[.str t.2.1 t.2.2.1, .str t.2.2.2.1 t.2.2.2.2] } : Obj)) ∈ nw)
    (J : Nat → (Str → Option Value) → Prop) (h0 : J 0 m)
    (step : ∀ i k r u v I m₁ h tk oJ p1 p2, (ts.map fun t => (t.2.1, t.2.2.2.1))[i]? = some (k, r) → J i m₁ → p1.data = .cell (some (.str k u)) → p2.data = .cell (some (.str r v)) → Fr h₀ env.locals h m₁ → News h₀ env.locals h ((I, oJ) :: (c1, p1) :: (c2, p2) :: nw) →
      wpAny (model prog w) A (execs body env) (fun f s₂ => Stop (f = .next ∧ ∃ h' tk' m₂, s₂ = { s with heap := h', toks := tk' } ∧ Fr h₀ env.locals h' m₂ ∧ News h₀ env.locals h' ((I, oJ) :: (c1, p1) :: (c2, p2) :: nw) ∧ J (i + 1) m₂))
        (fun _ _ => False) { s with heap := h, toks := tk })
    (hQ : ∀ h' tk m' p1 p2, Fr h₀ env.locals h' m' → News h₀ env.locals h' ((c1, p1) :: (c2, p2) :: nw) → (∃ v, p1.data = .cell v) → (∃ v, p2.data = .cell v) → J ts.length m' → Q .next { s with heap := h', toks := tk }) :
    wpAny (model prog w) A (pyIter (.ref l')) (fun it s₂ => codeAny (model prog w) A (.forLoop (.Tuple [.Name xk pk, .Name xv pv] x1 pt) it body [] env) (fun r s' => match r with | .ok f => Q f s' | .error e => cameBackBy (model prog w) A env E e s') s₂) E s := by
  refine for_pairs (ts := ts.map fun t => (t.1, Value.str t.2.1 t.2.2.1, Value.str t.2.2.2.1 t.2.2.2.2)) (k0 := k0) hh hxk hxv hk hc1 hc2 F N d1 d2 n3 off ?_ ?_ J h0 ?_ ?_
  · rw [List.map_map]; exact hl
  · intro t ht
    obtain ⟨t', ht', rfl⟩ := List.mem_map.mp ht
    exact ⟨_, hit t' ht'⟩
  · intro i t I m₁ h tk oJ p1 p2 ht hJ e1 e2 F' N'
    rw [List.getElem?_map] at ht
    obtain ⟨t', ht', rfl⟩ := Option.map_eq_some_iff.mp ht
    exact step i t'.2.1 t'.2.2.2.1 _ _ I m₁ h tk oJ p1 p2 (by rw [List.getElem?_map, ht']; rfl) hJ e1 e2 F' N'
  · intro h' tk m' p1 p2 F' N' e1 e2 hJ
    rw [List.length_map] at hJ
    exact hQ h' tk m' p1 p2 F' N' e1 e2 hJ
/-- a loop over a list of the base, with a ledger that the turns may change -/
theorem for_listL {h₀ : Heap} {Q : Flow → Shared → Prop} {xv : Str} {pv pos : Pos} {iter : Expr} {body : List Stmt} {l : Addr} {items : Array Value} {m : Str → Option Value} {as : List Addr} {nx₀ : List (Addr × Obj)}
    (hh : A.handled = none) (hxv : env.kindOf xv = some .local)
    (hp : (env.scope.kind == .class || (env.scope.kind == .module && env.locals != env.globals)) = false)
    (hl : h₀.IsList l items) (F : Fr h₀ env.locals s.heap m) (N : News h₀ env.locals s.heap nx₀) (htk : 0 < s.toks)
    (ho : ∀ Q' : Value → Shared → Prop, Q' (.ref l) s → wpAny (model prog w) A (eval iter env) Q' E s)
    (J : Nat → (Str → Option Value) → List (Addr × Obj) → Prop) (hJa : ∀ i m nx, J i m nx → nx.map (·.1) = as) (h0 : J 0 m nx₀)
    (step : ∀ i v m₁ nx h tk I oJ, items[i]? = some v → 0 < tk → J i m₁ nx → (∀ a ∈ as, a < I) → Fr h₀ env.locals h (fun y => if y = xv then some v else m₁ y) → News h₀ env.locals h ((I, oJ) :: nx) →
      wpAny (model prog w) A (execs body env) (fun f s₂ => Stop (f = .next ∧ ∃ h' tk' m₂ nx', s₂ = { s with heap := h', toks := tk' } ∧ 0 < tk' ∧ Fr h₀ env.locals h' m₂ ∧ News h₀ env.locals h' ((I, oJ) :: nx') ∧ J (i + 1) m₂ nx'))
        (fun _ _ => False) { s with heap := h, toks := tk })
    (hQ : ∀ h' tk m' nx, 0 < tk → Fr h₀ env.locals h' m' → News h₀ env.locals h' nx → J items.size m' nx → Q .next { s with heap := h', toks := tk })
    (hs : ∀ x, foldedSetIterable iter env x = pure x := by intro _; rfl) :
    wpAny (model prog w) A (exec (.For (.Name xv pv) iter body [] pos) env) Q E s := by
  refine wpAny_For (ho _ (wpAny_pyIter_list (hl.at fun o e => F.keep l o e) ?_)) hs
  have F₁ := F.push { cls := .type "list_iterator", data := .fields #[.ref l, .int 0 0] }
  have N₁ := News.push F N { cls := .type "list_iterator", data := .fields #[.ref l, .int 0 0] } rfl
  have hlt : ∀ a ∈ as, a < s.heap.objs.size := fun a ha => by
    rw [← hJa 0 m nx₀ h0] at ha
    obtain ⟨p, hp, rfl⟩ := List.mem_map.mp ha
    exact Heap.lt_size (N p hp).1
  generalize s.heap.objs.size = I at N₁ hlt
  generalize s.heap.push { cls := .type "list_iterator", data := .fields #[.ref l, .int 0 0] } = hi at F₁ N₁
  have hIn := N₁ _ (.head _)
  have hI₀ : h₀.get? I = none := hIn.2.2
  have hIL : I ≠ env.locals := hIn.2.1
  have offA : ∀ nx : List (Addr × Obj), nx.map (·.1) = as → ∀ p ∈ nx, p.1 ≠ I := fun nx e p hp => Nat.ne_of_lt (hlt p.1 (e ▸ List.mem_map_of_mem hp))
  show codeAny (model prog w) A (.forLoop (.Name xv pv) (.ref I) body [] env) _ { s with heap := hi }
  refine codeAny_forLoop (R := fun r s' => match r with | .ok f => Q f s' | .error e => cameBackBy (model prog w) A env E e s')
    (fun n s' => ∃ h tk m' nx i, s' = { s with heap := h, toks := tk } ∧ 0 < tk ∧ h.IsListIter I l i ∧ Fr h₀ env.locals h m' ∧ News h₀ env.locals h nx ∧ J i m' nx ∧ i ≤ items.size ∧ n = items.size + 1 - i) ?_ (items.size + 1)
    ⟨hi, s.toks, m, nx₀, 0, rfl, htk, ⟨_, hIn.1, rfl, rfl⟩, F₁, fun p hp => N₁ p (.tail _ hp), h0, Nat.zero_le _, rfl⟩
  rintro n s' ⟨h, tk, m', nx, i, rfl, hk0, hit, F', N', hJ, hile, rfl⟩
  have hl' : h.IsList l items := hl.at fun o e => F'.keep l o e
  have off := offA nx (hJa _ _ _ hJ)
  by_cases hlt' : i < items.size
  · obtain ⟨v, hv⟩ : ∃ v, items[i]? = some v := ⟨items[i], by simp [hlt']⟩
    refine wpAny_pyNext_list_item hit hl' hv fun h₁ hit₁ hs₁ => ?_
    have F₁ := F'.change hs₁ hIL hI₀
    have N₁ : News h₀ env.locals h₁ nx := news_same N' hs₁ off
    refine wpAny_assign_Name (wpAny_storeName_local hxv F₁.ns (fun h₂ hn₂ hs₂ => ?_) hp)
    have F₂ := F₁.set hn₂ hs₂
    obtain ⟨oJ, hoJ, hcJ, hdJ⟩ := hit₁
    have hoJ₂ : h₂.get? I = some oJ := hs₂.extBut _ _ hIL hoJ
    refine wpAny_mono (step i v m' nx h₂ (tk + 1) I oJ hv (Nat.succ_pos _) hJ hlt F₂ (news_cons hoJ₂ hIL hI₀ (N₁.set hs₂))) (fun f s₃ hq => ?_) fun _ _ q => q.elim
    obtain ⟨rfl, h₃, tk₃, m₃, nx', rfl, hp₃, F₃, N₃, J₃⟩ := hq
    exact ⟨items.size + 1 - (i + 1), by omega, h₃, tk₃, m₃, nx', i + 1, rfl, hp₃, ⟨oJ, (N₃ _ (.head _)).1, hcJ, hdJ⟩, F₃, fun p hp => N₃ p (.tail _ hp), J₃, hlt', rfl⟩
  · have hin : i = items.size := by omega
    subst hin
    refine wpAny_pyNext_list_end hh hit hl' (by simp) fun h₁ he₁ => wpAny_execs_nil ?_
    have kp : ∀ b o, b ≠ I → h.get? b = some o → h₁.get? b = some o := fun b o hb x => he₁ b o hb x
    exact hQ h₁ tk m' nx hk0 ⟨F'.ns.at fun o x => kp _ o (Ne.symm hIL) x, fun b o x => kp b o (fun q => by rw [q, hI₀] at x; cases x) (F'.keep b o x), F'.above⟩ (fun p hp => ⟨kp _ _ (off p hp) (N' p hp).1, (N' p hp).2⟩) hJ
end
theorem rebase1 {bs h₀ h : Heap} {L d : Addr} {o : Obj} {m : Str → Option Value} {nx : List (Addr × Obj)} (F : Fr h₀ L h m) (N : News h₀ L h nx) (hd : h₀.get? d = some o)
    (hsub : ∀ b o, bs.get? b = some o → h₀.get? b = some o) (hd0 : bs.get? d = none) :
    ∃ g : Heap, (∀ b o, bs.get? b = some o → g.get? b = some o) ∧ Fr g L h m ∧ News g L h ((d, o) :: nx) ∧ (∀ b o, b ≠ d → h₀.get? b = some o → g.get? b = some o) ∧
      (∀ h' m' nx', Fr g L h' m' → News g L h' nx' → (d, o) ∈ nx' → Fr h₀ L h' m') ∧ (∀ h' l, News g L h' l → (∀ p ∈ l, p.1 ∈ nx.map (·.1)) → News h₀ L h' l) := by
  have hL₀ : h₀.get? L = none := Heap.get?_none_of_le F.above
  have hdL : d ≠ L := fun q => by rw [q, hL₀] at hd; cases hd
  have up : ∀ b o', b ≠ d → h₀.get? b = some o' → (h₀.hide d).get? b = some o' := fun b o' hb e => (Heap.hide_ne h₀ (fun q : b = d => hb q)).trans e
  have dn : ∀ b o', (h₀.hide d).get? b = some o' → h₀.get? b = some o' := fun b o' e => Heap.of_hide e
  have sf : (h₀.hide d).get? d = none := by
    cases q : (h₀.hide d).get? d with
    | none => rfl
    | some o' => rw [Heap.hide_self] at q; cases q
  refine ⟨h₀.hide d, fun b o' e => up b o' (fun q => by rw [q, hd0] at e; cases e) (hsub b o' e), ⟨F.ns, fun b o' e => F.keep b o' (dn b o' e), Nat.le_trans (Nat.le_of_eq (Heap.hide_size h₀ d)) F.above⟩, ?_, up, ?_, ?_⟩
  · intro p hp
    rcases List.mem_cons.mp hp with rfl | hp
    · exact ⟨F.keep _ _ hd, hdL, sf⟩
    · refine ⟨(N p hp).1, (N p hp).2.1, ?_⟩
      cases q : (h₀.hide d).get? p.1 with
      | none => rfl
      | some o' => have := dn _ _ q; rw [(N p hp).2.2] at this; cases this
  · intro h' m' nx' F' N' hm
    refine ⟨F'.ns, fun b o' e => ?_, F.above⟩
    by_cases hb : b = d
    · subst hb
      rw [hd] at e
      rw [← e]; exact (N' _ hm).1
    · exact F'.keep b o' (up b o' hb e)
  · intro h' l N' hl p hp
    obtain ⟨q, hq, e⟩ := List.mem_map.mp (hl p hp)
    exact ⟨(N' p hp).1, (N' p hp).2.1, by rw [← e]; exact (N q hq).2.2⟩
section
variable {prog : Program} {w : World} {A : Around} {E : Value → Shared → Prop} {s : Shared} {env : Env}
theorem dictSet_new {d : Addr} {ep : Nat} {es : List Ent} {k r : Str} {u v : Tok} {Q : Unit → Shared → Prop} (ho : s.heap.get? d = some (tabO w es ep)) (hnd : (es.map (·.1)).Nodup)
    (hk : k ∉ es.map (·.1)) (hz : es.length ≤ 15)
    (hQ : ∀ h', h'.get? d = some (tabO w (es ++ [(k, u, r, v)]) (ep + 1)) → Heap.SameBut d s.heap h' → Q () { s with heap := h', toks := s.toks + 1 }) :
    wpAny (model prog w) A (dictSet d (.str k u) (.str r v)) Q E s := by
  have hkey : (strKind prog w).is k (.str k u) = true := by simp [PySem.strKind, Value.isStrOf]
  have hK : KeysOf (strKind prog w) (es.map (entOf w)).toArray := by
    intro e he
    rw [List.mem_toArray] at he
    obtain ⟨x, _, rfl⟩ := List.mem_map.mp he
    exact ⟨x.1, by simp [PySem.strKind, Value.isStrOf, entOf], rfl⟩
  unfold dictSet
  try with_reducible refine wpAny_holding ?_
  refine wpAny_bind ((strKind prog w).pyHash hkey ?_)
  unfold dictSetHashed
  try with_reducible refine wpAny_holding ?_
  refine wpAny_bind (wpAny_dictFind_of (s := { s with toks := s.toks + 1 }) hkey ho rfl hK ?_)
  have hnone : ((es.map (entOf w)).toArray.findIdx? fun e => (strKind prog w).is k e.key) = none := by
    rw [List.findIdx?_toArray, List.findIdx?_eq_none_iff]
    intro e he
    obtain ⟨x, hx, rfl⟩ := List.mem_map.mp he
    cases hc : (strKind prog w).is k (entOf w x).key with
    | false => rfl
    | true =>
      exact absurd (List.mem_map.mpr ⟨x, hx, ((strKind prog w).inj _ _ _ hc (show (strKind prog w).is x.1 (.str x.1 x.2.1) = true by simp [PySem.strKind, Value.isStrOf])).symm⟩) hk
  rw [hnone]
  refine wpAny_bind (wpAny_rule (wpAny_updateDictKeys (hz := by rw [List.size_toArray, List.length_map, sizeLine_eq]; omega) (s := { s with toks := s.toks + 1 }) ho rfl (hQ _ ?_ (Heap.SameBut.update ..))))
  refine (Heap.get?_update_self _ ho (Obj.isFreed_of_dict (Obj.data_mapDictKeys rfl _))).trans ?_
  simp [tabO, Obj.mapDictKeys]
  rfl
def pairV (e : Ent) : Value × Value := (.str e.1 e.2.1, .str e.2.2.1 e.2.2.2)
theorem storeAll_new {d : Addr} : ∀ (es2 es : List Ent) (ep : Nat) (s : Shared) (Q : PUnit → Shared → Prop), s.heap.get? d = some (tabO w es ep) → ((es ++ es2).map (·.1)).Nodup → (es ++ es2).length ≤ 15 →
    (∀ h', h'.get? d = some (tabO w (es ++ es2) (ep + es2.length)) → Heap.SameBut d s.heap h' → Q PUnit.unit { s with heap := h', toks := s.toks + es2.length }) →
    wpAny (model prog w) A (storeAll d (es2.map pairV)) Q E s
  | [], es, ep, s, Q, ho, _, _, hQ => wpAny_pure (by simpa using hQ s.heap (by simpa using ho) (Heap.SameBut.refl _ _))
  | e :: es2, es, ep, s, Q, ho, hnd, hz, hQ => by
    unfold storeAll
    rw [List.map_cons, List.forIn_cons]
    have hnd' : ((es ++ [e]) ++ es2).map (·.1) = (es ++ e :: es2).map (·.1) := by simp
    refine wpAny_bind (wpAny_bind (dictSet_new (k := e.1) (u := e.2.1) (r := e.2.2.1) (v := e.2.2.2) ho ?_ ?_ ?_ fun h₁ hm₁ hs₁ => wpAny_pure ?_))
    · rw [List.map_append] at hnd
      exact (List.nodup_append.mp hnd).1
    · rw [List.map_append, List.map_cons] at hnd
      intro hm
      exact (List.nodup_append.mp hnd).2.2 _ hm _ (.head _) rfl
    · rw [List.length_append] at hz; omega
    · refine storeAll_new es2 (es ++ [e]) (ep + 1) _ Q hm₁ (by rw [hnd']; exact hnd) (by simpa using hz) fun h' hm' hs' => ?_
      have := hQ h' (by rw [List.append_cons, List.length_cons, Nat.add_comm es2.length 1, ← Nat.add_assoc]; exact hm') (hs₁.trans hs')
      simpa [Nat.add_assoc, Nat.add_comm 1] using this
inductive Lits : List (Option Expr) → List Expr → List (Str × Str) → Prop
  | nil : Lits [] [] []
  | cons {a b : Str} {k1 k2 p1 p2} {ks vs l} (h : Lits ks vs l) : Lits (some (.Constant (.str a) k1 p1) :: ks) (.Constant (.str b) k2 p2 :: vs) ((a, b) :: l)
def toE : Tok → List (Str × Str) → List Ent
  | _, [] => []
  | t, (a, b) :: r => (a, t, b, t + 1) :: toE (t + 2) r
theorem toE_len : ∀ (t : Tok) (l : List (Str × Str)), (toE t l).length = l.length
  | _, [] => rfl
  | t, (a, b) :: r => by rw [toE, List.length_cons, toE_len (t + 2) r, List.length_cons]
theorem toE_keys : ∀ (t : Tok) (l : List (Str × Str)), (toE t l).map (·.1) = l.map (·.1)
  | _, [] => rfl
  | t, (a, b) :: r => by rw [toE, List.map_cons, toE_keys (t + 2) r, List.map_cons]
theorem toE_prs : ∀ (t : Tok) (l : List (Str × Str)), (toE t l).map (fun e => (e.1, e.2.2.1)) = l
  | _, [] => rfl
  | t, (a, b) :: r => by rw [toE, List.map_cons, toE_prs (t + 2) r]
theorem toE_ok : ∀ {t : Tok} {l : List (Str × Str)}, 0 < t → (∀ kr ∈ l, (kr.1 == kr.2) = false ∧ kr.2.length ≤ 14 ∧ kr.1.length ≤ 14) → ∀ e ∈ toE t l, EntOk e
  | _, [], _, _, _, he => by cases he
  | t, (a, b) :: r, ht, hl, e, he => by
    rcases List.mem_cons.mp he with rfl | he
    · have := hl (a, b) (.head _)
      exact ⟨ht, Nat.succ_pos _, Nat.ne_of_lt (Nat.lt_succ_self _), this.1, this.2.1, this.2.2⟩
    · exact toE_ok (t := t + 2) (Nat.succ_pos _) (fun kr hk => hl kr (.tail _ hk)) e he
theorem lits_len {ks : List (Option Expr)} {vs : List Expr} {l : List (Str × Str)} (h : Lits ks vs l) : ks.length = l.length ∧ vs.length = l.length ∧ ks.all (·.isSome) = true := by
  induction h with
  | nil => exact ⟨rfl, rfl, rfl⟩
  | cons _ ih => exact ⟨by simp [ih.1], by simp [ih.2.1], by simpa using ih.2.2⟩
theorem evalPairs_lits {pos : Pos} {ks : List (Option Expr)} {vs : List Expr} {l : List (Str × Str)} (h : Lits ks vs l) : ∀ {s : Shared} {Q : List (Value × Value) → Shared → Prop},
    Q ((toE s.toks l).map pairV) { s with toks := s.toks + 2 * l.length } → wpAny (model prog w) A (evalPairs (pairTrees ks vs env pos)) Q E s := by
  induction h with
  | nil => exact fun hq => pairTrees_nil_walk hq
  | @cons a b _ _ _ _ _ _ l' _ ih =>
    intro s Q hq
    refine pairTrees_cons_walk ?_
    refine wpAny_Constant_str ?_
    refine wpAny_Constant_str ?_
    refine ih ?_
    have e : s.toks + 1 + 1 + 2 * l'.length = s.toks + 2 * ((a, b) :: l').length := by rw [List.length_cons]; omega
    dsimp only
    rw [e]
    exact hq
theorem Dict_lits {h₀ : Heap} {L : Addr} {m : Str → Option Value} {news : List (Addr × Obj)} {keys : List (Option Expr)} {values : List Expr} {pos : Pos} {l : List (Str × Str)} {Q : Value → Shared → Prop}
    (hl : Lits keys values l) (h0 : keys ≠ []) (hlen : l.length ≤ 15) (hnd : (l.map (·.1)).Nodup) (F : Fr h₀ L s.heap m) (N : News h₀ L s.heap news) (hbig : h₀.NoLimit)
    (h : ∀ d h', Fr h₀ L h' m → News h₀ L h' ((d, tabO w (toE s.toks l) l.length) :: news) → (∀ p ∈ news, p.1 < d) → (d == sysModules) = false → Q (.ref d) { s with heap := h', toks := s.toks + 3 * l.length }) :
    wpAny (model prog w) A (eval (.Dict keys values pos) env) Q E s := by
  obtain ⟨h1, h2, h3⟩ := lits_len hl
  refine wpAny_Dict_any h3 (by omega) h0 (by omega) (evalPairs_lits hl ?_)
  dsimp only
  refine storeAll_new (w := w) (toE s.toks l) [] 0 _ _ ?_ (by simpa [toE_keys] using hnd) (by simpa [toE_len] using hlen) fun h' hd hs => ?_
  · exact Heap.get?_push_size _ rfl
  · have N₁ := News.push F N { cls := .type "dict", data := .dict #[] }
    have hd0 := N₁ _ (.head _)
    have F' := (F.push { cls := .type "dict", data := .dict #[] }).change hs hd0.2.1 hd0.2.2
    have hsz : (toE s.toks l).length = l.length := toE_len _ _
    have e : s.toks + 2 * l.length + (toE s.toks l).length = s.toks + 3 * l.length := by rw [hsz]; omega
    rw [e]
    refine h _ h' F' (fun p hp => ?_) (fun p hp => Heap.lt_size (N p hp).1) (F.notModules (modules_low hbig))
    rcases List.mem_cons.mp hp with rfl | hp
    · refine ⟨?_, hd0.2⟩
      simpa [hsz] using hd
    · exact ⟨(hs.2 p.1 (Nat.ne_of_lt (Heap.lt_size (N p hp).1))).trans (N₁ p (.tail _ hp)).1, (N p hp).2⟩
theorem Dict_nil {h₀ : Heap} {L : Addr} {m : Str → Option Value} {news : List (Addr × Obj)} {pos : Pos} {Q : Value → Shared → Prop}
    (F : Fr h₀ L s.heap m) (N : News h₀ L s.heap news) (hbig : h₀.NoLimit)
    (h : ∀ d h', Fr h₀ L h' m → News h₀ L h' ((d, tabO w [] 0) :: news) → (∀ p ∈ news, p.1 < d) → (d == sysModules) = false → Q (.ref d) { s with heap := h' }) :
    wpAny (model prog w) A (eval (.Dict [] [] pos) env) Q E s :=
  wpAny_Dict_empty (h _ _ (F.push _) (News.push F N _) (fun p hp => Heap.lt_size (N p hp).1) (F.notModules (modules_low hbig)))
end
section
variable {prog : Program} {w : World} {A : Around} {E : Value → Shared → Prop} {s : Shared} {env : Env}
theorem in_comp {h₀ g g' : Heap} {L C : Addr} {m m' : Str → Option Value} {nw : List (Addr × Obj)} (F : Fr h₀ L g m) (N : News h₀ L g nw) (hC : ∀ b o, g.get? b = some o → b < C) (hn : g'.Ns C m') (hk : ∀ b o, g.get? b = some o → g'.get? b = some o) :
    Fr h₀ C g' m' ∧ News h₀ C g' nw :=
  ⟨⟨hn, fun b o e => hk b o (F.keep b o e), Nat.le_trans F.above (Nat.le_of_lt (by obtain ⟨o, _, _, ho, _⟩ := F.ns; exact hC _ _ ho))⟩,
    fun p hp => ⟨hk _ _ (N p hp).1, Nat.ne_of_lt (hC _ _ (N p hp).1), (N p hp).2.2⟩⟩
theorem walks_bound {I : Addr} {fp wr : List Addr} {n : Nat} {P : Nat → Value → Prop} {St : Nat → Heap → Prop} (W : Walks prog w A I fp wr n P St) : Walks prog w A I fp wr n (fun i v => i < n ∧ P i v) St :=
  { W with item := fun i s Q E hi st hQ => W.item i s Q E hi st (fun v h' tk hp => hQ v h' tk ⟨hi, hp⟩) }
/-- a list comprehension over a range from 0 -/
theorem comp_range {elt iter : Expr} {x : Str} {px : Pos} {scope : Scope} {cl : List (Str × Addr)} {pos : Pos} {Q : Value → Shared → Prop} {k : Int} (R : Value → Value → Prop) (hh : A.handled = none) (hk0 : 0 ≤ k) (hk : k ≤ 1000)
    (hclos : closureFor scope env = pure cl) (hcell : ∀ y ∈ scope.names, y.2 ≠ .cell) (hkind : scope.kind = .function)
    (hnames : ∀ y ∈ scope.names, y.2 = .local → scope.names.lookup y.1 = some .local) (hx : scope.names.lookup x = some .local)
    (hiter : ∀ Q' : Value → Shared → Prop, (∀ r h' tk t u v, (∀ b o, s.heap.get? b = some o → h'.get? b = some o) → IsRange h' r 0 k 1 t u v → Q' (.ref r) { s with heap := h', toks := tk }) → wpAny (model prog w) A (eval iter env) Q' E s)
    (helt : ∀ C (i : Nat) u s₃ m₃ E', (i : Int) < k → (∀ b o, s.heap.get? b = some o → b < C) → s₃.heap.Ns C m₃ → m₃ x = some (.int (i : Int) u) → (∀ b o, s.heap.get? b = some o → s₃.heap.get? b = some o) →
      wpAny (model prog w) A (eval elt (compEnvC scope cl C env)) (fun r s₄ => R (.int (i : Int) u) r ∧ Keeps s₃ s₄) E' s₃)
    (hQ : ∀ D h' tk (ys : Array Value), h'.PlainList D ys → s.heap.get? D = none → (ys.size : Int) = k → (∀ y ∈ ys.toList, ∃ v, R v y) → (∀ b o, s.heap.get? b = some o → h'.get? b = some o) → Q (.ref D) { s with heap := h', toks := tk })
    (hs : ∀ x, foldedSetIterable iter env x = pure x := by intro _; rfl) :
    wpAny (model prog w) A (eval (.ListComp elt [⟨.Name x px, iter, [], 0⟩] scope pos) env) Q E s := by
  refine wpAny_ListComp_free (fun _ => true) R hclos hcell hkind hnames hx (hiter _ ?_) hs
  intro r h' tk t u v hkp hr
  have hsm : Builtin.Range.small 0 k 1 = true :=
     small_one (by omega) (by omega) (by omega) (by omega)
  refine wpAny_pyIter_range hr hsm ?_
  have hsz : Builtin.Range.rangeSize 0 k 1 = ((k.toNat : Nat) : Int) := by
    rw [rangeSize_nat]; simp
  rw [hsz]
  dsimp only
  generalize hob : ({ cls := .type "range_iterator", data := .fields #[rawInt 0, rawInt (k.toNat : Int), rawInt 1] } : Obj) = o
  have hI : (h'.push o).get? h'.objs.size = some o := Heap.get?_push_size _ (by rw [← hob]; rfl)
  have old : ∀ (h'' : Heap), (∀ b o', b ∉ [h'.objs.size] → (h'.push o).get? b = some o' → h''.get? b = some o') → ∀ b o', s.heap.get? b = some o' → h''.get? b = some o' :=
    fun h'' hk b o' e => hk b o' (by rw [List.mem_singleton]; exact Nat.ne_of_lt (Heap.lt_size (hkp b o' e))) (Heap.get?_push_of_some _ (hkp b o' e))
  refine ⟨_, _, _, _, _, _, rfl, walks_bound (Walks.range hh h'.objs.size 0 1 k.toNat), by rw [sizeLine_eq]; omega, ?_, ?_, ⟨?_, ?_⟩, ?_⟩
  · show IsRangeIter _ _ _ _ _
    unfold IsRangeIter
    rw [hI, ← hob]
    simp
  · intro b hb
    show b < (h'.push o).objs.size
    rw [Heap.size_push, List.mem_singleton.mp hb]
    exact Nat.lt_succ_self _
  · intro C i v s₃ m₃ E' _ _ _ _ _ _
    exact wpAny_pure ⟨rfl, _, _, rfl, fun _ _ e => e⟩
  · intro C i v s₃ m₃ E' hCs hP _ hn hm hk' htk'
    have hC : ∀ b o, s.heap.get? b = some o → b < C := fun b o' e => by
      have h1 := Heap.lt_size (hkp b o' e)
      have h2 : (h'.push o).objs.size ≤ C := hCs
      rw [Heap.size_push] at h2
      exact Nat.lt_of_lt_of_le h1 (Nat.le_of_succ_le h2)
    obtain ⟨hi, t', rfl⟩ := hP
    have e : (0 : Int) + (i : Int) * 1 = (i : Int) := by omega
    rw [e] at hm ⊢
    exact helt C i t' s₃ m₃ E' (by omega) hC hn hm (old _ hk')
  · intro D h'' tk' ys vs hD _ hl hlen hP hF hk'
    rw [List.filter_eq_self.mpr (fun _ _ => rfl)] at hF
    refine hQ D h'' tk' ys hl ?_ ?_ (fun y hy => Paired.right hF y hy) (old _ hk')
    · cases e : s.heap.get? D with
      | none => rfl
      | some o' => have := Heap.get?_push_of_some (h := h') o (hkp _ _ e); rw [this] at hD; cases hD
    · have := hF.length
      have h2 : ys.toList.length = ys.size := Array.length_toList
      omega
/-- a list comprehension over a list -/
theorem comp_list {elt iter : Expr} {x : Str} {px : Pos} {scope : Scope} {cl : List (Str × Addr)} {pos : Pos} {Q : Value → Shared → Prop} {items : Array Value} (R : Value → Value → Prop) (hh : A.handled = none) (hk : items.size ≤ sizeLine)
    (hclos : closureFor scope env = pure cl) (hcell : ∀ y ∈ scope.names, y.2 ≠ .cell) (hkind : scope.kind = .function)
    (hnames : ∀ y ∈ scope.names, y.2 = .local → scope.names.lookup y.1 = some .local) (hx : scope.names.lookup x = some .local)
    (hiter : ∀ Q' : Value → Shared → Prop, (∀ r h' tk, (∀ b o, s.heap.get? b = some o → h'.get? b = some o) → h'.IsList r items → Q' (.ref r) { s with heap := h', toks := tk }) → wpAny (model prog w) A (eval iter env) Q' E s)
    (helt : ∀ C (i : Nat) v s₃ m₃ E', items[i]? = some v → (∀ b o, s.heap.get? b = some o → b < C) → s₃.heap.Ns C m₃ → m₃ x = some v → (∀ b o, s.heap.get? b = some o → s₃.heap.get? b = some o) →
      wpAny (model prog w) A (eval elt (compEnvC scope cl C env)) (fun r s₄ => R v r ∧ Keeps s₃ s₄) E' s₃)
    (hQ : ∀ D h' tk (ys : Array Value), h'.IsList D ys → s.heap.get? D = none → Paired R items.toList ys.toList → (∀ b o, s.heap.get? b = some o → h'.get? b = some o) → Q (.ref D) { s with heap := h', toks := tk })
    (hs : ∀ x, foldedSetIterable iter env x = pure x := by intro _; rfl) :
    wpAny (model prog w) A (eval (.ListComp elt [⟨.Name x px, iter, [], 0⟩] scope pos) env) Q E s := by
  refine wpAny_ListComp_free (fun _ => true) R hclos hcell hkind hnames hx (hiter _ ?_) hs
  intro r h' tk hkp hr
  refine wpAny_pyIter_list hr ?_
  dsimp only
  generalize hob : ({ cls := .type "list_iterator", data := .fields #[.ref r, .int 0 0] } : Obj) = o
  have hI : (h'.push o).get? h'.objs.size = some o := Heap.get?_push_size _ (by rw [← hob]; rfl)
  have hrl : r < h'.objs.size := by obtain ⟨o', e, _⟩ := hr; exact Heap.lt_size e
  have old : ∀ (h'' : Heap), (∀ b o', b ∉ [h'.objs.size] → (h'.push o).get? b = some o' → h''.get? b = some o') → ∀ b o', s.heap.get? b = some o' → h''.get? b = some o' :=
    fun h'' hk b o' e => hk b o' (by rw [List.mem_singleton]; exact Nat.ne_of_lt (Heap.lt_size (hkp b o' e))) (Heap.get?_push_of_some _ (hkp b o' e))
  refine ⟨_, _, _, _, _, _, rfl, Walks.list hh h'.objs.size r (Nat.ne_of_lt hrl) items, hk, ⟨?_, hr.at fun o' e => Heap.get?_push_of_some _ e⟩, ?_, ⟨?_, ?_⟩, ?_⟩
  · exact ⟨_, hI, by rw [← hob], by rw [← hob]; rfl⟩
  · intro b hb
    show b < (h'.push o).objs.size
    rw [Heap.size_push]
    simp only [List.mem_cons, List.not_mem_nil, or_false] at hb
    rcases hb with rfl | rfl
    · exact Nat.lt_succ_self _
    · exact Nat.lt_succ_of_lt hrl
  · intro C i v s₃ m₃ E' _ _ _ _ _ _
    exact wpAny_pure ⟨rfl, _, _, rfl, fun _ _ e => e⟩
  · intro C i v s₃ m₃ E' hCs hP _ hn hm hk' htk'
    have hC : ∀ b o, s.heap.get? b = some o → b < C := fun b o' e => by
      have h1 := Heap.lt_size (hkp b o' e)
      have h2 : (h'.push o).objs.size ≤ C := hCs
      rw [Heap.size_push] at h2
      exact Nat.lt_of_lt_of_le h1 (Nat.le_of_succ_le h2)
    exact helt C i v s₃ m₃ E' hP hC hn hm (old _ hk')
  · intro D h'' tk' ys vs hD hl _ hlen hP hF hk'
    rw [List.filter_eq_self.mpr (fun _ _ => rfl)] at hF
    have hvs : vs = items.toList := by
      refine List.ext_getElem? fun j => ?_
      by_cases hj : j < vs.length
      · rw [List.getElem?_eq_getElem hj, Array.getElem?_toList, hP j vs[j] (List.getElem?_eq_getElem hj)]
      · rw [List.getElem?_eq_none (by omega), List.getElem?_eq_none (by rw [Array.length_toList]; omega)]
    refine hQ D h'' tk' ys hl ?_ (hvs ▸ hF) (old _ hk')
    cases e : s.heap.get? D with
    | none => rfl
    | some o' => have := Heap.get?_push_of_some (h := h') o (hkp _ _ e); rw [this] at hD; cases hD
end
def flipE (e : Ent) : Ent := (e.2.2.1, e.2.2.2, e.1, e.2.1)
section
variable {prog : Program} {w : World} {A : Around} {E : Value → Shared → Prop} {s : Shared}
theorem dc_loop {kx vx target iter : PySem.Expr} {scope : Scope} {pos : Pos} {it : Value} {D : Addr} {env : Env} {R : Result → Shared → Prop} (I : Nat → Shared → Prop)
    (turn : ∀ n s, I n s → wpAny (model prog w) A (pyNext it) (fun r s₁ => match r with
      | none => R (.ok .next) s₁
      | some v => wpAny (model prog w) A (letOwnedTupleGo target it v) (fun _ s₀ => wpAny (model prog w) A (assign target env v) (fun _ s₂ =>
          wpAny (model prog w) A (eval kx env) (fun kv s₃ => wpAny (model prog w) A (eval vx env) (fun vv s₄ =>
            wpAny (model prog w) A (dictSet D kv vv) (fun _ s₅ => ∃ m, m < n ∧ I m s₅) (notedBy (model prog w) A env fun e s' => R (.error e) s') s₄) (notedBy (model prog w) A env fun e s' => R (.error e) s') s₃) (notedBy (model prog w) A env fun e s' => R (.error e) s') s₂)
          (notedBy (model prog w) A env fun e s' => R (.error e) s') s₀) (notedBy (model prog w) A env fun e s' => R (.error e) s') s₁) (notedBy (model prog w) A env fun e s' => R (.error e) s') s)
    (n : Nat) (h : I n s) : codeAny (model prog w) A (.compLoop (.DictComp kx vx [⟨target, iter, [], 0⟩] scope pos) 0 it (.ref D) env) R s := by
  refine codeAny_loop rfl I (fun n s hI => ?_) n h
  show wpAny _ A ((compTurn (.DictComp kx vx [⟨target, iter, [], 0⟩] scope pos) 0 it (.ref D) env).onRaise (fun x => do noteFrame x env; theTreesLotGoes x)) _ _ s
  refine wpAny_noted ?_
  rw [compTurn_dict]
  refine wpAny_bind (wpAny_standAt (wpAny_bind (wpAny_mono (turn n s hI) (fun r s₁ h₁ => ?_) fun _ _ h' => h')))
  cases r with
  | none => exact wpAny_pure h₁
  | some v =>
    refine wpAny_bind (wpAny_mono h₁ (fun _ s₀ h₀' => ?_) fun _ _ h' => h')
    refine wpAny_bind (wpAny_mono h₀' (fun _ s₂ h₂ => ?_) fun _ _ h' => h')
    refine wpAny_bind (wpAny_tests_nil ?_)
    exact wpAny_bind (wpAny_bind (wpAny_mono h₂ (fun kv s₄ h₄ => wpAny_bind (wpAny_holding (wpAny_mono h₄ (fun vv s₅ h₅ => wpAny_bind (wpAny_standAt (wpAny_holding (wpAny_mono h₅ (fun _ s₆ h₆ => wpAny_pure ⟨rfl, h₆⟩) fun _ _ h' => h')))) fun _ _ h' => h'))) fun _ _ h' => h'))
variable {env : Env}
/-- the turned table: a dict comprehension over another table's items -/
theorem flip_comp {Q : Value → Shared → Prop} {xk xv : Str} {pk pv p1 p2 pt pos apos cpos : Pos} {x1} {o : Expr} {scope : Scope} {cl : List (Str × Addr)} {d : Addr} {es : List Ent} {ep : Nat}
    (hh : A.handled = none) (hclos : closureFor scope env = pure cl) (hcell : ∀ y ∈ scope.names, y.2 ≠ .cell) (hkind : scope.kind = .function)
    (hnames : ∀ y ∈ scope.names, y.2 = .local → scope.names.lookup y.1 = some .local) (hxk : scope.names.lookup xk = some .local) (hxv : scope.names.lookup xv = some .local) (hne : xk ≠ xv) (dbk : (xk == "__debug__") = false) (dbv : (xv == "__debug__") = false)
    (hd : s.heap.get? d = some (tabO w es ep)) (lo : (d == sysModules) = false) (nd : (es.map (·.1)).Nodup) (ndr : (es.map (·.2.2.1)).Nodup) (hle : es.length ≤ 15)
    (hbase : attributeBase o "items" env (eval o env) = eval o env) (hline : (apos.endLine == cpos.line) = true)
    (ho : ∀ Q' : Value → Shared → Prop, Q' (.ref d) s → wpAny (model prog w) A (eval o env) Q' E s)
    (hQ : ∀ D h' tk, h'.get? D = some (tabO w (es.map flipE) es.length) → s.heap.objs.size ≤ D → (∀ b o, s.heap.get? b = some o → h'.get? b = some o) → Q (.ref D) { s with heap := h', toks := tk })
    (hs : ∀ x, foldedSetIterable (.Call (.Attribute o "items" apos) [] [] cpos) env x = pure x := by intro _; rfl) :
    wpAny (model prog w) A (eval (.DictComp (.Name xv p1) (.Name xk p2) [⟨.Tuple [.Name xk pk, .Name xv pv] x1 pt, .Call (.Attribute o "items" apos) [] [] cpos, [], 0⟩] scope pos) env) Q E s := by
  rw [arm_eval_DictComp]
  refine wpAny_comprehension_free (use := none) rfl hs hclos hkind hnames ?_
  refine wpAny_Call_items (knd := PySem.strKind prog w) (kvs := prs es) lo (tab_of hd nd) hbase hline ho ?_
  have hV : (s.heap.push { cls := .type "dict_items", data := .fields #[.ref d] }).get? s.heap.objs.size = some { cls := .type "dict_items", data := .fields #[.ref d] } := Heap.get?_push_size _ rfl
  have szV : (s.heap.push { cls := .type "dict_items", data := .fields #[.ref d] }).objs.size = s.heap.objs.size + 1 := Heap.size_push ..
  have kV : ∀ b o, s.heap.get? b = some o → (s.heap.push { cls := .type "dict_items", data := .fields #[.ref d] }).get? b = some o := fun b o e => Heap.get?_push_of_some _ e
  generalize s.heap.push { cls := .type "dict_items", data := .fields #[.ref d] } = hv at hV szV kV
  have hdv : hv.get? d = some (tabO w es ep) := kV _ _ hd
  refine wpAny_pyIter_items (s := { s with heap := hv }) (knd := PySem.strKind prog w) (d := d) (kvs := prs es) (ep := ep) ⟨_, hV, rfl, rfl⟩ (tab_at hdv nd) ?_
  have hlen : (prs es).length = (es.map (entOf w)).length := by simp [prs]
  rw [hlen]
  have hI : (hv.push { cls := .type "dict_itemiterator", data := .fields #[.none, .bool false, .ref d, .int 0 0, .int (es.map (entOf w)).length 0, .int ep 0, .none, .none] }).get? hv.objs.size
      = some { cls := .type "dict_itemiterator", data := .fields #[.none, .bool false, .ref d, .int 0 0, .int (es.map (entOf w)).length 0, .int ep 0, .none, .none] } := Heap.get?_push_size _ rfl
  have szI : (hv.push { cls := .type "dict_itemiterator", data := .fields #[.none, .bool false, .ref d, .int 0 0, .int (es.map (entOf w)).length 0, .int ep 0, .none, .none] }).objs.size = hv.objs.size + 1 := Heap.size_push ..
  have kI : ∀ b o, hv.get? b = some o → (hv.push { cls := .type "dict_itemiterator", data := .fields #[.none, .bool false, .ref d, .int 0 0, .int (es.map (entOf w)).length 0, .int ep 0, .none, .none] }).get? b = some o := fun b o e => Heap.get?_push_of_some _ e
  dsimp only
  have hIs : s.heap.objs.size ≤ hv.objs.size := by rw [szV]; exact Nat.le_succ _
  generalize hv.objs.size = it at hI szI hIs ⊢
  generalize hv.push { cls := .type "dict_itemiterator", data := .fields #[.none, .bool false, .ref d, .int 0 0, .int (es.map (entOf w)).length 0, .int ep 0, .none, .none] } = hi at hI szI kI ⊢
  have k2 : ∀ b o, s.heap.get? b = some o → hi.get? b = some o := fun b o e => kI b o (kV b o e)
  refine wpAny_newObj_type (wpAny_newFunctionEnv hcell (by intro y hy; simp at hy) (fun h₁ hns₁ hsb₁ => ?_) hkind)
  dsimp only at hns₁ hsb₁ ⊢
  have hD1 : (hi.push { cls := .type "dict", dict := none, data := .dict #[] }).get? hi.objs.size = some (tabO w [] 0) := Heap.get?_push_size _ rfl
  have szD : (hi.push { cls := .type "dict", dict := none, data := .dict #[] }).objs.size = hi.objs.size + 1 := Heap.size_push ..
  have kD : ∀ b o, hi.get? b = some o → (hi.push { cls := .type "dict", dict := none, data := .dict #[] }).get? b = some o := fun b o e => Heap.get?_push_of_some _ e
  generalize hi.push { cls := .type "dict", dict := none, data := .dict #[] } = h2 at hns₁ hsb₁ hD1 szD kD ⊢
  have hDs : s.heap.objs.size ≤ hi.objs.size := by rw [szI]; exact Nat.le_trans hIs (Nat.le_succ _)
  have hItD : it < hi.objs.size := by rw [szI]; exact Nat.lt_succ_self _
  generalize hi.objs.size = D at *
  have hDC : D < h2.objs.size := by rw [szD]; exact Nat.lt_succ_self _
  generalize h2.objs.size = C at *
  have ltb : ∀ b o, s.heap.get? b = some o → b < it ∧ b < D ∧ b < C := fun b o e => by
    have h1 := Nat.lt_of_lt_of_le (Heap.lt_size e) hIs
    exact ⟨h1, Nat.lt_trans h1 hItD, Nat.lt_trans (Nat.lt_trans h1 hItD) hDC⟩
  have nIC : it ≠ C := Nat.ne_of_lt (Nat.lt_trans hItD hDC)
  have nID : it ≠ D := Nat.ne_of_lt hItD
  have nDC : D ≠ C := Nat.ne_of_lt hDC
  have old : ∀ b o, s.heap.get? b = some o → h₁.get? b = some o := fun b o e => hsb₁.extBut b o (Nat.ne_of_lt (ltb b o e).2.2) (Heap.get?_push_of_some _ (kD b o (k2 b o e)))
  have hI1 : IsItemIter h₁ it d 0 (es.map (entOf w)).length ep .none .none := hsb₁.extBut _ _ nIC (Heap.get?_push_of_some _ (kD _ _ hI))
  have hD1' : h₁.get? D = some (tabO w [] 0) := hsb₁.extBut _ _ nDC (Heap.get?_push_of_some _ hD1)
  have loop : ∀ s₃ : Shared, s₃ = { s with heap := h₁, toks := s.toks + ([] : List (Str × Value)).length } →
      codeAny (model prog w) A (.compLoop (.DictComp (.Name xv p1) (.Name xk p2) [⟨.Tuple [.Name xk pk, .Name xv pv] x1 pt, .Call (.Attribute o "items" apos) [] [] cpos, [], 0⟩] scope pos) 0 (.ref it) (.ref D) (compEnvC scope cl C env))
        (compPost (model prog w) A E none Q (.ref D) C) s₃ := by
    rintro s₃ rfl
    refine dc_loop (fun n s' => ∃ h tk m' i ok ov, s' = { s with heap := h, toks := tk } ∧ IsItemIter h it d i (es.map (entOf w)).length ep ok ov ∧ h.get? D = some (tabO w ((es.take i).map flipE) i) ∧ h.Ns C m' ∧
      (∀ b o, s.heap.get? b = some o → h.get? b = some o) ∧ i ≤ es.length ∧ n = es.length + 1 - i) ?_ (es.length + 1)
      ⟨h₁, _, _, 0, .none, .none, rfl, hI1, hD1', hns₁, old, Nat.zero_le _, rfl⟩
    rintro n s' ⟨h, tk, m', i, ok, ov, rfl, hit, hDi, hn, hk, hile, rfl⟩
    have hd' : h.get? d = some (tabO w es ep) := hk _ _ hd
    by_cases hlt : i < es.length
    · obtain ⟨e, he⟩ : ∃ e, es[i]? = some e := ⟨es[i], by simp [hlt]⟩
      have hx : (es.map (entOf w))[i]? = some (entOf w e) := by rw [List.getElem?_map, he]; rfl
      refine items_item hit hd' hx fun h₁ heo ht₁ hz₁ hk₁ => ?_
      refine wpAny_letOwnedTupleGo_items heo fun h₂ he₂ hs₂ => ?_
      have hiH : it < h.objs.size := Heap.lt_size hit
      have ht₂ : h₂.IsTuple h.objs.size #[(entOf w e).key, (entOf w e).val] := ⟨_, (hs₂.2 _ (Nat.ne_of_gt hiH)).trans ht₁, rfl, _, rfl⟩
      have hn₂ : h₂.Ns C m' := (hn.at' fun o e => hk₁ _ o (Ne.symm nIC) e).sameBut hs₂ (Ne.symm nIC)
      refine kcp_assign hh ht₂ (lookup_relabel_local hxk) (lookup_relabel_local hxv) (by simp [compEnvC, relabel, hkind]) hn₂ fun h₃ tk₃ hn₃ hk₃ => ?_
      have up : ∀ b o, b ≠ it → b ≠ C → h.get? b = some o → h₃.get? b = some o := fun b o b1 b2 x => hk₃ b o b2 (hs₂.extBut b o b1 (hk₁ b o b1 x))
      have hD₃ : h₃.get? D = some (tabO w ((es.take i).map flipE) i) := up _ _ (Ne.symm nID) nDC hDi
      have hi₃ : h₃.get? it = _ := hk₃ _ _ nIC he₂
      have k₃ : ∀ b o, s.heap.get? b = some o → h₃.get? b = some o := fun b o x => up b o (Nat.ne_of_lt (ltb b o x).1) (Nat.ne_of_lt (ltb b o x).2.2) (hk b o x)
      have hkf : (compEnvC scope cl C env).scope.kind = .function := by simp [compEnvC, relabel, hkind]
      have hn₃' : h₃.Ns (compEnvC scope cl C env).locals _ := hn₃
      refine wpAny_Name (hd := dbv) (wpAny_loadName_local (v := .str e.2.2.1 e.2.2.2) hkf (lookup_relabel_local hxv) hn₃' (if_pos rfl) ?_)
      refine wpAny_Name (hd := dbk) (wpAny_loadName_local (v := .str e.1 e.2.1) hkf (lookup_relabel_local hxk) hn₃' (by rw [if_neg hne, if_pos rfl]; rfl) ?_)
      have hflip : (es.take (i + 1)).map flipE = (es.take i).map flipE ++ [flipE e] := by
        rw [List.take_add_one, he]; simp
      have hkeys : ∀ j, ((es.take j).map flipE).map (·.1) = (es.map (·.2.2.1)).take j := fun j => by
        rw [List.map_map, ← List.map_take]; rfl
      refine dictSet_new (k := e.2.2.1) (u := e.2.2.2) (r := e.1) (v := e.2.1) hD₃ ?_ ?_ ?_ fun h₄ hD₄ hs₄ => ?_
      · rw [hkeys]; exact ndr.sublist (List.take_sublist _ _)
      · rw [hkeys]
        intro hm
        have h1 : (es.map (·.2.2.1)).take (i + 1) = (es.map (·.2.2.1)).take i ++ [e.2.2.1] := by
          rw [List.take_add_one, List.getElem?_map, he]; rfl
        have h2 : ((es.map (·.2.2.1)).take (i + 1)).Nodup := ndr.sublist (List.take_sublist _ _)
        rw [h1] at h2
        exact (List.nodup_append.mp h2).2.2 _ hm _ (.head _) rfl
      · rw [List.length_map, List.length_take]; omega
      · refine ⟨es.length + 1 - (i + 1), by omega, h₄, _, _, i + 1, _, _, rfl, hs₄.extBut _ _ nID hi₃, ?_, hn₃.sameBut hs₄ (Ne.symm nDC), fun b o x => hs₄.extBut b o (Nat.ne_of_lt (ltb b o x).2.1) (k₃ b o x), hlt, rfl⟩
        rw [hflip]; exact hD₄
    · have hin : i = es.length := by omega
      subst hin
      refine wpAny_pyNext_items_end (knd := PySem.strKind prog w) (kvs := prs es) hh (by rw [hlen]; exact hit) (tab_at hd' nd) (by simp [prs]) fun h₁ he₁ => ?_
      refine ⟨m', hn.extBut he₁ (Ne.symm nIC), fun h'' hs'' => hQ D h'' tk ?_ hDs fun b o x => hs''.extBut b o (Nat.ne_of_lt (ltb b o x).2.2) (he₁ b o (Nat.ne_of_lt (ltb b o x).1) (hk b o x))⟩
      rw [List.take_of_length_le (Nat.le_refl _)] at hDi
      exact hs''.extBut _ _ nDC (he₁ _ _ (Ne.symm nID) hDi)
  exact codeAny_compStart_dict (loop _ rfl) (kcp_self hI1 (loop _ rfl))
end
section
open PyProof.Rows.LCg
section
variable {prog : Program} {w : World} {A : Around} {E : Value → Shared → Prop} {s : Shared} {env : Env}
/-- a list comprehension over a list, each of its values a new object -/
theorem comp_objs {elt iter : PySem.Expr} {x : Str} {px : Pos} {scope : Scope} {cl : List (Str × Addr)} {pos : Pos} {Q : Value → Shared → Prop} {items : Array Value} (G : Value → Obj → Prop) (hh : A.handled = none) (hk : items.size ≤ sizeLine)
    (hclos : closureFor scope env = pure cl) (hcell : ∀ y ∈ scope.names, y.2 ≠ .cell) (hkind : scope.kind = .function)
    (hnames : ∀ y ∈ scope.names, y.2 = .local → scope.names.lookup y.1 = some .local) (hx : scope.names.lookup x = some .local)
    (hiter : ∀ Q' : Value → Shared → Prop, (∀ r h' tk, (∀ b o, s.heap.get? b = some o → h'.get? b = some o) → h'.IsList r items → Q' (.ref r) { s with heap := h', toks := tk }) → wpAny (model prog w) A (eval iter env) Q' E s)
    (helt : ∀ C (i : Nat) v s₃ m₃ E', items[i]? = some v → s₃.heap.Ns C m₃ → m₃ x = some v → (∀ b o, s.heap.get? b = some o → s₃.heap.get? b = some o) →
      wpAny (model prog w) A (eval elt (compEnvC scope cl C env)) (fun y s₄ => (∃ a o, y = .ref a ∧ s₃.heap.objs.size ≤ a ∧ s₄.heap.get? a = some o ∧ G v o) ∧ Keeps s₃ s₄) E' s₃)
    (hQ : ∀ D h' tk (ys : List Value), h'.IsList D ys.toArray → s.heap.get? D = none → ys.length = items.size → (∀ (i : Nat) v, items[i]? = some v → ∃ a o, ys[i]? = some (.ref a) ∧ h'.get? a = some o ∧ s.heap.get? a = none ∧ G v o) →
      (∀ b o, s.heap.get? b = some o → h'.get? b = some o) → Q (.ref D) { s with heap := h', toks := tk })
    (hs : ∀ x, foldedSetIterable iter env x = pure x := by intro _; rfl) :
    wpAny (model prog w) A (eval (.ListComp elt [⟨.Name x px, iter, [], 0⟩] scope pos) env) Q E s := by
  rw [eval_ListComp]
  refine wpAny_comprehension_free (use := none) rfl hs hclos hkind hnames (hiter _ ?_)
  intro r h' tk hkp hr
  refine wpAny_pyIter_list hr ?_
  dsimp only
  have hrl : r < h'.objs.size := by obtain ⟨o', e, _⟩ := hr; exact Heap.lt_size e
  have ho' : h'.IsList r items := hr
  have hI : (h'.push { cls := .type "list_iterator", data := .fields #[.ref r, .int 0 0] }).IsListIter h'.objs.size r 0 := ⟨_, Heap.get?_push_size _ rfl, rfl, rfl⟩
  have szI : (h'.push { cls := .type "list_iterator", data := .fields #[.ref r, .int 0 0] }).objs.size = h'.objs.size + 1 := Heap.size_push ..
  have kI : ∀ b o, h'.get? b = some o → (h'.push { cls := .type "list_iterator", data := .fields #[.ref r, .int 0 0] }).get? b = some o := fun b o e => Heap.get?_push_of_some _ e
  generalize h'.push { cls := .type "list_iterator", data := .fields #[.ref r, .int 0 0] } = hi at hI szI kI ⊢
  refine wpAny_newObj_type (wpAny_newFunctionEnv hcell (by intro y hy; simp at hy) (fun h₁ hns₁ hsb₁ => ?_) hkind)
  dsimp only at hns₁ hsb₁ ⊢
  have hD1 : (hi.push { cls := .type "list", dict := none, data := .seq ([] : List Value).toArray }).get? hi.objs.size = some (lst []) := Heap.get?_push_size _ rfl
  have szD : (hi.push { cls := .type "list", dict := none, data := .seq ([] : List Value).toArray }).objs.size = hi.objs.size + 1 := Heap.size_push ..
  have kD : ∀ b o, hi.get? b = some o → (hi.push { cls := .type "list", dict := none, data := .seq ([] : List Value).toArray }).get? b = some o := fun b o e => Heap.get?_push_of_some _ e
  generalize hi.push { cls := .type "list", dict := none, data := .seq ([] : List Value).toArray } = h2 at hns₁ hsb₁ hD1 szD kD ⊢
  have hlt : ∀ b o, h'.get? b = some o → b < h'.objs.size := fun b o e => Heap.lt_size e
  have hItD : h'.objs.size < hi.objs.size := by rw [szI]; exact Nat.lt_succ_self _
  generalize h'.objs.size = it at *
  generalize hi.objs.size = D at *
  have hDC : D < h2.objs.size := by rw [szD]; exact Nat.lt_succ_self _
  have hCsz : h2.objs.size < h₁.objs.size := hns₁.lt
  generalize h2.objs.size = C at *
  have nIC : it ≠ C := Nat.ne_of_lt (Nat.lt_trans hItD hDC)
  have nID : it ≠ D := Nat.ne_of_lt hItD
  have nDC : D ≠ C := Nat.ne_of_lt hDC
  have ltb : ∀ b o, h'.get? b = some o → b ≠ it ∧ b ≠ D ∧ b ≠ C := fun b o e => by
    have h1 := hlt b o e
    exact ⟨Nat.ne_of_lt h1, Nat.ne_of_lt (Nat.lt_trans h1 hItD), Nat.ne_of_lt (Nat.lt_trans (Nat.lt_trans h1 hItD) hDC)⟩
  have old : ∀ b o, h'.get? b = some o → h₁.get? b = some o := fun b o e => hsb₁.extBut b o (ltb b o e).2.2 (Heap.get?_push_of_some _ (kD b o (kI b o e)))
  have hI1 : h₁.IsListIter it r 0 := hI.at fun o e => hsb₁.extBut _ _ nIC (Heap.get?_push_of_some _ (kD _ _ e))
  have hD1' : h₁.get? D = some (lst []) := hsb₁.extBut _ _ nDC (Heap.get?_push_of_some _ hD1)
  have nil0 : ∀ a, it ≤ a → s.heap.get? a = none := fun a ha => by
    cases e : s.heap.get? a with
    | none => rfl
    | some o => exact absurd (hlt a o (hkp a o e)) (Nat.not_lt.mpr ha)
  have loop : ∀ s₃ : Shared, s₃ = { s with heap := h₁, toks := tk + ([] : List (Str × Value)).length } →
      codeAny (model prog w) A (.compLoop (.ListComp elt [⟨.Name x px, iter, [], 0⟩] scope pos) 0 (.ref it) (.ref D) (compEnvC scope cl C env))
        (compPost (model prog w) A E none Q (.ref D) C) s₃ := by
    rintro s₃ rfl
    refine codeAny_compLoop_tests (fun n s' => ∃ h tk m' i ys, s' = { s with heap := h, toks := tk } ∧ h.IsListIter it r i ∧ h.get? D = some (lst ys) ∧ h.Ns C m' ∧
      (∀ b o, h'.get? b = some o → h.get? b = some o) ∧ ys.length = i ∧ i ≤ items.size ∧ n = items.size + 1 - i ∧
      (∀ (j : Nat) v, j < i → items[j]? = some v → ∃ a o, ys[j]? = some (.ref a) ∧ C < a ∧ h.get? a = some o ∧ G v o)) ?_ (items.size + 1)
      ⟨h₁, _, _, 0, [], rfl, hI1, hD1', hns₁, old, rfl, Nat.zero_le _, rfl, fun j v hj => absurd hj (Nat.not_lt_zero _)⟩
    rintro n s' ⟨h, tk, m', i, ys, rfl, hit, hDi, hn, hk', hyl, hile, rfl, hys⟩
    have hl' : h.IsList r items := ho'.at fun o e => hk' _ o e
    by_cases hlt' : i < items.size
    · have hv : items[i]? = some items[i] := Array.getElem?_eq_getElem hlt'
      refine wpAny_pyNext_list_item hit hl' hv fun h₂ hit₂ hs₂ => ?_
      refine wpAny_assign_Name (wpAny_storeName_local (lookup_relabel_local hx) (hn.sameBut hs₂ (Ne.symm nIC)) (fun h₃ hn₃ hs₃ => ?_) (by simp [compEnvC, relabel, hkind]))
      refine wpAny_tests_nil ?_
      simp only [if_true]
      have up : ∀ b o, b ≠ it → b ≠ C → h.get? b = some o → h₃.get? b = some o := fun b o b1 b2 e => hs₃.extBut b o b2 (hs₂.extBut b o b1 e)
      have k₃ : ∀ b o, h'.get? b = some o → h₃.get? b = some o := fun b o e => up b o (ltb b o e).1 (ltb b o e).2.2 (hk' b o e)
      have hC₃ : C < h₃.objs.size := hn₃.lt
      refine wpAny_mono (helt C i items[i] { s with heap := h₃, toks := _ } _ _ hv hn₃ (by simp) fun b o e => k₃ b o (hkp b o e)) (fun y s₄ h₄ => ?_) fun _ _ e => e
      obtain ⟨⟨a, o, rfl, ha, hao, hG⟩, h₄, tk₄, rfl, hk₄⟩ := h₄
      have hD₄ : h₄.get? D = some (lst ys) := hk₄ _ _ (up _ _ (Ne.symm nID) nDC hDi)
      refine append_at (hsz := by show ys.toArray.size ≤ sizeLine; rw [List.size_toArray, hyl]; exact Nat.le_trans hile hk) hD₄ fun h₅ hs₅ hD₅ => ?_
      have haC : C < a := Nat.lt_of_lt_of_le hC₃ ha
      refine ⟨items.size + 1 - (i + 1), by omega, h₅, tk₄, _, i + 1, ys ++ [.ref a], rfl, ?_, hD₅.trans (congrArg some (lst_snoc ys _)), (hn₃.keeps hk₄).sameBut hs₅ (Ne.symm nDC), fun b o e => hs₅.extBut b o (ltb b o e).2.1 (hk₄ b o (k₃ b o e)),
        by rw [List.length_append, List.length_singleton, hyl], hlt', rfl, ?_⟩
      · exact (hit₂.at fun o e => hs₅.extBut _ _ nID (hk₄ _ _ (hs₃.extBut _ _ nIC e)))
      · intro j v hj hjv
        by_cases hji : j < i
        · obtain ⟨a', o', e1, e2, e3, e4⟩ := hys j v hji hjv
          refine ⟨a', o', by rw [List.getElem?_append_left (by omega)]; exact e1, e2, ?_, e4⟩
          exact hs₅.extBut _ _ (Nat.ne_of_gt (Nat.lt_trans hDC e2)) (hk₄ _ _ (up _ _ (Nat.ne_of_gt (Nat.lt_trans (Nat.lt_trans hItD hDC) e2)) (Nat.ne_of_gt e2) e3))
        · have hji' : j = i := by omega
          subst hji'
          rw [hv] at hjv
          cases hjv
          refine ⟨a, o, by rw [← hyl]; simp, haC, ?_, hG⟩
          exact hs₅.extBut _ _ (Nat.ne_of_gt (Nat.lt_trans hDC haC)) hao
    · have hin : i = items.size := by omega
      subst hin
      refine wpAny_pyNext_list_end hh hit hl' (by simp) fun h₂ he₂ => ?_
      refine ⟨m', hn.extBut he₂ (Ne.symm nIC), fun h'' hs'' => hQ D h'' tk ys ?_ (nil0 D (Nat.le_of_lt hItD)) hyl ?_ fun b o e => ?_⟩
      · exact ⟨_, hs''.extBut _ _ nDC (he₂ _ _ (Ne.symm nID) hDi), rfl, _, rfl⟩
      · intro j v hjv
        obtain ⟨a', o', e1, e2, e3, e4⟩ := hys j v (Array.getElem?_eq_some_iff.mp hjv).1 hjv
        have hia := Nat.lt_trans (Nat.lt_trans hItD hDC) e2
        exact ⟨a', o', e1, hs''.extBut _ _ (Nat.ne_of_gt e2) (he₂ _ _ (Nat.ne_of_gt hia) e3), nil0 _ (Nat.le_of_lt hia), e4⟩
      · have e' := hkp b o e
        exact hs''.extBut _ _ (ltb b o e').2.2 (he₂ _ _ (ltb b o e').1 (hk' b o e'))
  exact codeAny_compStart_list (loop _ rfl) (wpAny_pyIter_listiter hI1 (loop _ rfl))
end
end
section
open PyProof.Rows.LCg
section
variable {prog : Program} {w : World} {A : Around} {E : Value → Shared → Prop} {s : Shared} {env : Env}
/-- the same, its value stored in a name -/
theorem assign_objs {elt iter : PySem.Expr} {x y : Str} {px py : Pos} {scope : Scope} {cl : List (Str × Addr)} {pos spos : Pos} {Q : Flow → Shared → Prop} {m : Str → Option Value} (Inv : Heap → Prop) {items : Array Value} (G : Value → Addr → Obj → Prop) (hh : A.handled = none) (hk : items.size ≤ sizeLine)
    (hsw : swapsWith (.ListComp elt [⟨.Name x px, iter, [], 0⟩] scope pos) (some (.Name y py)) spos.line env = pure true) (hy : env.kindOf y = some .local)
    (hp : (env.scope.kind == .class || (env.scope.kind == .module && env.locals != env.globals)) = false)
    (hclos : closureFor scope env = pure cl) (hcell : ∀ y ∈ scope.names, y.2 ≠ .cell) (hkind : scope.kind = .function)
    (hnames : ∀ y ∈ scope.names, y.2 = .local → scope.names.lookup y.1 = some .local) (hx : scope.names.lookup x = some .local)
    (hiter : ∀ Q' : Value → Shared → Prop, (∀ r g tk, Inv g → g.Ns env.locals m → g.IsList r items → Q' (.ref r) { s with heap := g, toks := tk }) → wpAny (model prog w) A (eval iter env) Q' E s)
    (helt : ∀ g C (i : Nat) v s₃ m₃ E', Inv g → items[i]? = some v → s₃.heap.Ns C m₃ → m₃ x = some v → (∀ b o, g.get? b = some o → s₃.heap.get? b = some o) →
      wpAny (model prog w) A (eval elt (compEnvC scope cl C env)) (fun y s₄ => (∃ a o, y = .ref a ∧ s₃.heap.objs.size ≤ a ∧ s₄.heap.get? a = some o ∧ G v a o) ∧ Keeps s₃ s₄) E' s₃)
    (hQ : ∀ g D h' tk (ys : List Value), Inv g → h'.IsList D ys.toArray → g.get? D = none → ys.length = items.size → (∀ (i : Nat) v, items[i]? = some v → ∃ a o, ys[i]? = some (.ref a) ∧ h'.get? a = some o ∧ g.get? a = none ∧ G v a o) →
      h'.Ns env.locals (fun z => if z = y then some (.ref D) else m z) → (∀ b o, b ≠ env.locals → g.get? b = some o → h'.get? b = some o) → Q .next { s with heap := h', toks := tk })
    (hs : ∀ x, foldedSetIterable iter env x = pure x := by intro _; rfl) :
    wpAny (model prog w) A (exec (.Assign [.Name y py] (.ListComp elt [⟨.Name x px, iter, [], 0⟩] scope pos) spos) env) Q E s := by
  rw [exec_Assign_Name_used _ _ _ _ hsw]
  refine wpAny_bind (wpAny_standAt (wpAny_bind ?_))
  show wpAny _ A (do let _ ← comprehension (.ListComp elt [⟨.Name x px, iter, [], 0⟩] scope pos) scope env _ (newList []) false (eval iter env) (some (assign (.Name y py) env))) _ _ s
  refine wpAny_bind (wpAny_mono (wpAny_comprehension_free (use := some (assign (.Name y py) env)) (Q := fun _ s' => Q .next s') rfl hs hclos hkind hnames (hiter _ ?_)) (fun _ s' hq => wpAny_pure (wpAny_pure hq)) fun _ _ e => e)
  intro r h' tk hinv hnL' hr
  refine wpAny_pyIter_list hr ?_
  dsimp only
  have hrl : r < h'.objs.size := by obtain ⟨o', e, _⟩ := hr; exact Heap.lt_size e
  have ho' : h'.IsList r items := hr
  have hLl : env.locals < h'.objs.size := hnL'.lt
  have hI : (h'.push { cls := .type "list_iterator", data := .fields #[.ref r, .int 0 0] }).IsListIter h'.objs.size r 0 := ⟨_, Heap.get?_push_size _ rfl, rfl, rfl⟩
  have szI : (h'.push { cls := .type "list_iterator", data := .fields #[.ref r, .int 0 0] }).objs.size = h'.objs.size + 1 := Heap.size_push ..
  have kI : ∀ b o, h'.get? b = some o → (h'.push { cls := .type "list_iterator", data := .fields #[.ref r, .int 0 0] }).get? b = some o := fun b o e => Heap.get?_push_of_some _ e
  generalize h'.push { cls := .type "list_iterator", data := .fields #[.ref r, .int 0 0] } = hi at hI szI kI ⊢
  refine wpAny_newObj_type (wpAny_newFunctionEnv hcell (by intro y hy; simp at hy) (fun h₁ hns₁ hsb₁ => ?_) hkind)
  dsimp only at hns₁ hsb₁ ⊢
  have hD1 : (hi.push { cls := .type "list", dict := none, data := .seq ([] : List Value).toArray }).get? hi.objs.size = some (lst []) := Heap.get?_push_size _ rfl
  have szD : (hi.push { cls := .type "list", dict := none, data := .seq ([] : List Value).toArray }).objs.size = hi.objs.size + 1 := Heap.size_push ..
  have kD : ∀ b o, hi.get? b = some o → (hi.push { cls := .type "list", dict := none, data := .seq ([] : List Value).toArray }).get? b = some o := fun b o e => Heap.get?_push_of_some _ e
  generalize hi.push { cls := .type "list", dict := none, data := .seq ([] : List Value).toArray } = h2 at hns₁ hsb₁ hD1 szD kD ⊢
  have hlt : ∀ b o, h'.get? b = some o → b < h'.objs.size := fun b o e => Heap.lt_size e
  have hItD : h'.objs.size < hi.objs.size := by rw [szI]; exact Nat.lt_succ_self _
  generalize h'.objs.size = it at *
  generalize hi.objs.size = D at *
  have hDC : D < h2.objs.size := by rw [szD]; exact Nat.lt_succ_self _
  have hCsz : h2.objs.size < h₁.objs.size := hns₁.lt
  generalize h2.objs.size = C at *
  have nIC : it ≠ C := Nat.ne_of_lt (Nat.lt_trans hItD hDC)
  have nID : it ≠ D := Nat.ne_of_lt hItD
  have nDC : D ≠ C := Nat.ne_of_lt hDC
  have ltb : ∀ b o, h'.get? b = some o → b ≠ it ∧ b ≠ D ∧ b ≠ C := fun b o e => by
    have h1 := hlt b o e
    exact ⟨Nat.ne_of_lt h1, Nat.ne_of_lt (Nat.lt_trans h1 hItD), Nat.ne_of_lt (Nat.lt_trans (Nat.lt_trans h1 hItD) hDC)⟩
  have old : ∀ b o, h'.get? b = some o → h₁.get? b = some o := fun b o e => hsb₁.extBut b o (ltb b o e).2.2 (Heap.get?_push_of_some _ (kD b o (kI b o e)))
  have hI1 : h₁.IsListIter it r 0 := hI.at fun o e => hsb₁.extBut _ _ nIC (Heap.get?_push_of_some _ (kD _ _ e))
  have hD1' : h₁.get? D = some (lst []) := hsb₁.extBut _ _ nDC (Heap.get?_push_of_some _ hD1)
  have nil0 : ∀ a, it ≤ a → h'.get? a = none := fun a ha => by
    cases e : h'.get? a with
    | none => rfl
    | some o => exact absurd (hlt a o e) (Nat.not_lt.mpr ha)
  have loop : ∀ s₃ : Shared, s₃ = { s with heap := h₁, toks := tk + ([] : List (Str × Value)).length } →
      codeAny (model prog w) A (.compLoop (.ListComp elt [⟨.Name x px, iter, [], 0⟩] scope pos) 0 (.ref it) (.ref D) (compEnvC scope cl C env))
        (compPost (model prog w) A E (some (assign (.Name y py) env)) (fun _ s' => Q .next s') (.ref D) C) s₃ := by
    rintro s₃ rfl
    refine codeAny_compLoop_tests (fun n s' => ∃ h tk m' i ys, s' = { s with heap := h, toks := tk } ∧ h.IsListIter it r i ∧ h.get? D = some (lst ys) ∧ h.Ns C m' ∧
      (∀ b o, h'.get? b = some o → h.get? b = some o) ∧ ys.length = i ∧ i ≤ items.size ∧ n = items.size + 1 - i ∧
      (∀ (j : Nat) v, j < i → items[j]? = some v → ∃ a o, ys[j]? = some (.ref a) ∧ C < a ∧ h.get? a = some o ∧ G v a o)) ?_ (items.size + 1)
      ⟨h₁, _, _, 0, [], rfl, hI1, hD1', hns₁, old, rfl, Nat.zero_le _, rfl, fun j v hj => absurd hj (Nat.not_lt_zero _)⟩
    rintro n s' ⟨h, tk, m', i, ys, rfl, hit, hDi, hn, hk', hyl, hile, rfl, hys⟩
    have hl' : h.IsList r items := ho'.at fun o e => hk' _ o e
    by_cases hlt' : i < items.size
    · have hv : items[i]? = some items[i] := Array.getElem?_eq_getElem hlt'
      refine wpAny_pyNext_list_item hit hl' hv fun h₂ hit₂ hs₂ => ?_
      refine wpAny_assign_Name (wpAny_storeName_local (lookup_relabel_local hx) (hn.sameBut hs₂ (Ne.symm nIC)) (fun h₃ hn₃ hs₃ => ?_) (by simp [compEnvC, relabel, hkind]))
      refine wpAny_tests_nil ?_
      simp only [if_true]
      have up : ∀ b o, b ≠ it → b ≠ C → h.get? b = some o → h₃.get? b = some o := fun b o b1 b2 e => hs₃.extBut b o b2 (hs₂.extBut b o b1 e)
      have k₃ : ∀ b o, h'.get? b = some o → h₃.get? b = some o := fun b o e => up b o (ltb b o e).1 (ltb b o e).2.2 (hk' b o e)
      have hC₃ : C < h₃.objs.size := hn₃.lt
      refine wpAny_mono (helt h' C i items[i] { s with heap := h₃, toks := _ } _ _ hinv hv hn₃ (by simp) k₃) (fun y s₄ h₄ => ?_) fun _ _ e => e
      obtain ⟨⟨a, o, rfl, ha, hao, hG⟩, h₄, tk₄, rfl, hk₄⟩ := h₄
      have hD₄ : h₄.get? D = some (lst ys) := hk₄ _ _ (up _ _ (Ne.symm nID) nDC hDi)
      refine append_at (hsz := by show ys.toArray.size ≤ sizeLine; rw [List.size_toArray, hyl]; exact Nat.le_trans hile hk) hD₄ fun h₅ hs₅ hD₅ => ?_
      have haC : C < a := Nat.lt_of_lt_of_le hC₃ ha
      refine ⟨items.size + 1 - (i + 1), by omega, h₅, tk₄, _, i + 1, ys ++ [.ref a], rfl, ?_, hD₅.trans (congrArg some (lst_snoc ys _)), (hn₃.keeps hk₄).sameBut hs₅ (Ne.symm nDC), fun b o e => hs₅.extBut b o (ltb b o e).2.1 (hk₄ b o (k₃ b o e)),
        by rw [List.length_append, List.length_singleton, hyl], hlt', rfl, ?_⟩
      · exact (hit₂.at fun o e => hs₅.extBut _ _ nID (hk₄ _ _ (hs₃.extBut _ _ nIC e)))
      · intro j v hj hjv
        by_cases hji : j < i
        · obtain ⟨a', o', e1, e2, e3, e4⟩ := hys j v hji hjv
          refine ⟨a', o', by rw [List.getElem?_append_left (by omega)]; exact e1, e2, ?_, e4⟩
          exact hs₅.extBut _ _ (Nat.ne_of_gt (Nat.lt_trans hDC e2)) (hk₄ _ _ (up _ _ (Nat.ne_of_gt (Nat.lt_trans (Nat.lt_trans hItD hDC) e2)) (Nat.ne_of_gt e2) e3))
        · have hji' : j = i := by omega
          subst hji'
          rw [hv] at hjv
          cases hjv
          refine ⟨a, o, by rw [← hyl]; simp, haC, ?_, hG⟩
          exact hs₅.extBut _ _ (Nat.ne_of_gt (Nat.lt_trans hDC haC)) hao
    · have hin : i = items.size := by omega
      subst hin
      refine wpAny_pyNext_list_end hh hit hl' (by simp) fun h₂ he₂ => ?_
      have nLI : env.locals ≠ it := Nat.ne_of_lt hLl
      have nLD : env.locals ≠ D := Nat.ne_of_lt (Nat.lt_trans hLl hItD)
      have nLC : env.locals ≠ C := Nat.ne_of_lt (Nat.lt_trans (Nat.lt_trans hLl hItD) hDC)
      have hL₂ : h₂.Ns env.locals m := (hnL'.at' fun o e => hk' _ o e).extBut he₂ nLI
      show wpAny _ A (assign (.Name y py) env (.ref D)) _ _ _
      refine wpAny_assign_Name (wpAny_storeName_local hy hL₂ (fun h₆ hn₆ hs₆ => ?_) hp)
      refine ⟨m', (hn.extBut he₂ (Ne.symm nIC)).sameBut hs₆ (Ne.symm nLC), fun h'' hs'' => hQ h' D h'' _ ys hinv ?_ (nil0 D (Nat.le_of_lt hItD)) hyl ?_ (hn₆.sameBut hs'' nLC) fun b o hb e => ?_⟩
      · exact ⟨_, hs''.extBut _ _ nDC (hs₆.extBut _ _ (Ne.symm nLD) (he₂ _ _ (Ne.symm nID) hDi)), rfl, _, rfl⟩
      · intro j v hjv
        obtain ⟨a', o', e1, e2, e3, e4⟩ := hys j v (Array.getElem?_eq_some_iff.mp hjv).1 hjv
        have hia := Nat.lt_trans (Nat.lt_trans hItD hDC) e2
        exact ⟨a', o', e1, hs''.extBut _ _ (Nat.ne_of_gt e2) (hs₆.extBut _ _ (Nat.ne_of_gt (Nat.lt_trans hLl hia)) (he₂ _ _ (Nat.ne_of_gt hia) e3)), nil0 _ (Nat.le_of_lt hia), e4⟩
      · have e' := e
        exact hs''.extBut _ _ (ltb b o e').2.2 (hs₆.extBut _ _ hb (he₂ _ _ (ltb b o e').1 (hk' b o e')))
  exact codeAny_compStart_list (loop _ rfl) (wpAny_pyIter_listiter hI1 (loop _ rfl))
end
end
section
open Builtin Builtin.Str StrLaws
def rp (y z : List Nat) : Nat → List Nat → List Nat
  | _, [] => []
  | k + 1, _ :: r => rp y z k r
  | 0, c :: r => if (c :: r).take y.length = y then z ++ rp y z (y.length - 1) r else c :: rp y z 0 r
def cutsL (y : List Nat) : Nat → Nat → List Nat → List Nat
  | _, _, [] => []
  | p, k + 1, _ :: r => cutsL y (p + 1) k r
  | p, 0, c :: r => if (c :: r).take y.length = y then p :: cutsL y (p + 1) (y.length - 1) r else cutsL y (p + 1) 0 r
theorem len_toList (x : Str) : x.cps.toList.length = x.length := by simp [Str.length]
theorem occ_cuts (x y : Str) (hy : 1 ≤ y.length) : ∀ (l : List Nat) (p k : Nat) (st : Array Nat × Nat), x.cps.toList.drop p = l → p + l.length = x.length → st.2 = p + k ∨ (k = 0 ∧ st.2 ≤ p) → st.1.size ≤ p →
    (forIn (List.range' p (x.length + 1 - p)) st (occBody x y x.length (x.length + 1))).run.fst.toList = st.1.toList ++ cutsL y.cps.toList p k l
  | [], p, k, st, hl, hp, hf, hs => by
    have e : x.length + 1 - p = 1 := by simp at hp; omega
    rw [e]
    show (forIn [p] st (occBody x y x.length (x.length + 1))).run.fst.toList = _
    rw [List.forIn_cons]
    unfold occBody
    rw [if_neg (by intro h; have := h.1.2; simp at hp; omega)]
    simp [cutsL]
  | c :: r, p, k, st, hl, hp, hf, hs => by
    have hp' : p + 1 + r.length = x.length := by rw [List.length_cons] at hp; omega
    have e : x.length + 1 - p = (x.length + 1 - (p + 1)) + 1 := by omega
    have hl' : x.cps.toList.drop (p + 1) = r := by rw [← List.drop_drop, hl]; rfl
    rw [e, List.range'_succ, List.forIn_cons]
    unfold occBody
    cases k with
    | succ k =>
      rw [if_neg (by intro h; have := h.1.1.2; omega)]
      rw [cutsL]
      exact occ_cuts x y hy r (p + 1) k st hl' hp' (.inl (by omega)) (by omega)
    | zero =>
      have hf' : st.2 ≤ p := by omega
      rw [cutsL]
      by_cases hpre : (c :: r).take y.cps.toList.length = y.cps.toList
      · rw [if_pos hpre]
        have hm : y.length ≤ (c :: r).length := by
          have := congrArg List.length hpre
          rw [List.length_take, len_toList] at this
          omega
        rw [if_pos ⟨⟨⟨by omega, hf'⟩, by omega⟩, by rw [subAt_eq, hl, ← len_toList y, hpre]; exact beq_self_eq_true _⟩]
        have := occ_cuts x y hy r (p + 1) (y.cps.toList.length - 1) (st.1.push p, p + y.length) hl' hp' (.inl (by rw [len_toList]; show p + y.length = _; omega)) (by rw [Array.size_push]; omega)
        refine Eq.trans (b := (forIn (List.range' (p + 1) (x.length + 1 - (p + 1))) (st.1.push p, p + y.length) (occBody x y x.length (x.length + 1))).run.fst.toList) rfl ?_
        rw [this]
        simp
      · rw [if_neg hpre]
        rw [if_neg (by
          intro h
          have h2 := h.2
          rw [subAt_eq, hl, beq_iff_eq, ← len_toList y] at h2
          exact hpre h2)]
        exact occ_cuts x y hy r (p + 1) 0 st hl' hp' (.inr ⟨rfl, by omega⟩) (by omega)
theorem join_cons_list (z p : Str) {l : List Str} (hl : ∃ q r, l = q :: r) : (Str.join z (p :: l)).cps.toList = p.cps.toList ++ z.cps.toList ++ (Str.join z l).cps.toList := by
  obtain ⟨q, r, rfl⟩ := hl
  show (p ++ z ++ Str.join z (q :: r)).cps.toList = _
  simp only [Str.cps_append, Array.toList_append]
theorem parts_rp (x y z : Str) (hy : 1 ≤ y.length) : ∀ (l : List Nat) (p k a : Nat), x.cps.toList.drop p = l → p + l.length = x.length → a = p + k ∨ (k = 0 ∧ a ≤ p) →
    (Str.join z (partsFrom x y.length a (cutsL y.cps.toList p k l))).cps.toList = (x.cps.toList.drop a).take (p - a) ++ rp y.cps.toList z.cps.toList k l
  | [], p, k, a, hl, hp, ha => by
    simp only [cutsL, rp, partsFrom, List.append_nil]
    show (strSub x a x.length).cps.toList = _
    rw [strSub_toList]
    simp at hp
    rw [hp]
  | c :: r, p, k, a, hl, hp, ha => by
    have hp' : p + 1 + r.length = x.length := by rw [List.length_cons] at hp; omega
    have hl' : x.cps.toList.drop (p + 1) = r := by rw [← List.drop_drop, hl]; rfl
    cases k with
    | succ k =>
      rw [cutsL, rp, parts_rp x y z hy r (p + 1) k a hl' hp' (.inl (by omega))]
      rw [show p + 1 - a = 0 by omega, show p - a = 0 by omega]
    | zero =>
      have ha' : a ≤ p := by omega
      rw [cutsL, rp]
      by_cases hpre : (c :: r).take y.cps.toList.length = y.cps.toList
      · rw [if_pos hpre, if_pos hpre, partsFrom, join_cons_list z _ (partsFrom_ne x y.length _ _), parts_rp x y z hy r (p + 1) (y.cps.toList.length - 1) (p + y.length) hl' hp' (.inl (by rw [len_toList]; omega)), strSub_toList,
          show p + 1 - (p + y.length) = 0 by omega]
        simp
      · rw [if_neg hpre, if_neg hpre, parts_rp x y z hy r (p + 1) 0 a hl' hp' (.inr ⟨rfl, by omega⟩)]
        have e : p + 1 - a = (p - a) + 1 := by omega
        have h1 : (x.cps.toList.drop a)[p - a]? = some c := by
          rw [List.getElem?_drop, show a + (p - a) = p by omega]
          have := congrArg (fun l => l[0]?) hl
          simpa using this
        rw [e, List.take_add_one, h1]
        simp
theorem replace_rp (x y z : Str) (hy : 1 ≤ y.length) : (Txt.replace x y z).cps.toList = rp y.cps.toList z.cps.toList 0 x.cps.toList := by
  have ho : occurrences x y 0 x.length (x.length + 1) = cutsL y.cps.toList 0 0 x.cps.toList := by
    rw [occ_eq]
    have := occ_cuts x y hy x.cps.toList 0 0 (#[], 0) rfl (by rw [len_toList]; omega) (.inl rfl) (Nat.le_refl _)
    simpa using this
  have hr := parts_rp x y z hy x.cps.toList 0 0 0 rfl (by rw [len_toList]; omega) (.inl rfl)
  simp only [Nat.sub_self, List.take_zero, List.nil_append] at hr
  unfold Txt.replace
  rw [ho]
  have h0 : (y.length == 0) = false := by simp; omega
  rw [h0, Bool.false_and, Bool.or_false]
  cases he : (cutsL y.cps.toList 0 0 x.cps.toList).isEmpty
  · rw [if_neg Bool.false_ne_true, glued_eq_join, partsBetween_eq]
    exact hr
  · rw [if_pos rfl]
    rw [List.isEmpty_iff.mp he] at hr
    rw [← hr]
    show _ = (strSub x 0 x.length).cps.toList
    rw [strSub_toList]
    have := len_toList x
    rw [List.drop_zero, Nat.sub_zero, ← this, List.take_length]
end
section
abbrev NP := Nat × List Nat
def toS (e : NP) : Str × Str := (⟨#[e.1]⟩, ⟨e.2.toArray⟩)
def g1 (c : Nat) (r : List Nat) (k : Nat) : List Nat := if k = c then r else [k]
theorem rp_one (c : Nat) (z : List Nat) : ∀ l : List Nat, rp [c] z 0 l = l.flatMap (g1 c z)
  | [] => rfl
  | k :: r => by
    rw [rp, List.flatMap_cons]
    by_cases h : k = c
    · rw [if_pos (by simp [h])]
      show z ++ rp [c] z 0 r = _
      rw [rp_one c z r, g1, if_pos h]
    · rw [if_neg (by simp [h]), rp_one c z r, g1, if_neg h]
      rfl
def sub : List NP → Nat → List Nat
  | [], k => [k]
  | e :: ps, k => if k = e.1 then e.2 else sub ps k
theorem sub_free : ∀ (ps : List NP) (l : List Nat), (∀ e ∈ ps, e.1 ∉ l) → l.flatMap (sub ps) = l
  | _, [], _ => rfl
  | ps, k :: l, h => by
    have h1 : sub ps k = [k] := by
      induction ps with
      | nil => rfl
      | cons e ps ih =>
        have := h e (.head _)
        rw [sub, if_neg (fun q => this (by rw [q]; exact .head _))]
        exact ih fun e he => h e (.tail _ he)
    rw [List.flatMap_cons, h1, sub_free ps l fun e he hm => h e he (.tail _ hm)]
    rfl
def seqL (ps : List NP) (l : List Nat) : List Nat := ps.foldl (fun l e => l.flatMap (g1 e.1 e.2)) l
theorem seqL_sub : ∀ (ps : List NP) (l : List Nat), ps.Pairwise (fun a b => b.1 ∉ a.2) → seqL ps l = l.flatMap (sub ps)
  | [], l, _ => by
    show l = l.flatMap (fun k => [k])
    simp
  | e :: ps, l, h => by
    rw [List.pairwise_cons] at h
    show seqL ps (l.flatMap (g1 e.1 e.2)) = _
    rw [seqL_sub ps _ h.2, List.flatMap_assoc]
    congr 1
    funext k
    rw [sub, g1]
    split
    · exact sub_free ps e.2 h.1
    · simp
theorem flat_len {f : Nat → List Nat} {n : Nat} (hf : ∀ k, (f k).length ≤ n) : ∀ l : List Nat, (l.flatMap f).length ≤ n * l.length
  | [] => Nat.le_refl _
  | k :: l => by
    rw [List.flatMap_cons, List.length_append, List.length_cons, Nat.mul_succ]
    have := flat_len hf l
    have := hf k
    omega
theorem sub_len {ps : List NP} (h : ∀ e ∈ ps, e.2.length ≤ 6) (k : Nat) : (sub ps k).length ≤ 6 := by
  induction ps with
  | nil => show 1 ≤ 6; decide
  | cons e ps ih =>
    rw [sub]
    split
    · exact h e (.head _)
    · exact ih fun e he => h e (.tail _ he)
/-- a text's replacements, one after the other -/
def escP (ps : List (Str × Str)) (x : Str) : Str := ps.foldl (fun x kr => Txt.replace x kr.1 kr.2) x
theorem escP_list : ∀ (L : List NP) (x : Str), (escP (L.map toS) x).cps.toList = seqL L x.cps.toList
  | [], _ => rfl
  | e :: L, x => by
    show (escP (L.map toS) (Txt.replace x ⟨#[e.1]⟩ ⟨e.2.toArray⟩)).cps.toList = seqL L (x.cps.toList.flatMap (g1 e.1 e.2))
    rw [escP_list L, replace_rp x ⟨#[e.1]⟩ ⟨e.2.toArray⟩ (by show 1 ≤ 1; exact Nat.le_refl 1)]
    show seqL L (rp [e.1] e.2 0 x.cps.toList) = _
    rw [rp_one]
theorem str_ext {a b : Str} (h : a.cps.toList = b.cps.toList) : a = b := Str.ext' (Array.toList_inj.mp h)
def np3 : List NP := [(38, [38, 97, 109, 112, 59]), (62, [38, 103, 116, 59]), (60, [38, 108, 116, 59])]
def nt : List (List NP) := [[], [(34, [38, 113, 117, 111, 116, 59])], [(39, [38, 97, 112, 111, 115, 59]), (34, [38, 113, 59])], [(10, [38, 110, 108, 59]), (9, [38, 116, 97, 98, 59])]]
theorem nt_pw : ∀ L ∈ nt, (np3 ++ L).Pairwise (fun a b => b.1 ∉ a.2) := by decide
theorem nt_len : ∀ L ∈ nt, ∀ e ∈ np3 ++ L, e.2.length ≤ 6 := by decide
theorem esc_flat {L : List NP} (hL : L ∈ nt) (x : Str) : (escP ((np3 ++ L).map toS) x).cps.toList = x.cps.toList.flatMap (sub (np3 ++ L)) := by
  rw [escP_list, seqL_sub _ _ (nt_pw L hL)]
theorem esc_take_len {L : List NP} (hL : L ∈ nt) (j : Nat) (x : Str) : (escP (((np3 ++ L).take j).map toS) x).length ≤ 6 * x.length := by
  have h := escP_list ((np3 ++ L).take j) x
  rw [seqL_sub _ _ ((nt_pw L hL).sublist (List.take_sublist _ _))] at h
  rw [← len_toList, h, ← len_toList]
  exact flat_len (sub_len fun e he => nt_len L hL e (List.mem_of_mem_take he)) _
/-! the way back -/
def IsB (b : List Nat) : Prop := (∃ c, c ≠ 38 ∧ b = [c]) ∨ ∃ m, b = 38 :: (m ++ [59]) ∧ 38 ∉ m ∧ 59 ∉ m
def IsY (y : List Nat) : Prop := ∃ m, y = 38 :: (m ++ [59]) ∧ 38 ∉ m ∧ 59 ∉ m
theorem rp_skip (y z : List Nat) : ∀ (u v : List Nat), rp y z u.length (u ++ v) = rp y z 0 v
  | [], _ => rfl
  | _ :: u, v => by
    show rp y z (u.length + 1) (_ :: (u ++ v)) = _
    rw [rp, rp_skip y z u v]
theorem rp_pass {y z m : List Nat} (hy : y = 38 :: m) : ∀ (u v : List Nat), 38 ∉ u → rp y z 0 (u ++ v) = u ++ rp y z 0 v
  | [], _, _ => rfl
  | c :: u, v, h => by
    have hc : c ≠ 38 := fun q => h (by rw [q]; exact .head _)
    show rp y z 0 (c :: (u ++ v)) = _
    rw [rp, if_neg (by rw [hy, List.length_cons, List.take_succ_cons]; intro q; exact hc (List.cons.inj q).1), rp_pass hy u v fun q => h (.tail _ q)]
    rfl
theorem end_one : ∀ (my m r : List Nat), 59 ∉ my → 59 ∉ m → ((m ++ [59]) ++ r).take (my ++ [59]).length = my ++ [59] → my = m
  | [], [], _, _, _, _ => rfl
  | [], c :: m, r, _, hm, h => by
    simp at h
    exact absurd h (fun q => hm (by rw [q]; exact .head _))
  | c :: my, [], r, hy, _, h => by
    rw [List.cons_append, List.length_cons, List.nil_append, List.cons_append, List.take_succ_cons] at h
    have h1 := (List.cons.inj h).1
    exact absurd h1 (fun q => hy (by rw [← q]; exact .head _))
  | c :: my, d :: m, r, hy, hm, h => by
    rw [List.cons_append, List.length_cons, List.cons_append, List.cons_append, List.take_succ_cons] at h
    have h1 := List.cons.inj h
    rw [h1.1, end_one my m r (fun q => hy (.tail _ q)) (fun q => hm (.tail _ q)) h1.2]
theorem rp_blocks {y z : List Nat} (hy : IsY y) {f : Nat → List Nat} (hf : ∀ k, IsB (f k)) : ∀ l : List Nat, rp y z 0 (l.flatMap f) = l.flatMap (fun k => if f k = y then z else f k)
  | [] => rfl
  | k :: l => by
    obtain ⟨my, rfl, hy1, hy2⟩ := hy
    have ih := rp_blocks (z := z) ⟨my, rfl, hy1, hy2⟩ hf l
    rw [List.flatMap_cons, List.flatMap_cons]
    rcases hf k with ⟨c, hc, e⟩ | ⟨m, e, hm1, hm2⟩
    · rw [if_neg (by rw [e]; intro q; exact hc (List.cons.inj q).1), ← ih, e]
      exact rp_pass rfl [c] _ (by simp; exact fun q => hc q.symm)
    · by_cases h : f k = 38 :: (my ++ [59])
      · rw [if_pos h, ← ih, h]
        show rp _ z 0 (38 :: ((my ++ [59]) ++ l.flatMap f)) = _
        rw [rp, if_pos (by rw [← List.cons_append]; exact List.take_left' rfl)]
        exact congrArg (z ++ ·) (rp_skip _ z (my ++ [59]) _)
      · rw [if_neg h, ← ih, e]
        show rp _ z 0 (38 :: ((m ++ [59]) ++ l.flatMap f)) = _
        rw [rp, if_neg (by
          intro q
          rw [List.length_cons, List.take_succ_cons] at q
          have := end_one my m _ hy2 hm2 (List.cons.inj q).2
          exact h (by rw [e, this]))]
        show 38 :: rp _ z 0 ((m ++ [59]) ++ l.flatMap f) = _
        rw [rp_pass rfl (m ++ [59]) _ (by simp; exact hm1)]
        rfl
def stepF (us : List (List Nat × List Nat)) (b : List Nat) : List Nat := us.foldl (fun b u => if b = u.1 then u.2 else b) b
theorem rp_fold : ∀ (us : List (List Nat × List Nat)) (f : Nat → List Nat) (l : List Nat), (∀ u ∈ us, IsY u.1 ∧ ∃ c, c ≠ 38 ∧ u.2 = [c]) → (∀ k, IsB (f k)) →
    us.foldl (fun l u => rp u.1 u.2 0 l) (l.flatMap f) = l.flatMap (fun k => stepF us (f k)) ∧ ∀ k, IsB (stepF us (f k))
  | [], f, l, _, hf => ⟨rfl, hf⟩
  | u :: us, f, l, hu, hf => by
    have h0 := hu u (.head _)
    have hf' : ∀ k, IsB (if f k = u.1 then u.2 else f k) := fun k => by
      split
      · exact .inl h0.2
      · exact hf k
    have ih := rp_fold us (fun k => if f k = u.1 then u.2 else f k) l (fun v hv => hu v (.tail _ hv)) hf'
    rw [List.foldl_cons, rp_blocks h0.1 hf l]
    exact ih
end
local macro_rules | `(tactic| walk_at "execs cons") => `(tactic| (k_here; refine execs_cons_pos (by first | omega | (dsimp only; omega)) ?_))
local macro_rules | `(tactic| walk_at "execs nil") => `(tactic| (k_here; refine wpAny_execs_nil ?_))
local macro_rules | `(tactic| walk_at "forall") => `(tactic| ((with_reducible show 0 < _ → _); intro hpos'; (try dsimp only at hpos' ⊢)))
local macro_rules | `(tactic| walk_at "mine fill") => `(tactic| (have hfill : ∀ P : Params, Mine.hd.heap_39 P = Mine.hd.heap_39 P ∧ PySem.Challenge.rw_ij0071_01 = PySem.Challenge.rw_ij0071_01 := (by intro P; k_fill; exact ⟨rfl, rfl⟩); clear hfill))
local macro_rules | `(tactic| walk_at "mine enterF") => `(tactic| (
  refine' enterF (K := Mine.hd.heap_39 _) ?kX ?kT ?k1 ?k2 ?k3 ?k4 ?k5 ?_ ?c1 ?c2 ?c3 ?c4
  (case kX => assumption)
  (case kT => assumption)
  (case k1 => k_is)
  (case k2 => k_is)
  (case k3 => (simp only [AA]; omega))
  (case k4 => first | exact BindsTo.of_eq rfl | exact binds_K (by k_asm) rfl (by k_is) rfl rfl rfl)
  (case k5 => exact locs rfl)
  (case c1 => decide)
  (case c2 => exact rfl)
  (case c3 => exact rfl)
  (case c4 => exact rfl)))
local macro_rules | `(tactic| walk_at "mine enter") => `(tactic| (
  refine' enterN (K := Mine.hd.heap_39 _) ?kX ?kT ?kD ?k1 ?k2 ?k3 ?k4 ?k5 ?_ ?c1 ?c2 ?c3 ?c4
  (case kX => assumption)
  (case kT => assumption)
  (case k1 => k_is)
  (case k2 => k_is)
  (case k3 => (simp only [AA]; omega))
  (case k4 => intro XX; first | exact BindsTo.of_eq rfl | exact binds_K XX rfl (by k_is) rfl rfl rfl)
  (case k5 => exact locs rfl)
  (case c1 => decide)
  (case c2 => exact rfl)
  (case c3 => exact rfl)
  (case c4 => exact rfl)
  rotate_left))
local macro_rules | `(tactic| walk_at "call builtin:str.replace") => `(tactic| (refine replM (by first | assumption | omega) (by first | assumption | omega) (by first | assumption | omega) (by first | assumption | decide) (by first | assumption | omega) (by first | assumption | decide | omega) ?_; intro _ _))
local macro_rules | `(tactic| walk_at "call builtin:iter") => `(tactic| (refine iter_base (by assumption) (by assumption) (Heap.IsList.at (by assumption) (fun o e => Fr.keep (by assumption) _ _ e)) ?_; intro I' h' F' N'))
local macro_rules | `(tactic| walk_at "compareOp Is str ref") => `(tactic| (refine is_str_ref ?_))
local macro_rules | `(tactic| walk_at "callWith ref") => `(tactic| ((have hmd : Mode 3 := by assumption); clear hmd; (k_here; k_dflt (refine' callWith_K ?k1 ?k2 ?_; (case k1 => k_asm); (case k2 => assumption); k_whole))))
local macro_rules | `(tactic| walk_at "execs cons") => `(tactic| ((with_reducible show wpAny _ _ (execs (Stmt.For _ _ _ _ _ :: _) _) _ _ _); refine Stop.out ?_))
local macro_rules | `(tactic| walk_at "mine enterFC") => `(tactic| (
  refine' enterFC (K := Mine.hd.heap_39 _) ?kX ?kT ?kt ?k1 ?k2 ?k3 ?k4 ?k5 ?k6 ?_ ?c2 ?c3 ?c4
  (case kX => assumption)
  (case kT => assumption)
  (case kt => assumption)
  (case k1 => k_is)
  (case k2 => k_is)
  (case k3 => (simp only [AA]; omega))
  (case k4 => first | exact BindsTo.of_eq rfl | exact binds_K (by k_asm) rfl (by k_is) rfl rfl rfl)
  (case k5 => exact rfl)
  (case k6 => decide +kernel)
  (case c2 => exact rfl)
  (case c3 => exact rfl)
  (case c4 => exact rfl)))
local macro_rules | `(tactic| walk_at "pyIter ref") => `(tactic| ((have hmd : Mode 4 := by assumption); clear hmd; (refine Stop.out ?_)))
local macro_rules | `(tactic| walk_at "eval ListComp") => `(tactic| ((have hmd : Mode 1 := by assumption); clear hmd; (refine Stop.out ?_)))
local macro_rules | `(tactic| walk_at "call type:list") => `(tactic| ((have hmd : Mode 4 := by assumption); clear hmd; (refine Stop.out ?_)))
local macro_rules | `(tactic| walk_at "eval Dict") => `(tactic| ((have hmd : Mode 5 := by assumption); clear hmd; (k_here; refine' Dict_lits ?l ?e ?n ?nd ?F ?N ?b ?_; (case l => first | exact .cons .nil | exact .cons (.cons .nil)); (case e => exact List.cons_ne_nil _ _); (case n => exact Nat.le_of_ble_eq_true rfl); (case nd => decide); (case F => k_asm); (case N => first | k_asm | exact News.nil); (case b => exact Top.nolimit (by k_asm)); intro d' h' F' N' l1 lo'; (try k_lt l1))))
local macro_rules | `(tactic| walk_at "eval Dict nil nil") => `(tactic| ((have hmd : Mode 5 := by assumption); clear hmd; (k_here; refine' Dict_nil ?F ?N ?b ?_; (case F => k_asm); (case N => first | k_asm | exact News.nil); (case b => exact Top.nolimit (by k_asm)); intro d' h' F' N' l1 lo'; (try k_lt l1))))
local macro_rules | `(tactic| walk_at "call ref") => `(tactic| ((have hmd : Mode 6 := by assumption); clear hmd; (refine Stop.out ?_)))
local macro_rules | `(tactic| walk_at "exec Assign") => `(tactic| ((have hmd : Mode 2 := by assumption); clear hmd; (refine Stop.out ?_)))
def dRep (es : List Ent) (x : Str) : Str := es.foldl (fun x e => Txt.replace x e.1 e.2.2.1) x
theorem dRep_take {es : List Ent} {i : Nat} {e : Ent} (h : es[i]? = some e) (x : Str) : dRep (es.take (i + 1)) x = Txt.replace (dRep (es.take i) x) e.1 e.2.2.1 := by
  unfold dRep
  rw [List.take_add_one, h]
  simp
theorem dr_ok {w : World} {s : Shared} {dp un : Nat} {fr : Option (List Env)} {gd : Option (List Code)} {E : Value → Shared → Prop} {p : Program} {loose : List Str} {mean : ExcName → Option Value} {mg mb : Str → Option Value}
    (X : (Mine.hd.heap_39 w.params).In s.heap) (T : Top p loose mean mg mb s.heap) {x : Str} {t : Tok} {d : Addr} {es : List Ent} {ep : Nat}
    (hd : s.heap.get? d = some (tabO w es ep)) (lo : (d == sysModules) = false) (nd : (es.map (·.1)).Nodup) (hok : ∀ e ∈ es, EntOk e) (hroom : dp + 3 < recursionLimit)
    (ht : 0 < s.toks) (hx : ∀ i, i < es.length → (dRep (es.take i) x).length ≤ 1000000) :
    wpAny (model PySem.Challenge.rw_ij0071_01.row.prog w) (AA dp un fr gd) (call (.ref 21) [.str x t, .ref d]) (fun v s' => (∃ t', v = .str (dRep es x) t') ∧ Keeps s s') E s := by
  walk_at "mine fill"
  suffices hS : wpAny (model PySem.Challenge.rw_ij0071_01.row.prog w) (AA dp un fr gd) (call (.ref 21) [.str x t, .ref d]) (fun v s' => Stop ((∃ t', v = .str (dRep es x) t') ∧ Keeps s s')) E s from hS
  walk_at "mine enterF"
  intro L h₁ F
  try dsimp only
  refine execs_cons_pos (by (show 0 < s.toks + _); omega) ?_
  refine for_items (h₀ := s.heap) (es := es) (d := d) (ep := ep) rfl rfl rfl rfl hd lo nd F (by (show 0 < s.toks + _); omega) rfl rfl (fun Q' hq => ?_)
    (fun i m => ∃ (t' : Tok) (u : Str → Option Value), m = fun y => if y = Str.ofString "s" then some (.str (dRep (es.take i) x) t') else u y) ?_ ?_ ?_
  · k_steps
    exact hq
  · refine ⟨t, fun y => List.lookup y [(Str.ofString "d", Value.ref d)], ?_⟩
    funext y
    by_cases hy : y = Str.ofString "s"
    · subst hy; rfl
    · rw [if_neg hy]
      show List.lookup y [(Str.ofString "d", Value.ref d), (Str.ofString "s", Value.str x t)] = _
      simp only [List.lookup]
      have e2 : (y == Str.ofString "s") = false := by simpa using hy
      rw [e2]
  · rintro i e m₁ h tk I oI he hk ⟨t', u, rfl⟩ F' N'
    have hlt : i < es.length := (List.getElem?_eq_some_iff.mp he).1
    have hxl := hx i hlt
    obtain ⟨e1, e2, e3, e4, e5, e6⟩ := hok e (List.mem_of_getElem? he)
    dsimp only [envOf] at F' N'
    k_steps
    refine ⟨rfl, _, _, _, _, rfl, by omega, by assumption, by assumption, .head _, ?_⟩
    rw [dRep_take he]
    exact ⟨_, _, rfl⟩
  · rintro h' tk m' hk F' ⟨t', u, rfl⟩
    dsimp only [envOf] at F'
    k_steps
    refine ⟨⟨t', ?_⟩, ⟨_, _, rfl, F'.keep⟩⟩
    rw [List.take_length]
def esc1 (x : Str) : Str := Txt.replace x (Str.ofString "&") (Str.ofString "&amp;")
def esc2 (x : Str) : Str := Txt.replace (esc1 x) (Str.ofString ">") (Str.ofString "&gt;")
def esc3 (x : Str) : Str := Txt.replace (esc2 x) (Str.ofString "<") (Str.ofString "&lt;")
theorem esc_ok {w : World} {s : Shared} {dp un : Nat} {fr : Option (List Env)} {gd : Option (List Code)} {E : Value → Shared → Prop} {p : Program} {loose : List Str} {mean : ExcName → Option Value} {mg mb : Str → Option Value}
    (X : (Mine.hd.heap_39 w.params).In s.heap) (T : Top p loose mean mg mb s.heap) {x : Str} {t : Tok} {d : Addr} {es : List Ent} {ep : Nat}
    (hd : s.heap.get? d = some (tabO w es ep)) (lo : (d == sysModules) = false) (nd : (es.map (·.1)).Nodup) (hok : ∀ e ∈ es, EntOk e) (hroom : dp + 5 < recursionLimit)
    (ht : 0 < s.toks) (hl0 : x.length ≤ 1000000) (hl1 : (esc1 x).length ≤ 1000000) (hl2 : (esc2 x).length ≤ 1000000) (hes : es.length ≤ 1000) (hx : ∀ i, i < es.length → (dRep (es.take i) (esc3 x)).length ≤ 1000000) :
    wpAny (model PySem.Challenge.rw_ij0071_01.row.prog w) (AA dp un fr gd) (call (.ref 30) [.str x t, .ref d]) (fun v s' => (∃ t', v = .str (dRep es (esc3 x)) t') ∧ Keeps s s') E s := by
  walk_at "mine fill"
  suffices hS : wpAny (model PySem.Challenge.rw_ij0071_01.row.prog w) (AA dp un fr gd) (call (.ref 30) [.str x t, .ref d]) (fun v s' => Stop ((∃ t', v = .str (dRep es (esc3 x)) t') ∧ Keeps s s')) E s from hS
  walk_at "mine enterF"
  intro L h₁ F
  have N : News s.heap L h₁ [] := News.nil
  try dsimp only
  simp only [esc1, esc2] at hl1 hl2
  k_steps
  refine wpAny_truthy_dict (knd := PySem.strKind _ _) (kvs := prs es) lo (tab_of (Fr.keep (by assumption) _ _ hd) nd) (by simp only [prs, List.length_map]; omega) ?_
  rcases es with _ | ⟨e, r⟩
  · show wpAny _ _ (execs [] _) _ _ _
    k_steps
    exact ⟨⟨_, rfl⟩, ⟨_, _, rfl, Fr.keep (by assumption)⟩⟩
  · show wpAny _ _ (execs (_ :: _) _) _ _ _
    k_steps
    refine use_keeps (by (show 0 < _ + _); omega) (by assumption) (by assumption) (dr_ok (es := e :: r) (Frag.In.keeps X (Fr.keep (by assumption))) (Top.keeps T (Fr.keep (by assumption))) (Fr.keep (by assumption) _ _ hd) lo nd hok (by (show dp + 1 + 3 < _); omega) (by (show 0 < _ + _); omega) hx) ?_
    rintro v h' tk ⟨t', rfl⟩ hk hkp F' N'
    dsimp only
    k_steps
    exact ⟨⟨_, rfl⟩, ⟨_, _, rfl, Fr.keep (by assumption)⟩⟩
def une1 (x : Str) : Str := Txt.replace x (Str.ofString "&lt;") (Str.ofString "<")
def une2 (x : Str) : Str := Txt.replace (une1 x) (Str.ofString "&gt;") (Str.ofString ">")
def uneS (es : List Ent) (x : Str) : Str := Txt.replace (dRep es (une2 x)) (Str.ofString "&amp;") (Str.ofString "&")
theorem une_ok {w : World} {s : Shared} {dp un : Nat} {fr : Option (List Env)} {gd : Option (List Code)} {E : Value → Shared → Prop} {p : Program} {loose : List Str} {mean : ExcName → Option Value} {mg mb : Str → Option Value}
    (X : (Mine.hd.heap_39 w.params).In s.heap) (T : Top p loose mean mg mb s.heap) {x : Str} {t : Tok} {d : Addr} {es : List Ent} {ep : Nat}
    (hd : s.heap.get? d = some (tabO w es ep)) (lo : (d == sysModules) = false) (nd : (es.map (·.1)).Nodup) (hok : ∀ e ∈ es, EntOk e) (hroom : dp + 5 < recursionLimit)
    (ht : 0 < s.toks) (hl0 : x.length ≤ 1000000) (hl1 : (une1 x).length ≤ 1000000) (hes : es.length ≤ 1000) (hx : ∀ i, i ≤ es.length → (dRep (es.take i) (une2 x)).length ≤ 1000000) :
    wpAny (model PySem.Challenge.rw_ij0071_01.row.prog w) (AA dp un fr gd) (call (.ref 39) [.str x t, .ref d]) (fun v s' => (∃ t', v = .str (uneS es x) t') ∧ Keeps s s') E s := by
  walk_at "mine fill"
  suffices hS : wpAny (model PySem.Challenge.rw_ij0071_01.row.prog w) (AA dp un fr gd) (call (.ref 39) [.str x t, .ref d]) (fun v s' => Stop ((∃ t', v = .str (uneS es x) t') ∧ Keeps s s')) E s from hS
  walk_at "mine enterF"
  intro L h₁ F
  have N : News s.heap L h₁ [] := News.nil
  try dsimp only
  have hxl := hx es.length (Nat.le_refl _)
  rw [List.take_length] at hxl
  simp only [une1] at hl1
  k_steps
  refine wpAny_truthy_dict (knd := PySem.strKind _ _) (kvs := prs es) lo (tab_of (Fr.keep (by assumption) _ _ hd) nd) (by simp only [prs, List.length_map]; omega) ?_
  rcases es with _ | ⟨e, r⟩
  · show wpAny _ _ (execs [] _) _ _ _
    have hxl' : (Txt.replace (Txt.replace x (Str.ofString "&lt;") (Str.ofString "<")) (Str.ofString "&gt;") (Str.ofString ">")).length ≤ 1000000 := hxl
    k_steps
    exact ⟨⟨_, rfl⟩, ⟨_, _, rfl, Fr.keep (by assumption)⟩⟩
  · show wpAny _ _ (execs (_ :: _) _) _ _ _
    k_steps
    refine use_keeps (by (show 0 < _ + _); omega) (by assumption) (by assumption) (dr_ok (es := e :: r) (Frag.In.keeps X (Fr.keep (by assumption))) (Top.keeps T (Fr.keep (by assumption))) (Fr.keep (by assumption) _ _ hd) lo nd hok (by (show dp + 1 + 3 < _); omega) (by (show 0 < _ + _); omega) (fun i hi => hx i (Nat.le_of_lt hi))) ?_
    rintro v h' tk ⟨t', rfl⟩ hk hkp F' N'
    dsimp only
    k_steps
    exact ⟨⟨_, rfl⟩, ⟨_, _, rfl, Fr.keep (by assumption)⟩⟩
theorem red_ok {w : World} {s : Shared} {dp un : Nat} {fr : Option (List Env)} {gd : Option (List Code)} {E : Value → Shared → Prop} {p : Program} {loose : List Str} {mean : ExcName → Option Value} {mg mb : Str → Option Value}
    (X : (Mine.hd.heap_39 w.params).In s.heap) (T : Top p loose mean mg mb s.heap) {x : Str} {t : Tok} {l f : Addr} {items : Array Value} {W : Nat → Str}
    (hf : keepIn (Mine.hd.heap_39 w.params) (.ref f) = true) (hl : s.heap.IsList l items) (hroom : dp + 7 < recursionLimit) (ht : 0 < s.toks) (h0 : W 0 = x)
    (hcall : ∀ i v t' h' tk un' fr', items[i]? = some v → (∀ b o, s.heap.get? b = some o → h'.get? b = some o) → 0 < tk →
      wpAny (model PySem.Challenge.rw_ij0071_01.row.prog w) (AA (dp + 1) un' fr' gd) (call (.ref f) [.str (W i) t', v]) (fun r s'' => (∃ t'', r = .str (W (i + 1)) t'') ∧ Keeps { s with heap := h', toks := tk } s'') (fun _ _ => False) { s with heap := h', toks := tk }) :
    wpAny (model PySem.Challenge.rw_ij0071_01.row.prog w) (AA dp un fr gd) (call (.ref 48) [.ref f, .ref l, .str x t]) (fun v s' => (∃ t', v = .str (W items.size) t') ∧ Keeps s s') E s := by
  have mm3 : Mode 3 := Mode.intro 3
  walk_at "mine fill"
  suffices hS : wpAny (model PySem.Challenge.rw_ij0071_01.row.prog w) (AA dp un fr gd) (call (.ref 48) [.ref f, .ref l, .str x t]) (fun v s' => Stop ((∃ t', v = .str (W items.size) t') ∧ Keeps s s')) E s from hS
  walk_at "mine enterF"
  intro L h₁ F
  have N : News s.heap L h₁ [] := News.nil
  try dsimp only
  k_steps
  rename_i F N _ _
  refine Stop.intro (execs_cons_pos (by (show 0 < _ + _); omega) ?_)
  dsimp only at F N
  refine' for_iter (h₀ := s.heap) (items := items) (l := l) ?g1 ?g2 ?g3 hl ?gF ?gN ?g4 ?g5 ?g6
    (fun i m => ∃ t' : Tok, m (Str.ofString "value") = some (.str (W i) t') ∧ m (Str.ofString "function") = some (.ref f)) ?g7 ?g8 ?g9 ?gs
  case gs => intro _; rfl
  case gF => exact F
  case gN => exact N
  case g1 => rfl
  case g2 => rfl
  case g3 => rfl
  case g4 => rfl
  case g5 => (show 0 < _ + _); omega
  case g6 =>
    intro Q' hq
    k_steps
    exact hq
  case g7 =>
    subst h0
    exact ⟨t, rfl, rfl⟩
  case g8 =>
    rintro i v m₁ h tk oJ hv hk ⟨t', q1, q2⟩ F' N'
    obtain ⟨u, rfl⟩ := upd2 q1 q2
    clear q1 q2
    dsimp only [envOf] at F' N'
    k_steps
    refine use_keeps (by (show 0 < tk); omega) (by assumption) (by assumption) (hcall i v t' h tk _ _ hv (Fr.keep (by assumption)) hk) ?_
    rintro r h'' tk'' ⟨t'', rfl⟩ hk'' hkp F'' N''
    dsimp only
    k_steps
    exact ⟨rfl, _, _, _, _, rfl, by omega, by assumption, by assumption, .head _, t'', rfl, rfl⟩
  case g9 =>
    rintro h' tk m' hk F' ⟨t', q1, q2⟩
    obtain ⟨u, rfl⟩ := upd2 q1 q2
    dsimp only [envOf] at F'
    k_steps
    exact ⟨⟨_, rfl⟩, ⟨_, _, rfl, Fr.keep (by assumption)⟩⟩
def gg (k r : Str) (c : Nat) : Str := if ((⟨#[c]⟩ : Str) == k) = true then r else ⟨#[c]⟩
def one1 (k r x : Str) : Str := PySem.Txt.join (Str.ofString "") (x.cps.toList.map (gg k r))
def prs3 : List (Str × Str) := [(Str.ofString "&", Str.ofString "&amp;"), (Str.ofString ">", Str.ofString "&gt;"), (Str.ofString "<", Str.ofString "&lt;")]
def rewP (ps : List (Str × Str)) (x : Str) : Str := ps.foldl (fun x kr => one1 kr.1 kr.2 x) x
def pairsOf (es : List Ent) : List (Str × Str) := prs3 ++ es.map fun e => (e.1, e.2.2.1)
theorem gg_len {k r : Str} (hr : r.length ≤ 14) (c : Nat) : (gg k r c).length ≤ 14 := by
  unfold gg
  split
  · exact hr
  · show (1 : Nat) ≤ 14; decide
theorem gg_sum {k r : Str} (hr : r.length ≤ 14) : ∀ l : List Nat, ((l.map (gg k r)).map (·.length)).sum ≤ 14 * l.length
  | [] => Nat.le_refl _
  | c :: l => by
    have := gg_sum (k := k) hr l
    have h1 := gg_len (k := k) hr c
    simp only [List.map_cons, List.sum_cons, List.length_cons]
    omega
theorem rewP_take {ps : List (Str × Str)} {i : Nat} {kr : Str × Str} (h : ps[i]? = some kr) (x : Str) : rewP (ps.take (i + 1)) x = one1 kr.1 kr.2 (rewP (ps.take i) x) := by
  unfold rewP
  rw [List.take_add_one, h]
  simp
structure RewTab (w : World) (bs h : Heap) (v : Value) (x y : Str) : Prop where
  tab : ∃ d es ep, v = .ref d ∧ h.get? d = some (tabO w es ep) ∧ bs.get? d = none ∧ (d == sysModules) = false ∧ (es.map (·.1)).Nodup ∧ es.length ≤ 2 ∧ (∀ e ∈ es, EntOk e) ∧ y = rewP (pairsOf es) x ∧
    ∀ i, i ≤ (pairsOf es).length → (rewP ((pairsOf es).take i) x).length ≤ 60000
set_option hygiene false in
local macro_rules | `(tactic| walk_at "mine pre") => `(tactic| (
  refine wpAny_execs_cons ?_
  refine wpAny_For ?_ ?hs9
  case hs9 => intro _; with_unfolding_all rfl
  simp only [prs, List.map_nil, List.map_cons] at hdI
  k_steps
  rename_i Fz Nz _
  refine Stop.intro ?_))
set_option hygiene false in
local macro_rules | `(tactic| walk_at "mine mid") => `(tactic| (
  clear Fz Nz
  intro B l0
  k_lt l0
  k_steps
  rename_i Fz Nz lz
  refine Stop.intro ?_))
set_option hygiene false in
local macro_rules | `(tactic| walk_at "mine fin") => `(tactic| (
  case b2 => rfl
  case b3 => rfl
  case b4 => rfl
  case b5 => rfl
  case b6 => rfl
  case b7 => exact d2
  case b8 => exact d1
  case b9 => exact Nat.ne_of_lt (Nat.lt_succ_self _)
  case b10 =>
    refine off_cells N1 d2 d1 ?_
    repeat (refine List.forall_mem_cons.mpr ⟨by first | exact .inr (fun v hv => by cases hv) | exact .inl ⟨Nat.ne_of_lt (by omega), Nat.ne_of_lt (by omega)⟩ | exact .inl ⟨Nat.ne_of_gt (by omega), Nat.ne_of_gt (by omega)⟩, ?_⟩)
    exact List.forall_mem_nil _
  case b13 => exact ⟨t', rfl⟩
  case b14 =>
    clear Fz Nz N1 lz
    rintro j k r u9 v9 I9 m₂ h9 tk9 oJ9 p1 p2 hkr ⟨t9, q1⟩ e1 e2 F9 N9
    obtain ⟨u, rfl⟩ := upd1 q1
    clear q1
    dsimp only [envOfC] at F9 N9
    k_steps
    have hkr' : ps[j]? = some (k, r) := hps ▸ hkr
    have hlx := hlen j (Nat.le_of_lt (List.getElem?_eq_some_iff.mp hkr').1)
    have hr14 : r.length ≤ 14 := hp14 (k, r) (List.mem_of_getElem? hkr')
    refine Stop.intro ?_
    refine' comp_signs (y := rewP (ps.take j) (W i)) (t := t9) (gg k r) ?n1 ?n2 ?n3 ?n4 ?n5 ?n6 ?n7 ?n8 ?n9 ?n10 ?n11
    case n1 => rfl
    case n2 => rw [sizeLine_eq]; omega
    case n3 => with_unfolding_all rfl
    case n4 => decide
    case n5 => rfl
    case n6 => decide
    case n7 => rfl
    case n8 =>
      intro Q' hq
      k_steps
      exact hq
    case n11 => intro _; rfl
    case n9 =>
      intro C c u' s₃ m₃ E' hc hn hm hkp htk
      have c1 : s₃.heap.IsCell (L + 1) (some (.str k u9)) := ⟨p1, hkp _ _ (N9 _ (.tail _ (.head _))).1, e1⟩
      have c2 : s₃.heap.IsCell (L + 1 + 1) (some (.str r v9)) := ⟨p2, hkp _ _ (N9 _ (.tail _ (.tail _ (.head _)))).1, e2⟩
      refine wpAny_IfExp (wpAny_isTrue_Compare1 (wpAny_Name (wpAny_loadName_local ?m1 ?m2 hn hm ?_))  ?m3)
      case m1 => rfl
      case m2 => rfl
      case m3 => with_unfolding_all rfl
      refine wpAny_Name (wpAny_loadName_cell ?m4 ?m5 ?m6 c1 ?_)
      case m4 => rfl
      case m5 => rfl
      case m6 => rfl
      refine PyProof.Rows.eq_str ?_
      refine wpAny_truthy_bool ?_
      by_cases hb : ((⟨#[c]⟩ : Str) == k) = true
      · rw [if_pos hb]
        refine wpAny_Name (wpAny_loadName_cell ?m7 ?m8 ?m9 c2 ?_)
        case m7 => rfl
        case m8 => rfl
        case m9 => rfl
        exact ⟨⟨v9, by unfold gg; rw [if_pos hb]⟩, ⟨_, _, rfl, fun _ _ e => e⟩⟩
      · rw [if_neg hb]
        refine wpAny_Name (wpAny_loadName_local ?m7 ?m8 hn hm ?_)
        case m7 => rfl
        case m8 => rfl
        exact ⟨⟨u', by unfold gg; rw [if_neg hb]⟩, ⟨_, _, rfl, fun _ _ e => e⟩⟩
    case n10 =>
      intro D h10 tk10 ys hlD hD0 hys hkp
      have F10 := Fr.keeps F9 hkp
      have N10 := News.grown N9 hkp
      dsimp only
      k_steps
      refine join_listW hlD hys (by decide) ?n12 ?n13
      case n12 =>
        have := gg_sum (k := k) hr14 (rewP (ps.take j) (W i)).cps.toList
        have e : (rewP (ps.take j) (W i)).cps.toList.length = (rewP (ps.take j) (W i)).length := by simp [Str.length]
        rw [List.length_map]
        omega
      case n13 =>
        intro t10 k10
        k_steps
        refine ⟨rfl, _, _, _, rfl, by assumption, by assumption, ?_⟩
        rw [rewP_take hkr']
        exact ⟨t10, rfl⟩
  case b15 =>
    clear Fz Nz N1 lz
    intro h9 tk9 m9 p1 p2 F9 N9 ⟨w1, e1⟩ ⟨w2, e2⟩ ⟨t9, q1⟩
    dsimp only [envOfC] at F9 N9
    k_steps
    rename_i hp9
    refine ⟨rfl, _, _, _, [(L + 1 + 1, p2), (L + 1, p1)], rfl, hp9, backF _ _ _ F9 N9 (by k_mem), backN _ _ (fun p hp => N9 p ?_) ?_, t9, by rw [List.take_of_length_le (by rw [hps]; exact Nat.le_of_ble_eq_true rfl)] at q1; exact q1, p2, p1, w2, w1, rfl, e2, e1⟩
    · simp only [List.mem_cons, List.not_mem_nil, or_false] at hp
      rcases hp with rfl | rfl | rfl <;> k_mem
    · intro p hp
      simp only [List.mem_cons, List.not_mem_nil, or_false] at hp
      rcases hp with rfl | rfl | rfl <;> simp))
theorem rew_ok {w : World} {s : Shared} {dp un : Nat} {fr : Option (List Env)} {gd : Option (List Code)} {E : Value → Shared → Prop} {p : Program} {loose : List Str} {mean : ExcName → Option Value} {mg mb : Str → Option Value} {bs : Heap}
    (Xb : (Mine.hd.heap_39 w.params).In bs) (Tb : Top p loose mean mg mb bs) (hbs : ∀ b o, bs.get? b = some o → s.heap.get? b = some o) {x : Str} {t : Tok} {l : Addr} {items : Array Value} {W : Nat → Str}
    (hl : s.heap.IsList l items) (hroom : dp + 7 < recursionLimit) (ht : 0 < s.toks) (h0 : W 0 = x) (htab : ∀ i v, items[i]? = some v → RewTab w bs s.heap v (W i) (W (i + 1))) :
    wpAny (model PySem.Challenge.rw_ij0071_01.row.prog w) (AA dp un fr gd) (call (.ref 58) [.str x t, .ref l]) (fun v s' => (∃ t', v = .str (W items.size) t') ∧ Keeps s s') E s := by
  have mm1 : Mode 1 := Mode.intro 1
  have mm4 : Mode 4 := Mode.intro 4
  walk_at "mine fill"
  have X : (Mine.hd.heap_39 w.params).In s.heap := Xb.keeps hbs
  have T : Top p loose mean mg mb s.heap := Tb.keeps hbs
  suffices hS : wpAny (model PySem.Challenge.rw_ij0071_01.row.prog w) (AA dp un fr gd) (call (.ref 58) [.str x t, .ref l]) (fun v s' => Stop ((∃ t', v = .str (W items.size) t') ∧ Keeps s s')) E s from hS
  walk_at "mine enterFC"
  intro L h₁ tk₁ cells hk₁ F N Y
  k_cells Y
  try dsimp only
  k_steps
  rename_i o1 o2 d1 d2 hh F N _
  refine Stop.intro (execs_cons_pos (by (show 0 < _ + _); omega) ?_)
  refine' for_listL (h₀ := s.heap) (items := items) (l := l) (as := [L + 1 + 1, L + 1]) ?g1 ?g2 ?g3 hl ?gF ?gN ?g5 ?g6
    (fun i m nx => ∃ t' : Tok, m (Str.ofString "signs") = some (.str (W i) t') ∧ ∃ o1 o2 v1 v2, nx = [(L + 1 + 1, o1), (L + 1, o2)] ∧ o1.data = .cell v1 ∧ o2.data = .cell v2) ?gJ ?g7 ?g8 ?g9 ?gs
  case gs => intro _; rfl
  case gF => exact F
  case gN => exact N
  case g1 => rfl
  case g2 => rfl
  case g3 => rfl
  case g5 => (show 0 < _ + _); omega
  case g6 =>
    intro Q' hq
    k_steps
    exact hq
  case gJ =>
    rintro i m nx ⟨_, _, o1, o2, _, _, rfl, _, _⟩
    rfl
  case g7 =>
    subst h0
    exact ⟨t, rfl, o1, o2, _, _, rfl, d1, d2⟩
  case g8 =>
    rintro i v m₁ nx h tk I oJ hv hk ⟨t', q1, o1, o2, v1, v2, rfl, d1, d2⟩ hlt F' N'
    clear F N
    obtain ⟨u, rfl⟩ := upd1 q1
    clear q1
    obtain ⟨d, es, ep, rfl, hd, hdb, lo, nd, hle, hok, hW, hlen⟩ := (htab i v hv).tab
    rw [hW]
    refine pos_end ?hk9 ?_
    case hk9 => exact hk
    dsimp only [envOfC] at F' N'
    obtain ⟨g, sub, Fg, Ng, upg, backF, backN⟩ := rebase1 F' N' hd hbs hdb
    have Kg := Xb.keeps sub
    have Tg := Tb.keeps sub
    have hdl : @LT.lt Nat _ d L := Nat.lt_of_lt_of_le (Heap.lt_size hd) F'.above
    have hI := allLt_of (d := I) (l := [(L + 1 + 1, o1), (L + 1, o2)]) (fun p hp => hlt p.1 (by simp only [List.mem_cons, List.not_mem_nil, or_false] at hp; rcases hp with rfl | rfl <;> simp))
    simp only [AllLt, and_true] at hI
    clear F' N'
    have hdI : (tabO w es ep).IsDictOf (PySem.strKind PySem.Challenge.rw_ij0071_01.row.prog w) (prs es) := by
      obtain ⟨o, e1, e2⟩ := Heap.dictOf_iff.mp (tab_of (prog := PySem.Challenge.rw_ij0071_01.row.prog) hd nd)
      rw [hd] at e1; cases e1; exact e2
    generalize tabO w es ep = od at Ng hdI hd backF
    have hp14 : ∀ kr ∈ pairsOf es, kr.2.length ≤ 14 := by
      intro kr hkr
      rcases List.mem_append.mp hkr with hkr | hkr
      · simp only [prs3, List.mem_cons, List.not_mem_nil, or_false] at hkr
        rcases hkr with rfl | rfl | rfl <;> decide
      · obtain ⟨e, he, rfl⟩ := List.mem_map.mp hkr
        exact (hok e he).len
    obtain ⟨ps, hps⟩ : ∃ ps, ps = pairsOf es := ⟨_, rfl⟩
    rw [← hps]
    rw [← hps] at hp14 hlen
    rcases es with _ | ⟨e1, _ | ⟨e2, _ | ⟨e3, r⟩⟩⟩
    · walk_at "mine pre"
      refine kdx_listN (knd := PySem.strKind _ _) (enc := PyData.str) (kvs := []) (ps := []) rfl Fz Nz (by k_mem) (by k_mem) hdI (by exact Nat.le_of_ble_eq_true rfl) (fun _ _ h => Value.isStrOf_shape h) rfl ?_
      walk_at "mine mid"
      have N1 := cells_front (c1 := L + 1) (c2 := L + 1 + 1) (nw := [_, _, _, _, _, _, _, _, _]) Nz
      refine' for_strs (h₀ := g) (c1 := L + 1) (c2 := L + 1 + 1) [(_, Str.ofString "&", _, Str.ofString "&amp;", _), (_, Str.ofString ">", _, Str.ofString "&gt;", _), (_, Str.ofString "<", _, Str.ofString "&lt;", _)]
        ?b1 ?b2 ?b3 ?b4 ?b5 ?b6 ?bF ?bN ?b7 ?b8 ?b9 ?b10 ?b11 ?b12
        (fun i' m => ∃ t' : Tok, m (Str.ofString "signs") = some (.str (rewP (ps.take i') (W i)) t')) ?b13 ?b14 ?b15
      case bF => exact Fz
      case bN => exact N1
      case b1 => rfl
      case b11 => k_mem
      case b12 =>
        intro t ht
        simp only [List.mem_cons, List.not_mem_nil, or_false] at ht
        rcases ht with rfl | rfl | rfl <;> k_mem
      walk_at "mine fin"
    · walk_at "mine pre"
      refine kdx_listN (knd := PySem.strKind _ _) (enc := PyData.str) (kvs := [(e1.1, Value.str e1.2.2.1 e1.2.2.2)]) (ps := [((fun t => Value.str e1.1 t), Value.str e1.2.2.1 e1.2.2.2)]) rfl Fz Nz (by k_mem) (by k_mem) hdI (by exact Nat.le_of_ble_eq_true rfl) (fun _ _ h => Value.isStrOf_shape h) rfl ?_
      walk_at "mine mid"
      have N1 := cells_front (c1 := L + 1) (c2 := L + 1 + 1) (nw := [_, _, _, _, _, _, _, _, _, _]) Nz
      refine' for_strs (h₀ := g) (c1 := L + 1) (c2 := L + 1 + 1) [(_, Str.ofString "&", _, Str.ofString "&amp;", _), (_, Str.ofString ">", _, Str.ofString "&gt;", _), (_, Str.ofString "<", _, Str.ofString "&lt;", _), (_, e1.1, _, e1.2.2.1, _)]
        ?b1 ?b2 ?b3 ?b4 ?b5 ?b6 ?bF ?bN ?b7 ?b8 ?b9 ?b10 ?b11 ?b12
        (fun i' m => ∃ t' : Tok, m (Str.ofString "signs") = some (.str (rewP (ps.take i') (W i)) t')) ?b13 ?b14 ?b15
      case bF => exact Fz
      case bN => exact N1
      case b1 => rfl
      case b11 => k_mem
      case b12 =>
        intro t ht
        simp only [List.mem_cons, List.not_mem_nil, or_false] at ht
        rcases ht with rfl | rfl | rfl | rfl <;> (dsimp only; k_mem)
      walk_at "mine fin"
    · walk_at "mine pre"
      refine kdx_listN (knd := PySem.strKind _ _) (enc := PyData.str) (kvs := [(e1.1, Value.str e1.2.2.1 e1.2.2.2), (e2.1, Value.str e2.2.2.1 e2.2.2.2)]) (ps := [((fun t => Value.str e1.1 t), Value.str e1.2.2.1 e1.2.2.2), ((fun t => Value.str e2.1 t), Value.str e2.2.2.1 e2.2.2.2)]) rfl Fz Nz (by k_mem) (by k_mem) hdI (by exact Nat.le_of_ble_eq_true rfl) (fun _ _ h => Value.isStrOf_shape h) rfl ?_
      walk_at "mine mid"
      have N1 := cells_front (c1 := L + 1) (c2 := L + 1 + 1) (nw := [_, _, _, _, _, _, _, _, _, _, _]) Nz
      refine' for_strs (h₀ := g) (c1 := L + 1) (c2 := L + 1 + 1) [(_, Str.ofString "&", _, Str.ofString "&amp;", _), (_, Str.ofString ">", _, Str.ofString "&gt;", _), (_, Str.ofString "<", _, Str.ofString "&lt;", _), (_, e1.1, _, e1.2.2.1, _), (_, e2.1, _, e2.2.2.1, _)]
        ?b1 ?b2 ?b3 ?b4 ?b5 ?b6 ?bF ?bN ?b7 ?b8 ?b9 ?b10 ?b11 ?b12
        (fun i' m => ∃ t' : Tok, m (Str.ofString "signs") = some (.str (rewP (ps.take i') (W i)) t')) ?b13 ?b14 ?b15
      case bF => exact Fz
      case bN => exact N1
      case b1 => rfl
      case b11 => k_mem
      case b12 =>
        intro t ht
        simp only [List.mem_cons, List.not_mem_nil, or_false] at ht
        rcases ht with rfl | rfl | rfl | rfl | rfl <;> (dsimp only; k_mem)
      walk_at "mine fin"
    · simp only [List.length_cons] at hle
      omega
  case g9 =>
    rintro h' tk m' nx hk F' N' ⟨t', q1, _⟩
    obtain ⟨u, rfl⟩ := upd1 q1
    dsimp only [envOfC] at F'
    k_steps
    exact ⟨⟨_, rfl⟩, ⟨_, _, rfl, Fr.keep (by assumption)⟩⟩
def four4 : List (List (Str × Str)) := [[], [(Str.ofString "\"", Str.ofString "&quot;")], [(Str.ofString "'", Str.ofString "&apos;"), (Str.ofString "\"", Str.ofString "&q;")], [(Str.ofString "\n", Str.ofString "&nl;"), (Str.ofString "\t", Str.ofString "&tab;")]]
def tb1 : List (Str × Str) := [(Str.ofString "\"", Str.ofString "&quot;")]
def tb2 : List (Str × Str) := [(Str.ofString "'", Str.ofString "&apos;"), (Str.ofString "\"", Str.ofString "&q;")]
def tb3 : List (Str × Str) := [(Str.ofString "\n", Str.ofString "&nl;"), (Str.ofString "\t", Str.ofString "&tab;")]
/-- the four tables and the row of one to four of them -/
structure TabsAt (w : World) (g h : Heap) (D d0 d1 d2 d3 : Addr) (t1 t2 t3 : Tok) (items : Array Value) (k : Nat) : Prop where
  lst : h.get? D = some (PySem.W.listOf items k)
  new : g.get? D = none
  lo : 1 ≤ items.size
  hi : items.size ≤ 4
  row : ∀ y ∈ items.toList, y = .ref d0 ∨ y = .ref d1 ∨ y = .ref d2 ∨ y = .ref d3
  p1 : 0 < t1
  p2 : 0 < t2
  p3 : 0 < t3
  e0 : h.get? d0 = some (tabO w [] 0)
  e1 : h.get? d1 = some (tabO w (toE t1 tb1) 1)
  e2 : h.get? d2 = some (tabO w (toE t2 tb2) 2)
  e3 : h.get? d3 = some (tabO w (toE t3 tb3) 2)
  n0 : g.objs.size ≤ d0 ∧ (d0 == sysModules) = false
  n1 : g.objs.size ≤ d1 ∧ (d1 == sysModules) = false
  n2 : g.objs.size ≤ d2 ∧ (d2 == sysModules) = false
  n3 : g.objs.size ≤ d3 ∧ (d3 == sysModules) = false
theorem tab_ok {w : World} {s : Shared} {dp un : Nat} {fr : Option (List Env)} {gd : Option (List Code)} {E : Value → Shared → Prop} {p : Program} {loose : List Str} {mean : ExcName → Option Value} {mg mb : Str → Option Value}
    (X : (Mine.hd.heap_39 w.params).In s.heap) (T : Top p loose mean mg mb s.heap) {n : Int} {t : Tok} (hroom : dp + 7 < recursionLimit) (ht : 0 < s.toks) (hn0 : 0 ≤ n) (hn : n ≤ 100000) :
    wpAny (model PySem.Challenge.rw_ij0071_01.row.prog w) (AA dp un fr gd) (call (.ref 53) [.int n t]) (fun v s' => (∃ D d0 d1 d2 d3 t1 t2 t3 items k, v = .ref D ∧ TabsAt w s.heap s'.heap D d0 d1 d2 d3 t1 t2 t3 items k) ∧ Keeps s s') E s := by
  have mm1 : Mode 1 := Mode.intro 1
  have mm5 : Mode 5 := Mode.intro 5
  walk_at "mine fill"
  suffices hS : wpAny (model PySem.Challenge.rw_ij0071_01.row.prog w) (AA dp un fr gd) (call (.ref 53) [.int n t]) (fun v s' => Stop ((∃ D d0 d1 d2 d3 t1 t2 t3 items k, v = .ref D ∧ TabsAt w s.heap s'.heap D d0 d1 d2 d3 t1 t2 t3 items k) ∧ Keeps s s')) E s from hS
  walk_at "mine enterFC"
  intro L h₁ tk₁ cells hk₁ F N Y
  k_cells Y
  try dsimp only
  k_steps
  rename_i d0 g0 q0 r0 d1 g1 q1 r1 d2 g2 q2 r2 d3 g3 q3 r3 l9 g4 r4 g5 o9 F1 N1 e9 hp9
  have hr4 : 0 ≤ (n.fdiv 256).fmod 4 ∧ (n.fdiv 256).fmod 4 ≤ 3 := by
    rw [Int.fdiv_eq_ediv_of_nonneg _ (by omega), Int.fmod_eq_emod_of_nonneg _ (by omega)]; omega
  refine Stop.intro ?_
  refine' comp_range (k := 1 + (n.fdiv 256).fmod 4) (fun _ y => y = .ref d0 ∨ y = .ref d1 ∨ y = .ref d2 ∨ y = .ref d3) ?a1 ?a2 ?a3 ?a4 ?a5 ?a6 ?a7 ?a8 ?a9 ?a10 ?a11 ?a12
  case a1 => rfl
  case a2 => omega
  case a3 => omega
  case a4 => with_unfolding_all rfl
  case a5 => decide
  case a6 => rfl
  case a7 => decide
  case a8 => rfl
  case a12 => intro _; with_unfolding_all rfl
  case a9 =>
    intro Q' hq
    k_steps
    rename_i hr9 _ _ hk9
    exact hq _ _ _ _ _ _ hk9 hr9
  case a10 =>
    intro C i u s₃ m₃ E' hi hC hn hm hkp
    obtain ⟨F2, N2⟩ := in_comp F1 N1 hC hn hkp
    obtain ⟨u2, rfl⟩ := upd1 hm
    clear hm
    have hi4 : i = 0 ∨ i = 1 ∨ i = 2 ∨ i = 3 := by omega
    rcases hi4 with rfl | rfl | rfl | rfl
    all_goals
      k_steps
      all_goals (first | exact ⟨_, _, rfl, fun _ _ e => e⟩ | exact .inl rfl | exact .inr (.inl rfl) | exact .inr (.inr (.inl rfl)) | exact .inr (.inr (.inr rfl)) | skip)
      all_goals (first | exact (0 : Addr) | exact (Str.ofString "") | exact Value.none | exact ([] : List (Str × Addr)))
  case a11 =>
    intro D h' tk ys hl hD hsz hys hkp
    have F2 := Fr.keeps F1 hkp
    have N2 := News.grown N1 hkp
    k_steps
    obtain ⟨kD, hl⟩ := hl
    have m3 := N2 _ (.tail _ (.head _))
    have m2 := N2 _ (.tail _ (.tail _ (.head _)))
    have m1 := N2 _ (.tail _ (.tail _ (.tail _ (.head _))))
    have m0 := N2 _ (.tail _ (.tail _ (.tail _ (.tail _ (.head _)))))
    have hab : s.heap.objs.size ≤ L := F1.above
    refine Stop.intro ⟨⟨D, d0, d1, d2, d3, _, _, _, ys, kD, rfl, hl, ?_, by omega, by omega, fun y hy => (hys y hy).elim fun _ h => h, hk₁, Nat.add_pos_left hk₁ _, Nat.add_pos_left (Nat.add_pos_left hk₁ _) _, m0.1, m1.1, m2.1, m3.1, ⟨by omega, q0⟩, ⟨by omega, q1⟩, ⟨by omega, q2⟩, ⟨by omega, q3⟩⟩, _, _, rfl, F2.keep⟩
    cases e : s.heap.get? D with
    | none => rfl
    | some o => rw [F1.keep _ _ e] at hD; cases hD
section
open StrLaws
theorem join_nil_list : ∀ l : List Str, (Str.join ⟨#[]⟩ l).cps.toList = l.flatMap (·.cps.toList)
  | [] => rfl
  | x :: r => by
    rw [join_nil_cons, List.flatMap_cons, Str.cps_append, Array.toList_append, join_nil_list r]
theorem tjoin_list (l : List Str) : (Txt.join (Str.ofString "") l).cps.toList = l.flatMap (·.cps.toList) := by
  have e : Str.ofString "" = ⟨#[]⟩ := by decide
  rw [e]
  show (Builtin.Str.glued _ l).cps.toList = _
  rw [glued_eq_join, join_nil_list]
theorem one1_list (e : NP) (x : Str) : (one1 (toS e).1 (toS e).2 x).cps.toList = x.cps.toList.flatMap (g1 e.1 e.2) := by
  unfold one1
  rw [tjoin_list, List.flatMap_map]
  congr 1
  funext k
  unfold gg g1
  by_cases h : k = e.1
  · rw [if_pos h, if_pos (by rw [h]; exact beq_self_eq_true _)]
    rfl
  · rw [if_neg h, if_neg (by
      intro q
      have := eq_of_beq q
      injection this with q'
      exact h (by simpa using q'))]
theorem rewP_escP : ∀ (L : List NP) (x : Str), rewP (L.map toS) x = escP (L.map toS) x
  | [], _ => rfl
  | e :: L, x => by
    show rewP (L.map toS) (one1 (toS e).1 (toS e).2 x) = escP (L.map toS) (Txt.replace x (toS e).1 (toS e).2)
    rw [rewP_escP L]
    congr 1
    apply str_ext
    rw [one1_list]
    refine Eq.symm ((replace_rp x ⟨#[e.1]⟩ ⟨e.2.toArray⟩ (by show 1 ≤ 1; exact Nat.le_refl 1)).trans ?_)
    exact rp_one _ _ _
theorem prs3_eq : prs3 = np3.map toS := by decide
theorem four4_eq : four4 = nt.map (·.map toS) := by decide
theorem four4_nt {ps : List (Str × Str)} (h : ps ∈ four4) : ∃ L ∈ nt, ps = L.map toS ∧ prs3 ++ ps = (np3 ++ L).map toS := by
  rw [four4_eq] at h
  obtain ⟨L, hL, rfl⟩ := List.mem_map.mp h
  exact ⟨L, hL, rfl, by rw [prs3_eq, List.map_append]⟩
theorem pairsOf_eq (es : List Ent) : pairsOf es = prs3 ++ es.map fun e => (e.1, e.2.2.1) := rfl
theorem dRep_escP (es : List Ent) (x : Str) : dRep es (esc3 x) = escP (pairsOf es) x := by
  unfold dRep escP
  rw [pairsOf_eq, List.foldl_append, List.foldl_map]
  rfl
theorem escP_take_len {ps : List (Str × Str)} (h : ps ∈ four4) (j : Nat) (x : Str) : (escP ((prs3 ++ ps).take j) x).length ≤ 6 * x.length := by
  obtain ⟨L, hL, _, e⟩ := four4_nt h
  rw [e, ← List.map_take]
  exact esc_take_len hL j x
theorem escP_len {ps : List (Str × Str)} (h : ps ∈ four4) (x : Str) : (escP (prs3 ++ ps) x).length ≤ 6 * x.length := by
  have := escP_take_len h (prs3 ++ ps).length x
  rwa [List.take_length] at this
theorem rewP_eq {ps : List (Str × Str)} (h : ps ∈ four4) (j : Nat) (x : Str) : rewP ((prs3 ++ ps).take j) x = escP ((prs3 ++ ps).take j) x := by
  obtain ⟨L, hL, _, e⟩ := four4_nt h
  rw [e, ← List.map_take]
  exact rewP_escP _ x
theorem rewP_all {ps : List (Str × Str)} (h : ps ∈ four4) (x : Str) : rewP (prs3 ++ ps) x = escP (prs3 ++ ps) x := by
  have := rewP_eq h (prs3 ++ ps).length x
  rwa [List.take_length] at this
theorem escP_hom {ps : List (Str × Str)} (h : ps ∈ four4) (x : Str) : (escP (prs3 ++ ps) x).cps.toList = x.cps.toList.flatMap (fun k => (escP (prs3 ++ ps) ⟨#[k]⟩).cps.toList) := by
  obtain ⟨L, hL, _, e⟩ := four4_nt h
  rw [e, esc_flat hL x]
  congr 1
  funext k
  rw [esc_flat hL]
  simp
/-! reduce over the tables -/
def foldE (P : List (List (Str × Str))) (x : Str) : Str := P.foldl (fun x ps => escP (prs3 ++ ps) x) x
theorem foldE_len : ∀ {P : List (List (Str × Str))}, (∀ ps ∈ P, ps ∈ four4) → ∀ x : Str, (foldE P x).length ≤ 6 ^ P.length * x.length
  | [], _, x => by show x.length ≤ _; simp
  | ps :: P, h, x => by
    have h1 := foldE_len (P := P) (fun p hp => h p (.tail _ hp)) (escP (prs3 ++ ps) x)
    have h2 := escP_len (h ps (.head _)) x
    show (foldE P (escP (prs3 ++ ps) x)).length ≤ _
    refine Nat.le_trans h1 ?_
    rw [List.length_cons, Nat.pow_succ, Nat.mul_assoc]
    exact Nat.mul_le_mul_left _ h2
theorem foldE_hom : ∀ {P : List (List (Str × Str))}, (∀ ps ∈ P, ps ∈ four4) → ∀ x : Str, (foldE P x).cps.toList = x.cps.toList.flatMap (fun k => (foldE P ⟨#[k]⟩).cps.toList)
  | [], _, x => by
    show x.cps.toList = x.cps.toList.flatMap (fun k => [k])
    simp
  | ps :: P, h, x => by
    have hP : ∀ p ∈ P, p ∈ four4 := fun p hp => h p (.tail _ hp)
    show (foldE P (escP (prs3 ++ ps) x)).cps.toList = x.cps.toList.flatMap (fun k => (foldE P (escP (prs3 ++ ps) ⟨#[k]⟩)).cps.toList)
    rw [foldE_hom hP, escP_hom (h ps (.head _)) x, List.flatMap_assoc]
    congr 1
    funext k
    rw [← foldE_hom hP]
theorem foldE_join {P : List (List (Str × Str))} (h : ∀ ps ∈ P, ps ∈ four4) (x : Str) : foldE P x = Txt.join (Str.ofString "") (x.cps.toList.map fun k => foldE P ⟨#[k]⟩) := by
  apply str_ext
  rw [foldE_hom h, tjoin_list, List.flatMap_map]
theorem foldE_take {P : List (List (Str × Str))} {i : Nat} {ps : List (Str × Str)} (h : P[i]? = some ps) (x : Str) : foldE (P.take (i + 1)) x = escP (prs3 ++ ps) (foldE (P.take i) x) := by
  unfold foldE
  rw [List.take_add_one, h]
  simp
theorem foldE_cut (P : List (List (Str × Str))) (i : Nat) (x : Str) : foldE (P.drop i) (foldE (P.take i) x) = foldE P x := by
  unfold foldE
  rw [← List.foldl_append, List.take_append_drop]
/-! the way back -/
def unP (ps : List (Str × Str)) (x : Str) : Str := Txt.replace (ps.foldl (fun x kr => Txt.replace x kr.2 kr.1) (une2 x)) (Str.ofString "&amp;") (Str.ofString "&")
theorem uneS_flip (es : List Ent) (x : Str) : uneS (es.map flipE) x = unP (es.map fun e => (e.1, e.2.2.1)) x := by
  unfold uneS unP dRep
  rw [List.foldl_map, List.foldl_map]
  rfl
theorem fold_une : ∀ (us : List (List Nat × List Nat)) (x : Str), (∀ u ∈ us, 1 ≤ u.1.length) →
    (us.foldl (fun x u => Txt.replace x ⟨u.1.toArray⟩ ⟨u.2.toArray⟩) x).cps.toList = us.foldl (fun l u => rp u.1 u.2 0 l) x.cps.toList
  | [], _, _ => rfl
  | u :: us, x, h => by
    rw [List.foldl_cons, List.foldl_cons, fold_une us _ fun v hv => h v (.tail _ hv), replace_rp x ⟨u.1.toArray⟩ ⟨u.2.toArray⟩ (h u (.head _))]
def usOf (L : List NP) : List (List Nat × List Nat) := ([38, 108, 116, 59], [60]) :: ([38, 103, 116, 59], [62]) :: L.map fun e => (e.2, [e.1])
theorem unP_list (L : List NP) (hL : ∀ e ∈ L, 1 ≤ e.2.length) (x : Str) : (unP (L.map toS) x).cps.toList = rp [38, 97, 109, 112, 59] [38] 0 ((usOf L).foldl (fun l u => rp u.1 u.2 0 l) x.cps.toList) := by
  have e1 : Str.ofString "&lt;" = ⟨#[38, 108, 116, 59]⟩ := by decide
  have e2 : Str.ofString "&gt;" = ⟨#[38, 103, 116, 59]⟩ := by decide
  have e3 : Str.ofString "&amp;" = ⟨#[38, 97, 109, 112, 59]⟩ := by decide
  have e4 : Str.ofString "<" = ⟨#[60]⟩ := by decide
  have e5 : Str.ofString ">" = ⟨#[62]⟩ := by decide
  have e6 : Str.ofString "&" = ⟨#[38]⟩ := by decide
  have h0 : unP (L.map toS) x = Txt.replace ((usOf L).foldl (fun x u => Txt.replace x ⟨u.1.toArray⟩ ⟨u.2.toArray⟩) x) ⟨#[38, 97, 109, 112, 59]⟩ ⟨#[38]⟩ := by
    unfold unP une2 une1 usOf
    rw [e1, e2, e3, e4, e5, e6, List.foldl_cons, List.foldl_cons, List.foldl_map, List.foldl_map]
    rfl
  rw [h0, replace_rp _ ⟨#[38, 97, 109, 112, 59]⟩ ⟨#[38]⟩ (by decide), fold_une _ _ (by
    intro u hu
    simp only [usOf, List.mem_cons, List.mem_map] at hu
    rcases hu with rfl | rfl | ⟨e, he, rfl⟩
    · decide
    · decide
    · exact hL e he)]
theorem isY_of (m : List Nat) (h1 : 38 ∉ m) (h2 : 59 ∉ m) : IsY (38 :: (m ++ [59])) := ⟨m, rfl, h1, h2⟩
theorem back_list {L : List NP} (hL : L ∈ nt) (l : List Nat) : rp [38, 97, 109, 112, 59] [38] 0 ((usOf L).foldl (fun l u => rp u.1 u.2 0 l) (l.flatMap (sub (np3 ++ L)))) = l := by
  have hus : ∀ u ∈ usOf L, IsY u.1 ∧ ∃ c, c ≠ 38 ∧ u.2 = [c] := by
    intro u hu
    simp only [nt, List.mem_cons, List.not_mem_nil, or_false] at hL
    rcases hL with rfl | rfl | rfl | rfl <;> simp only [usOf, List.map_cons, List.map_nil, List.mem_cons, List.not_mem_nil, or_false] at hu
    · rcases hu with rfl | rfl
      · exact ⟨isY_of [108, 116] (by decide) (by decide), 60, by decide, rfl⟩
      · exact ⟨isY_of [103, 116] (by decide) (by decide), 62, by decide, rfl⟩
    · rcases hu with rfl | rfl | rfl
      · exact ⟨isY_of [108, 116] (by decide) (by decide), 60, by decide, rfl⟩
      · exact ⟨isY_of [103, 116] (by decide) (by decide), 62, by decide, rfl⟩
      · exact ⟨isY_of [113, 117, 111, 116] (by decide) (by decide), 34, by decide, rfl⟩
    · rcases hu with rfl | rfl | rfl | rfl
      · exact ⟨isY_of [108, 116] (by decide) (by decide), 60, by decide, rfl⟩
      · exact ⟨isY_of [103, 116] (by decide) (by decide), 62, by decide, rfl⟩
      · exact ⟨isY_of [97, 112, 111, 115] (by decide) (by decide), 39, by decide, rfl⟩
      · exact ⟨isY_of [113] (by decide) (by decide), 34, by decide, rfl⟩
    · rcases hu with rfl | rfl | rfl | rfl
      · exact ⟨isY_of [108, 116] (by decide) (by decide), 60, by decide, rfl⟩
      · exact ⟨isY_of [103, 116] (by decide) (by decide), 62, by decide, rfl⟩
      · exact ⟨isY_of [110, 108] (by decide) (by decide), 10, by decide, rfl⟩
      · exact ⟨isY_of [116, 97, 98] (by decide) (by decide), 9, by decide, rfl⟩
  have hB : ∀ k, IsB (sub (np3 ++ L) k) := by
    intro k
    have gen : ∀ (ps : List NP), (∀ e ∈ ps, IsY e.2) → (k = 38 → ∃ e ∈ ps, e.1 = 38) → IsB (sub ps k) := by
      intro ps
      induction ps with
      | nil =>
        intro _ h
        exact .inl ⟨k, (fun q => (h q).elim fun e he => absurd he.1 (by simp)), rfl⟩
      | cons e ps ih =>
        intro h1 h2
        rw [sub]
        split
        · exact .inr (h1 e (.head _))
        · rename_i hne
          refine ih (fun e he => h1 e (.tail _ he)) fun q => ?_
          obtain ⟨e', he', hq⟩ := h2 q
          rcases List.mem_cons.mp he' with rfl | he'
          · exact absurd (q.trans hq.symm) hne
          · exact ⟨e', he', hq⟩
    refine gen _ ?_ fun _ => ⟨(38, [38, 97, 109, 112, 59]), List.mem_append_left _ (.head _), rfl⟩
    intro e he
    rcases List.mem_append.mp he with he | he
    · simp only [np3, List.mem_cons, List.not_mem_nil, or_false] at he
      rcases he with rfl | rfl | rfl
      · exact isY_of [97, 109, 112] (by decide) (by decide)
      · exact isY_of [103, 116] (by decide) (by decide)
      · exact isY_of [108, 116] (by decide) (by decide)
    · exact (hus (e.2, [e.1]) (by rw [usOf]; exact .tail _ (.tail _ (List.mem_map.mpr ⟨e, he, rfl⟩)))).1
  obtain ⟨h1, h2⟩ := rp_fold (usOf L) (sub (np3 ++ L)) l hus hB
  rw [h1]
  refine (rp_blocks (z := [38]) (isY_of [97, 109, 112] (by decide) (by decide)) h2 l).trans ?_
  have hk : ∀ k, (if stepF (usOf L) (sub (np3 ++ L) k) = 38 :: ([97, 109, 112] ++ [59]) then [38] else stepF (usOf L) (sub (np3 ++ L) k)) = [k] := by
    intro k
    simp only [nt, List.mem_cons, List.not_mem_nil, or_false] at hL
    rcases hL with rfl | rfl | rfl | rfl
    · by_cases a1 : k = 38
      · subst a1; decide
      by_cases a2 : k = 62
      · subst a2; decide
      by_cases a3 : k = 60
      · subst a3; decide
      simp [sub, np3, a1, a2, a3, stepF, usOf]
    · by_cases a1 : k = 38
      · subst a1; decide
      by_cases a2 : k = 62
      · subst a2; decide
      by_cases a3 : k = 60
      · subst a3; decide
      by_cases a4 : k = 34
      · subst a4; decide
      simp [sub, np3, a1, a2, a3, a4, stepF, usOf]
    · by_cases a1 : k = 38
      · subst a1; decide
      by_cases a2 : k = 62
      · subst a2; decide
      by_cases a3 : k = 60
      · subst a3; decide
      by_cases a4 : k = 34
      · subst a4; decide
      by_cases a5 : k = 39
      · subst a5; decide
      simp [sub, np3, a1, a2, a3, a4, a5, stepF, usOf]
    · by_cases a1 : k = 38
      · subst a1; decide
      by_cases a2 : k = 62
      · subst a2; decide
      by_cases a3 : k = 60
      · subst a3; decide
      by_cases a4 : k = 10
      · subst a4; decide
      by_cases a5 : k = 9
      · subst a5; decide
      simp [sub, np3, a1, a2, a3, a4, a5, stepF, usOf]
  have hf : (fun k => if stepF (usOf L) (sub (np3 ++ L) k) = 38 :: ([97, 109, 112] ++ [59]) then [38] else stepF (usOf L) (sub (np3 ++ L) k)) = fun k => [k] := funext hk
  rw [hf]
  simp
theorem un_esc {ps : List (Str × Str)} (h : ps ∈ four4) (x : Str) : unP ps (escP (prs3 ++ ps) x) = x := by
  obtain ⟨L, hL, rfl, e⟩ := four4_nt h
  apply str_ext
  rw [unP_list L (by
    have : ∀ L ∈ nt, ∀ e ∈ L, 1 ≤ e.2.length := by decide
    exact this L hL), e, esc_flat hL, back_list hL]
theorem foldU_take {P : List (List (Str × Str))} (h : ∀ ps ∈ P, ps ∈ four4) (x : Str) : ∀ i, i ≤ P.length → (P.reverse.take i).foldl (fun x ps => unP ps x) (foldE P x) = foldE (P.take (P.length - i)) x
  | 0, _ => by simp
  | i + 1, hi => by
    have hlt : P.length - (i + 1) < P.length := by omega
    have hp : P[P.length - (i + 1)]? = some P[P.length - (i + 1)] := List.getElem?_eq_getElem hlt
    have hr : P.reverse[i]? = some P[P.length - (i + 1)] := by
      rw [List.getElem?_reverse (by omega), show P.length - 1 - i = P.length - (i + 1) by omega, hp]
    rw [List.take_add_one, hr, List.foldl_append, foldU_take h x i (by omega)]
    have e : P.length - i = P.length - (i + 1) + 1 := by omega
    rw [e, foldE_take hp]
    exact un_esc (h _ (List.getElem_mem hlt)) _
theorem rp_len {y z : List Nat} (hy : 1 ≤ y.length) (hz : z.length ≤ y.length) : ∀ (l : List Nat) (k : Nat), (rp y z k l).length ≤ l.length - k
  | [], _ => by simp [rp]
  | c :: r, k + 1 => by
    have := rp_len hy hz r k
    rw [rp, List.length_cons]
    omega
  | c :: r, 0 => by
    rw [rp]
    split
    · rename_i h
      have h1 := congrArg List.length h
      rw [List.length_take, List.length_cons] at h1
      have := rp_len hy hz r (y.length - 1)
      rw [List.length_append, List.length_cons]
      omega
    · have := rp_len hy hz r 0
      rw [List.length_cons, List.length_cons]
      omega
theorem replace_len {x y z : Str} (hy : 1 ≤ y.length) (hz : z.length ≤ y.length) : (Txt.replace x y z).length ≤ x.length := by
  have := rp_len (y := y.cps.toList) (z := z.cps.toList) (by rw [len_toList]; exact hy) (by rw [len_toList, len_toList]; exact hz) x.cps.toList 0
  rw [← replace_rp x y z hy, len_toList, len_toList] at this
  omega
end
theorem pos_any {α : Type} {M : Model} {A : Around} {s : Shared} {t : Sem α} {Q : α → Shared → Prop} {E : Value → Shared → Prop} (hn : 0 < s.toks) (h : wpAny M A t (fun a s' => 0 < s'.toks → Q a s') E s) : wpAny M A t Q E s :=
  wpAny_mono (wpAny_toks_of (n := 1) hn h) (fun _ _ x => x.2 x.1) fun _ _ x => x.2
theorem paired_ones : ∀ {vs ys : List Value}, Paired (fun _ y => ∃ (c : Nat) (t' : Tok), y = Value.str ⟨#[c]⟩ t') vs ys → ∃ cs : List Nat, cs.length = vs.length ∧ StrsAre ys (cs.map fun c => (⟨#[c]⟩ : Str))
  | _, _, .nil => ⟨[], rfl, .nil⟩
  | _, _, .cons ⟨c, t', e⟩ h => by
    obtain ⟨cs, h1, h2⟩ := paired_ones h
    subst e
    exact ⟨c :: cs, by simp [h1], .cons _ _ h2⟩
theorem join_ones_len (cs : List Nat) : (Txt.join (Str.ofString "") (cs.map fun c => (⟨#[c]⟩ : Str))).length = cs.length := by
  rw [← len_toList, tjoin_list, List.flatMap_map]
  induction cs with
  | nil => rfl
  | cons c cs ih => rw [List.flatMap_cons, List.length_append, ih]; simp; omega
theorem ones_sum (cs : List Nat) : ((cs.map fun c => (⟨#[c]⟩ : Str)).map (·.length)).sum = cs.length := by
  induction cs with
  | nil => rfl
  | cons c cs ih =>
    rw [List.map_cons, List.map_cons, List.sum_cons, ih, List.length_cons]
    show 1 + _ = _
    omega
theorem use_keeps2 {M : Model} {A : Around} {E : Value → Shared → Prop} {s : Shared} {tr : Sem Value} {P : Value → Heap → Prop} {Q : Value → Shared → Prop} {h₀ : Heap} {L : Addr} {m : Str → Option Value} {news : List (Addr × Obj)}
    (ht : 0 < s.toks) (F : Fr h₀ L s.heap m) (N : News h₀ L s.heap news) (C : wpAny M A tr (fun v s' => P v s'.heap ∧ Keeps s s') (fun _ _ => False) s)
    (h : ∀ v h' tk, P v h' → 0 < tk → (∀ b o, s.heap.get? b = some o → h'.get? b = some o) → Fr h₀ L h' m → News h₀ L h' news → Q v { s with heap := h', toks := tk }) : wpAny M A tr Q E s := by
  refine wpAny_mono (wpAny_toks_of (n := 1) ht C) (fun v s' hv => ?_) fun _ _ x => x.2.elim
  obtain ⟨hp, hP, h', tk, rfl, hk⟩ := hv
  exact h v h' tk hP hp hk (F.keeps hk) (N.grown hk)
def TabsP (w : World) (g : Heap) (v : Value) (h' : Heap) : Prop := ∃ D d0 d1 d2 d3 t1 t2 t3 items k, v = .ref D ∧ TabsAt w g h' D d0 d1 d2 d3 t1 t2 t3 items k
theorem tab_okA {w : World} {s : Shared} {A : Around} {E : Value → Shared → Prop} {p : Program} {loose : List Str} {mean : ExcName → Option Value} {mg mb : Str → Option Value} (hh : A.handled = none) (hroom : A.depth + 7 < recursionLimit)
    (X : (Mine.hd.heap_39 w.params).In s.heap) (T : Top p loose mean mg mb s.heap) {n : Int} {t : Tok} (ht : 0 < s.toks) (hn0 : 0 ≤ n) (hn : n ≤ 100000) :
    wpAny (model PySem.Challenge.rw_ij0071_01.row.prog w) A (call (.ref 53) [.int n t]) (fun v s' => TabsP w s.heap v s'.heap ∧ Keeps s s') E s := by
  cases A
  dsimp only at hh hroom
  subst hh
  exact tab_ok X T hroom ht hn0 hn
theorem red_okA {w : World} {s : Shared} {A : Around} {E : Value → Shared → Prop} {p : Program} {loose : List Str} {mean : ExcName → Option Value} {mg mb : Str → Option Value} (hh : A.handled = none) (hroom : A.depth + 7 < recursionLimit)
    (X : (Mine.hd.heap_39 w.params).In s.heap) (T : Top p loose mean mg mb s.heap) {x : Str} {t : Tok} {l f : Addr} {items : Array Value} {W : Nat → Str}
    (hf : keepIn (Mine.hd.heap_39 w.params) (.ref f) = true) (hl : s.heap.IsList l items) (ht : 0 < s.toks) (h0 : W 0 = x)
    (hcall : ∀ i v t' h' tk dp un' fr' gd, dp + 6 < recursionLimit → items[i]? = some v → (∀ b o, s.heap.get? b = some o → h'.get? b = some o) → 0 < tk →
      wpAny (model PySem.Challenge.rw_ij0071_01.row.prog w) (AA dp un' fr' gd) (call (.ref f) [.str (W i) t', v]) (fun r s'' => (∃ t'', r = .str (W (i + 1)) t'') ∧ Keeps { s with heap := h', toks := tk } s'') (fun _ _ => False) { s with heap := h', toks := tk }) :
    wpAny (model PySem.Challenge.rw_ij0071_01.row.prog w) A (call (.ref 48) [.ref f, .ref l, .str x t]) (fun v s' => (∃ t', v = .str (W items.size) t') ∧ Keeps s s') E s := by
  cases A
  dsimp only at hh hroom
  subst hh
  exact red_ok X T hf hl hroom ht h0 fun i v t' h' tk un' fr' hv hk htk => hcall i v t' h' tk _ un' fr' _ (by omega) hv hk htk
theorem add_tabs {w : World} {h₀ g g' : Heap} {L D d0 d1 d2 d3 : Addr} {t1 t2 t3 : Tok} {items : Array Value} {k : Nat} {m : Str → Option Value} {nw : List (Addr × Obj)} (F : Fr h₀ L g m) (N : News h₀ L g' nw) (tt : TabsAt w g g' D d0 d1 d2 d3 t1 t2 t3 items k) :
    News h₀ L g' ((D, PySem.W.listOf items k) :: (d3, tabO w (toE t3 tb3) 2) :: (d2, tabO w (toE t2 tb2) 2) :: (d1, tabO w (toE t1 tb1) 1) :: (d0, tabO w [] 0) :: nw) := by
  have old : ∀ a, g.objs.size ≤ a → a ≠ L ∧ h₀.get? a = none := fun a ha => by
    refine ⟨fun q => Nat.lt_irrefl _ (Nat.lt_of_lt_of_le F.ns.lt (q ▸ ha)), ?_⟩
    cases e : h₀.get? a with
    | none => rfl
    | some o => exact absurd (Heap.lt_size (F.keep _ _ e)) (Nat.not_lt.mpr ha)
  refine news_cons tt.lst ?_ ?_ (news_cons tt.e3 (old _ tt.n3.1).1 (old _ tt.n3.1).2 (news_cons tt.e2 (old _ tt.n2.1).1 (old _ tt.n2.1).2 (news_cons tt.e1 (old _ tt.n1.1).1 (old _ tt.n1.1).2 (news_cons tt.e0 (old _ tt.n0.1).1 (old _ tt.n0.1).2 N))))
  · intro q
    obtain ⟨o, _, _, ho, _⟩ := F.ns
    have := tt.new
    rw [q, ho] at this
    cases this
  · cases e : h₀.get? D with
    | none => rfl
    | some o => have := tt.new; rw [F.keep _ _ e] at this; cases this
theorem ne_of_live {g : Heap} {D a : Addr} {o : Obj} (h : g.get? D = none) (h' : g.get? a = some o) : a ≠ D := fun q => by rw [q, h] at h'; cases h'
theorem sum_bound : ∀ l : List Int, 0 ≤ (l.map (fun k => k.fmod 1024)).sum ∧ (l.map (fun k => k.fmod 1024)).sum ≤ 1023 * l.length
  | [] => by simp
  | k :: l => by
    have h := sum_bound l
    have h1 : 0 ≤ k.fmod 1024 ∧ k.fmod 1024 ≤ 1023 := by
      rw [Int.fmod_eq_emod_of_nonneg _ (by omega)]; omega
    rw [List.map_cons, List.sum_cons, List.length_cons]
    omega
section
variable {prog : Program} {w : World} {A : Around} {E : Value → Shared → Prop} {s : Shared} {env : Env}
/-- a list of texts, one for each sign of a text -/
theorem comp_signs2 {elt iter : Expr} {x : Str} {px : Pos} {scope : Scope} {cl : List (Str × Addr)} {pos : Pos} {Q : Value → Shared → Prop} {y : Str} {t : Tok} (g : Nat → Str) (hh : A.handled = none) (hsz : y.length ≤ sizeLine)
    (hclos : closureFor scope env = pure cl) (hcell : ∀ y ∈ scope.names, y.2 ≠ .cell) (hkind : scope.kind = .function)
    (hnames : ∀ y ∈ scope.names, y.2 = .local → scope.names.lookup y.1 = some .local) (hx : scope.names.lookup x = some .local)
    (hiter : ∀ Q' : Value → Shared → Prop, Q' (.str y t) s → wpAny (model prog w) A (eval iter env) Q' E s)
    (helt : ∀ C c u s₃ m₃ E', c ∈ y.cps.toList → (∀ b o, s.heap.get? b = some o → b < C) → s₃.heap.Ns C m₃ → m₃ x = some (.str ⟨#[c]⟩ u) → (∀ b o, s.heap.get? b = some o → s₃.heap.get? b = some o) → s.toks ≤ s₃.toks →
      wpAny (model prog w) A (eval elt (compEnvC scope cl C env)) (fun r s₄ => (∃ u', r = .str (g c) u') ∧ Keeps s₃ s₄) E' s₃)
    (hQ : ∀ D h' tk ys, h'.IsList D ys → s.heap.get? D = none → StrsAre ys.toList (y.cps.toList.map g) → (∀ b o, s.heap.get? b = some o → h'.get? b = some o) → Q (.ref D) { s with heap := h', toks := tk })
    (hs : ∀ x, foldedSetIterable iter env x = pure x := by intro _; rfl) :
    wpAny (model prog w) A (eval (.ListComp elt [⟨.Name x px, iter, [], 0⟩] scope pos) env) Q E s := by
  refine wpAny_ListComp_free (fun _ => true) (SignTo g) hclos hcell hkind hnames hx (hiter _ ?_) hs
  refine wpAny_pyIter_str fun o St W hst => ?_
  have old : ∀ (h' : Heap), (∀ b o', b ∉ [s.heap.objs.size] → (s.heap.push o).get? b = some o' → h'.get? b = some o') → ∀ b o', s.heap.get? b = some o' → h'.get? b = some o' :=
    fun h' hk b o' e => hk b o' (by rw [List.mem_singleton]; exact Nat.ne_of_lt (Heap.lt_size e)) (Heap.get?_push_of_some _ e)
  refine ⟨_, _, _, _, _, _, rfl, W A hh, hsz, hst, ?_, ⟨?_, ?_⟩, ?_⟩
  · intro b hb
    show b < (s.heap.push o).objs.size
    rw [Heap.size_push, List.mem_singleton.mp hb]
    exact Nat.lt_succ_self _
  · intro C i v s₃ m₃ E' _ _ _ _ _ _
    exact wpAny_pure ⟨rfl, _, _, rfl, fun _ _ e => e⟩
  · intro C i v s₃ m₃ E' hCs hP _ hn hm hk htk
    have hC : ∀ b o, s.heap.get? b = some o → b < C := fun b o' e => by
      have h1 := Heap.lt_size e
      have h2 : (s.heap.push o).objs.size ≤ C := hCs
      rw [Heap.size_push] at h2
      exact Nat.lt_of_lt_of_le h1 (Nat.le_of_succ_le h2)
    obtain ⟨c, u, hc, rfl⟩ := hP
    refine wpAny_mono (helt C c u s₃ m₃ E' (by rw [Array.mem_toList_iff]; exact Array.mem_of_getElem? hc) hC hn hm (old _ hk) htk) (fun r s₄ hr => ?_) fun _ _ e => e
    obtain ⟨⟨u', rfl⟩, hkp⟩ := hr
    exact ⟨⟨c, u, u', rfl, rfl⟩, hkp⟩
  · intro D h' tk ys vs hD hl _ hlen hP hF hk
    refine hQ D h' tk ys hl ?_ (signs_strs (by rw [hlen]; simp) (fun j v hj => ?_) (by rw [List.filter_eq_self.mpr (fun _ _ => rfl)] at hF; exact hF)) (old _ hk)
    · cases e : s.heap.get? D with
      | none => rfl
      | some o' => have := Heap.get?_push_of_some (h := s.heap) o e; rw [this] at hD; cases hD
    · obtain ⟨c, u, hc, rfl⟩ := hP j v hj
      exact ⟨c, u, by rw [Array.getElem?_toList]; exact hc, rfl⟩
end
structure TabV (w : World) (h : Heap) (v : Value) (ps : List (Str × Str)) : Prop where
  tab : ∃ d es ep, v = .ref d ∧ h.get? d = some (tabO w es ep) ∧ (d == sysModules) = false ∧ es.map (fun e => (e.1, e.2.2.1)) = ps ∧ ∀ e ∈ es, EntOk e
structure UnTabV (w : World) (h : Heap) (v : Value) (ps : List (Str × Str)) : Prop where
  tab : ∃ (d : Addr) (es : List Ent) (ep : Nat), v = .ref d ∧ h.get? d = some (tabO w (es.map flipE) ep) ∧ (d == sysModules) = false ∧ es.map (fun e => (e.1, e.2.2.1)) = ps ∧ ∀ e ∈ es, EntOk e
theorem four4_facts : ∀ ps ∈ four4, (ps.map (·.1)).Nodup ∧ (ps.map (·.2)).Nodup ∧ ps.length ≤ 2 ∧ ∀ kr ∈ ps, 1 ≤ kr.2.length ∧ kr.1.length ≤ kr.2.length := by decide
theorem EntOk.flip {e : Ent} (h : EntOk e) : EntOk (flipE e) :=
  ⟨h.tr, h.tk, Ne.symm h.ne, by
    have := h.kr
    rw [beq_eq_false_iff_ne] at this ⊢
    exact Ne.symm this, h.klen, h.len⟩
theorem esc_tab {w : World} {s : Shared} {dp un : Nat} {fr : Option (List Env)} {gd : Option (List Code)} {E : Value → Shared → Prop} {p : Program} {loose : List Str} {mean : ExcName → Option Value} {mg mb : Str → Option Value}
    (X : (Mine.hd.heap_39 w.params).In s.heap) (T : Top p loose mean mg mb s.heap) {x : Str} {t : Tok} {v : Value} {ps : List (Str × Str)} (tv : TabV w s.heap v ps) (h4 : ps ∈ four4) (hroom : dp + 5 < recursionLimit)
    (ht : 0 < s.toks) (hx : x.length ≤ 60000) :
    wpAny (model PySem.Challenge.rw_ij0071_01.row.prog w) (AA dp un fr gd) (call (.ref 30) [.str x t, v]) (fun r s' => (∃ t', r = .str (escP (prs3 ++ ps) x) t') ∧ Keeps s s') E s := by
  obtain ⟨d, es, ep, rfl, hd, lo, rfl, hok⟩ := tv.tab
  obtain ⟨f1, f2, f3, f4⟩ := four4_facts _ h4
  rw [List.length_map] at f3
  rw [List.map_map] at f1
  have hb : ∀ j, (escP ((prs3 ++ es.map fun e => (e.1, e.2.2.1)).take j) x).length ≤ 1000000 := fun j => Nat.le_trans (escP_take_len h4 j x) (by omega)
  have e0 : escP (prs3 ++ es.map fun e => (e.1, e.2.2.1)) x = dRep es (esc3 x) := (dRep_escP es x).symm
  rw [e0]
  refine esc_ok X T hd lo f1 hok hroom ht (by omega) (hb 1) (hb 2) (by omega) fun i _ => ?_
  rw [dRep_escP, pairsOf_eq]
  have e1 : prs3 ++ (es.take i).map (fun e => (e.1, e.2.2.1)) = (prs3 ++ es.map fun e => (e.1, e.2.2.1)).take (3 + i) := by
    rw [List.take_append, List.map_take]
    have : prs3.length = 3 := rfl
    rw [List.take_of_length_le (l := prs3) (by omega), this, Nat.add_sub_cancel_left]
  rw [e1]
  exact hb _
theorem dRep_flip_len : ∀ (es : List Ent), (∀ kr ∈ es.map (fun e => (e.1, e.2.2.1)), 1 ≤ kr.2.length ∧ kr.1.length ≤ kr.2.length) → ∀ x : Str, (dRep (es.map flipE) x).length ≤ x.length
  | [], _, _ => Nat.le_refl _
  | e :: es, h, x => by
    have h0 := h (e.1, e.2.2.1) (.head _)
    show (dRep (es.map flipE) (Txt.replace x e.2.2.1 e.1)).length ≤ _
    exact Nat.le_trans (dRep_flip_len es (fun kr hk => h kr (.tail _ hk)) _) (replace_len h0.1 h0.2)
theorem une_tab {w : World} {s : Shared} {dp un : Nat} {fr : Option (List Env)} {gd : Option (List Code)} {E : Value → Shared → Prop} {p : Program} {loose : List Str} {mean : ExcName → Option Value} {mg mb : Str → Option Value}
    (X : (Mine.hd.heap_39 w.params).In s.heap) (T : Top p loose mean mg mb s.heap) {x : Str} {t : Tok} {v : Value} {ps : List (Str × Str)} (tv : UnTabV w s.heap v ps) (h4 : ps ∈ four4) (hroom : dp + 5 < recursionLimit)
    (ht : 0 < s.toks) (hx : x.length ≤ 60000) :
    wpAny (model PySem.Challenge.rw_ij0071_01.row.prog w) (AA dp un fr gd) (call (.ref 39) [.str x t, v]) (fun r s' => (∃ t', r = .str (unP ps x) t') ∧ Keeps s s') E s := by
  obtain ⟨d, es, ep, rfl, hd, lo, rfl, hok⟩ := tv.tab
  obtain ⟨f1, f2, f3, f4⟩ := four4_facts _ h4
  rw [List.length_map] at f3
  rw [List.map_map] at f2
  rw [← uneS_flip]
  have u1 : (une1 x).length ≤ x.length := replace_len (by decide) (by decide)
  have u2 : (une2 x).length ≤ x.length := Nat.le_trans (replace_len (by decide) (by decide)) u1
  refine une_ok X T hd lo ?_ ?_ hroom ht (by omega) (by omega) (by rw [List.length_map]; omega) fun i _ => ?_
  · rw [List.map_map]; exact f2
  · intro e he
    obtain ⟨e', he', rfl⟩ := List.mem_map.mp he
    exact (hok e' he').flip
  · rw [← List.map_take]
    have := dRep_flip_len (es.take i) (fun kr hk => f4 kr (by rw [List.map_take] at hk; exact List.mem_of_mem_take hk)) (une2 x)
    omega
theorem red_esc {w : World} {s : Shared} {A : Around} {E : Value → Shared → Prop} {p : Program} {loose : List Str} {mean : ExcName → Option Value} {mg mb : Str → Option Value} (hh : A.handled = none) (hroom : A.depth + 7 < recursionLimit)
    (X : (Mine.hd.heap_39 w.params).In s.heap) (T : Top p loose mean mg mb s.heap) {x : Str} {t : Tok} {l : Addr} {items : Array Value} {P : List (List (Str × Str))}
    (hl : s.heap.IsList l items) (ht : 0 < s.toks) (hP : P.length = items.size) (h4 : ∀ ps ∈ P, ps ∈ four4) (hlen : ∀ i, (foldE (P.take i) x).length ≤ 60000)
    (htab : ∀ (i : Nat) v ps, items[i]? = some v → P[i]? = some ps → TabV w s.heap v ps) :
    wpAny (model PySem.Challenge.rw_ij0071_01.row.prog w) A (call (.ref 48) [.ref 30, .ref l, .str x t]) (fun v s' => (∃ t', v = .str (foldE P x) t') ∧ Keeps s s') E s := by
  refine wpAny_mono (red_okA (W := fun i => foldE (P.take i) x) hh hroom X T (by kernel_rfl) hl ht rfl ?_) (fun v s' h => ?_) fun _ _ e => e
  · intro i v t' h' tk dp un' fr' gd hdp hv hk htk
    have hi : i < P.length := by rw [hP]; exact (Array.getElem?_eq_some_iff.mp hv).1
    have hp : P[i]? = some P[i] := List.getElem?_eq_getElem hi
    rw [foldE_take hp]
    obtain ⟨d, es, ep, e1, e2, e3, e4, e5⟩ := (htab i v _ hv hp).tab
    exact esc_tab (s := { s with heap := h', toks := tk }) (X.keeps hk) (T.keeps hk) ⟨d, es, ep, e1, hk _ _ e2, e3, e4, e5⟩ (h4 _ (List.getElem_mem hi)) (by omega) htk (hlen i)
  · obtain ⟨⟨t', e⟩, hk⟩ := h
    refine ⟨⟨t', ?_⟩, hk⟩
    rw [e]
    first | rw [List.take_of_length_le (by omega)] | (dsimp only; rw [List.take_of_length_le (by omega)])
theorem red_une {w : World} {s : Shared} {A : Around} {E : Value → Shared → Prop} {p : Program} {loose : List Str} {mean : ExcName → Option Value} {mg mb : Str → Option Value} (hh : A.handled = none) (hroom : A.depth + 7 < recursionLimit)
    (X : (Mine.hd.heap_39 w.params).In s.heap) (T : Top p loose mean mg mb s.heap) {x : Str} {t : Tok} {l : Addr} {items : Array Value} {P : List (List (Str × Str))}
    (hl : s.heap.IsList l items) (ht : 0 < s.toks) (hP : P.length = items.size) (h4 : ∀ ps ∈ P, ps ∈ four4) (hlen : ∀ i, (foldE (P.take i) x).length ≤ 60000)
    (htab : ∀ (i : Nat) v ps, items[i]? = some v → P.reverse[i]? = some ps → UnTabV w s.heap v ps) :
    wpAny (model PySem.Challenge.rw_ij0071_01.row.prog w) A (call (.ref 48) [.ref 39, .ref l, .str (foldE P x) t]) (fun v s' => (∃ t', v = .str x t') ∧ Keeps s s') E s := by
  have hW : ∀ i, i ≤ P.length → (P.reverse.take i).foldl (fun x ps => unP ps x) (foldE P x) = foldE (P.take (P.length - i)) x := foldU_take h4 x
  refine wpAny_mono (red_okA (W := fun i => (P.reverse.take i).foldl (fun x ps => unP ps x) (foldE P x)) hh hroom X T (by kernel_rfl) hl ht rfl ?_) (fun v s' h => ?_) fun _ _ e => e
  · intro i v t' h' tk dp un' fr' gd hdp hv hk htk
    have hi : i < P.reverse.length := by rw [List.length_reverse, hP]; exact (Array.getElem?_eq_some_iff.mp hv).1
    have hp : P.reverse[i]? = some P.reverse[i] := List.getElem?_eq_getElem hi
    have e0 : (P.reverse.take (i + 1)).foldl (fun x ps => unP ps x) (foldE P x) = unP P.reverse[i] ((P.reverse.take i).foldl (fun x ps => unP ps x) (foldE P x)) := by
      rw [List.take_add_one, hp]; simp
    rw [e0]
    obtain ⟨d, es, ep, e1, e2, e3, e4, e5⟩ := (htab i v _ hv hp).tab
    rw [List.length_reverse] at hi
    exact une_tab (s := { s with heap := h', toks := tk }) (X.keeps hk) (T.keeps hk) ⟨d, es, ep, e1, hk _ _ e2, e3, e4, e5⟩ (h4 _ (List.mem_reverse.mp (List.getElem_mem _))) (by omega) htk (by rw [hW i (by omega)]; exact hlen _)
  · obtain ⟨⟨t', e⟩, hk⟩ := h
    refine ⟨⟨t', ?_⟩, hk⟩
    rw [e]
    try dsimp only
    rw [hW _ (by omega), hP, Nat.sub_self]
    rfl
theorem rew_A {w : World} {s : Shared} {A : Around} {E : Value → Shared → Prop} {p : Program} {loose : List Str} {mean : ExcName → Option Value} {mg mb : Str → Option Value} (hh : A.handled = none) (hroom : A.depth + 7 < recursionLimit) {bs : Heap}
    (Xb : (Mine.hd.heap_39 w.params).In bs) (Tb : Top p loose mean mg mb bs) (hbs : ∀ b o, bs.get? b = some o → s.heap.get? b = some o) {x : Str} {t : Tok} {l : Addr} {items : Array Value} {P : List (List (Str × Str))}
    (hl : s.heap.IsList l items) (ht : 0 < s.toks) (hP : P.length = items.size) (h4 : ∀ ps ∈ P, ps ∈ four4) (hlen : ∀ i, (foldE (P.take i) x).length ≤ 10000)
    (htab : ∀ (i : Nat) v ps, items[i]? = some v → P[i]? = some ps → TabV w s.heap v ps) (hnone : ∀ (i : Nat) d, items[i]? = some (.ref d) → bs.get? d = none) :
    wpAny (model PySem.Challenge.rw_ij0071_01.row.prog w) A (call (.ref 58) [.str x t, .ref l]) (fun v s' => (∃ t', v = .str (foldE P x) t') ∧ Keeps s s') E s := by
  cases A
  dsimp only at hh hroom
  subst hh
  refine wpAny_mono (rew_ok (W := fun i => foldE (P.take i) x) Xb Tb hbs hl hroom ht rfl ?_) (fun v s' h => ?_) fun _ _ e => e
  · intro i v hv
    have hi : i < P.length := by rw [hP]; exact (Array.getElem?_eq_some_iff.mp hv).1
    have hp : P[i]? = some P[i] := List.getElem?_eq_getElem hi
    have h4i := h4 _ (List.getElem_mem hi)
    obtain ⟨d, es, ep, rfl, e2, e3, e4, e5⟩ := (htab i v _ hv hp).tab
    obtain ⟨f1, f2, f3, f4⟩ := four4_facts _ h4i
    rw [← e4, List.length_map] at f3
    rw [← e4, List.map_map] at f1
    refine ⟨d, es, ep, rfl, e2, hnone i d hv, e3, f1, f3, e5, ?_, fun j _ => ?_⟩
    · try dsimp only
      rw [foldE_take hp, pairsOf_eq, e4, rewP_all h4i]
    · rw [pairsOf_eq, e4, rewP_eq h4i]
      have := escP_take_len h4i j (foldE (P.take i) x)
      have := hlen i
      try dsimp only
      omega
  · obtain ⟨⟨t', e⟩, hk⟩ := h
    refine ⟨⟨t', ?_⟩, hk⟩
    rw [e]
    first | rw [List.take_of_length_le (by omega)] | (dsimp only; rw [List.take_of_length_le (by omega)])
/-- the four tables in a heap -/
structure FourIn (w : World) (h : Heap) (d0 d1 d2 d3 : Addr) (t1 t2 t3 : Tok) : Prop where
  e0 : h.get? d0 = some (tabO w [] 0)
  e1 : h.get? d1 = some (tabO w (toE t1 tb1) 1)
  e2 : h.get? d2 = some (tabO w (toE t2 tb2) 2)
  e3 : h.get? d3 = some (tabO w (toE t3 tb3) 2)
open Classical in
theorem tabs_P {w : World} {g h : Heap} {D d0 d1 d2 d3 : Addr} {t1 t2 t3 : Tok} {items : Array Value} {k : Nat} (tt : TabsAt w g h D d0 d1 d2 d3 t1 t2 t3 items k) :
    ∃ P : List (List (Str × Str)), P.length = items.size ∧ (∀ ps ∈ P, ps ∈ four4) ∧ (∀ (i : Nat) v ps, items[i]? = some v → P[i]? = some ps → ∀ h', FourIn w h' d0 d1 d2 d3 t1 t2 t3 → TabV w h' v ps) ∧
      (∀ (h₀ : Heap), (∀ b o, h₀.get? b = some o → g.get? b = some o) → ∀ (i : Nat) d, items[i]? = some (.ref d) → h₀.get? d = none) ∧ ∃ f : Value → List (Str × Str), P = items.toList.map f := by
  have f0 : ([] : List (Str × Str)) ∈ four4 := by decide
  have f1 : tb1 ∈ four4 := by decide
  have f2 : tb2 ∈ four4 := by decide
  have f3 : tb3 ∈ four4 := by decide
  refine ⟨items.toList.map fun v => if v = .ref d0 then [] else if v = .ref d1 then tb1 else if v = .ref d2 then tb2 else tb3, by simp, ?_, ?_, ?_, _, rfl⟩
  · intro ps hps
    obtain ⟨v, _, rfl⟩ := List.mem_map.mp hps
    split
    · exact f0
    split
    · exact f1
    split
    · exact f2
    · exact f3
  · intro i v ps hv hps h' F
    rw [List.getElem?_map, Array.getElem?_toList, hv] at hps
    simp only [Option.map_some, Option.some.injEq] at hps
    subst hps
    have hm : v ∈ items.toList := by rw [Array.mem_toList_iff]; exact Array.mem_of_getElem? hv
    split
    · rename_i e
      exact ⟨d0, [], 0, e, F.e0, tt.n0.2, rfl, by intro e he; cases he⟩
    split
    · rename_i e
      exact ⟨d1, _, _, e, F.e1, tt.n1.2, toE_prs _ _, toE_ok tt.p1 (by decide)⟩
    split
    · rename_i e
      exact ⟨d2, _, _, e, F.e2, tt.n2.2, toE_prs _ _, toE_ok tt.p2 (by decide)⟩
    · rename_i n0 n1 n2
      have e : v = .ref d3 := by
        rcases tt.row v hm with e | e | e | e
        · exact absurd e n0
        · exact absurd e n1
        · exact absurd e n2
        · exact e
      exact ⟨d3, _, _, e, F.e3, tt.n3.2, toE_prs _ _, toE_ok tt.p3 (by decide)⟩
  · intro h₀ hk i d hv
    have hm : Value.ref d ∈ items.toList := by rw [Array.mem_toList_iff]; exact Array.mem_of_getElem? hv
    have old : ∀ a, g.objs.size ≤ a → h₀.get? a = none := fun a ha => by
      cases e : h₀.get? a with
      | none => rfl
      | some o => exact absurd (Heap.lt_size (hk _ _ e)) (Nat.not_lt.mpr ha)
    rcases tt.row _ hm with e | e | e | e <;> cases e
    · exact old _ tt.n0.1
    · exact old _ tt.n1.1
    · exact old _ tt.n2.1
    · exact old _ tt.n3.1
theorem foldE_bound {P : List (List (Str × Str))} (h4 : ∀ ps ∈ P, ps ∈ four4) (hn : P.length ≤ 4) {x : Str} {n : Nat} (hx : x.length ≤ n) (i : Nat) : (foldE (P.take i) x).length ≤ 1296 * n := by
  refine Nat.le_trans (foldE_len (fun ps hp => h4 ps (List.mem_of_mem_take hp)) x) ?_
  refine Nat.mul_le_mul ?_ hx
  have h1 : (P.take i).length ≤ 4 := by rw [List.length_take]; omega
  exact Nat.le_trans (Nat.pow_le_pow_right (by decide) h1) (by decide)
theorem sum_le_of {f : Nat → Str} {n : Nat} (h : ∀ k, (f k).length ≤ n) : ∀ l : List Nat, ((l.map f).map (·.length)).sum ≤ n * l.length
  | [] => Nat.le_refl _
  | k :: l => by
    have := sum_le_of h l
    have := h k
    rw [List.map_cons, List.map_cons, List.sum_cons, List.length_cons, Nat.mul_succ]
    omega
theorem foldE_one {P : List (List (Str × Str))} (h4 : ∀ ps ∈ P, ps ∈ four4) (hn : P.length ≤ 4) (k : Nat) : (foldE P ⟨#[k]⟩).length ≤ 1296 := by
  have := foldE_bound h4 hn (x := ⟨#[k]⟩) (n := 1) (Nat.le_refl 1) P.length
  rwa [List.take_length] at this
theorem tab_take {w : World} {g : Heap} {items : Array Value} {P : List (List (Str × Str))} (htab : ∀ (i : Nat) v ps, items[i]? = some v → P[i]? = some ps → TabV w g v ps) (n : Nat) :
    ∀ (i : Nat) v ps, ((items.toList.take n).toArray)[i]? = some v → (P.take n)[i]? = some ps → TabV w g v ps := fun i v ps h1 h2 => by
  rw [List.getElem?_toArray, List.getElem?_take] at h1
  rw [List.getElem?_take] at h2
  split at h1
  · rename_i hlt
    rw [if_pos hlt] at h2
    exact htab i v ps (by rw [← Array.getElem?_toList]; exact h1) h2
  · cases h1
theorem tab_drop {w : World} {g : Heap} {items : Array Value} {P : List (List (Str × Str))} (htab : ∀ (i : Nat) v ps, items[i]? = some v → P[i]? = some ps → TabV w g v ps) (n : Nat) :
    ∀ (i : Nat) v ps, ((items.toList.drop n).toArray)[i]? = some v → (P.drop n)[i]? = some ps → TabV w g v ps := fun i v ps h1 h2 => by
  rw [List.getElem?_toArray, List.getElem?_drop] at h1
  rw [List.getElem?_drop] at h2
  exact htab (n + i) v ps (by rw [← Array.getElem?_toList]; exact h1) h2
theorem foldE_cut_len {P : List (List (Str × Str))} {x : Str} {b : Nat} (h : ∀ i, (foldE (P.take i) x).length ≤ b) (n i : Nat) : (foldE ((P.drop n).take i) (foldE (P.take n) x)).length ≤ b := by
  have e : foldE ((P.drop n).take i) (foldE (P.take n) x) = foldE (P.take (n + i)) x := by
    unfold foldE
    rw [← List.foldl_append, List.take_add]
  rw [e]; exact h _
section
variable {prog : Program} {w : World} {A : Around} {E : Value → Shared → Prop} {s : Shared} {env : Env}
/-- a loop over a range from 0; nothing of the ledger is written -/
theorem for_rangeN {h₀ : Heap} {Q : Flow → Shared → Prop} {xv : Str} {pv pos : Pos} {iter : PySem.Expr} {body : List Stmt} {k : Int} {m : Str → Option Value} {nx : List (Addr × Obj)}
    (_F : Fr h₀ env.locals s.heap m) (_N : News h₀ env.locals s.heap nx) (hh : A.handled = none) (hxv : env.kindOf xv = some .local)
    (hp : (env.scope.kind == .class || (env.scope.kind == .module && env.locals != env.globals)) = false) (hk0 : 0 ≤ k) (hk : k ≤ 1000)
    (ho : ∀ Q' : Value → Shared → Prop, (∀ r h' tk t u v, 0 < tk → IsRange h' r 0 k 1 t u v → Fr h₀ env.locals h' m → News h₀ env.locals h' nx → Q' (.ref r) { s with heap := h', toks := tk }) → wpAny (model prog w) A (eval iter env) Q' E s)
    (J : Nat → (Str → Option Value) → Prop) (h0 : J 0 m)
    (step : ∀ (i : Nat) m₁ h tk u I oJ, (i : Int) < k → 0 < tk → J i m₁ → (∀ p ∈ nx, p.1 < I) → Fr h₀ env.locals h (fun y => if y = xv then some (.int (i : Int) u) else m₁ y) → News h₀ env.locals h ((I, oJ) :: nx) →
      wpAny (model prog w) A (execs body env) (fun f s₂ => Stop (f = .next ∧ ∃ h' tk' m₂, s₂ = { s with heap := h', toks := tk' } ∧ 0 < tk' ∧ Fr h₀ env.locals h' m₂ ∧ News h₀ env.locals h' ((I, oJ) :: nx) ∧ J (i + 1) m₂))
        (fun _ _ => False) { s with heap := h, toks := tk })
    (hQ : ∀ h' tk m', 0 < tk → Fr h₀ env.locals h' m' → News h₀ env.locals h' nx → J k.toNat m' → Q .next { s with heap := h', toks := tk })
    (hs : ∀ x, foldedSetIterable iter env x = pure x := by intro _; rfl) :
    wpAny (model prog w) A (exec (.For (.Name xv pv) iter body [] pos) env) Q E s := by
  have hsm : Builtin.Range.small 0 k 1 = true := small_one (by omega) (by omega) (by omega) (by omega)
  have hsz : Builtin.Range.rangeSize 0 k 1 = ((k.toNat : Nat) : Int) := by rw [rangeSize_nat]; simp
  refine wpAny_For (ho _ fun r h' tk t u v htk hr F N => wpAny_pyIter_range hr hsm ?_) hs
  rw [hsz]
  have F₁ := F.push { cls := .type "range_iterator", data := .fields #[rawInt 0, rawInt (k.toNat : Int), rawInt 1] }
  have N₁ := News.push F N { cls := .type "range_iterator", data := .fields #[rawInt 0, rawInt (k.toNat : Int), rawInt 1] } rfl
  have hlt : ∀ p ∈ nx, p.1 < h'.objs.size := fun p hp => Heap.lt_size (N p hp).1
  dsimp only
  generalize h'.objs.size = I at N₁ hlt ⊢
  generalize h'.push { cls := .type "range_iterator", data := .fields #[rawInt 0, rawInt (k.toNat : Int), rawInt 1] } = hi at F₁ N₁ ⊢
  have hIn := N₁ _ (.head _)
  have hI₀ : h₀.get? I = none := hIn.2.2
  have hIL : I ≠ env.locals := hIn.2.1
  have off : ∀ p ∈ nx, p.1 ≠ I := fun p hp => Nat.ne_of_lt (hlt p hp)
  show codeAny (model prog w) A (.forLoop (.Name xv pv) (.ref I) body [] env) _ _
  refine codeAny_forLoop (R := fun r s' => match r with | .ok f => Q f s' | .error e => cameBackBy (model prog w) A env E e s')
    (fun n s' => ∃ h tk m' i, s' = { s with heap := h, toks := tk } ∧ 0 < tk ∧ IsRangeIter h I (i : Nat) ((k.toNat : Int) - (i : Nat)) 1 ∧ Fr h₀ env.locals h m' ∧ News h₀ env.locals h nx ∧ J i m' ∧ i ≤ k.toNat ∧ n = k.toNat + 1 - i) ?_ (k.toNat + 1)
    ⟨hi, tk, m, 0, rfl, htk, by simpa using hIn.1, F₁, fun p hp => N₁ p (.tail _ hp), h0, Nat.zero_le _, rfl⟩
  rintro n s' ⟨h, tk, m', i, rfl, hk0', hit, F', N', hJ, hile, rfl⟩
  by_cases hlt' : i < k.toNat
  · refine wpAny_pyNext_range_item hit (by omega) fun h₁ hit₁ hs₁ => ?_
    have F₁ := F'.change hs₁ hIL hI₀
    have N₁ := news_same N' hs₁ off
    refine wpAny_assign_Name (wpAny_storeName_local hxv F₁.ns (fun h₂ hn₂ hs₂ => ?_) hp)
    have F₂ := F₁.set hn₂ hs₂
    have hit₂ : h₂.get? I = some _ := hs₂.extBut _ _ hIL hit₁
    have e1 : (i : Int) + 1 = ((i + 1 : Nat) : Int) := by omega
    have e2 : (k.toNat : Int) - (i : Nat) - 1 = (k.toNat : Int) - ((i + 1 : Nat) : Int) := by omega
    refine wpAny_mono (step i m' h₂ (tk + 1 + 1) _ I _ (by omega) (Nat.succ_pos _) hJ hlt F₂ (news_cons hit₂ hIL hI₀ (N₁.set hs₂))) (fun f s₃ hq => ?_) fun _ _ q => q.elim
    obtain ⟨rfl, h₃, tk₃, m₃, rfl, hp₃, F₃, N₃, J₃⟩ := hq
    refine ⟨k.toNat + 1 - (i + 1), by omega, h₃, tk₃, m₃, i + 1, rfl, hp₃, ?_, F₃, fun p hp => N₃ p (.tail _ hp), J₃, hlt', rfl⟩
    have := (N₃ _ (.head _)).1
    rw [e1, e2] at this
    exact this
  · have hin : i = k.toNat := by omega
    subst hin
    refine wpAny_pyNext_range_end hh hit (by omega) fun h₁ he₁ => wpAny_execs_nil ?_
    have kp : ∀ b o, b ≠ I → h.get? b = some o → h₁.get? b = some o := fun b o hb x => he₁ b o hb x
    exact hQ h₁ tk m' hk0' ⟨F'.ns.at fun o x => kp _ o (Ne.symm hIL) x, fun b o x => kp b o (fun q => by rw [q, hI₀] at x; cases x) (F'.keep b o x), F'.above⟩ (fun p hp => ⟨kp _ _ (off p hp) (N' p hp).1, (N' p hp).2⟩) hJ
end
def InvOf {h₀ h : Heap} {L : Addr} {m : Str → Option Value} {nx : List (Addr × Obj)} (_ : Fr h₀ L h m) (_ : News h₀ L h nx) (g : Heap) : Prop := Fr h₀ L g m ∧ News h₀ L g nx
def FlipOK (w : World) (f : Value → List (Str × Str)) (v : Value) (a : Addr) (o : Obj) : Prop := (a == sysModules) = false ∧ ∃ (es : List Ent) (ep : Nat), o = tabO w (es.map flipE) ep ∧ es.map (fun e => (e.1, e.2.2.1)) = f v ∧ ∀ e ∈ es, EntOk e
def FlipOKK {w : World} {h : Heap} (_ : (Mine.hd.heap_39 w.params).In h) (f : Value → List (Str × Str)) : Value → Addr → Obj → Prop := FlipOK w f
theorem untabs {w : World} {h : Heap} {items : Array Value} {P : List (List (Str × Str))} {f : Value → List (Str × Str)} {ys : List Value} (hf : P = items.toList.map f) 
    (hlen : ys.length = items.toList.reverse.toArray.size)
    (hys : ∀ (i : Nat) v, items.toList.reverse.toArray[i]? = some v → ∃ a o, ys[i]? = some (.ref a) ∧ h.get? a = some o ∧ FlipOK w f v a o) :
    ∀ (i : Nat) v ps, ys.toArray[i]? = some v → P.reverse[i]? = some ps → UnTabV w h v ps := fun i v ps hv hp => by
  rw [List.getElem?_toArray] at hv
  have hi : i < items.toList.reverse.toArray.size := by rw [← hlen]; exact (List.getElem?_eq_some_iff.mp hv).1
  have hv0 : items.toList.reverse.toArray[i]? = some items.toList.reverse.toArray[i] := Array.getElem?_eq_getElem hi
  obtain ⟨a, o, e1, e2, e3, es, ep, rfl, e4, e5⟩ := hys i _ hv0
  rw [e1] at hv
  cases hv
  rw [List.getElem?_toArray] at hv0
  rw [hf, ← List.map_reverse, List.getElem?_map, hv0] at hp
  simp only [Option.map_some, Option.some.injEq] at hp
  exact ⟨a, es, ep, rfl, e2, e3, by rw [e4]; exact hp, e5⟩
theorem X : PySem.Challenge.rw_ij0071_01.Holds := Mine.hd (by
  have md : Mode 1 := Mode.intro 1
  have mm6 : Mode 6 := Mode.intro 6
  k_go0
  all_goals (try k_fold)
  k_steps
  rename_i D ws h1 hI l1 h2 F N
  refine Stop.intro ?_
  refine pos_any ?hp9 ?_
  case hp9 => (show 0 < _ + 1; exact Nat.succ_pos _)
  refine' comp_list (items := ws.toArray) (fun _ y => ∃ (c : Nat) (t' : Tok), y = Value.str ⟨#[c]⟩ t') ?a1 ?a2 ?a4 ?a5 ?a6 ?a7 ?a8 ?a9 ?a10 ?a11 ?a12
  case a1 => rfl
  case a2 => 
    have := IntsAre.length hI
    rw [List.size_toArray, this, sizeLine_eq]
    simp only [List.length_append, List.length_take, List.length_cons, List.length_nil]
    omega
  case a4 => with_unfolding_all rfl
  case a5 => decide
  case a6 => rfl
  case a7 => decide
  case a8 => rfl
  case a12 => intro _; with_unfolding_all rfl
  case a9 =>
    intro Q' hq
    k_steps
    exact hq _ _ _ (fun _ _ e => e) ⟨_, (N _ (.head _)).1, rfl, _, rfl⟩
  case a10 =>
    intro C i v s₃ m₃ E' hi hC hn hm hkp
    obtain ⟨F2, N2⟩ := in_comp F N hC hn hkp
    obtain ⟨k, u, rfl, _⟩ := hI.at i v (by rw [← hi]; simp)
    obtain ⟨u2, rfl⟩ := upd1 hm
    clear hm
    k_steps
    all_goals (first | exact ⟨_, _, rfl, fun _ _ e => e⟩ | skip)
    all_goals (first | exact (0 : Addr) | exact (Str.ofString "") | exact Value.none | exact ([] : List (Str × Addr)))
  case a11 =>
    intro D' h' tk ys hl hD hys hkp
    obtain ⟨cs, hcs, hst⟩ := paired_ones hys
    have hlen : cs.length ≤ 11 := by
      have := IntsAre.length hI
      rw [hcs]
      show ws.length ≤ 11
      rw [this]
      simp only [List.length_append, List.length_take, List.length_cons, List.length_nil]
      omega
    clear hys hcs
    have F2 := Fr.keeps F hkp
    have N2 := News.grown N hkp
    clear F N hkp
    clear md
    k_steps
    refine join_listW hl hst (by decide) ?n12 ?n13
    case n12 =>
      have := ones_sum cs
      rw [List.length_map]
      omega
    case n13 =>
      intro t10 k10
      have hxl := join_ones_len cs
      generalize Txt.join (Str.ofString "") (cs.map fun c => (⟨#[c]⟩ : Str)) = x at hxl
      rw [← hxl] at hlen
      clear hxl hst hl
      dsimp only
      k_steps
      rename_i hI8 hL8 D8 h8 tk8 F8 N8 o8 h9 tk9 t9 F9 N9
      have TT := ‹Top _ _ _ _ _ _›
      have KK := ‹(Mine.hd.heap_39 _).In _›
      refine Stop.intro ?_
      refine use_keeps2 (P := TabsP _ h9) ?q1 F9 N9 (tab_okA ?q2 ?q3 (KK.keeps F9.keep) (TT.keeps F9.keep) ?q4 ?q5 ?q6) ?_
      case q1 => (show 0 < _ + 1; exact Nat.succ_pos _)
      case q2 => rfl
      case q3 => (show callerA.depth + 1 + 7 < recursionLimit; decide)
      case q4 => (show 0 < _ + 1; exact Nat.succ_pos _)
      case q5 => exact Int.add_nonneg (sum_bound _).1 (by decide)
      case q6 =>
        refine Int.le_trans (Int.add_le_add_right (sum_bound _).2 542) ?_
        simp only [List.length_append, List.length_take, List.length_cons, List.length_nil]
        omega
      rintro v h' tk ⟨D, d0, d1, d2, d3, t1, t2, t3, items, k, rfl, tt⟩ hk hkp F10 N10
      have N11 := add_tabs F9 N10 tt
      have z := N9 _ (.tail _ (.tail _ (.tail _ (.tail _ (.head _)))))
      have cD : @Ne Nat _ D := ne_of_live tt.new z.1
      have cd : _ ∧ _ ∧ _ ∧ _ := ⟨Nat.lt_of_lt_of_le (Heap.lt_size z.1) tt.n0.1, Nat.lt_of_lt_of_le (Heap.lt_size z.1) tt.n1.1, Nat.lt_of_lt_of_le (Heap.lt_size z.1) tt.n2.1, Nat.lt_of_lt_of_le (Heap.lt_size z.1) tt.n3.1⟩
      dsimp only at cD cd
      have hb9 := F9.keep
      clear hkp F8 N8 N10 F9 z
      dsimp only
      k_steps
      rename_i h5 o5 F5 N5 e5 p5
      obtain ⟨P, hP, h4, htab, hnone0, f, hf⟩ := tabs_P tt
      have hnone := hnone0 _ hb9
      clear hnone0 hb9
      have hn4 : P.length ≤ 4 := by rw [hP]; exact tt.hi
      have hlo := tt.lo
      have hhi := tt.hi
      clear tt
      have Fi : FourIn _ h5 d0 d1 d2 d3 t1 t2 t3 := ⟨(N5 _ (.tail _ (.tail _ (.tail _ (.tail _ (.head _)))))).1, (N5 _ (.tail _ (.tail _ (.tail _ (.head _))))).1, (N5 _ (.tail _ (.tail _ (.head _)))).1, (N5 _ (.tail _ (.head _))).1⟩
      have hl5 : h5.IsList D items := ⟨_, (N5 _ (.head _)).1, rfl, _, rfl⟩
      refine Stop.intro ?_
      refine use_keeps (P := fun v => ∃ t', v = .str (foldE P x) t') ?r1 F5 N5 (red_esc ?r2 ?r3 (KK.keeps F5.keep) (TT.keeps F5.keep) hl5 ?r4 hP h4 ?r5 (fun i v ps hv hp => htab i v ps hv hp h5 Fi)) ?_
      case r1 => exact p5
      case r2 => rfl
      case r3 => (show callerA.depth + 1 + 7 < recursionLimit; decide)
      case r4 => exact p5
      case r5 => exact fun i => Nat.le_trans (foldE_bound h4 hn4 hlen i) (by decide)
      rintro v h6 tk6 ⟨t6, rfl⟩ p6 hk6 F6 N6
      clear hk6 Fi hl5 F5 N5
      have md : Mode 1 := Mode.intro 1
      dsimp only
      k_steps
      rename_i h7 F7 N7 p7
      refine Stop.intro ?_
      refine pos_any ?hp8 ?_
      case hp8 => (show 0 < _ + 1; exact Nat.succ_pos _)
      refine' comp_signs2 (y := x) (t := t10) (fun k => foldE P ⟨#[k]⟩) ?n1 ?n2 ?n3 ?n4 ?n5 ?n6 ?n7 ?n8 ?n9 ?n10 ?n11
      case n1 => rfl
      case n2 => rw [sizeLine_eq]; omega
      case n3 => with_unfolding_all rfl
      case n4 => decide
      case n5 => rfl
      case n6 => decide
      case n7 => rfl
      case n8 =>
        intro Q' hq
        k_steps
        exact hq
      case n11 => intro _; with_unfolding_all rfl
      case n9 =>
        intro C c u' s₃ m₃ E' hc hC hn hm hkp htk
        obtain ⟨F2, N2⟩ := in_comp F7 N7 hC hn hkp
        obtain ⟨u2, rfl⟩ := upd1 hm
        clear hm F7 N7
        have Fi : FourIn _ s₃.heap d0 d1 d2 d3 t1 t2 t3 := ⟨(N2 _ (.tail _ (.tail _ (.tail _ (.tail _ (.head _)))))).1, (N2 _ (.tail _ (.tail _ (.tail _ (.head _))))).1, (N2 _ (.tail _ (.tail _ (.head _)))).1, (N2 _ (.tail _ (.head _))).1⟩
        have hl5 : s₃.heap.IsList D items := ⟨_, (N2 _ (.head _)).1, rfl, _, rfl⟩
        k_steps
        any_goals exact Stop.intro (rew_A rfl (by show callerA.depth + 1 + 7 < recursionLimit; decide) KK TT F2.keep hl5 (Nat.lt_of_lt_of_le (Nat.succ_pos _) htk) hP h4 (fun i => Nat.le_trans (foldE_bound h4 hn4 (x := ⟨#[c]⟩) (n := 1) (by show 1 ≤ 1; exact Nat.le_refl 1) i) (by decide)) (fun i v ps hv hp => htab i v ps hv hp _ Fi) hnone)
        all_goals (first | exact (0 : Addr) | exact (Str.ofString "") | exact Value.none | exact ([] : List (Str × Addr)))
      case n10 =>
        intro D' h10 tk10 ys hlD hD0 hys hkp
        have F10 := Fr.keeps F7 hkp
        have N10 := News.grown N7 hkp
        clear F7 N7 md
        dsimp only
        k_steps
        refine join_listW hlD hys (by decide) ?n12 ?n13
        case n12 =>
          have h1 := sum_le_of (f := fun k => foldE P ⟨#[k]⟩) (foldE_one h4 hn4) x.cps.toList
          have h2 := len_toList x
          rw [List.length_map]
          omega
        case n13 =>
          intro t11 k11
          rw [← foldE_join h4 x]
          clear hys hlD hD0
          dsimp only
          k_steps
          rename_i p11
          refine Stop.intro (execs_cons_pos (by (show 0 < k11); exact p11) ?_)
          refine' for_rangeN (k := (items.size : Int) + 1) F10 N10 ?g1 ?g2 ?g3 ?g4 ?g5 ?g6 (fun _ m => m (Str.ofString "text") = some (.str x t10) ∧ m (Str.ofString "whole") = some (.str (foldE P x) t6)) ?g7 ?g8 ?g9 ?gs
          case gs => intro _; with_unfolding_all rfl
          case g1 => rfl
          case g2 => rfl
          case g3 => rfl
          case g4 => omega
          case g5 => omega
          case g6 =>
            intro Q' hq
            refine pos_any ?hp7 ?_
            case hp7 => exact p11
            k_steps
            rename_i hr9 hF9 hN9 hk9 hp9
            exact hq _ _ _ _ _ _ hp9 hr9 hF9 hN9
          case g7 => exact ⟨rfl, rfl⟩
          case g8 =>
            rintro i m₁ h tk u I oJ hik hk ⟨q1, q2⟩ hlI F' N'
            obtain ⟨u, rfl⟩ := upd2 q1 q2
            clear q1 q2 F10 N10
            dsimp only [envOfC] at F' N'
            k_steps
            rename_i hA FA NA hB FB NB
            have hi : i ≤ items.size := by omega
            have hxb : ∀ i, (foldE (P.take i) x).length ≤ 60000 := fun i => Nat.le_trans (foldE_bound h4 hn4 hlen i) (by decide)
            have n1 := NB _ (.head _)
            have n2 := NB _ (.tail _ (.head _))
            dsimp only at n1 n2
            rw [slicePick_upto items i hi] at n1
            rw [slicePick_from items i hi] at n2
            have Fi : FourIn _ hB d0 d1 d2 d3 t1 t2 t3 := ⟨(NB _ (.tail _ (.tail _ (.tail _ (.tail _ (.tail _ (.tail _ (.tail _ (.head _))))))))).1, (NB _ (.tail _ (.tail _ (.tail _ (.tail _ (.tail _ (.tail _ (.head _)))))))).1, (NB _ (.tail _ (.tail _ (.tail _ (.tail _ (.tail _ (.head _))))))).1, (NB _ (.tail _ (.tail _ (.tail _ (.tail _ (.head _)))))).1⟩
            have htab' : ∀ (i : Nat) v ps, items[i]? = some v → P[i]? = some ps → TabV _ hB v ps := fun i v ps hv hp => htab i v ps hv hp _ Fi
            refine Stop.intro ?_
            refine use_keeps (P := fun v => ∃ t', v = .str (foldE (P.take i) x) t') ?r1 FB NB (red_esc (items := (items.toList.take i).toArray) (P := P.take i) ?r2 ?r3 (KK.keeps FB.keep) (TT.keeps FB.keep) ⟨_, n1.1, rfl, _, rfl⟩ ?r4 ?r6 (fun ps hp => h4 ps (List.mem_of_mem_take hp)) ?r5 (tab_take htab' i)) ?_
            case r1 => exact hk
            case r2 => rfl
            case r3 => (show callerA.depth + 1 + 7 < recursionLimit; decide)
            case r4 => exact hk
            case r5 => intro j; rw [List.take_take]; exact hxb _
            case r6 => simp [hP]
            rintro v hC tkC ⟨tC, rfl⟩ pC hkC FC NC
            have n3 := hkC _ _ n2.1
            have htab'' : ∀ (i : Nat) v ps, items[i]? = some v → P[i]? = some ps → TabV _ hC v ps := fun i v ps hv hp => by
              obtain ⟨d, es, ep, e1, e2, e3, e4, e5⟩ := (htab' i v ps hv hp).tab
              exact ⟨d, es, ep, e1, hkC _ _ e2, e3, e4, e5⟩
            clear FA NA FB NB F' N' htab' Fi hkC n1 n2
            dsimp only
            k_steps
            refine Stop.intro ?_
            refine use_keeps (P := fun v => ∃ t', v = .str (foldE (P.drop i) (foldE (P.take i) x)) t') ?r1 FC NC (red_esc (items := (items.toList.drop i).toArray) (P := P.drop i) ?r2 ?r3 (KK.keeps FC.keep) (TT.keeps FC.keep) ⟨_, n3, rfl, _, rfl⟩ ?r4 ?r6 (fun ps hp => h4 ps (List.mem_of_mem_drop hp)) ?r5 (tab_drop htab'' i)) ?_
            case r1 => exact pC
            case r2 => rfl
            case r3 => (show callerA.depth + 1 + 7 < recursionLimit; decide)
            case r4 => exact pC
            case r5 => exact foldE_cut_len hxb i
            case r6 => simp [hP]
            rintro v hE tkE ⟨tE, rfl⟩ pE hkE FE NE
            rw [foldE_cut]
            clear FC NC htab'' hkE n3
            dsimp only
            k_steps
            rename_i hz pz
            exact ⟨rfl, _, _, _, rfl, pz, FE, fun p hp => NE p (.tail _ (.tail _ hp)), rfl, rfl⟩
          case g9 =>
            rintro h' tk m' hk F' N' ⟨q1, q2⟩
            obtain ⟨u, rfl⟩ := upd2 q1 q2
            clear q1 q2 F10 N10
            try dsimp only [envOfC] at F' N'
            intro _
            show wpAny _ _ (execs _ _) _ _ _
            refine execs_cons_pos ?hp5 ?_
            case hp5 => exact hk
            have NT := TT.nolimit.keeps F'.keep
            refine' assign_objs (InvOf F' N') (items := items.toList.reverse.toArray) (FlipOKK KK f) ?b1 ?b2 ?b3 ?b4 ?b5 ?b6 ?b7 ?b8 ?b9 ?b10 ?b11 ?b12 ?b13 ?b14
            case b1 => rfl
            case b2 => rw [List.size_toArray, List.length_reverse, Array.length_toList, sizeLine_eq]; omega
            case b3 => with_unfolding_all rfl
            case b4 => rfl
            case b5 => rfl
            case b6 => with_unfolding_all rfl
            case b7 => decide
            case b8 => rfl
            case b9 => decide
            case b10 => rfl
            case b14 => intro _; with_unfolding_all rfl
            case b11 =>
              intro Q' hq
              k_steps
              rename_i hZ FZ NZ
              have nz := (NZ _ (.head _)).1
              dsimp only at nz
              rw [krv_pick] at nz
              exact hq _ _ _ ⟨FZ, fun p hp => NZ p (.tail _ hp)⟩ FZ.ns ⟨_, nz, rfl, _, rfl⟩
            case b12 =>
              intro g C i v s₃ m₃ E' hinv hi hn hm hkp
              obtain ⟨FG, NG⟩ := hinv
              have Fi : FourIn _ s₃.heap d0 d1 d2 d3 t1 t2 t3 := ⟨hkp _ _ (NG _ (.tail _ (.tail _ (.tail _ (.tail _ (.head _)))))).1, hkp _ _ (NG _ (.tail _ (.tail _ (.tail _ (.head _))))).1, hkp _ _ (NG _ (.tail _ (.tail _ (.head _)))).1, hkp _ _ (NG _ (.tail _ (.head _))).1⟩
              obtain ⟨j, hj⟩ : ∃ j : Nat, items[j]? = some v := by
                rw [List.getElem?_toArray] at hi
                have hm := List.mem_reverse.mp (List.mem_of_getElem? hi)
                obtain ⟨j, hj⟩ := List.getElem?_of_mem hm
                exact ⟨j, by rw [← Array.getElem?_toList]; exact hj⟩
              have hp : P[j]? = some (f v) := by rw [hf, List.getElem?_map, Array.getElem?_toList, hj]; rfl
              have h4v := h4 _ (List.mem_of_getElem? hp)
              obtain ⟨d, es, ep, rfl, e2, e3, e4, e5⟩ := (htab j v _ hj hp _ Fi).tab
              obtain ⟨f1, f2, f3, _⟩ := four4_facts _ h4v
              rw [← e4] at f1 f2 f3
              rw [List.map_map] at f1 f2
              rw [List.length_map] at f3
              refine' flip_comp (d := d) (es := es) (ep := ep) ?y1 ?y2 ?y3 ?y4 ?y5 ?y6 ?y7 ?y8 ?y9 ?y10 e2 e3 f1 f2 (by omega) ?y11 ?y12 ?y13 ?y14 ?y15
              case y1 => rfl
              case y2 => with_unfolding_all rfl
              case y3 => decide
              case y4 => rfl
              case y5 => decide
              case y6 => rfl
              case y7 => rfl
              case y8 => decide
              case y9 => decide
              case y10 => decide
              case y11 => rfl
              case y12 => rfl
              case y13 =>
                intro Q' hq
                refine wpAny_Name (wpAny_loadName_local ?z1 ?z2 hn hm hq)
                case z1 => rfl
                case z2 => rfl
              case y15 => intro _; with_unfolding_all rfl
              case y14 =>
                intro D' h' tk' hD' hsz hk'
                refine ⟨⟨D', _, rfl, hsz, hD', beq_eq_false_iff_ne.mpr (Nat.ne_of_gt (Nat.lt_of_lt_of_le (modules_low (TT.nolimit.keeps fun b o e => hkp b o (FG.keep b o e))) hsz)), es, _, rfl, e4, e5⟩, _, _, rfl, hk'⟩
            case b13 =>
              intro g D' h12 tk12 ys hinv hlD hD0 hlen' hys hn12 hkp
              obtain ⟨FG, NG⟩ := hinv
              intro hk12
              have hL₀ := Heap.get?_none_of_le FG.above
              have F12 : Fr _ _ h12 _ := ⟨hn12, fun b o e => hkp b o (fun q => by rw [q] at e; exact absurd (e.symm.trans hL₀) (by simp)) (FG.keep b o e), FG.above⟩
              have N12 : News _ _ h12 _ := fun p hp => ⟨hkp _ _ (NG p hp).2.1 (NG p hp).1, (NG p hp).2⟩
              dsimp only [envOfC] at F12
              have hut := untabs hf hlen' (fun i v hv => (hys i v hv).elim fun a h => h.elim fun o h => ⟨a, o, h.1, h.2.1, h.2.2.2⟩)
              have hPl : P.length = ys.toArray.size := by rw [List.size_toArray, hlen', hf]; simp
              clear F' N' FG NG hn12 hkp hys
              dsimp only at hk12 ⊢
              k_steps
              refine Stop.intro ?_
              refine use_keeps (P := fun v => ∃ t', v = .str x t') ?r1 F12 N12 (red_une ?r2 ?r3 (KK.keeps F12.keep) (TT.keeps F12.keep) hlD ?r4 hPl h4 ?r5 hut) ?_
              case r1 => exact hk12
              case r2 => rfl
              case r3 => (show callerA.depth + 1 + 7 < recursionLimit; decide)
              case r4 => exact hk12
              case r5 => exact fun i => Nat.le_trans (foldE_bound h4 hn4 hlen i) (by decide)
              rintro v hG tkG ⟨tG, rfl⟩ pG hkG F13 N13
              clear F12 N12 hut hlD
              dsimp only
              k_steps)
end Mine
theorem PySem.Challenge.cw_ij0071_01_holds : PySem.Challenge.rw_ij0071_01.Holds :=
  Mine.X
