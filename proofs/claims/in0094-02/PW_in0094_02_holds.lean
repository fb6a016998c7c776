import PyProof.Rows.All
import Wide.All
import OpenK.AllK
import Wide.FinOn
import PySem.Challenge.RW_in0094_02
open PySem PySem.W PyProof.Rows
set_option Elab.async false
set_option maxRecDepth 100000
set_option maxHeartbeats 8000000
namespace Mine
open_top hd for PySem.Challenge.rw_in0094_02
end Mine

open PySem PySem.W PyProof.Rows PySem.Calls
set_option Elab.async false
set_option maxRecDepth 100000
namespace Mine

abbrev ar (dp un : Nat) (fr : Option (List Env)) (gd : Option (List Code)) : Around := { handled := none, depth := dp, frames := fr, guards := gd, units := un }

theorem enter_plain {prog : Program} {w : World} {A : Around} {R : Result → Shared → Prop} {K : Frag} {p : Program} {loose : List Str} {mg mb : Str → Option Value}
    {h₀ : Heap} {g : Array GenState} {dr : Drawn} {tk : Nat} {os : OsState}
    {name qual : Str} {params : Arguments} {body : List Stmt} {scope : Scope} {dV kV doc pm cdv ct oc : Value} {an od : Option Addr} {osl : Array (Option Value)} {f : Addr} {args : Args} {binds : List (Str × Value)}
    (X : K.In h₀) (T : TopRead p loose mg mb h₀)
    (ho : K.lookup f = some ⟨oc, od, .func (fnOf name qual params body scope dV kV doc pm an cdv ct), osl⟩) (hcd : codeIn K cdv qual = true) (hroom : A.depth < recursionLimit)
    (hbind : BindsTo ⟨h₀, g, dr, tk, os⟩ (fnOf name qual params body scope dV kV doc pm an cdv ct) args binds) (hloc : ∀ y ∈ binds, scope.names.lookup y.1 = some .local)
    (h : ∀ L h₁, Fr h₀ L h₁ (fun y => binds.reverse.lookup y) → News h₀ L h₁ [] →
      wpAny (model prog w) (A.deeper (envX qual scope L f cdv [])) (execs body (envX qual scope L f cdv []))
        (fun fl s' => R (.ok (.ret (match fl with | .ret v => v | _ => .none))) s') (fun _ _ => False) ⟨h₁, g, dr, tk + binds.length, os⟩)
    (hco : scope.isCoroutine = false) (hgen : scope.isGenerator = false) (hk : scope.kind = .function)
    (hcell : ∀ x ∈ scope.names, x.2 ≠ .cell) : codeAny (model prog w) A (.call (.ref f) args) R ⟨h₀, g, dr, tk, os⟩ := by
  refine codeAny_call_def (fd := fnOf name qual params body scope dV kV doc pm an cdv ct) (body := body) (binds := binds) hroom (X _ _ ho) rfl T.nolimit (codeRec_of X hcd) rfl hbind hcell hloc (fun h₁ hns hk₁ => ?_) hco hgen hk
  exact wpAny_mono (h h₀.objs.size h₁ ⟨hns, hk₁, Nat.le_refl _⟩ News.nil) (fun _ _ x => x) (fun _ _ x => x.elim)

theorem enter_cells {prog : Program} {w : World} {A : Around} {R : Result → Shared → Prop} {K : Frag} {p : Program} {loose : List Str} {mg mb : Str → Option Value}
    {h₀ : Heap} {g : Array GenState} {dr : Drawn} {tk : Nat} {os : OsState}
    {name qual : Str} {params : Arguments} {body : List Stmt} {scope : Scope} {dV kV doc pm cdv ct oc : Value} {an od : Option Addr} {osl : Array (Option Value)} {f : Addr} {args : Args} {binds : List (Str × Value)}
    (X : K.In h₀) (T : TopRead p loose mg mb h₀)
    (ho : K.lookup f = some ⟨oc, od, .func (fnOf name qual params body scope dV kV doc pm an cdv ct), osl⟩) (hcd : codeIn K cdv qual = true) (hroom : A.depth < recursionLimit)
    (hbind : BindsTo ⟨h₀, g, dr, tk, os⟩ (fnOf name qual params body scope dV kV doc pm an cdv ct) args binds)
    (hkind : (binds.all fun y => scope.names.lookup y.1 == some .local || scope.names.lookup y.1 == some .cell) = true)
    (hnd : ((cellsFrom 0 scope.names []).map (·.1)).Nodup)
    (h : ∀ L h₁ tk₁ cells, Fr h₀ L h₁ (bindL (envOfC qual scope L f cdv).kindOf binds fun _ => none) → News h₀ L h₁ cells → tk ≤ tk₁ →
      CellsAre (bindC (envOfC qual scope L f cdv).kindOf binds fun _ => none) (cellsFrom (L + 1) scope.names []) cells →
      wpAny (model prog w) (A.deeper (envOfC qual scope L f cdv)) (execs body (envOfC qual scope L f cdv))
        (fun fl s' => R (.ok (.ret (match fl with | .ret v => v | _ => .none))) s') (fun _ _ => False) ⟨h₁, g, dr, tk₁, os⟩)
    (hco : scope.isCoroutine = false) (hgen : scope.isGenerator = false) (hk : scope.kind = .function) : codeAny (model prog w) A (.call (.ref f) args) R ⟨h₀, g, dr, tk, os⟩ := by
  refine codeAny_call_function hroom (X _ _ ho) rfl hco hgen rfl (codeRec_of X hcd) (hbind _ _ _ _ ?_)
  refine wpAny_with_toks (n := tk) (Nat.le_refl _) (wpAny_newFunctionEnv_cells hk (kindsX hkind _) fun env' he s' x htk => ?_)
  subst he
  refine ⟨T.nolimit.keeps x.toInCall.keep, codeAny_func ?_⟩
  obtain ⟨h₁, tk₁, rfl, _⟩ := x.done
  have hk₁ := x.toInCall.keep
  obtain ⟨cells, NC, Y⟩ := Cl.news (h₀ := h₀) (Nat.le_refl _) fun n c hm => ⟨x.cell n c (lookup_of_mem_nodup (cellsFrom_names scope.names 0 (h₀.objs.size + 1) [] [] rfl ▸ hnd) hm), x.above n c hm⟩
  exact wpAny_mono (h h₀.objs.size h₁ tk₁ cells ⟨x.toInCall.ns, hk₁, Nat.le_refl _⟩ NC htk Y) (fun _ _ x => x) (fun _ _ x => x.elim)
end Mine
namespace Mine

theorem ns_none_of {K : Frag} {h : Heap} {a : Addr} {mg : Str → Option Value} {n : Str} (X : K.In h) (G : h.Ns a mg) (e : nsIn K a n = some none) : mg n = none := by
  obtain ⟨o, es, ep, ho, hd, _, hf⟩ := G
  unfold nsIn at e
  split at e
  · rename_i c d es' n' sl q
    have := X _ _ q
    rw [ho] at this
    cases this
    cases hd
    split at e
    · cases e
    · rename_i he
      rw [← hf]
      unfold nsFind findBy
      rw [← Array.find?_toList, he]
      rfl
  · cases e

theorem noneBooked_of {K : Frag} {h : Heap} {p : Program} {loose : List Str} {mg mb : Str → Option Value} (X : K.In h) (T : TopRead p loose mg mb h) (e : nsIn K cStatics sharingNotToldKey = some none) : NoneBooked h := by
  obtain ⟨mc, hn, _⟩ := T.nolimit
  exact ⟨mc, hn, ns_none_of X hn e⟩

section
open Builtin Builtin.Str
variable {prog : Program} {w : World} {A : Around} {E : Value → Shared → Prop} {s : Shared} {x y z : Str} {t u v : Tok} {Q : Value → Shared → Prop}

theorem gives_replace_same (x y : Str) (t u : Tok) (h0 : u ≠ 0) :
    Gives («str.replace» ⟨[.str x t, .str y u, .str y u], []⟩) (.val (.str x t)) := by
  show Gives (if ((occurrences x y 0 x.length (x.length + 1)).isEmpty || (y.length == 0 && y.length == 0)) = true then (do rule "str.replace.nothing"; ret (.str x t)) else
          (do let same ← isSame (.str y u) (.str y u)
              if same = true then (do rule "str.replace.old-is-new"; ret (.str x t)) else
              if tooLong (x.length + (occurrences x y 0 x.length (x.length + 1)).length * y.length) = true then unsupported "str.replace:memory" else
              retStr (glued y (partsBetween x (occurrences x y 0 x.length (x.length + 1)) y.length)))) _
  cases hc : ((occurrences x y 0 x.length (x.length + 1)).isEmpty || (y.length == 0 && y.length == 0))
  · have e : isSame (.str y u) (.str y u) = pure true := by
      show isSame.created (y == y) u u = pure true
      unfold isSame.created
      simp [h0]
    rw [e]
    exact .rule (.of_eq rfl)
  · exact .rule (.of_eq rfl)

theorem replaceT (hu : u ≠ 0) (hv : v ≠ 0) (huv : u = v → y = z) (hb : x.length + (x.length + 1) * z.length ≤ 16777216)
    (hnb : NoneBooked s.heap) (hq : ∀ t' k, Q (.str (Txt.replace x y z) t') { s with toks := k }) :
    wpAny (model prog w) A (call (.builtin "str.replace") [.str x t, .str y u, .str z v]) Q E s := by
  by_cases h : u = v
  · have e := huv h
    subst e
    subst h
    refine call_gives F.slot_str_replace (typeIs_str _ _ _) F.entry_str_replace (F.args_str_replace_3 _ _ _) (gives_replace_same x y t u hu) ?_
    have := hq t s.toks
    rw [Txt.replace_self] at this
    exact this
  · exact SC.replaceA hu hv h hb hq hnb
end
end Mine

open PySem PySem.W PyProof.Rows PySem.Calls
set_option Elab.async false
set_option maxRecDepth 100000
namespace Mine

/-- one entry of a table of texts, with the objects' tokens -/
structure Ent where
  k : Str
  kt : Nat
  v : Str
  vt : Nat

def Ent.de (w : World) (e : Ent) : DictEntry := ⟨hashStr w e.k, .str e.k e.kt, .str e.v e.vt⟩
abbrev dictO (w : World) (es : List Ent) (ep : Nat) : Obj := dictOf (es.map (Ent.de w)) ep

def putE (n : Ent) : List Ent → List Ent
  | [] => [n]
  | e :: r => if e.k = n.k then ⟨e.k, e.kt, n.v, n.vt⟩ :: r else e :: putE n r
def mergeE (es more : List Ent) : List Ent := more.foldl (fun acc e => putE e acc) es

theorem putE_length (n : Ent) : ∀ es : List Ent, (putE n es).length ≤ es.length + 1
  | [] => by simp [putE]
  | e :: r => by
    have := putE_length n r
    unfold putE
    split <;> simp <;> omega
theorem mergeE_length (more : List Ent) : ∀ es : List Ent, (mergeE es more).length ≤ es.length + more.length := by
  induction more with
  | nil => intro es; simp [mergeE]
  | cons e r ih =>
    intro es
    have h1 := ih (putE e es)
    have h2 := putE_length e es
    simp only [mergeE, List.foldl_cons, List.length_cons] at h1 ⊢
    omega

theorem keysOf_ents (prog : Program) (w : World) (es : List Ent) : PySem.KeysOf (strKind prog w) (es.map (Ent.de w)).toArray := by
  intro e he
  simp only [List.mem_toArray, List.mem_map] at he
  obtain ⟨a, _, rfl⟩ := he
  exact ⟨a.k, strKind_is _ _ _ _, rfl⟩

theorem is_de (prog : Program) (w : World) (k : Str) (e : Ent) : (strKind prog w).is k (e.de w).key = decide (e.k = k) := by
  have := KeyKind.is_eq_decide (strKind_is prog w e.k e.kt) k
  show (strKind prog w).is k (.str e.k e.kt) = _
  rw [this]
  by_cases h : k = e.k
  · simp [h]
  · rw [decide_eq_false h, decide_eq_false (Ne.symm h)]

theorem find_ents (prog : Program) (w : World) (k : Str) (es : List Ent) :
    ((es.map (Ent.de w)).toArray.findIdx? fun e => (strKind prog w).is k e.key) = es.findIdx? fun e => decide (e.k = k) := by
  rw [List.findIdx?_toArray, List.findIdx?_map]
  exact congrArg (fun f => List.findIdx? f es) (funext fun e => is_de prog w k e)

theorem put_find (n : Ent) : ∀ es : List Ent, (match es.findIdx? (fun e => decide (e.k = n.k)) with
    | some i => es.modify i fun e => ⟨e.k, e.kt, n.v, n.vt⟩
    | none => es ++ [n]) = putE n es
  | [] => rfl
  | e :: r => by
    have ih := put_find n r
    simp only [List.findIdx?_cons, putE]
    by_cases h : e.k = n.k
    · simp [h]
    · simp only [h, decide_false, if_false, Bool.false_eq_true]
      rw [← ih]
      cases r.findIdx? (fun e => decide (e.k = n.k)) with
      | none => rfl
      | some i => simp [List.modify_succ_cons]

section
variable {prog : Program} {w : World} {A : Around} {E : Value → Shared → Prop} {s : Shared}

theorem dictFind_E {d : Addr} {es : List Ent} {ep : Nat} {k : Str} {t : Tok} {Q : Option Nat → Shared → Prop} (ho : s.heap.get? d = some (dictO w es ep))
    (h : Q (es.findIdx? fun e => decide (e.k = k)) s) : wpAny (model prog w) A (dictFind d (.str k t) (hashStr w k)) Q E s := by
  refine wpAny_dictFind_of (knd := strKind prog w) (strKind_is _ _ k t) ho rfl (keysOf_ents prog w es) ?_
  rw [find_ents]
  exact h

theorem map_modify_E (n : Ent) : ∀ (es : List Ent) (i : Nat), ((es.map (Ent.de w)).modify i fun e => { e with val := .str n.v n.vt }) = (es.modify i fun e => ⟨e.k, e.kt, n.v, n.vt⟩).map (Ent.de w)
  | [], _ => by simp
  | e :: r, 0 => by simp [Ent.de]
  | e :: r, i + 1 => by simp [List.modify_succ_cons, map_modify_E n r i]
theorem mapDict_E (es : List Ent) (ep i : Nat) (n : Ent) : Obj.mapDict (·.modify i fun e => { e with val := .str n.v n.vt }) (dictO w es ep) = dictO w (es.modify i fun e => ⟨e.k, e.kt, n.v, n.vt⟩) ep := by
  show ({ cls := .type "dict", data := .dict (((es.map (Ent.de w)).toArray).modify i fun e => { e with val := .str n.v n.vt }) ep } : Obj) = _
  unfold dictO dictOf
  congr 2
  apply Array.ext'
  simp only [Array.toList_modify]
  exact map_modify_E n es i
theorem mapKeys_E (es : List Ent) (ep : Nat) (n : Ent) : Obj.mapDictKeys (·.push ⟨hashStr w n.k, .str n.k n.kt, .str n.v n.vt⟩) (dictO w es ep) = dictO w (es ++ [n]) (ep + 1) := by
  show ({ cls := .type "dict", data := .dict (((es.map (Ent.de w)).toArray).push ⟨hashStr w n.k, .str n.k n.kt, .str n.v n.vt⟩) (ep + 1) } : Obj) = _
  simp [Ent.de]

theorem dictPut_E {d : Addr} {es : List Ent} {ep : Nat} (n : Ent) {Q : Unit → Shared → Prop} (ho : s.heap.get? d = some (dictO w es ep)) (hz : es.length ≤ 1000)
    (h : ∀ h' ep', h'.get? d = some (dictO w (putE n es) ep') → Heap.SameBut d s.heap h' → Q () { s with heap := h' }) :
    wpAny (model prog w) A (dictPut d (hashStr w n.k) (.str n.k n.kt) (.str n.v n.vt)) Q E s := by
  unfold dictPut
  refine wpAny_bind (dictFind_E ho ?_)
  have hp := put_find n es
  cases hi : es.findIdx? fun e => decide (e.k = n.k) with
  | some i =>
    rw [hi] at hp
    dsimp only at hp ⊢
    refine wpAny_updateDict ho rfl (h _ ep ?_ (Heap.SameBut.update ..))
    rw [Heap.get?_update_self _ ho rfl, mapDict_E, hp]
  | none =>
    rw [hi] at hp
    dsimp only at hp ⊢
    refine wpAny_updateDictKeys ho rfl (h _ (ep + 1) ?_ (Heap.SameBut.update ..)) (by simp [sizeLine_eq]; omega)
    rw [Heap.get?_update_self _ ho rfl, mapKeys_E, hp]

theorem dictSet_E {d : Addr} {es : List Ent} {ep : Nat} (n : Ent) {Q : Unit → Shared → Prop} (ho : s.heap.get? d = some (dictO w es ep)) (hz : es.length ≤ 1000)
    (h : ∀ h' ep', h'.get? d = some (dictO w (putE n es) ep') → Heap.SameBut d s.heap h' → Q () { s with heap := h', toks := s.toks + 1 }) :
    wpAny (model prog w) A (dictSet d (.str n.k n.kt) (.str n.v n.vt)) Q E s := by
  unfold dictSet
  refine wpAny_holding (wpAny_bind (wpAny_pyHash_str ?_))
  unfold dictSetHashed
  refine wpAny_holding (wpAny_bind (dictFind_E ho ?_))
  have hp := put_find n es
  cases hi : es.findIdx? fun e => decide (e.k = n.k) with
  | some i =>
    rw [hi] at hp
    dsimp only at hp ⊢
    refine wpAny_bind (wpAny_rule (wpAny_bind (wpAny_updateDict ho rfl (wpAny_point (h _ ep ?_ (Heap.SameBut.update ..))))))
    rw [Heap.get?_update_self _ ho rfl, mapDict_E, hp]
  | none =>
    rw [hi] at hp
    dsimp only at hp ⊢
    refine wpAny_bind (wpAny_rule (wpAny_updateDictKeys ho rfl (h _ (ep + 1) ?_ (Heap.SameBut.update ..)) (by simp [sizeLine_eq]; omega)))
    rw [Heap.get?_update_self _ ho rfl, mapKeys_E, hp]

theorem entries_get {es : List Ent} {ep : Nat} {a : Addr} {Q : Array DictEntry → Shared → Prop} (ho : s.heap.get? a = some (dictO w es ep)) (h : Q (es.map (Ent.de w)).toArray s) :
    wpAny (model prog w) A (dictEntries a) Q E s := wpAny_dictEntries ho rfl h

/-- a loop that puts each entry of a table into another -/
theorem mergeRun {d a : Addr} {es more : List Ent} {ep ep2 : Nat} {Q : Unit → Shared → Prop} {f : Nat → PUnit → Sem (ForInStep PUnit)} (hd : s.heap.get? d = some (dictO w es ep)) (ha : s.heap.get? a = some (dictO w more ep2)) (hne : a ≠ d)
    (hz : es.length + more.length ≤ 1000) (h : ∀ h' ep' tk, h'.get? d = some (dictO w (mergeE es more) ep') → Heap.SameBut d s.heap h' → Q () { s with heap := h', toks := tk })
    (hf : ∀ x (hx : x < more.length) cur h' ep' tk, h'.get? d = some (dictO w cur ep') → h'.get? a = some (dictO w more ep2) → cur.length ≤ 1000 →
      wpAny (model prog w) A (f x ⟨⟩) (fun r s'' => ∃ h'' ep'', r = .yield ⟨⟩ ∧ s'' = { s with heap := h'', toks := tk } ∧ h''.get? d = some (dictO w (putE more[x] cur) ep'') ∧ Heap.SameBut d h' h'') E { s with heap := h', toks := tk }) :
    wpAny (model prog w) A (forIn (List.range more.length) PUnit.unit f) (fun _ s' => Q () s') E s := by
  refine wpAny_forIn_list _ (fun rest _ s' => ∃ i h' ep' tk, rest = List.range' i (more.length - i) ∧ i ≤ more.length ∧ s' = { s with heap := h', toks := tk } ∧
    h'.get? d = some (dictO w (mergeE es (more.take i)) ep') ∧ Heap.SameBut d s.heap h') _ ?_ ?_ _ _ ⟨0, s.heap, ep, s.toks, by rw [List.range_eq_range', Nat.sub_zero], Nat.zero_le _, rfl, by simpa [mergeE] using hd, Heap.SameBut.refl _ _⟩
  · rintro x rest _ s' ⟨i, h', ep', tk, hr, hi, rfl, hd', hs'⟩
    have hlt : i < more.length := by
      rcases Nat.lt_or_ge i more.length with q | q
      · exact q
      · rw [Nat.sub_eq_zero_of_le q] at hr; cases hr
    have hsucc : more.length - i = (more.length - (i + 1)) + 1 := by omega
    rw [hsucc, List.range'_succ] at hr
    obtain ⟨rfl, rfl⟩ := List.cons.inj hr
    have ha' : h'.get? a = some (dictO w more ep2) := (hs'.2 a hne).trans ha
    have hlen : (mergeE es (more.take x)).length ≤ 1000 := by
      have := mergeE_length (more.take x) es
      rw [List.length_take] at this
      omega
    refine wpAny_mono (hf x hlt _ h' ep' tk hd' ha' hlen) (fun r s'' q => ?_) fun _ _ e => e
    obtain ⟨h'', ep'', rfl, rfl, hd'', hs''⟩ := q
    refine ⟨x + 1, h'', ep'', tk, rfl, hlt, rfl, ?_, hs'.trans hs''⟩
    rw [List.take_add_one, List.getElem?_eq_getElem hlt, mergeE, List.foldl_append]
    exact hd''
  · rintro _ s' ⟨i, h', ep', tk, hr, hi, rfl, hd', hs'⟩
    have hge : i = more.length := by
      have := congrArg List.length hr
      simp at this
      omega
    rw [hge, List.take_length] at hd'
    exact h h' ep' tk hd' hs'

theorem mergeMapping_E {d a : Addr} {es more : List Ent} {ep ep2 : Nat} {Q : Unit → Shared → Prop} (hd : s.heap.get? d = some (dictO w es ep)) (ha : s.heap.get? a = some (dictO w more ep2)) (hne : a ≠ d)
    (hsys : (a == sysModules) = false) (hz : es.length + more.length ≤ 1000)
    (h : ∀ h' ep' tk, h'.get? d = some (dictO w (mergeE es more) ep') → Heap.SameBut d s.heap h' → Q () { s with heap := h', toks := tk }) :
    wpAny (model prog w) A (mergeMapping d (.ref a) false) Q E s := by
  have hT : s.TypeIs (.ref a) "dict" := ⟨_, ha, rfl⟩
  have e : (more.map (Ent.de w)).toArray.size = more.length := by simp
  unfold mergeMapping
  refine wpAny_bind (wpAny_isInstance hT isSubtype_dict_dict ?_)
  rw [if_pos rfl]
  refine wpAny_bind (wpAny_specialOf hT F.slot_dict_iter.lookup ?_)
  refine wpAny_bind (wpAny_pure ?_)
  simp only [beq_self_eq_true]
  rw [if_neg (by rw [hsys]; exact Bool.false_ne_true)]
  refine wpAny_bind (entries_get hd ?_)
  split
  refine wpAny_bind (entries_get ha ?_)
  refine wpAny_bind ?_
  rw [← Array.forIn_toList]
  refine' wpAny_forIn_list _ (fun rest _ s' => s' = s ∧ ∀ e ∈ rest, ∃ x t, e.key = .str x t) _ ?c1 ?c2 _ _ ⟨rfl, ?c3⟩
  case c1 =>
    rintro x rest _ s' ⟨rfl, hx⟩
    obtain ⟨q, t, e⟩ := hx x (List.mem_cons_self ..)
    rw [e]
    exact wpAny_pure ⟨rfl, fun e he => hx e (List.mem_cons_of_mem _ he)⟩
  case c3 =>
    intro e he
    simp only [List.mem_map] at he
    obtain ⟨q, _, rfl⟩ := he
    exact ⟨q.k, q.kt, rfl⟩
  rintro _ s' ⟨rfl, _⟩
  all_goals
    refine wpAny_bind (entries_get ha ?_)
    refine wpAny_bind (wpAny_dictEpoch ha rfl ?_)
    refine wpAny_bind ?_
    rw [e]
    refine wpAny_mono (mergeRun hd ha hne hz h ?_) (fun _ _ q => wpAny_pure q) fun _ _ q => q
    intro x hlt cur h' ep' tk hd' ha' hlen
    refine wpAny_bind (entries_get ha' ?_)
    have hx : (more.map (Ent.de w)).toArray[x]? = some (more[x].de w) := by simp [hlt]
    rw [hx]
    dsimp only
    refine wpAny_bind (wpAny_holding ?_)
    rw [if_neg Bool.false_ne_true]
    refine dictPut_E more[x] hd' hlen fun h'' ep'' hd'' hs'' => ?_
    have ha'' : h''.get? a = some (dictO w more ep2) := (hs''.2 a hne).trans ha'
    refine wpAny_bind (wpAny_dictEpoch ha'' rfl ?_)
    rw [if_neg (by simp)]
    exact wpAny_pure ⟨h'', ep'', rfl, rfl, hd'', hs''⟩

theorem storeAll_E {d : Addr} : ∀ (more es : List Ent) (ep : Nat) (s : Shared) (Q : Unit → Shared → Prop), s.heap.get? d = some (dictO w es ep) → es.length + more.length ≤ 1000 →
    (∀ h' ep' tk, h'.get? d = some (dictO w (mergeE es more) ep') → Heap.SameBut d s.heap h' → Q () { s with heap := h', toks := tk }) →
    wpAny (model prog w) A (storeAll d (more.map fun e => (.str e.k e.kt, .str e.v e.vt))) Q E s
  | [], es, ep, s, Q, hd, _, h => by
    unfold storeAll
    exact wpAny_pure (h s.heap ep s.toks hd (Heap.SameBut.refl _ _))
  | e :: r, es, ep, s, Q, hd, hz, h => by
    unfold storeAll
    rw [List.map_cons, List.forIn_cons]
    rw [List.length_cons] at hz
    refine wpAny_bind (wpAny_bind (dictSet_E e hd (by omega) fun h' ep' hd' hs' => wpAny_pure ?_))
    refine storeAll_E r (putE e es) ep' _ Q hd' (by have := putE_length e es; omega) fun h'' ep'' tk hd'' hs'' => ?_
    exact h h'' ep'' tk hd'' (hs'.trans hs'')

def constEnts (tk : Nat) : List (Str × Str) → List Ent
  | [] => []
  | p :: r => ⟨p.1, tk, p.2, tk + 1⟩ :: constEnts (tk + 2) r
theorem constEnts_length : ∀ (l : List (Str × Str)) (tk : Nat), (constEnts tk l).length = l.length
  | [], _ => rfl
  | p :: r, tk => by rw [constEnts, List.length_cons, List.length_cons, constEnts_length r]

def constPairs (pos : Pos) (l : List (Str × Str)) : List (Sem Value × Sem Value) := l.map fun p => (mkText p.1, do let x ← mkText p.2; standAt pos; pure x)

theorem evalPairs_const {pos : Pos} : ∀ (l : List (Str × Str)) (s : Shared) (Q : List (Value × Value) → Shared → Prop),
    Q ((constEnts s.toks l).map fun e => (.str e.k e.kt, .str e.v e.vt)) { s with toks := s.toks + 2 * l.length } → wpAny (model prog w) A (evalPairs (constPairs pos l)) Q E s
  | [], s, Q, h => by
    exact wpAny_pure h
  | p :: r, s, Q, h => by
    show wpAny _ _ (evalPairs ((mkText p.1, do let x ← mkText p.2; standAt pos; pure x) :: constPairs pos r)) Q E s
    rw [evalPairs]
    refine wpAny_bind (wpAny_mkText (wpAny_bind (wpAny_holding (wpAny_bind (wpAny_mkText (wpAny_bind (wpAny_standAt (wpAny_pure ?_))))))))
    refine wpAny_bind (wpAny_holding (evalPairs_const r _ _ (wpAny_pure ?_)))
    have e : s.toks + 1 + 1 + 2 * r.length = s.toks + 2 * (p :: r).length := by rw [List.length_cons]; omega
    dsimp only
    rw [e]
    exact h

theorem forIn_gatherM (d : Addr) (f : (Option (Sem Value) × Sem Value) → (Option Addr × List (Sem Value × Sem Value)) → Sem (ForInStep (Option Addr × List (Sem Value × Sem Value))))
    (hf : ∀ (p : Sem Value × Sem Value) (run : List (Sem Value × Sem Value)), run.length + 1 < 17 → f (some p.1, p.2) (some d, run) = pure (.yield (some d, run ++ [p]))) :
    ∀ (items run : List (Sem Value × Sem Value)), run.length + items.length < 17 → forIn (items.map fun p => (some p.1, p.2)) ((some d : Option Addr), run) f = pure (some d, run ++ items)
  | [], run, _ => by simp
  | p :: rest, run, h => by
    rw [List.length_cons] at h
    rw [List.map_cons, List.forIn_cons, hf p run (by omega), pure_bind]
    refine (forIn_gatherM d f hf rest (run ++ [p]) (by rw [List.length_append, List.length_singleton]; omega)).trans ?_
    rw [List.append_assoc]; rfl

/-- the display with one table laid open at its head and at most fifteen written pairs behind it -/
theorem display_E {v : Sem Value} {pos : Pos} {kvs : List (Str × Str)} {a : Addr} {es : List Ent} {ep : Nat} {Q : Value → Shared → Prop} (h0 : kvs ≠ []) (hlen : kvs.length ≤ 15)
    (hv : ∀ Q' : Value → Shared → Prop, Q' (.ref a) { s with heap := s.heap.push { cls := .type "dict", data := .dict #[] } } → wpAny (model prog w) A v Q' E { s with heap := s.heap.push { cls := .type "dict", data := .dict #[] } })
    (ha : s.heap.get? a = some (dictO w es ep)) (hsys : (a == sysModules) = false) (hbig : sysModules < s.heap.objs.size) (hes : es.length ≤ 900)
    (h : ∀ d h' ep' tk tk', h'.get? d = some (dictO w (mergeE (mergeE [] es) (mergeE [] (constEnts tk kvs))) ep') → s.heap.objs.size ≤ d → s.toks ≤ tk → tk + 2 * kvs.length ≤ tk' →
      (∀ b o, s.heap.get? b = some o → h'.get? b = some o) → Q (.ref d) { s with heap := h', toks := tk' }) :
    wpAny (model prog w) A (dictDisplay ((none, v) :: (constPairs pos kvs).map fun p => (some p.1, p.2))) Q E s := by
  have hnd : a ≠ s.heap.objs.size := Nat.ne_of_lt (Heap.lt_size ha)
  have hpl : (constPairs pos kvs).length = kvs.length := by simp [constPairs]
  unfold dictDisplay
  dsimp only
  refine wpAny_bind ?_
  rw [List.forIn_cons]
  refine wpAny_bind ?_
  refine wpAny_bind (wpAny_pure ?_)
  refine wpAny_bind (wpAny_alloc ?_)
  refine wpAny_bind (wpAny_holding (hv _ ?_))
  have hd1 : (s.heap.push { cls := .type "dict", data := .dict #[] }).get? s.heap.objs.size = some (dictO w [] 0) := Heap.get?_push_size _ rfl
  have ha1 : (s.heap.push { cls := .type "dict", data := .dict #[] }).get? a = some (dictO w es ep) := Heap.get?_push_of_some _ ha
  refine wpAny_bind (wpAny_onRaise (wpAny_tryCatch (wpAny_onRaise (wpAny_holding (wpAny_with_toks (n := s.toks) (Nat.le_refl _) (mergeMapping_E hd1 ha1 hnd hsys (by simp; omega) fun h₂ ep₂ tk₂ hd₂ hs₂ htk₂ => ?_))))))
  refine wpAny_pure ?_
  dsimp only
  rw [forIn_gatherM s.heap.objs.size _ (fun p run h => by
    have hne : ((run ++ [(p.1, p.2)]).length == 17) = false := by simp; omega
    simp only [hne, Bool.false_eq_true, if_false]) (constPairs pos kvs) [] (by simp; omega)]
  refine wpAny_pure ?_
  have hne : ([] ++ constPairs pos kvs).isEmpty = false := by
    cases kvs with
    | nil => exact absurd rfl h0
    | cons p r => rfl
  rw [if_neg (by rw [hne]; exact Bool.false_ne_true)]
  dsimp only
  refine wpAny_bind (wpAny_bind (wpAny_holding (wpAny_subDict_any (by simp; omega) ?_)))
  rw [List.nil_append]
  refine evalPairs_const kvs _ _ ?_
  dsimp only
  have hz₂ : h₂.objs.size = s.heap.objs.size + 1 := by rw [hs₂.1, Heap.size_push]
  refine wpAny_with_toks (n := tk₂ + 2 * kvs.length) (Nat.le_refl _) (storeAll_E (constEnts tk₂ kvs) [] 0 _ _ (Heap.get?_push_size _ rfl) (by rw [constEnts_length]; simp; omega) fun h₃ ep₃ tk₃ hd₃ hs₃ htk₃ => ?_)
  have hdn : s.heap.objs.size ≠ h₂.objs.size := by rw [hz₂]; exact Nat.ne_of_lt (Nat.lt_succ_self _)
  have hd₃' : h₃.get? s.heap.objs.size = some (dictO w (mergeE [] es) ep₂) := (hs₃.2 _ hdn).trans (Heap.get?_push_of_some _ hd₂)
  refine wpAny_bind (wpAny_onRaise (wpAny_holding (wpAny_with_toks (n := tk₂ + 2 * kvs.length) htk₃ (mergeMapping_E hd₃' hd₃ (Ne.symm hdn) (by rw [hz₂]; exact beq_false_of_ne (Nat.ne_of_gt (Nat.lt_succ_of_lt hbig))) ?_ fun h₄ ep₄ tk₄ hd₄ hs₄ htk₄ => ?_))))
  · have e1 := mergeE_length es []
    have e2 := mergeE_length (constEnts tk₂ kvs) []
    rw [constEnts_length] at e2
    simp at e1 e2
    omega
  · refine wpAny_pure (wpAny_pure ?_)
    refine (h _ h₄ ep₄ tk₂ tk₄ hd₄ (Nat.le_refl _) htk₂ htk₄ fun b o e => ?_)
    have hb := Heap.lt_size e
    have hb1 : b ≠ s.heap.objs.size := Nat.ne_of_lt hb
    have hb2 : b ≠ h₂.objs.size := by rw [hz₂]; exact Nat.ne_of_lt (Nat.lt_succ_of_lt hb)
    exact (hs₄.2 b hb1).trans ((hs₃.2 b hb2).trans (Heap.get?_push_of_some _ ((hs₂.2 b hb1).trans (Heap.get?_push_of_some _ e))))

/-- a written table of texts -/
theorem Dict_E {env : Env} {keys : List (Option Expr)} {values : List Expr} {pos : Pos} {kvs : List (Str × Str)} {Q : Value → Shared → Prop}
    (hk : evalEachOpt keys env = kvs.map fun p => some (mkText p.1)) (hv : evalEach values env = kvs.map fun p => mkText p.2) (h0 : kvs ≠ []) (hlen : kvs.length ≤ 15)
    (h : ∀ h' ep' tk', h'.get? s.heap.objs.size = some (dictO w (mergeE [] (constEnts s.toks kvs)) ep') → s.toks + 2 * kvs.length ≤ tk' →
      (∀ b o, s.heap.get? b = some o → h'.get? b = some o) → Q (.ref s.heap.objs.size) { s with heap := h', toks := tk' }) :
    wpAny (model prog w) A (eval (.Dict keys values pos) env) Q E s := by
  have hpl : (constPairs pos kvs).length = kvs.length := by simp [constPairs]
  have e : (evalEachOpt keys env).zip ((evalEach values env).map fun v => do let x ← v; standAt pos; pure x) = (constPairs pos kvs).map fun p => (some p.1, p.2) := by
    rw [hk, hv, constPairs, List.map_map, List.zip_map', List.map_map]
    rfl
  rw [arm_eval_Dict, e, dictDisplay_pairs _ (by intro q; rw [q] at hpl; exact h0 (List.length_eq_zero_iff.mp hpl.symm)) (by omega)]
  refine wpAny_bind (wpAny_standAt (wpAny_bind (wpAny_subDict_any (by omega) ?_)))
  refine evalPairs_const kvs _ _ ?_
  refine wpAny_with_toks (n := s.toks + 2 * kvs.length) (Nat.le_refl _) (storeAll_E (constEnts s.toks kvs) [] 0 _ _ (Heap.get?_push_size _ rfl) (by rw [constEnts_length]; simp; omega) fun h₃ ep₃ tk₃ hd₃ hs₃ htk₃ => ?_)
  exact wpAny_pure (h h₃ ep₃ tk₃ hd₃ htk₃ fun b o e => (hs₃.2 b (Nat.ne_of_lt (Heap.lt_size e))).trans (Heap.get?_push_of_some _ e))
end
end Mine

open PySem PySem.W PyProof.Rows PySem.Calls
set_option Elab.async false
set_option maxRecDepth 100000
namespace Mine

theorem pairs_E (prog : Program) (w : World) : ∀ es : List Ent, Pairs (strKind prog w) (es.map (Ent.de w)) (es.map fun e => (e.k, Value.str e.v e.vt))
  | [] => .nil
  | e :: r => .cons (strKind_is prog w e.k e.kt) rfl (pairs_E prog w r)

theorem dictAt_E {prog : Program} {w : World} {h : Heap} {d : Addr} {es : List Ent} {ep : Nat} (hd : h.get? d = some (dictO w es ep)) (hn : (es.map Ent.k).Nodup) :
    h.DictAt (strKind prog w) d (es.map fun e => (e.k, Value.str e.v e.vt)) ep :=
  ⟨_, _, hd, ⟨rfl, rfl, rfl⟩, rfl, keysOf_ents prog w es, pairs_E prog w es, by rw [List.map_map]; exact hn⟩

section
variable {prog : Program} {w : World} {A : Around} {E : Value → Shared → Prop} {s : Shared}

/-- one step of the walk over a table's items, the entry told to the token -/
theorem next_item_E {I d : Addr} {es : List Ent} {i ep : Nat} {o1 o2 : Value} {Q : Option Value → Shared → Prop} (hI : IsItemIter s.heap I d i es.length ep o1 o2)
    (hd : s.heap.get? d = some (dictO w es ep)) (hi : i < es.length)
    (h : ∀ h', IsItemIterOut h' I d (i + 1) es.length ep (.str es[i].k es[i].kt) (.str es[i].v es[i].vt) s.heap.objs.size →
      h'.get? s.heap.objs.size = some { cls := .type "tuple", data := .seq #[.str es[i].k es[i].kt, .str es[i].v es[i].vt] } → h'.objs.size = s.heap.objs.size + 1 →
      (∀ b o, b ≠ I → s.heap.get? b = some o → h'.get? b = some o) → Q (some (.ref s.heap.objs.size)) { s with heap := h' }) :
    wpAny (model prog w) A (pyNext (.ref I)) Q E s := by
  obtain ⟨H, gs, dr, tk, os⟩ := s
  have hT : Shared.TypeIs ⟨H, gs, dr, tk, os⟩ (.ref I) "dict_itemiterator" := ⟨_, hI, rfl⟩
  have hsz : ((es.map (Ent.de w)).toArray.size : Int) = (es.length : Int) := by simp
  have hel : (es.map (Ent.de w)).toArray[i]? = some (es[i].de w) := by simp [hi]
  have own : Builtin.Dict_items.ownsTuple "dict_itemiterator" = true := by decide
  unfold pyNext
  refine wpAny_bind (wpAny_attempt (wpAny_callSpecial?_slot (name := Str.ofString "__next__") hT F.slot_dict_itemiterator_next (wpAny_call_entry F.slot_dict_itemiterator_next hT F.entry_dict_itemiterator_next ?_ (F.args_dict_itemiterator_next_1 _))))
  -- the iterator's place
  refine wpAny_bind (wpAny_pure (wpAny_bind (wpAny_bind (wpAny_bind (wpAny_typeNameOfWhole_itemiter hT (wpAny_pure (wpAny_bind (m := fieldsOf (.ref I)) (wpAny_fieldsOf hI rfl ?_))))))))
  rw [own]
  show wpAny _ _ (if (Value.ref d == Value.none) = true then _ else _) _ _ _
  rw [if_neg (show ¬ (Value.ref d == Value.none) = true from Bool.false_ne_true)]
  refine wpAny_bind (wpAny_pure (wpAny_bind (wpAny_dictEntries hd rfl ?_)))
  rw [if_neg (by rw [hsz]; simp)]
  refine wpAny_bind (wpAny_pure (wpAny_bind (wpAny_dictEpoch hd rfl ?_)))
  rw [if_neg (by simp)]
  refine wpAny_pure ?_
  -- the entry, the place moved on
  simp only [show ¬ ((i : Int) < 0) from by omega, if_false, Int.toNat_natCast, hel]
  refine wpAny_bind (wpAny_bind (wpAny_typeNameOfWhole_itemiter hT (wpAny_pure (wpAny_bind (wpAny_isOneOf_itemiter hT ?_)))))
  show wpAny _ _ (setField (.ref I) 3 (rawInt ((i : Int) + 1)) >>= _) _ _ ⟨H, gs, dr, tk, os⟩
  refine wpAny_bind (wpAny_setField_rec hI (by simp) fun h1 e1 s1 => ?_)
  have hI1 : IsItemIter h1 I d (i + 1) es.length ep o1 o2 := by
    have q : ((i + 1 : Nat) : Int) = (i : Int) + 1 := by omega
    unfold IsItemIter; rw [q]; exact e1
  have hT1 : Shared.TypeIs ⟨h1, gs, dr, tk, os⟩ (.ref I) "dict_itemiterator" := ⟨_, hI1, rfl⟩
  refine wpAny_bind (wpAny_holding (wpAny_bind (wpAny_isOneOf_itemiter hT1 (wpAny_bind (wpAny_isOneOf_itemiter hT1 ?_)))))
  show wpAny _ _ (Builtin.Dict_items.pairFromOwner (.ref I) 6 (.str es[i].k es[i].kt) (.str es[i].v es[i].vt)) _ _ ⟨h1, gs, dr, tk, os⟩
  unfold Builtin.Dict_items.pairFromOwner
  have hIl : I < H.objs.size := Heap.lt_size hI
  have hz1 : h1.objs.size = H.objs.size := s1.1
  refine wpAny_bind (wpAny_newTuple ?_)
  -- the tuple is laid; the iterator notes it
  generalize h2e : h1.push { cls := .type "tuple", data := .seq #[.str es[i].k es[i].kt, .str es[i].v es[i].vt] } = h2
  have hI2 : IsItemIter h2 I d (i + 1) es.length ep o1 o2 := by rw [← h2e]; exact Heap.get?_push_of_some _ hI1
  have hT2 : h2.get? H.objs.size = some { cls := .type "tuple", data := .seq #[.str es[i].k es[i].kt, .str es[i].v es[i].vt] } := by rw [← h2e, ← hz1]; exact Heap.get?_push_size _ rfl
  have hz2 : h2.objs.size = H.objs.size + 1 := by rw [← h2e, Heap.size_push, hz1]
  have k2 : ∀ b o, b ≠ I → H.get? b = some o → h2.get? b = some o := fun b o hb e => by rw [← h2e]; exact Heap.get?_push_of_some _ (s1.extBut b o hb e)
  rw [hz1]
  refine wpAny_bind ?_
  unfold Builtin.Dict_items.ownedTupleIsFree
  refine wpAny_bind (wpAny_field hI2 rfl (x := .none) rfl (wpAny_pure ?_))
  rw [if_pos rfl]
  dsimp only
  refine wpAny_bind (wpAny_field hI2 rfl (x := o1) rfl (wpAny_bind (wpAny_field hI2 rfl (x := o2) rfl ?_)))
  refine wpAny_bind (wpAny_setField_rec hI2 (by simp) fun h3 e3 s3 => ?_)
  refine wpAny_bind (wpAny_setField_rec e3 (by simp) fun h4 e4 s4 => ?_)
  refine wpAny_bind (wpAny_setField_rec e4 (by simp) fun h5 e5 s5 => ?_)
  refine wpAny_bind (wpAny_setField_rec e5 (by simp) fun h6 e6 s6 => ?_)
  have hne : H.objs.size ≠ I := Nat.ne_of_gt hIl
  have up : ∀ b o, b ≠ I → h2.get? b = some o → h6.get? b = some o := fun b o hb e => s6.extBut b o hb (s5.extBut b o hb (s4.extBut b o hb (s3.extBut b o hb e)))
  have z6 : h6.objs.size = H.objs.size + 1 := by rw [← hz2]; exact (s6.1.trans s5.1).trans (s4.1.trans s3.1)
  refine wpAny_bind (wpAny_letGo (wpAny_pure (wpAny_pure ⟨_, rfl, wpAny_pure (h h6 e6 (up _ _ hne hT2) z6 fun b o hb e => up b o hb (k2 b o hb e))⟩)))
end

section
variable {prog : Program} {w : World} {A : Around} {s : Shared} {env : Env} {h₀ : Heap}

/-- what a turn must give back -/
def TurnEnd (h₀ : Heap) (L : Addr) (own : Addr × Obj) (news : List (Addr × Obj)) (J : (Str → Option Value) → Prop) (s₁ s₂ : Shared) : Prop :=
  ∃ h' tk m', s₂ = { s₁ with heap := h', toks := tk } ∧ Fr h₀ L h' m' ∧ News h₀ L h' (own :: news) ∧ J m'

theorem forLoop_items_E {R : Result → Shared → Prop} {xk xv : Str} {pk pv pt : Pos} {x1} {body : List Stmt} {I d : Addr} {es : List Ent} {ep : Nat} {m : Str → Option Value} {news : List (Addr × Obj)}
    (hh : A.handled = none) (hxk : env.kindOf xk = some .local) (hxv : env.kindOf xv = some .local)
    (hp : (env.scope.kind == .class || (env.scope.kind == .module && env.locals != env.globals)) = false)
    (hI : IsItemIter s.heap I d 0 es.length ep .none .none) (hI0 : h₀.get? I = none) (hIL : I ≠ env.locals) (hnI : ∀ p ∈ news, p.1 ≠ I) (hd : h₀.get? d = some (dictO w es ep)) (hdn : (es.map Ent.k).Nodup)
    (F : Fr h₀ env.locals s.heap m) (N : News h₀ env.locals s.heap news) (htk : 1 ≤ s.toks)
    (J : Nat → (Str → Option Value) → Prop) (h0 : J 0 m)
    (step : ∀ i (hi : i < es.length) m₁ h tk own, J i m₁ → 1 ≤ tk → Fr h₀ env.locals h (fun y => if y = xv then some (.str es[i].v es[i].vt) else if y = xk then some (.str es[i].k es[i].kt) else m₁ y) →
      News h₀ env.locals h (own :: news) →
      wpAny (model prog w) A (execs body env) (fun f s₂ => f = .next ∧ TurnEnd h₀ env.locals own news (J (i + 1)) { s with heap := h, toks := tk } s₂) (fun _ _ => False) { s with heap := h, toks := tk })
    (hR : ∀ h' tk m', Fr h₀ env.locals h' m' → News h₀ env.locals h' news → J es.length m' → R (.ok .next) { s with heap := h', toks := tk }) :
    codeAny (model prog w) A (.forLoop (.Tuple [.Name xk pk, .Name xv pv] x1 pt) (.ref I) body [] env) R s := by
  have hdI : d ≠ I := fun e => by rw [e, hI0] at hd; cases hd
  refine codeAny_forLoop_any
    (fun n s' => ∃ h' tk m' i ok ov, s' = { s with heap := h', toks := tk } ∧ IsItemIter h' I d i es.length ep ok ov ∧ Fr h₀ env.locals h' m' ∧ News h₀ env.locals h' news ∧ J i m' ∧ i ≤ es.length ∧
      n = es.length + 1 - i ∧ 1 ≤ tk) ?_ (es.length + 1)
    ⟨s.heap, s.toks, m, 0, .none, .none, rfl, hI, F, N, h0, Nat.zero_le _, rfl, htk⟩
  rintro n s' ⟨H, tk, m', i, ok, ov, rfl, hI', F', N', hJ, hi, rfl, htk'⟩
  have hd' : H.get? d = some (dictO w es ep) := F'.keep d _ hd
  by_cases hlt : i < es.length
  · refine next_item_E hI' hd' hlt fun h1 eo1 t1 z1 k1 => ?_
    refine wpAny_letOwnedTupleGo_items eo1 fun h2 e2 s2 => ?_
    have hIH : I < H.objs.size := Heap.lt_size hI'
    have hLH : env.locals < H.objs.size := F'.ns.lt
    have t2 : h2.IsTuple H.objs.size #[.str es[i].k es[i].kt, .str es[i].v es[i].vt] := ⟨_, (s2.2 _ (Nat.ne_of_gt hIH)).trans t1, rfl, _, rfl⟩
    have z2 : h2.objs.size = H.objs.size + 1 := s2.1.trans z1
    refine wpAny_assign_Tuple hh t2 rfl rfl fun h3 x3 => ?_
    have old : ∀ b o, b < H.objs.size → h2.get? b = some o → h3.get? b = some o := fun b o hb e => x3 b o (by show b ≠ h2.objs.size; rw [z2]; exact Nat.ne_of_lt (Nat.lt_succ_of_lt hb)) e
    have k3 : ∀ b o, b ≠ I → H.get? b = some o → h3.get? b = some o := fun b o hb e => old b o (Heap.lt_size e) ((s2.2 b hb).trans (k1 b o hb e))
    have F3 : Fr h₀ env.locals h3 m' := ⟨F'.ns.at' fun o e => k3 _ o (Ne.symm hIL) e, fun b o e => k3 b o (fun q => by rw [q, hI0] at e; cases e) (F'.keep b o e), F'.above⟩
    have N3 : News h₀ env.locals h3 news := fun p hp => ⟨k3 _ _ (hnI p hp) (N' p hp).1, (N' p hp).2⟩
    have hI3 : h3.get? I = some { cls := .type "dict_itemiterator", dict := none, data := .fields #[.none, .bool false, .ref d, .int ((i + 1 : Nat) : Int) 0, .int es.length 0, .int ep 0, .str es[i].k es[i].kt, .str es[i].v es[i].vt], slots := #[] } := old I _ hIH e2
    show wpAny _ _ (do holding [.str es[i].v es[i].vt] (assign (.Name xk pk) env (.str es[i].k es[i].kt)); do holding [] (assign (.Name xv pv) env (.str es[i].v es[i].vt)); pure ()) _ _ _
    refine wpAny_bind (wpAny_holding (wpAny_assign_Name (wpAny_storeName_local hxk F3.ns (fun h4 n4 s4 => ?_) hp)))
    refine wpAny_bind (wpAny_holding (wpAny_assign_Name (wpAny_storeName_local hxv n4 (fun h5 n5 s5 => wpAny_pure ?_) hp)))
    have F5 := (F3.set n4 s4).set n5 s5
    have N5 : News h₀ env.locals h5 ((I, _) :: news) := fun p hp => by
      rcases List.mem_cons.mp hp with rfl | hp
      · exact ⟨((s5.2 I hIL).trans (s4.2 I hIL)).trans hI3, hIL, hI0⟩
      · exact (N3.set s4).set s5 p hp
    have htk5 : 1 ≤ tk + 1 + 1 := by omega
    refine wpAny_with_toks (n := 1) htk5 (wpAny_mono (step i hlt m' h5 _ _ hJ htk5 F5 N5) (fun f s₃ q htk6 => ?_) fun _ _ q => q.elim)
    obtain ⟨rfl, h6, tk6, m6, rfl, F6, N6, J6⟩ := q
    exact ⟨es.length + 1 - (i + 1), by omega, h6, tk6, m6, i + 1, _, _, rfl, (N6 _ (List.mem_cons_self ..)).1, F6, fun p hp => N6 p (List.mem_cons_of_mem _ hp), J6, hlt, rfl, htk6⟩
  · have hin : i = es.length := by omega
    subst hin
    have hat := dictAt_E (prog := prog) hd' hdn
    have hlen : (es.map fun e => (e.k, Value.str e.v e.vt)).length = es.length := List.length_map _
    refine wpAny_pyNext_items_end (knd := strKind prog w) (kvs := es.map fun e => (e.k, Value.str e.v e.vt)) hh (by rw [hlen]; exact hI') hat (by simp) fun h1 x1 => wpAny_execs_nil ?_
    have k1 : ∀ b o, b ≠ I → H.get? b = some o → h1.get? b = some o := fun b o hb e => x1 b o hb e
    exact hR h1 tk m' ⟨F'.ns.at' fun o e => k1 _ o (Ne.symm hIL) e, fun b o e => k1 b o (fun q => by rw [q, hI0] at e; cases e) (F'.keep b o e), F'.above⟩
      (fun p hp => ⟨k1 _ _ (hnI p hp) (N' p hp).1, (N' p hp).2⟩) hJ
end
end Mine

open PySem PySem.W PyProof.Rows PySem.Calls
set_option Elab.async false
set_option maxRecDepth 100000
namespace Mine

abbrev txt (es : List Ent) : List (Str × Str) := es.map fun e => (e.k, e.v)
def repl (x : Str) (es : List (Str × Str)) : Str := es.foldl (fun x e => Txt.replace x e.1 e.2) x
def Fits : Str → List (Str × Str) → Prop
  | _, [] => True
  | x, e :: r => x.length + (x.length + 1) * e.2.length ≤ 16777216 ∧ Fits (Txt.replace x e.1 e.2) r
/-- the tokens of a table tell its texts apart -/
def Sound (es : List Ent) : Prop := ∀ e ∈ es, e.kt ≠ 0 ∧ e.vt ≠ 0 ∧ (e.kt = e.vt → e.k = e.v)
def putT (n : Str × Str) : List (Str × Str) → List (Str × Str)
  | [] => [n]
  | e :: r => if e.1 = n.1 then (e.1, n.2) :: r else e :: putT n r
def mergeT (es more : List (Str × Str)) : List (Str × Str) := more.foldl (fun acc e => putT e acc) es
theorem txt_put (n : Ent) : ∀ es : List Ent, txt (putE n es) = putT (n.k, n.v) (txt es)
  | [] => rfl
  | e :: r => by
    have := txt_put n r
    simp only [txt, putE, putT, List.map_cons] at this ⊢
    split
    · rfl
    · rw [List.map_cons, this]
theorem txt_merge (more : List Ent) : ∀ es : List Ent, txt (mergeE es more) = mergeT (txt es) (txt more) := by
  induction more with
  | nil => intro es; rfl
  | cons e r ih =>
    intro es
    show txt (mergeE (putE e es) r) = mergeT (putT (e.k, e.v) (txt es)) (txt r)
    rw [ih, txt_put]
theorem txt_const : ∀ (l : List (Str × Str)) (tk : Nat), txt (constEnts tk l) = l
  | [], _ => rfl
  | p :: r, tk => by
    have := txt_const r (tk + 2)
    simp only [txt, constEnts, List.map_cons] at this ⊢
    rw [this]

theorem repl_take_succ {x : Str} {es : List Ent} {i : Nat} (hi : i < es.length) : repl x (txt (es.take (i + 1))) = Txt.replace (repl x (txt (es.take i))) es[i].k es[i].v := by
  rw [List.take_add_one, List.getElem?_eq_getElem hi, txt, repl, repl, List.map_append, List.foldl_append]
  rfl
theorem Fits.at {es : List Ent} : ∀ {x : Str} (_ : Fits x (txt es)) {i : Nat} (hi : i < es.length), (repl x (txt (es.take i))).length + ((repl x (txt (es.take i))).length + 1) * es[i].v.length ≤ 16777216 := by
  induction es with
  | nil => intro x _ i hi; simp at hi
  | cons e r ih =>
    intro x hf i hi
    cases i with
    | zero => exact hf.1
    | succ i =>
      have := ih hf.2 (i := i) (by simpa using hi)
      simpa [repl] using this

theorem fr_keeps {h₀ h : Heap} {L : Addr} {m : Str → Option Value} (F : Fr h₀ L h m) : ∀ b o, h₀.get? b = some o → h.get? b = some o := F.keep
theorem fr_up {h₀ h h' : Heap} {L : Addr} {m : Str → Option Value} (F : Fr h₀ L h m) (hk : ∀ b o, h.get? b = some o → h'.get? b = some o) : Fr h₀ L h' m :=
  ⟨F.ns.at' fun o e => hk _ o e, fun b o e => hk b o (F.keep b o e), F.above⟩
theorem news_up {h₀ h h' : Heap} {L : Addr} {news : List (Addr × Obj)} (N : News h₀ L h news) (hk : ∀ b o, h.get? b = some o → h'.get? b = some o) : News h₀ L h' news :=
  fun p hp => ⟨hk _ _ (N p hp).1, (N p hp).2⟩
theorem gen_toks {α : Type} {M : Model} {A : Around} {t : Sem α} {Q : α → Shared → Prop} {E : Value → Shared → Prop} {h : Heap} {g : Array GenState} {dr : Drawn} {os : OsState} {tk : Nat} (hn : 1 ≤ tk)
    (k : ∀ tk', 1 ≤ tk' → wpAny M A t Q E ⟨h, g, dr, tk', os⟩) : wpAny M A t Q E ⟨h, g, dr, tk, os⟩ := k tk hn
theorem view_E {prog : Program} {w : World} {A : Around} {E : Value → Shared → Prop} {s : Shared} {d : Addr} {es : List Ent} {ep : Nat} {Q : Value → Shared → Prop} (hd : s.heap.get? d = some (dictO w es ep)) (hdn : (es.map Ent.k).Nodup) (lo : (d == sysModules) = false)
    (h : Q (.ref s.heap.objs.size) { s with heap := s.heap.push { cls := .type "dict_items", data := .fields #[.ref d] } }) : wpAny (model prog w) A (call (.builtin "dict.items") [.ref d]) Q E s :=
  have hD := (dictAt_E (prog := prog) hd hdn).dictOf
  call_meetsIn PySem.F.slot_dict_items hD.typeIs PySem.F.entry_dict_items (PySem.F.args_dict_items_1 _) (meets_dict_items (strKind prog w) d lo) ⟨⟨_, hD⟩, h⟩

theorem replaceK {prog : Program} {w : World} {A : Around} {E : Value → Shared → Prop} {h : Heap} {g : Array GenState} {dr : Drawn} {os : OsState} {tk : Nat} {x y z : Str} {t u v : Tok} {Q : Value → Shared → Prop} (htk : 1 ≤ tk) (hu : u ≠ 0) (hv : v ≠ 0) (huv : u = v → y = z) (hb : x.length + (x.length + 1) * z.length ≤ 16777216)
    (hnb : NoneBooked h) (hq : ∀ t' k, 1 ≤ k → Q (.str (Txt.replace x y z) t') ⟨h, g, dr, k, os⟩) :
    wpAny (model prog w) A (call (.builtin "str.replace") [.str x t, .str y u, .str z v]) Q E ⟨h, g, dr, tk, os⟩ :=
  wpAny_with_toks (n := 1) htk (replaceT hu hv huv hb hnb fun t' k hk => hq t' k hk)

theorem method_E {prog : Program} {w : World} {A : Around} {E : Value → Shared → Prop} {s : Shared} {d : Addr} {es : List Ent} {ep : Nat} {name : Str} {id : String} {pl : Sem Bool} {Q : Value × List Value → Shared → Prop} (hd : s.heap.get? d = some (dictO w es ep)) (hdn : (es.map Ent.k).Nodup)
    (slot : Slot "dict" name id) (ty : typeOf (.builtin id) = pure (.type "method_descriptor")) (h : Q (.builtin id, [.ref d]) s) : wpAny (model prog w) A (getMethod (.ref d) name pl) Q E s :=
  have hD := (dictAt_E (prog := prog) hd hdn).dictOf
  getMethod_builtin hD.typeIs PySem.F.plainAttrs_dict slot ty hD.mapOf.noDict h

theorem iter_items_E {prog : Program} {w : World} {A : Around} {E : Value → Shared → Prop} {s : Shared} {v d : Addr} {es : List Ent} {ep : Nat} {Q : Value → Shared → Prop} (hv : s.heap.IsItemsView v d) (hd : s.heap.get? d = some (dictO w es ep)) (hdn : (es.map Ent.k).Nodup)
    (hQ : Q (.ref s.heap.objs.size) { s with heap := s.heap.push { cls := .type "dict_itemiterator", data := .fields #[.none, .bool false, .ref d, .int 0 0, .int es.length 0, .int ep 0, .none, .none] } }) :
    wpAny (model prog w) A (pyIter (.ref v)) Q E s := by
  refine wpAny_pyIter_items (knd := strKind prog w) hv (dictAt_E hd hdn) ?_
  rw [List.length_map]
  exact hQ

theorem replace_len (x y z : Str) : (Txt.replace x y z).length ≤ x.length + (x.length + 1) * z.length := by
  unfold Txt.replace
  split
  · omega
  · have h1 := StrLaws.occ_length_le x y 0 x.length (x.length + 1)
    have hy : (Builtin.Str.glued y (Builtin.Str.partsBetween x (Builtin.Str.occurrences x y 0 x.length (x.length + 1)) y.length)).length = x.length := by rw [StrLaws.glued_between_self]
    rw [size_glued, length_partsBetween, Nat.add_sub_cancel] at hy
    rw [size_glued, length_partsBetween, Nat.add_sub_cancel]
    have h2 : (Builtin.Str.occurrences x y 0 x.length (x.length + 1)).length * z.length ≤ (x.length + 1) * z.length := Nat.mul_le_mul_right _ h1
    omega
theorem replace_len_le {x y z : Str} {a b c : Nat} (hx : x.length ≤ a) (hz : z.length ≤ b) (hc : a + (a + 1) * b ≤ c) : (Txt.replace x y z).length ≤ c := by
  have h1 := replace_len x y z
  have h2 : (x.length + 1) * z.length ≤ (a + 1) * b := Nat.mul_le_mul (by omega) hz
  omega
theorem size_ok {x z : Str} (hx : x.length ≤ 2300000) (hz : z.length ≤ 6) : x.length + (x.length + 1) * z.length ≤ 16777216 := by
  have h2 : (x.length + 1) * z.length ≤ (x.length + 1) * 6 := Nat.mul_le_mul_left _ hz
  omega
def esc3 (x : Str) : Str := Txt.replace (Txt.replace (Txt.replace x (Str.ofString "&") (Str.ofString "&amp;")) (Str.ofString ">") (Str.ofString "&gt;")) (Str.ofString "<") (Str.ofString "&lt;")

theorem truthy_E {prog : Program} {w : World} {A : Around} {E : Value → Shared → Prop} {s : Shared} {d : Addr} {es : List Ent} {ep : Nat} {Q : Bool → Shared → Prop} (hd : s.heap.get? d = some (dictO w es ep)) (hdn : (es.map Ent.k).Nodup)
    (hds : (d == sysModules) = false) (hl : es.length ≤ 1000) (h0 : es = [] → Q false { s with toks := s.toks + 1 + 1 }) (h1 : es ≠ [] → Q true { s with toks := s.toks + 1 + 1 }) : wpAny (model prog w) A (truthy (.ref d)) Q E s := by
  refine wpAny_truthy_dict (knd := strKind prog w) hds (dictAt_E (prog := prog) hd hdn).dictOf (by rw [List.length_map]; omega) ?_
  cases es with
  | nil => exact h0 rfl
  | cons e r => exact h1 (by simp)
def une2 (x : Str) : Str := Txt.replace (Txt.replace x (Str.ofString "&lt;") (Str.ofString "<")) (Str.ofString "&gt;") (Str.ofString ">")
def whites : List (Str × Str) := [(Str.ofString "\n", Str.ofString "&#10;"), (Str.ofString "\r", Str.ofString "&#13;"), (Str.ofString "\t", Str.ofString "&#9;")]
theorem mem_put {n e : Ent} : ∀ {es : List Ent}, e ∈ putE n es → e ∈ es ∨ (e.v = n.v ∧ e.vt = n.vt ∧ ((e.k = n.k ∧ e.kt = n.kt) ∨ ∃ e1 ∈ es, e.k = e1.k ∧ e.kt = e1.kt))
  | [], h => by
    rw [putE, List.mem_singleton] at h
    subst h
    exact .inr ⟨rfl, rfl, .inl ⟨rfl, rfl⟩⟩
  | a :: r, h => by
    unfold putE at h
    split at h
    · rcases List.mem_cons.mp h with rfl | h
      · exact .inr ⟨rfl, rfl, .inr ⟨a, List.mem_cons_self .., rfl, rfl⟩⟩
      · exact .inl (List.mem_cons_of_mem _ h)
    · rcases List.mem_cons.mp h with rfl | h
      · exact .inl (List.mem_cons_self ..)
      · rcases mem_put h with q | ⟨q1, q2, q3⟩
        · exact .inl (List.mem_cons_of_mem _ q)
        · refine .inr ⟨q1, q2, q3.imp id fun ⟨e1, he, q⟩ => ⟨e1, List.mem_cons_of_mem _ he, q⟩⟩
theorem mem_merge {e : Ent} : ∀ {more es : List Ent}, e ∈ mergeE es more → e ∈ es ∨ ∃ n ∈ more, e.v = n.v ∧ e.vt = n.vt ∧ ∃ e1 ∈ es ++ more, e.k = e1.k ∧ e.kt = e1.kt
  | [], es, h => .inl h
  | n :: r, es, h => by
    have h' : e ∈ mergeE (putE n es) r := h
    rcases mem_merge h' with q | ⟨m, hm, q1, q2, e1, he1, q3⟩
    · rcases mem_put q with q | ⟨q1, q2, q3⟩
      · exact .inl q
      · refine .inr ⟨n, List.mem_cons_self .., q1, q2, ?_⟩
        rcases q3 with q3 | ⟨e1, he, q3⟩
        · exact ⟨n, List.mem_append_right _ (List.mem_cons_self ..), q3⟩
        · exact ⟨e1, List.mem_append_left _ he, q3⟩
    · refine .inr ⟨m, List.mem_cons_of_mem _ hm, q1, q2, ?_⟩
      rcases List.mem_append.mp he1 with he1 | he1
      · rcases mem_put he1 with q | ⟨_, _, q⟩
        · exact ⟨e1, List.mem_append_left _ q, q3⟩
        · rcases q with q | ⟨e2, he2, q⟩
          · exact ⟨n, List.mem_append_right _ (List.mem_cons_self ..), q3.1.trans q.1, q3.2.trans q.2⟩
          · exact ⟨e2, List.mem_append_left _ he2, q3.1.trans q.1, q3.2.trans q.2⟩
      · exact ⟨e1, List.mem_append_right _ (List.mem_cons_of_mem _ he1), q3⟩
theorem put_keys (n : Ent) : ∀ es : List Ent, (putE n es).map Ent.k = if n.k ∈ es.map Ent.k then es.map Ent.k else es.map Ent.k ++ [n.k]
  | [] => by simp [putE]
  | a :: r => by
    have ih := put_keys n r
    unfold putE
    split
    · rename_i h; simp [h]
    · rename_i h
      have h' : ¬ n.k = a.k := fun q => h q.symm
      rw [List.map_cons, ih, List.map_cons]
      by_cases q : n.k ∈ r.map Ent.k
      · rw [if_pos q, if_pos (List.mem_cons_of_mem _ q)]
      · rw [if_neg q, if_neg (by rw [List.mem_cons, not_or]; exact ⟨h', q⟩)]; rfl
theorem put_nodup {n : Ent} {es : List Ent} (h : (es.map Ent.k).Nodup) : ((putE n es).map Ent.k).Nodup := by
  rw [put_keys]
  split
  · exact h
  · rename_i q
    rw [List.nodup_append]
    refine ⟨h, by simp, fun a ha b hb e => ?_⟩
    rw [List.mem_singleton] at hb
    subst hb; subst e
    exact q ha
theorem merge_nodup : ∀ {more es : List Ent}, (es.map Ent.k).Nodup → ((mergeE es more).map Ent.k).Nodup
  | [], _, h => h
  | n :: r, es, h => merge_nodup (more := r) (es := putE n es) (put_nodup h)
theorem put_fresh {n : Ent} : ∀ {es : List Ent}, n.k ∉ es.map Ent.k → putE n es = es ++ [n]
  | [], _ => rfl
  | a :: r, h => by
    rw [List.map_cons, List.mem_cons, not_or] at h
    unfold putE
    rw [if_neg (fun q => h.1 q.symm), put_fresh h.2]
    rfl
theorem merge_fresh : ∀ {more es : List Ent}, ((es ++ more).map Ent.k).Nodup → mergeE es more = es ++ more
  | [], es, _ => by simp [mergeE]
  | n :: r, es, h => by
    have hn : n.k ∉ es.map Ent.k := by
      rw [List.map_append, List.map_cons, List.nodup_append] at h
      exact fun q => h.2.2 _ q _ (List.mem_cons_self ..) rfl
    show mergeE (putE n es) r = _
    rw [put_fresh hn, merge_fresh (by rw [List.append_assoc]; exact h), List.append_assoc]
    rfl
theorem merge_nil {es : List Ent} (h : (es.map Ent.k).Nodup) : mergeE [] es = es := by
  rw [merge_fresh (by simpa using h)]; rfl
theorem mem_const {e : Ent} : ∀ {l : List (Str × Str)} {tk : Nat}, e ∈ constEnts tk l → tk ≤ e.kt ∧ (e.kt - tk) % 2 = 0 ∧ e.vt = e.kt + 1
  | p :: r, tk, h => by
    rcases List.mem_cons.mp h with rfl | h
    · exact ⟨Nat.le_refl _, by simp, rfl⟩
    · obtain ⟨a, b, c⟩ := mem_const h
      exact ⟨by omega, by omega, c⟩
theorem const_keys : ∀ (l : List (Str × Str)) (tk : Nat), (constEnts tk l).map Ent.k = l.map (·.1)
  | [], _ => rfl
  | p :: r, tk => by rw [constEnts, List.map_cons, List.map_cons, const_keys r]
theorem const_sound {l : List (Str × Str)} {tk : Nat} (htk : 1 ≤ tk) : Sound (constEnts tk l) := fun e he => by
  obtain ⟨a, b, c⟩ := mem_const he
  refine ⟨by omega, by omega, fun q => by omega⟩
theorem sound_merge {es : List Ent} {l : List (Str × Str)} {tk tk' : Nat} (h : Sound es) (hlt : ∀ e ∈ es, e.kt < tk ∧ e.vt < tk) (h1 : 1 ≤ tk) (h2 : tk ≤ tk') : Sound (mergeE es (constEnts tk' l)) := fun e he => by
  rcases mem_merge he with q | ⟨n, hn, _, q2, e1, he1, _, q4⟩
  · exact h e q
  · obtain ⟨a, b, c⟩ := mem_const hn
    have key : e.kt ≠ 0 ∧ e.kt ≠ e.vt := by
      rcases List.mem_append.mp he1 with he1 | he1
      · have z := (h e1 he1).1
        have y := (hlt e1 he1).1
        omega
      · obtain ⟨d, f, _⟩ := mem_const he1
        omega
    exact ⟨key.1, by omega, fun q => absurd q key.2⟩

/-- the text stands in the other -/
def within (y x : Str) : Bool := !(Builtin.Str.occurrences x y 0 x.length 1).isEmpty
abbrev dq : Str := Str.ofString "\""
abbrev sq : Str := Str.ofString "'"
def quoted (b : Str) : Str :=
  if within dq b = true then (if within sq b = true then dq ++ Txt.replace b dq (Str.ofString "&quot;") ++ dq else sq ++ b ++ sq) else dq ++ b ++ dq

theorem quoted_1 {b : Str} (h : (Builtin.Str.occurrences b dq 0 b.length 1).isEmpty = true) : quoted b = dq ++ b ++ dq := by
  unfold quoted within; rw [h]; rfl
theorem quoted_2 {b : Str} (h : (Builtin.Str.occurrences b dq 0 b.length 1).isEmpty = false) (h2 : (Builtin.Str.occurrences b sq 0 b.length 1).isEmpty = true) : quoted b = sq ++ b ++ sq := by
  unfold quoted within; rw [h, h2]; rfl
theorem quoted_3 {b : Str} (h : (Builtin.Str.occurrences b dq 0 b.length 1).isEmpty = false) (h2 : (Builtin.Str.occurrences b sq 0 b.length 1).isEmpty = false) : quoted b = dq ++ Txt.replace b dq (Str.ofString "&quot;") ++ dq := by
  unfold quoted within; rw [h, h2]; rfl

open Builtin in
theorem mod_str0 {prog : Program} {w : World} {A : Around} {E : Value → Shared → Prop} {s : Shared} {X X' T y : Str} {t u : Tok} {Q : Value → Shared → Prop} (hX : X = X')
    (hm : Meets («str.__mod__» ⟨[.str X' t, .str y u], []⟩) (fun _ R s => ∀ t' k, R (.ok (.ret (.str T t'))) { s with toks := k }))
    (h : ∀ t' k, Q (.str T t') { s with toks := k }) : wpAny (model prog w) A (binaryOp .Mod (.str X t) (.str y u)) Q E s := by
  subst hX
  exact binaryOp_meets (T := "str") (op := .Mod) (typeIs_str s X t) (typeIs_str s y u) F.fills_str_mod F.slot_str_mod F.entry_str_mod (F.args_str_mod_2 _ _) hm (fun t' k => ⟨(fun e => nomatch e), h t' k⟩)
open Builtin in
theorem meets_dq (t u : Tok) : ∀ z : Str, z.length ≤ 16070000 → Meets («str.__mod__» ⟨[.str ⟨#[34, 37, 115, 34]⟩ t, .str z u], []⟩) (fun _ R s => ∀ t' k, R (.ok (.ret (.str (dq ++ z ++ dq) t'))) { s with toks := k }) := by
  kpc_run_s
open Builtin in
theorem meets_sq (t u : Tok) : ∀ z : Str, z.length ≤ 16070000 → Meets («str.__mod__» ⟨[.str ⟨#[39, 37, 115, 39]⟩ t, .str z u], []⟩) (fun _ R s => ∀ t' k, R (.ok (.ret (.str (sq ++ z ++ sq) t'))) { s with toks := k }) := by
  kpc_run_s
section
variable {prog : Program} {w : World} {A : Around} {E : Value → Shared → Prop} {h : Heap} {g : Array GenState} {dr : Drawn} {os : OsState} {tk : Nat} {y : Str} {t u : Tok} {Q : Value → Shared → Prop}
theorem percent_dq (htk : 1 ≤ tk) (hy : y.length ≤ 16070000) (k : ∀ t' k, 1 ≤ k → Q (.str (dq ++ y ++ dq) t') ⟨h, g, dr, k, os⟩) : wpAny (model prog w) A (binaryOp .Mod (.str (Str.ofString "\"%s\"") t) (.str y u)) Q E ⟨h, g, dr, tk, os⟩ :=
  wpAny_with_toks (n := 1) htk (mod_str0 (by decide +kernel) (meets_dq _ _ y hy) fun t' q hq => k t' q hq)
theorem percent_sq (htk : 1 ≤ tk) (hy : y.length ≤ 16070000) (k : ∀ t' k, 1 ≤ k → Q (.str (sq ++ y ++ sq) t') ⟨h, g, dr, k, os⟩) : wpAny (model prog w) A (binaryOp .Mod (.str (Str.ofString "'%s'") t) (.str y u)) Q E ⟨h, g, dr, tk, os⟩ :=
  wpAny_with_toks (n := 1) htk (mod_str0 (by decide +kernel) (meets_sq _ _ y hy) fun t' q hq => k t' q hq)
end

theorem Spread_E {prog : Program} {w : World} {A : Around} {E : Value → Shared → Prop} {s : Shared} {env : Env} {e0 : Expr} {ks : List (Option Expr)} {vs : List Expr} {pos : Pos} {kvs : List (Str × Str)} {a : Addr} {es : List Ent} {ep : Nat} {Q : Value → Shared → Prop}
    (hk : evalEachOpt ks env = kvs.map fun p => some (mkText p.1)) (hv : evalEach vs env = kvs.map fun p => mkText p.2) (h0 : kvs ≠ []) (hlen : kvs.length ≤ 15)
    (hev : ∀ Q' : Value → Shared → Prop, Q' (.ref a) { s with heap := s.heap.push { cls := .type "dict", data := .dict #[] } } → wpAny (model prog w) A (eval e0 env) Q' E { s with heap := s.heap.push { cls := .type "dict", data := .dict #[] } })
    (ha : s.heap.get? a = some (dictO w es ep)) (hsys : (a == sysModules) = false) (hbig : sysModules < s.heap.objs.size) (hes : es.length ≤ 900)
    (h : ∀ d h' ep' tk tk', h'.get? d = some (dictO w (mergeE (mergeE [] es) (mergeE [] (constEnts tk kvs))) ep') → s.heap.objs.size ≤ d → s.toks ≤ tk → tk + 2 * kvs.length ≤ tk' →
      (∀ b o, s.heap.get? b = some o → h'.get? b = some o) → Q (.ref d) { s with heap := h', toks := tk' }) :
    wpAny (model prog w) A (eval (.Dict (none :: ks) (e0 :: vs) pos) env) Q E s := by
  have e : (evalEachOpt (none :: ks) env).zip ((evalEach (e0 :: vs) env).map fun v => do let x ← v; standAt pos; pure x) = (none, do let x ← eval e0 env; standAt pos; pure x) :: (constPairs pos kvs).map fun p => (some p.1, p.2) := by
    show (none :: evalEachOpt ks env).zip ((eval e0 env :: evalEach vs env).map fun v => do let x ← v; standAt pos; pure x) = _
    rw [hk, hv, constPairs, List.map_cons, List.zip_cons_cons, List.map_map, List.zip_map', List.map_map]
    rfl
  rw [arm_eval_Dict, e]
  exact wpAny_bind (wpAny_standAt (display_E h0 hlen (fun Q' hq => wpAny_bind (hev _ (wpAny_bind (wpAny_standAt (wpAny_pure hq))))) ha hsys hbig hes h))

theorem binds_two {s : Shared} {fd : FuncData} {args a b : List Value} {P : Prop} {binds : List (Str × Value)} (h : args = a ∨ (args = b ∧ P)) (h1 : BindsTo s fd ⟨a, []⟩ binds) (h2 : P → BindsTo s fd ⟨b, []⟩ binds) : BindsTo s fd ⟨args, []⟩ binds := by
  rcases h with rfl | ⟨rfl, q⟩
  · exact h1
  · exact h2 q

/-- a new object onto the ledger, by its place -/
theorem news_new {h₀ h h' : Heap} {L : Addr} {m : Str → Option Value} {news : List (Addr × Obj)} {o : Obj} (F : Fr h₀ L h m) (N : News h₀ L h news) (hk : ∀ b o, h.get? b = some o → h'.get? b = some o) (ho : h'.get? h.objs.size = some o) : News h₀ L h' ((h.objs.size, o) :: news) := by
  intro q hq
  rcases List.mem_cons.mp hq with rfl | hq
  · refine ⟨ho, Nat.ne_of_gt F.ns.lt, ?_⟩
    cases e : h₀.get? h.objs.size with
    | none => rfl
    | some o' => exact absurd (Heap.lt_size (F.keep _ _ e)) (Nat.lt_irrefl _)
  · exact news_up N hk q hq
theorem news_lt {h₀ h : Heap} {L : Addr} {news : List (Addr × Obj)} (N : News h₀ L h news) : ∀ p ∈ news, p.1 < h.objs.size := fun p hp => Heap.lt_size (N p hp).1

/-- values that are these texts -/
def Txts (vs : List Value) (xs : List Str) : Prop := vs.length = xs.length ∧ ∀ (i : Nat) (x : Str), xs[i]? = some x → ∃ t : Tok, vs[i]? = some (Value.str x t)
theorem Txts.nil : Txts [] [] := ⟨rfl, fun i x h => by simp at h⟩
theorem Txts.snoc {vs : List Value} {xs : List Str} {x : Str} {t : Tok} (h : Txts vs xs) : Txts (vs ++ [Value.str x t]) (xs ++ [x]) := by
  refine ⟨by simp [h.1], fun i y hy => ?_⟩
  rcases Nat.lt_trichotomy i xs.length with q | q | q
  · rw [List.getElem?_append_left q] at hy
    obtain ⟨u, hu⟩ := h.2 i y hy
    exact ⟨u, by rw [List.getElem?_append_left (by rw [h.1]; exact q)]; exact hu⟩
  · subst q
    simp at hy
    subst hy
    exact ⟨t, by rw [← h.1]; simp⟩
  · rw [List.getElem?_eq_none (by simp; omega)] at hy
    cases hy
def namesT : List (Str × Str) := [(Str.ofString "&amp;", Str.ofString "&"), (Str.ofString "&lt;", Str.ofString "<"), (Str.ofString "&gt;", Str.ofString ">"), (Str.ofString "&quot;", Str.ofString "\""), (Str.ofString "&#10;", Str.ofString "\n"), (Str.ofString "&#13;", Str.ofString "\r"), (Str.ofString "&#9;", Str.ofString "\t")]

def TxtA (a : Array Value) (xs : List Str) : Prop := Txts a.toList xs
theorem TxtA.nil : TxtA #[] [] := Txts.nil
theorem TxtA.push {a : Array Value} {xs : List Str} {x : Str} {t : Tok} (h : TxtA a xs) : TxtA (a.push (.str x t)) (xs ++ [x]) := by
  unfold TxtA
  rw [Array.toList_push]
  exact Txts.snoc h
theorem TxtA.size {a : Array Value} {xs : List Str} (h : TxtA a xs) : a.size = xs.length := by
  rw [← h.1, Array.length_toList]

def WEnd (I : Nat → Shared → Prop) (n : Nat) (Q : Flow → Shared → Prop) (f : Flow) (s₃ : Shared) : Prop := match f with
  | .next | .cont => ∃ m, m < n ∧ I m s₃
  | .brk => Q .next s₃
  | .ret v => Q (.ret v) s₃
theorem while_E {prog : Program} {w : World} {A : Around} {E : Value → Shared → Prop} {s : Shared} {env : Env} {test : Expr} {body : List Stmt} {pos : Pos} {Q : Flow → Shared → Prop} (I : Nat → Shared → Prop)
    (turn : ∀ n s, I n s → wpAny (model prog w) A (isTrue test env (eval test env)) (fun b s₂ => if b = true then wpAny (model prog w) A (execs body env) (WEnd I n Q) (fun _ _ => False) s₂ else Q .next s₂) (fun _ _ => False) s)
    (n : Nat) (h : I n s) : wpAny (model prog w) A (exec (.While test body [] pos) env) Q E s := by
  refine wpAny_While (codeAny_whileLoop I (fun n s hI => ?_) n h)
  refine wpAny_mono (turn n s hI) (fun b s₂ q => ?_) (fun _ _ q => q.elim)
  cases b with
  | true =>
    rw [if_pos rfl] at q ⊢
    refine wpAny_mono q (fun f s₃ q => ?_) (fun _ _ q => q.elim)
    cases f with
    | next => exact q
    | cont => exact q
    | brk => exact q
    | ret v => exact q
  | false =>
    rw [if_neg Bool.false_ne_true] at q ⊢
    exact wpAny_execs_nil q

section
variable {M : Model} {A : Around} {E : Value → Shared → Prop} {s : Shared} {scope : Scope} {cl : List (Str × Addr)} {C c : Addr} {o : Obj} {env : Env} {m mg mb : Str → Option Value} {x : Str} {pos : Pos} {v : Value} {Q : Value → Shared → Prop}
theorem cname_L (hn : s.heap.Ns C m) (hv : m x = some v) (h : Q v s) (hk : (compEnvC scope cl C env).scope.kind = .function := by rfl) (hl : (compEnvC scope cl C env).kindOf x = some .local := by rfl) (hd : (x == ("__debug__" : Str)) = false := by decide) :
    wpAny M A (eval (.Name x pos) (compEnvC scope cl C env)) Q E s := wpAny_Name (wpAny_loadName_local hk hl hn hv h) hd
theorem cname_C (hc : cl.lookup x = some c) (hg : s.heap.get? c = some o) (hd : o.data = .cell (some v)) (h : Q v s) (hk : (compEnvC scope cl C env).scope.kind = .function := by rfl) (hl : (compEnvC scope cl C env).kindOf x = some .cell := by rfl) (hb : (x == ("__debug__" : Str)) = false := by decide) :
    wpAny M A (eval (.Name x pos) (compEnvC scope cl C env)) Q E s := wpAny_Name (wpAny_loadName_cell hk hl hc ⟨o, hg, hd⟩ h) hb
theorem cname_B {K : Frag} {p : Program} {loose : List Str} (X : K.In s.heap) (T : TopRead p loose mg mb s.heap) (e : nsIn K mainGlobals x = some none) (hv : bootBuiltins x = some v) (hn : x ≠ "__name__") (h : Q v s) (hgl : (compEnvC scope cl C env).globals = mainGlobals) (hbl : (compEnvC scope cl C env).builtins = builtinsNs)
    (hk : (compEnvC scope cl C env).scope.kind = .function := by rfl) (hx : (compEnvC scope cl C env).kindOf x = some .globalImplicit := by rfl) (hd : (x == ("__debug__" : Str)) = false := by decide) :
    wpAny M A (eval (.Name x pos) (compEnvC scope cl C env)) Q E s :=
  Name_function_global hk hx (loadGlobal_builtin (env := compEnvC scope cl C env) (hgl ▸ T.g) (mg_none_of X T.g e) (hbl ▸ T.b) ((T.builtins x hn).trans hv) h) hd
end

theorem forIn_one {M : Model} {A : Around} {E : Value → Shared → Prop} {s : Shared} {env : Env} {c : Expr} {Q : Bool → Shared → Prop} (h : wpAny M A (isTrue c env (eval c env)) (fun ok s' => Q ok s') E s) :
    wpAny M A (forIn [c] true fun c r => if r = true then do let ok ← isTrue c env (eval c env); pure (ForInStep.yield ok) else pure (ForInStep.yield r)) Q E s := by
  rw [List.forIn_cons, if_pos rfl]
  refine wpAny_bind (wpAny_bind (wpAny_mono h (fun ok s' q => wpAny_pure ?_) fun _ _ q => q))
  dsimp only
  rw [List.forIn_nil]
  exact wpAny_pure q
theorem forIn_none {M : Model} {A : Around} {E : Value → Shared → Prop} {s : Shared} {env : Env} {Q : Bool → Shared → Prop} (h : Q true s) :
    wpAny M A (forIn ([] : List Expr) true fun c r => if r = true then do let ok ← isTrue c env (eval c env); pure (ForInStep.yield ok) else pure (ForInStep.yield r)) Q E s := by
  rw [List.forIn_nil]
  exact wpAny_pure h

end Mine

open PySem PySem.W PyProof.Rows PySem.Calls
set_option Elab.async false
set_option maxRecDepth 100000
namespace Mine

def clipN (i : Int) (n : Nat) : Nat := (max 0 (min (if i < 0 then i + n else i) (n : Int))).toNat
def loN (l : Option Int) (n : Nat) : Nat := match l with | none => 0 | some i => clipN i n
def hiN (u : Option Int) (n : Nat) : Nat := match u with | none => n | some i => clipN i n
theorem clipN_le (i : Int) (n : Nat) : clipN i n ≤ n := by unfold clipN; omega
theorem clipN_cast (i : Int) (n : Nat) : (clipN i n : Int) = max 0 (min (if i < 0 then i + n else i) (n : Int)) := by unfold clipN; omega
theorem loN_le (l : Option Int) (n : Nat) : loN l n ≤ n := by cases l with | none => exact Nat.zero_le _ | some i => exact clipN_le i n
theorem hiN_le (l : Option Int) (n : Nat) : hiN l n ≤ n := by cases l with | none => exact Nat.le_refl _ | some i => exact clipN_le i n
theorem indices_eq (l u : Option Int) (n : Nat) : Builtin.Str.strSliceIndices l u 1 n = Builtin.Str.strSliceIndices (some (loN l n : Int)) (some (hiN u n : Int)) 1 n := by
  have h1 := loN_le l n
  have h2 := hiN_le u n
  have e1 : ¬ ((loN l n : Int) < 0) := by omega
  have e2 : ¬ ((hiN u n : Int) < 0) := by omega
  have e3 : max (0 : Int) (min (loN l n : Int) (n : Int)) = loN l n := by omega
  have e4 : max (0 : Int) (min (hiN u n : Int) (n : Int)) = hiN u n := by omega
  simp only [Builtin.Str.strSliceIndices, e1, e2, if_false, e3, e4, show ((1 : Int) > 0) = True from by simp, if_true]
  congr 1
  · cases l with
    | none => rfl
    | some i => exact (clipN_cast i n).symm
  · cases u with
    | none => rfl
    | some i => exact (clipN_cast i n).symm
theorem slice_toList (x : Str) (l u : Option Int) : (Txt.slice x l u).cps.toList = (x.cps.toList.drop (loN l x.length)).take (hiN u x.length - loN l x.length) := by
  have h1 := loN_le l x.length
  have h2 := hiN_le u x.length
  have hx : x.cps.toList.length = x.length := by simp [Str.length]
  have key : (Builtin.Str.strSliceIndices l u 1 x.length).filterMap (x.cps[·]?) = (x.cps.toList.drop (loN l x.length)).take (hiN u x.length - loN l x.length) := by
    rw [indices_eq]
    by_cases hab : loN l x.length ≤ hiN u x.length
    · exact StrLaws.sliced_plain x hab h2
    · have e : Builtin.Str.strSliceIndices (some (loN l x.length : Int)) (some (hiN u x.length : Int)) 1 x.length = [] := by
        have e1 : ¬ ((loN l x.length : Int) < 0) := by omega
        have e2 : ¬ ((hiN u x.length : Int) < 0) := by omega
        have e3 : max (0 : Int) (min (loN l x.length : Int) (x.length : Int)) = loN l x.length := by omega
        have e4 : max (0 : Int) (min (hiN u x.length : Int) (x.length : Int)) = hiN u x.length := by omega
        have e5 : ¬ ((loN l x.length : Int) < (hiN u x.length : Int)) := by omega
        simp only [Builtin.Str.strSliceIndices, sliceRange, e1, e2, if_false, e3, e4, e5, show ((1 : Int) > 0) = True from by simp, if_true]
        simp
      have e0 : hiN u x.length - loN l x.length = 0 := by omega
      rw [e, e0, List.take_zero]
      rfl
  unfold Txt.slice
  split
  · rename_i h
    have h' : (Builtin.Str.strSliceIndices l u 1 x.length).length = x.length := by simpa using h
    rw [← key]
    -- the indices are all the places
    rw [indices_eq] at h' ⊢
    have hab : loN l x.length ≤ hiN u x.length ∨ x.length = 0 := by
      by_cases q : loN l x.length ≤ hiN u x.length
      · exact .inl q
      · right
        have e1 : ¬ ((loN l x.length : Int) < 0) := by omega
        have e2 : ¬ ((hiN u x.length : Int) < 0) := by omega
        have e3 : max (0 : Int) (min (loN l x.length : Int) (x.length : Int)) = loN l x.length := by omega
        have e4 : max (0 : Int) (min (hiN u x.length : Int) (x.length : Int)) = hiN u x.length := by omega
        have e5 : ¬ ((loN l x.length : Int) < (hiN u x.length : Int)) := by omega
        simp only [Builtin.Str.strSliceIndices, sliceRange, e1, e2, if_false, e3, e4, e5, show ((1 : Int) > 0) = True from by simp, if_true] at h'
        simpa using h'.symm
    have hab' : loN l x.length ≤ hiN u x.length := by omega
    have h0 := StrLaws.sliced_plain x hab' h2
    rw [StrLaws.strSliceIndices_plain hab' h2, List.length_map, List.length_range] at h'
    rw [h0]
    have q1 : loN l x.length = 0 := by omega
    rw [q1, List.drop_zero, List.take_of_length_le (by omega)]
  · rw [key]

section
variable {M : Model} {A : Around} {E : Value → Shared → Prop} {s : Shared} {x : Str} {t : Tok} {value slice : Expr} {Q : Value → Shared → Prop} {prog : Program} {w : World}
theorem sliceP_ss {i j : Int} {ui uj : Tok} (h : ∀ h' t' k, (∀ b o, s.heap.get? b = some o → h'.get? b = some o) → Q (.str (Txt.slice x (some i) (some j)) t') { s with heap := h', toks := k }) (hsz : x.length ≤ sizeLine)
    (hs : subscripted slice false (.str x t) (.ref s.heap.objs.size) = operate [.ref s.heap.objs.size, .str x t] (getItem (.str x t) (.ref s.heap.objs.size)) := by with_unfolding_all rfl)
    (ht : ∀ r, letTemporaryGo value (.str x t) r = pure () := by intro _; with_unfolding_all rfl) :
    wpAny (model prog w) A (subscriptTail value slice (.str x t) (.ref s.heap.objs.size)) Q E { s with heap := s.heap.push { cls := .type "slice", data := .fields #[.int i ui, .int j uj, .none] } } :=
  tail_of_ItemOn (SBH.sliceItem_ss (P := fun h' => ∀ b o, s.heap.get? b = some o → h'.get? b = some o) (fun _ _ hp b o e => Heap.get?_push_of_some _ (hp b o e)) (fun _ _ e => e) h hsz) hs ht
theorem sliceP_ns {j : Int} {uj : Tok} (h : ∀ h' t' k, (∀ b o, s.heap.get? b = some o → h'.get? b = some o) → Q (.str (Txt.slice x none (some j)) t') { s with heap := h', toks := k }) (hsz : x.length ≤ sizeLine)
    (hs : subscripted slice false (.str x t) (.ref s.heap.objs.size) = operate [.ref s.heap.objs.size, .str x t] (getItem (.str x t) (.ref s.heap.objs.size)) := by with_unfolding_all rfl)
    (ht : ∀ r, letTemporaryGo value (.str x t) r = pure () := by intro _; with_unfolding_all rfl) :
    wpAny (model prog w) A (subscriptTail value slice (.str x t) (.ref s.heap.objs.size)) Q E { s with heap := s.heap.push { cls := .type "slice", data := .fields #[.none, .int j uj, .none] } } :=
  tail_of_ItemOn (SBH.sliceItem_ns (P := fun h' => ∀ b o, s.heap.get? b = some o → h'.get? b = some o) (fun _ _ hp b o e => Heap.get?_push_of_some _ (hp b o e)) (fun _ _ e => e) h hsz) hs ht
theorem sliceP_sn {i : Int} {ui : Tok} (h : ∀ h' t' k, (∀ b o, s.heap.get? b = some o → h'.get? b = some o) → Q (.str (Txt.slice x (some i) none) t') { s with heap := h', toks := k }) (hsz : x.length ≤ sizeLine)
    (hs : subscripted slice false (.str x t) (.ref s.heap.objs.size) = operate [.ref s.heap.objs.size, .str x t] (getItem (.str x t) (.ref s.heap.objs.size)) := by with_unfolding_all rfl)
    (ht : ∀ r, letTemporaryGo value (.str x t) r = pure () := by intro _; with_unfolding_all rfl) :
    wpAny (model prog w) A (subscriptTail value slice (.str x t) (.ref s.heap.objs.size)) Q E { s with heap := s.heap.push { cls := .type "slice", data := .fields #[.int i ui, .none, .none] } } :=
  tail_of_ItemOn (SBH.sliceItem_sn (P := fun h' => ∀ b o, s.heap.get? b = some o → h'.get? b = some o) (fun _ _ hp b o e => Heap.get?_push_of_some _ (hp b o e)) (fun _ _ e => e) h hsz) hs ht
end

theorem clipN_nat (a n : Nat) : clipN (a : Int) n = min a n := by unfold clipN; omega
theorem slice_is {x k : Str} {a : Nat} : (Txt.slice x (some (a : Int)) (some ((a : Int) + (k.length : Int))) == k) = k.cps.toList.isPrefixOf (x.cps.toList.drop a) := by
  have hx : x.cps.toList.length = x.length := by simp [Str.length]
  have hk : k.cps.toList.length = k.length := by simp [Str.length]
  have h := slice_toList x (some (a : Int)) (some ((a : Int) + (k.length : Int)))
  have e : ((a : Int) + (k.length : Int)) = ((a + k.length : Nat) : Int) := by omega
  simp only [loN, hiN] at h
  rw [e, clipN_nat, clipN_nat] at h
  rw [e]
  have h2 : (x.cps.toList.drop (min a x.length)).take (min (a + k.length) x.length - min a x.length) = (x.cps.toList.drop a).take k.length := by
    by_cases q : a ≤ x.length
    · rw [Nat.min_eq_left q]
      by_cases q2 : a + k.length ≤ x.length
      · rw [Nat.min_eq_left q2]; congr 1; omega
      · rw [Nat.min_eq_right (by omega), List.take_of_length_le (by rw [List.length_drop]; omega), List.take_of_length_le (by rw [List.length_drop]; omega)]
    · rw [Nat.min_eq_right (by omega), List.drop_eq_nil_of_le (by omega), List.drop_eq_nil_of_le (by omega)]
      simp
  rw [h2] at h
  generalize Txt.slice x (some (a : Int)) (some ((a + k.length : Nat) : Int)) = y at h
  rw [Bool.eq_iff_iff, beq_iff_eq, List.isPrefixOf_iff_prefix]
  constructor
  · rintro rfl
    rw [h]
    exact List.take_prefix _ _
  · intro hp
    have : y.cps.toList = k.cps.toList := by
      rw [h, ← hk]
      exact (List.prefix_iff_eq_take.mp hp).symm
    cases y; cases k
    simp only [Str.mk.injEq]
    exact Array.toList_inj.mp this

theorem paired_eq {a b : List Value} (h : Paired Eq a b) : a = b := by
  induction h with
  | nil => rfl
  | cons h _ ih => rw [h, ih]
theorem Txts.tail {v : Value} {x : Str} {vs : List Value} {xs : List Str} (h : Txts (v :: vs) (x :: xs)) : (∃ t, v = .str x t) ∧ Txts vs xs := by
  refine ⟨?_, by have := h.1; simpa using this, fun i y hy => ?_⟩
  · obtain ⟨t, ht⟩ := h.2 0 x rfl
    exact ⟨t, by simpa using ht⟩
  · obtain ⟨t, ht⟩ := h.2 (i + 1) y (by simpa using hy)
    exact ⟨t, by simpa using ht⟩
theorem Txts.cons {x : Str} {t : Tok} {vs : List Value} {xs : List Str} (h : Txts vs xs) : Txts (.str x t :: vs) (x :: xs) := by
  refine ⟨by simp [h.1], fun i y hy => ?_⟩
  cases i with
  | zero =>
    simp at hy
    subst hy
    exact ⟨t, rfl⟩
  | succ i =>
    obtain ⟨u, hu⟩ := h.2 i y (by simpa using hy)
    exact ⟨u, by simpa using hu⟩
theorem Txts.filter {p : Value → Bool} {q : Str → Bool} (hpq : ∀ x t, p (.str x t) = q x) : ∀ {xs : List Str} {vs : List Value}, Txts vs xs → Txts (vs.filter p) (xs.filter q)
  | [], [], _ => Txts.nil
  | [], _ :: _, h => by have := h.1; simp at this
  | _ :: _, [], h => by have := h.1; simp at this
  | x :: xs, v :: vs, h => by
    obtain ⟨⟨t, rfl⟩, h'⟩ := h.tail
    have ih := Txts.filter hpq h'
    rw [List.filter_cons, List.filter_cons, hpq]
    cases q x with
    | true => exact ih.cons
    | false => exact ih
theorem after_comp {h₀ h h' : Heap} {L Dh : Addr} {m m' : Str → Option Value} {news : List (Addr × Obj)} {o oI : Obj} (F : Fr h₀ L h m) (N : News h₀ L h news) (hn : h'.Ns L m') (hD : (h.push oI).get? Dh = none) (ho : h'.get? Dh = some o)
    (hk : ∀ b o, b ≠ L → b ∉ [h.objs.size] → (h.push oI).get? b = some o → h'.get? b = some o) : Fr h₀ L h' m' ∧ News h₀ L h' ((Dh, o) :: news) ∧ (∀ p ∈ news, p.1 ≠ Dh) ∧ Dh ≠ L := by
  have up : ∀ b o, b ≠ L → h.get? b = some o → h'.get? b = some o := fun b o hb e => hk b o hb (by rw [List.mem_singleton]; exact Nat.ne_of_lt (Heap.lt_size e)) (Heap.get?_push_of_some _ e)
  have hL : ∀ o, h₀.get? L ≠ some o := fun o e => absurd (Nat.lt_of_lt_of_le (Heap.lt_size e) F.above) (Nat.lt_irrefl _)
  have hno : ∀ b o, h.get? b = some o → b ≠ Dh := fun b o e q => by
    rw [q] at e
    have := Heap.get?_push_of_some oI e
    rw [hD] at this
    cases this
  have hDL : Dh ≠ L := by
    obtain ⟨oL, _, _, e, _⟩ := F.ns
    exact fun q => hno L oL e q.symm
  refine ⟨⟨hn, fun b o e => up b o (fun q => hL o (q ▸ e)) (F.keep b o e), F.above⟩, fun p hp => ?_, fun p hp => hno _ _ (N p hp).1, hDL⟩
  rcases List.mem_cons.mp hp with rfl | hp
  · refine ⟨ho, hDL, ?_⟩
    cases e : h₀.get? Dh with
    | none => rfl
    | some o' => exact absurd rfl (hno _ _ (F.keep _ _ e))
  · exact ⟨up _ _ (N p hp).2.1 (N p hp).1, (N p hp).2⟩

section
open PySem.Spec PySem.SeqAt
theorem readsAll_txts {h : Heap} : ∀ {vs : List Value} {xs : List Str}, Txts vs xs → ReadsAll h vs (xs.map PyData.str) []
  | [], [], _ => .nil
  | [], _ :: _, q => by have := q.1; simp at this
  | _ :: _, [], q => by have := q.1; simp at this
  | v :: vs, x :: xs, q => by
    obtain ⟨⟨t, rfl⟩, q'⟩ := q.tail
    have := ReadsAll.cons (Reads.str (h := h) x t) (readsAll_txts (h := h) q')
    simpa using this
theorem reads_txts {h : Heap} {a : Addr} {ys : Array Value} {n : Nat} {xs : List Str} (hl : h.get? a = some (W.listOf ys n)) (q : TxtA ys xs) : Reads h (.ref a) (.list (xs.map PyData.str)) [a] :=
  Reads.list hl rfl rfl (readsAll_txts q)
theorem canLayAll0_strs : ∀ ns : List Str, (∀ x ∈ ns, PyData.strOk x = true) → PyData.canLayAll0 (ns.map PyData.str) = true
  | [], _ => by simp [PyData.canLayAll0]
  | n :: r, h => by simp [PyData.canLayAll0, PyData.canLay0, h n (List.mem_cons_self ..), canLayAll0_strs r fun x hx => h x (List.mem_cons_of_mem _ hx)]
theorem depthAll_strs : ∀ ns : List Str, PyData.depthAll (ns.map PyData.str) ≤ 1
  | [] => by simp [PyData.depthAll]
  | n :: r => by
    have := depthAll_strs r
    simp only [List.map_cons, PyData.depthAll, PyData.depth]
    omega
theorem shaped_strs (ns : List Str) (hok : ∀ x ∈ ns, PyData.strOk x = true) : shaped (.list (ns.map PyData.str)) = true := by
  have h1 := depthAll_strs ns
  have h2 : PyData.depth (.list (ns.map PyData.str)) ≤ 64 := by simp only [PyData.depth]; omega
  show (PyData.canLay0 (.list (ns.map PyData.str)) && decide (PyData.depth (.list (ns.map PyData.str)) ≤ 64)) = true
  rw [Bool.and_eq_true]
  exact ⟨by simp only [PyData.canLay0]; exact canLayAll0_strs ns hok, decide_eq_true h2⟩
theorem eqv_strs : ∀ ns ms : List Str, PyData.eqvAll (ns.map PyData.str) (ms.map PyData.str) = decide (ns = ms)
  | [], [] => by simp [PyData.eqvAll]
  | [], _ :: _ => by simp [PyData.eqvAll]
  | _ :: _, [] => by simp [PyData.eqvAll]
  | n :: r, k :: q => by
    simp only [List.map_cons, PyData.eqvAll, PyData.eqv, eqv_strs r q]
    by_cases h : n = k <;> by_cases h' : r = q <;> simp [h, h']
variable {prog : Program} {w : World} {A : Around} {E : Value → Shared → Prop} {s : Shared}
theorem eq_txts {a b : Addr} {ys zs : Array Value} {n m : Nat} {ns ms : List Str} {Q : Value → Shared → Prop} (hl : s.heap.get? a = some (W.listOf ys n)) (hi : TxtA ys ns) (hl' : s.heap.get? b = some (W.listOf zs m)) (hi' : TxtA zs ms) (ok1 : ∀ x ∈ ns, PyData.strOk x = true) (ok2 : ∀ x ∈ ms, PyData.strOk x = true) (hu : A.units + 64 < cLine)
    (h : Q (.bool (decide (ns = ms))) s) : wpAny (model prog w) A (compareOp .Eq (.ref a) (.ref b)) Q E s :=
  eq_dataH (reads_txts hl hi) (reads_txts hl' hi') (shaped_strs ns ok1) (shaped_strs ms ok2) hu (by simp only [PyData.eqv]; rw [eqv_strs]; exact h)
theorem ne_txts {a b : Addr} {ys zs : Array Value} {n m : Nat} {ns ms : List Str} {Q : Value → Shared → Prop} (hl : s.heap.get? a = some (W.listOf ys n)) (hi : TxtA ys ns) (hl' : s.heap.get? b = some (W.listOf zs m)) (hi' : TxtA zs ms) (ok1 : ∀ x ∈ ns, PyData.strOk x = true) (ok2 : ∀ x ∈ ms, PyData.strOk x = true) (hu : A.units + 64 < cLine)
    (h : Q (.bool (!decide (ns = ms))) s) : wpAny (model prog w) A (compareOp .NotEq (.ref a) (.ref b)) Q E s :=
  ne_dataH (reads_txts hl hi) (reads_txts hl' hi') (shaped_strs ns ok1) (shaped_strs ms ok2) hu (by simp only [PyData.eqv]; rw [eqv_strs]; exact h)
end

theorem strsAre_of : ∀ {vs : List Value} {xs : List Str}, Txts vs xs → StrsAre vs xs
  | [], [], _ => .nil
  | [], _ :: _, q => by have := q.1; simp at this
  | _ :: _, [], q => by have := q.1; simp at this
  | v :: vs, x :: xs, q => by
    obtain ⟨⟨t, rfl⟩, q'⟩ := q.tail
    exact .cons x t (strsAre_of q')
section
open PySem.Spec PyProof.V
variable {prog : Program} {w : World} {A : Around} {E : Value → Shared → Prop} {s : Shared}
theorem join_E {a : Addr} {ys : Array Value} {n : Nat} {xs : List Str} {x : Str} {t : Tok} {Q : Value → Shared → Prop} (hl : s.heap.get? a = some (W.listOf ys n)) (hi : TxtA ys xs) (hok : (xs.map (·.length)).sum + xs.length * x.length ≤ 16777216)
    (h : ∀ t' k, Q (.str (Txt.join x xs) t') { s with toks := k }) : wpAny (model prog w) A (call (.builtin "str.join") [.str x t, .ref a]) Q E s :=
  join_list ⟨_, hl, rfl, _, rfl⟩ (strsAre_of hi) hok h
theorem item_L {a : Addr} {ys : Array Value} {n : Nat} {k : Int} {u : Tok} {v : Value} {value slice : Expr} {Q : Value → Shared → Prop} (hl : s.heap.get? a = some (W.listOf ys n)) (h0 : 0 ≤ k) (h1 : k < 2 ^ 63) (hx : ys[k.toNat]? = some v) (h : Q v s)
    (hs : subscripted slice false (.ref a) (.int k u) = operate [.ref a, .int k u] (getItem (.ref a) (.int k u)) := by with_unfolding_all rfl) :
    wpAny (model prog w) A (subscriptTail value slice (.ref a) (.int k u)) Q E s :=
  have hL : s.heap.IsList a ys := ⟨_, hl, rfl, _, rfl⟩
  tail_any hL.typeIs PySem.F.slot_list_getitem.lookup (wpAny_getItem_list hL h0 h1 hx h) hs
theorem flat_E (es : List Ent) : FlatPairs PyData.str (es.map fun e => (e.k, Value.str e.v e.vt)) (es.map fun e => (PyData.str e.k, PyData.str e.v)) := by
  induction es with
  | nil => exact .nil
  | cons e r ih => exact .cons (Flat.str e.v e.vt) ih
theorem tab_E {h : Heap} {d : Addr} {es : List Ent} {ep : Nat} (hd : h.get? d = some (dictO w es ep)) (hn : (es.map Ent.k).Nodup) (hs : (d == sysModules) = false) :
    TabAt (strKind prog w) PyData.str h d (es.map fun e => (PyData.str e.k, PyData.str e.v)) := ⟨hs, _, (dictAt_E (prog := prog) hd hn).dictOf, flat_E es⟩
theorem lookup_E (x : Str) : ∀ es : List Ent, PySem.Spec.lookup (.str x) (es.map fun e => (PyData.str e.k, PyData.str e.v)) = (es.find? fun e => decide (e.k = x)).map fun e => .str e.v
  | [] => by simp [PySem.Spec.lookup]
  | e :: r => by
    rw [List.map_cons, PySem.Spec.lookup, List.find?_cons]
    by_cases h : e.k = x
    · simp [h, PySem.Spec.same]
    · have h' : same (PyData.str e.k) (PyData.str x) = false := by simp [PySem.Spec.same, h]
      rw [h', decide_eq_false h]
      simp only [Bool.false_eq_true, if_false]
      exact lookup_E x r
end

theorem find_const (x : Str) : ∀ (l : List (Str × Str)) (tk : Nat), ((constEnts tk l).find? fun e => decide (e.k = x)).map (fun e => PyData.str e.v) = (l.find? fun p => decide (p.1 = x)).map fun p => PyData.str p.2
  | [], _ => rfl
  | p :: r, tk => by
    rw [constEnts, List.find?_cons, List.find?_cons]
    by_cases h : p.1 = x
    · simp [h]
    · simp only [h, decide_false]
      exact find_const x r _
theorem item_D {prog : Program} {w : World} {A : Around} {E : Value → Shared → Prop} {s : Shared} {d : Addr} {es : List Ent} {ep : Nat} {x v : Str} {t : Tok} {value slice : Expr} {Q : Value → Shared → Prop} (hd : s.heap.get? d = some (dictO w es ep)) (hn : (es.map Ent.k).Nodup) (hds : (d == sysModules) = false)
    (hl : PySem.Spec.lookup (.str x) (es.map fun e => (PyData.str e.k, PyData.str e.v)) = some (.str v)) (h : ∀ t', Q (.str v t') { s with toks := s.toks + 1 })
    (hs : subscripted slice false (.ref d) (.str x t) = operate [.ref d, .str x t] (getItem (.ref d) (.str x t)) := by with_unfolding_all rfl) (hg : ∀ r, letTemporaryGo value (.ref d) r = pure () := by intro _; with_unfolding_all rfl) :
    wpAny (model prog w) A (subscriptTail value slice (.ref d) (.str x t)) Q E s :=
  item_strTab (tab_E hd hn hds) hl (fun v hv => by obtain ⟨t', e⟩ := hv.str_inv; subst e; exact h t') hs hg

theorem news_sub {h₀ h : Heap} {L : Addr} {news news' : List (Addr × Obj)} (N : News h₀ L h news) (hs : ∀ p ∈ news', p ∈ news) : News h₀ L h news' := fun p hp => N p (hs p hp)
theorem sum_snoc (xs : List Str) (x : Str) : ((xs ++ [x]).map (·.length)).sum = (xs.map (·.length)).sum + x.length := by simp
end Mine

open PySem PySem.W PyProof.Rows PySem.Calls
set_option Elab.async false
set_option maxRecDepth 100000
namespace Mine

def TurnL (h₀ : Heap) (L : Addr) (own : Addr × Obj) (as : List Addr) (P : (Str → Option Value) → List (Addr × Obj) → Nat → Prop) (R : Result → Shared → Prop) (s₁ : Shared) (f : Flow) (s₂ : Shared) : Prop := match f with
  | .next | .cont => ∃ h' tk m' news', s₂ = { s₁ with heap := h', toks := tk } ∧ Fr h₀ L h' m' ∧ News h₀ L h' (own :: news') ∧ news'.map (·.1) = as ∧ P m' news' tk
  | .brk => R (.ok .next) s₂
  | .ret v => R (.ok (.ret v)) s₂

section
variable {prog : Program} {w : World} {A : Around} {E : Value → Shared → Prop} {s : Shared} {env : Env} {h₀ : Heap}
/-- a for loop over a list that lies -/
theorem for_list_E {R : Result → Shared → Prop} {x : Str} {px : Pos} {body : List Stmt} {l : Addr} {items : Array Value} {nl : Nat} {m : Str → Option Value} {news : List (Addr × Obj)}
    (hh : A.handled = none) (hx : env.kindOf x = some .local)
    (hp : (env.scope.kind == .class || (env.scope.kind == .module && env.locals != env.globals)) = false)
    (F : Fr h₀ env.locals s.heap m) (N : News h₀ env.locals s.heap news) (htk : 1 ≤ s.toks)
    (hl : (l, W.listOf items nl) ∈ news)
    (P : Nat → (Str → Option Value) → List (Addr × Obj) → Nat → Prop) (hP0 : P 0 m news s.toks) (hPl : ∀ i m' news' tk, P i m' news' tk → (l, W.listOf items nl) ∈ news')
    (step : ∀ i v m₁ h tk news' own, items[i]? = some v → P i m₁ news' tk → 1 ≤ tk → news'.map (·.1) = news.map (·.1) → (∀ p ∈ news', p.1 ≠ own.1) → Fr h₀ env.locals h (fun y => if y = x then some v else m₁ y) → News h₀ env.locals h (own :: news') →
      wpAny (model prog w) A (execs body env) (TurnL h₀ env.locals own (news.map (·.1)) (P (i + 1)) R { s with heap := h, toks := tk + 1 }) (fun _ _ => False) { s with heap := h, toks := tk + 1 })
    (hR : ∀ h' tk m' news', P items.size m' news' tk → 1 ≤ tk → news'.map (·.1) = news.map (·.1) → Fr h₀ env.locals h' m' → News h₀ env.locals h' news' → R (.ok .next) { s with heap := h', toks := tk }) :
    wpAny (model prog w) A (pyIter (.ref l)) (fun it s₂ => codeAny (model prog w) A (.forLoop (.Name x px) it body [] env) R s₂) E s := by
  have hlA : s.heap.IsList l items := ⟨_, (N _ hl).1, rfl, _, rfl⟩
  refine wpAny_pyIter_list hlA ?_
  have hIL : s.heap.objs.size ≠ env.locals := Nat.ne_of_gt F.ns.lt
  have hI0 : h₀.get? s.heap.objs.size = none := by
    cases e : h₀.get? s.heap.objs.size with
    | none => rfl
    | some o' => exact absurd (Heap.lt_size (F.keep _ _ e)) (Nat.lt_irrefl _)
  have hnI : ∀ p ∈ news, p.1 ≠ s.heap.objs.size := fun p hp => Nat.ne_of_lt (Heap.lt_size (N p hp).1)
  have hnI' : ∀ news' : List (Addr × Obj), news'.map (·.1) = news.map (·.1) → ∀ p ∈ news', p.1 ≠ s.heap.objs.size := fun news' ha p hp => by
    have : p.1 ∈ news.map (·.1) := ha ▸ List.mem_map.mpr ⟨p, hp, rfl⟩
    obtain ⟨q, hq, e⟩ := List.mem_map.mp this
    exact e ▸ hnI q hq
  have hlI : l ≠ s.heap.objs.size := hnI _ hl
  generalize hI : s.heap.objs.size = I at hIL hI0 hnI hnI' hlI
  refine codeAny_forLoop
    (fun k s' => ∃ h' tk m' news' i, s' = { s with heap := h', toks := tk } ∧ h'.IsListIter I l i ∧ Fr h₀ env.locals h' m' ∧ News h₀ env.locals h' news' ∧ news'.map (·.1) = news.map (·.1) ∧ P i m' news' tk ∧ i ≤ items.size ∧ k = items.size + 1 - i ∧ 1 ≤ tk) ?_ (items.size + 1)
    ⟨s.heap.push _, s.toks, m, news, 0, rfl, ⟨_, hI ▸ Heap.get?_push_size _ rfl, rfl, rfl⟩, F.push _, fun p hp => ⟨Heap.get?_push_of_some _ (N p hp).1, (N p hp).2⟩, rfl, hP0, Nat.zero_le _, rfl, htk⟩
  rintro k s' ⟨h', tk, m', news', i, rfl, hit, F', N', ha, hP, hi, rfl, htk'⟩
  have hl' : h'.IsList l items := ⟨_, (N' _ (hPl _ _ _ _ hP)).1, rfl, _, rfl⟩
  cases hv : items[i]? with
  | none =>
    have hsz : i = items.size := Nat.le_antisymm hi (by simpa using hv)
    refine wpAny_pyNext_list_end hh hit hl' hv fun h₁ he₁ => wpAny_execs_nil ?_
    have k1 : ∀ b o, b ≠ I → h'.get? b = some o → h₁.get? b = some o := fun b o hb e => he₁ b o hb e
    exact hR h₁ tk m' news' (hsz ▸ hP) htk' ha ⟨F'.ns.at' fun o e => k1 _ o (Ne.symm hIL) e, fun b o e => k1 b o (fun q => by rw [q, hI0] at e; cases e) (F'.keep b o e), F'.above⟩
      (fun p hp => ⟨k1 _ _ (hnI' news' ha p hp) (N' p hp).1, (N' p hp).2⟩)
  | some v =>
    have hlt : i < items.size := (Array.getElem?_eq_some_iff.mp hv).1
    refine wpAny_pyNext_list_item hit hl' hv fun h₁ hit₁ hs₁ => ?_
    have k1 : ∀ b o, b ≠ I → h'.get? b = some o → h₁.get? b = some o := fun b o hb e => hs₁.extBut b o hb e
    have F1 : Fr h₀ env.locals h₁ m' := ⟨F'.ns.at' fun o e => k1 _ o (Ne.symm hIL) e, fun b o e => k1 b o (fun q => by rw [q, hI0] at e; cases e) (F'.keep b o e), F'.above⟩
    have N1 : News h₀ env.locals h₁ news' := fun p hp => ⟨k1 _ _ (hnI' news' ha p hp) (N' p hp).1, (N' p hp).2⟩
    refine wpAny_assign_Name (wpAny_storeName_local hx F1.ns (fun h₂ hn₂ hs₂ => ?_) hp)
    obtain ⟨oI, hoI, hc, hd⟩ := hit₁
    have N2 : News h₀ env.locals h₂ ((I, oI) :: news') := fun p hp => by
      rcases List.mem_cons.mp hp with rfl | hp
      · exact ⟨(hs₂.2 I hIL).trans hoI, hIL, hI0⟩
      · exact N1.set hs₂ p hp
    refine wpAny_with_toks (n := 1) (Nat.le_succ_of_le htk') (wpAny_mono (step i v m' h₂ tk news' _ hv hP htk' ha (hnI' news' ha) (F1.set hn₂ hs₂) N2) (fun f s₃ q htk6 => ?_) fun _ _ q => q.elim)
    cases f with
    | brk => exact q
    | ret v => exact q
    | next =>
      obtain ⟨h6, tk6, m6, news6, rfl, F6, N6, ha6, P6⟩ := q
      exact ⟨items.size + 1 - (i + 1), by omega, h6, tk6, m6, news6, i + 1, rfl, ⟨_, (N6 _ (List.mem_cons_self ..)).1, hc, hd⟩, F6, fun p hp => N6 p (List.mem_cons_of_mem _ hp), ha6, P6, hlt, rfl, htk6⟩
    | cont =>
      obtain ⟨h6, tk6, m6, news6, rfl, F6, N6, ha6, P6⟩ := q
      exact ⟨items.size + 1 - (i + 1), by omega, h6, tk6, m6, news6, i + 1, rfl, ⟨_, (N6 _ (List.mem_cons_self ..)).1, hc, hd⟩, F6, fun p hp => N6 p (List.mem_cons_of_mem _ hp), ha6, P6, hlt, rfl, htk6⟩
end

section
variable {prog : Program} {w : World} {A : Around} {E : Value → Shared → Prop} {s : Shared} {x : Str} {t : Tok} {value slice : Expr} {Q : Value → Shared → Prop}
theorem sliceT_ss {i j : Int} {ui uj : Tok} (htk : 1 ≤ s.toks) (h : ∀ h' t' k, 1 ≤ k → (∀ b o, s.heap.get? b = some o → h'.get? b = some o) → Q (.str (Txt.slice x (some i) (some j)) t') { s with heap := h', toks := k }) (hsz : x.length ≤ sizeLine)
    (hs : subscripted slice false (.str x t) (.ref s.heap.objs.size) = operate [.ref s.heap.objs.size, .str x t] (getItem (.str x t) (.ref s.heap.objs.size)) := by with_unfolding_all rfl)
    (ht : ∀ r, letTemporaryGo value (.str x t) r = pure () := by intro _; with_unfolding_all rfl) :
    wpAny (model prog w) A (subscriptTail value slice (.str x t) (.ref s.heap.objs.size)) Q E { s with heap := s.heap.push { cls := .type "slice", data := .fields #[.int i ui, .int j uj, .none] } } :=
  wpAny_with_toks (n := 1) htk (sliceP_ss (fun h' t' k hk q => h h' t' k q hk) hsz hs ht)
theorem sliceT_ns {j : Int} {uj : Tok} (htk : 1 ≤ s.toks) (h : ∀ h' t' k, 1 ≤ k → (∀ b o, s.heap.get? b = some o → h'.get? b = some o) → Q (.str (Txt.slice x none (some j)) t') { s with heap := h', toks := k }) (hsz : x.length ≤ sizeLine)
    (hs : subscripted slice false (.str x t) (.ref s.heap.objs.size) = operate [.ref s.heap.objs.size, .str x t] (getItem (.str x t) (.ref s.heap.objs.size)) := by with_unfolding_all rfl)
    (ht : ∀ r, letTemporaryGo value (.str x t) r = pure () := by intro _; with_unfolding_all rfl) :
    wpAny (model prog w) A (subscriptTail value slice (.str x t) (.ref s.heap.objs.size)) Q E { s with heap := s.heap.push { cls := .type "slice", data := .fields #[.none, .int j uj, .none] } } :=
  wpAny_with_toks (n := 1) htk (sliceP_ns (fun h' t' k hk q => h h' t' k q hk) hsz hs ht)
theorem sliceT_sn {i : Int} {ui : Tok} (htk : 1 ≤ s.toks) (h : ∀ h' t' k, 1 ≤ k → (∀ b o, s.heap.get? b = some o → h'.get? b = some o) → Q (.str (Txt.slice x (some i) none) t') { s with heap := h', toks := k }) (hsz : x.length ≤ sizeLine)
    (hs : subscripted slice false (.str x t) (.ref s.heap.objs.size) = operate [.ref s.heap.objs.size, .str x t] (getItem (.str x t) (.ref s.heap.objs.size)) := by with_unfolding_all rfl)
    (ht : ∀ r, letTemporaryGo value (.str x t) r = pure () := by intro _; with_unfolding_all rfl) :
    wpAny (model prog w) A (subscriptTail value slice (.str x t) (.ref s.heap.objs.size)) Q E { s with heap := s.heap.push { cls := .type "slice", data := .fields #[.int i ui, .none, .none] } } :=
  wpAny_with_toks (n := 1) htk (sliceP_sn (fun h' t' k hk q => h h' t' k q hk) hsz hs ht)
end
theorem slice_len (x : Str) (i j : Option Int) : (Txt.slice x i j).length ≤ x.length := by
  have h := slice_toList x i j
  have e : (Txt.slice x i j).cps.toList.length = (Txt.slice x i j).length := by simp [Str.length]
  have e2 : x.cps.toList.length = x.length := by simp [Str.length]
  rw [← e, ← e2, h, List.length_take, List.length_drop]
  omega
theorem news_fresh {h₀ h h' : Heap} {L a : Addr} {o : Obj} {m : Str → Option Value} {news : List (Addr × Obj)} (F : Fr h₀ L h m) (fa : h.get? a = none) (ga : h'.get? a = some o) (N : News h₀ L h' news) : News h₀ L h' ((a, o) :: news) := fun p hp => by
  rcases List.mem_cons.mp hp with rfl | hp
  · refine ⟨ga, fun q => ?_, ?_⟩
    · obtain ⟨oL, _, _, e, _⟩ := F.ns
      dsimp only at q
      rw [q, e] at fa
      cases fa
    · cases e : h₀.get? a with
      | none => rfl
      | some o' => rw [F.keep _ _ e] at fa; cases fa
  · exact N p hp
section
variable {prog : Program} {w : World} {A : Around} {E : Value → Shared → Prop} {s : Shared}
theorem in_E {a : Addr} {ys : Array Value} {n : Nat} {xs : List Str} {k : Str} {t : Tok} {Q : Value → Shared → Prop} (hl : s.heap.get? a = some (W.listOf ys n)) (hi : TxtA ys xs)
    (h : Q (.bool (xs.any (· == k))) s) : wpAny (model prog w) A (compareOp .In (.str k t) (.ref a)) Q E s :=
  in_list_strs (vs := ys.toList) ⟨_, hl, rfl, _, by rw [Array.toArray_toList]⟩ (strsAre_of hi) h
theorem notin_E {a : Addr} {ys : Array Value} {n : Nat} {xs : List Str} {k : Str} {t : Tok} {Q : Value → Shared → Prop} (hl : s.heap.get? a = some (W.listOf ys n)) (hi : TxtA ys xs)
    (h : Q (.bool (!(xs.any (· == k)))) s) : wpAny (model prog w) A (compareOp .NotIn (.str k t) (.ref a)) Q E s :=
  notin_list_strs (vs := ys.toList) ⟨_, hl, rfl, _, by rw [Array.toArray_toList]⟩ (strsAre_of hi) h
end
theorem TxtA.at {vr : Array Value} {xs : List Str} (h : TxtA vr xs) {j : Nat} {v : Value} (hv : vr[j]? = some v) : ∃ n t, xs[j]? = some n ∧ v = .str n t := by
  have hj : j < xs.length := by
    rw [← h.1, Array.length_toList]
    exact (Array.getElem?_eq_some_iff.mp hv).1
  obtain ⟨t, ht⟩ := h.2 j xs[j] (List.getElem?_eq_getElem hj)
  rw [Array.getElem?_toList, hv] at ht
  exact ⟨_, t, List.getElem?_eq_getElem hj, Option.some.inj ht⟩
theorem all_vs {vr : Array Value} {vs : List Value} (hlen : vs.length = vr.size) (hP : ∀ (j : Nat) v, vs[j]? = some v → vr[j]? = some v) : vs = vr.toList := by
  refine List.ext_getElem? fun j => ?_
  by_cases hj : j < vs.length
  · rw [List.getElem?_eq_getElem hj, Array.getElem?_toList]
    exact (hP j vs[j] (List.getElem?_eq_getElem hj)).symm
  · rw [List.getElem?_eq_none (by omega), List.getElem?_eq_none (by rw [Array.length_toList]; omega)]
theorem TxtA.all {ys : Array Value} {xs : List Str} {P : Str → Prop} (_ : TxtA ys xs) (h : ∀ x ∈ xs, P x) : ∀ x ∈ xs, P x := h
def AllB (B : Nat) : List Value → Prop
  | [] => True
  | v :: r => (∃ y t, v = .str y t ∧ y.length ≤ B) ∧ AllB B r
theorem AllB.at {B : Nat} : ∀ {l : List Value} (_ : AllB B l) {i : Nat} (_ : i < l.length), ∃ y t, l[i]? = some (.str y t) ∧ y.length ≤ B
  | [], _, i, hi => by simp at hi
  | v :: r, h, 0, _ => by
    obtain ⟨⟨y, t, rfl, hy⟩, _⟩ := h
    exact ⟨y, t, rfl, hy⟩
  | v :: r, h, i + 1, hi => by
    obtain ⟨y, t, e, hy⟩ := AllB.at h.2 (i := i) (by simpa using hi)
    exact ⟨y, t, by simpa using e, hy⟩
theorem item_T {prog : Program} {w : World} {A : Around} {E : Value → Shared → Prop} {s : Shared} {a : Addr} {ys : List Value} {n : Nat} {k : Int} {u : Tok} {B : Nat} {value slice : Expr} {Q : Value → Shared → Prop} (hl : s.heap.get? a = some (W.listOf ys.toArray n)) (hi : AllB B ys) (h0 : 0 ≤ k) (h1 : k < ys.length) (h2 : ys.length < 1000)
    (h : ∀ y t, y.length ≤ B → Q (.str y t) s)
    (hs : subscripted slice false (.ref a) (.int k u) = operate [.ref a, .int k u] (getItem (.ref a) (.int k u)) := by with_unfolding_all rfl) :
    wpAny (model prog w) A (subscriptTail value slice (.ref a) (.int k u)) Q E s := by
  obtain ⟨y, t, e, hy⟩ := hi.at (i := k.toNat) (by omega)
  exact item_L hl h0 (by omega) (by simpa using e) (h y t hy) hs
theorem ints_at {vs : List Value} {ns : List Int} (h : IntsAre vs ns) : ∀ {i : Nat} {v : Value}, vs[i]? = some v → ∃ n t, v = .int n t := by
  induction h with
  | nil => intro i v e; simp at e
  | cons n t _ ih =>
    intro i v e
    cases i with
    | zero => simp at e; exact ⟨_, _, e.symm⟩
    | succ i => exact ih (by simpa using e)
theorem ints_len {vs : List Value} {ns : List Int} (h : IntsAre vs ns) : vs.length = ns.length := by
  induction h with
  | nil => rfl
  | cons n t _ ih => simp [ih]
theorem turn_next {h₀ h h' : Heap} {L : Addr} {own : Addr × Obj} {as : List Addr} {P : (Str → Option Value) → List (Addr × Obj) → Nat → Prop} {R : Result → Shared → Prop} {g : Array GenState} {dr : Drawn} {os : OsState} {tk tk' : Nat} {m' : Str → Option Value} {news' all : List (Addr × Obj)}
    (F : Fr h₀ L h' m') (N : News h₀ L h' all) (hs : ∀ p ∈ own :: news', p ∈ all) (ha : news'.map (·.1) = as) (hP : P m' news' tk') : TurnL h₀ L own as P R ⟨h, g, dr, tk, os⟩ .next ⟨h', g, dr, tk', os⟩ :=
  ⟨h', tk', m', news', rfl, F, fun p hp => N p (hs p hp), ha, hP⟩
theorem chr_len {y : Str} {c : Nat} (h : y.length + (⟨#[c]⟩ : Str).length ≤ (y ++ ⟨#[c]⟩).length ∧ (y ++ ⟨#[c]⟩).length ≤ y.length + (⟨#[c]⟩ : Str).length) (hy : (y.length : Int) < 14) : (y ++ ⟨#[c]⟩).length ≤ 22 := by
  have e : (⟨#[c]⟩ : Str).length = 1 := rfl
  omega
theorem range_size (n : Nat) : Builtin.Range.rangeSize 0 (n : Int) 1 = n := by
  unfold Builtin.Range.rangeSize
  simp only [show (1 : Int) > 0 from by decide, if_true]
  split <;> omega
theorem range_small {n : Nat} (h : n ≤ 100000) : Builtin.Range.small 0 (n : Int) 1 = true := by
  unfold Builtin.Range.small
  rw [range_size]
  have f : ∀ i : Int, 0 ≤ i → i ≤ 100001 → Builtin.Range.rangeFitsLong i = true := fun i h0 h1 => by
    unfold Builtin.Range.rangeFitsLong
    rw [Bool.and_eq_true]
    exact ⟨decide_eq_true (by omega), decide_eq_true (by omega)⟩
  rw [f 0 (by omega) (by omega), f n (by omega) (by omega), f 1 (by omega) (by omega)]
  simp only [show (1 : Int) > 0 from by decide, if_true, f ((n : Int) + (1 - 1)) (by omega) (by omega)]
  simp
/-- a comprehension over range(n) -/
theorem iter_range {prog : Program} {w : World} {A : Around} {E : Value → Shared → Prop} {s : Shared} {r : Addr} {n : Nat} {t u v : Tok} {Q : Value → Shared → Prop} (hr : IsRange s.heap r 0 (n : Int) 1 t u v) (hn : n ≤ 100000)
    (h : ∀ o, (s.heap.push o).get? s.heap.objs.size = some o → IsRangeIter (s.heap.push o) s.heap.objs.size (0 + ((0 : Nat) : Int) * 1) ((n : Int) - ((0 : Nat) : Int)) 1 → Q (.ref s.heap.objs.size) { s with heap := s.heap.push o }) :
    wpAny (model prog w) A (pyIter (.ref r)) Q E s := by
  refine wpAny_pyIter_range hr (range_small hn) (h _ (Heap.get?_push_size _ rfl) ?_)
  rw [range_size]
  have e : (n : Int) - ((0 : Nat) : Int) = n := by omega
  rw [e]
  exact Heap.get?_push_size _ rfl
theorem AllB.of_paired {B : Nat} {vs ys : List Value} (h : Paired (fun _ y => ∃ s t, y = Value.str s t ∧ s.length ≤ B) vs ys) : AllB B ys := by
  induction h with
  | nil => trivial
  | cons h _ ih => exact ⟨h, ih⟩
theorem AllB.app {B : Nat} : ∀ {l r : List Value}, AllB B l → AllB B r → AllB B (l ++ r)
  | [], _, _, h => h
  | _ :: _, _, h, h' => ⟨h.1, AllB.app h.2 h'⟩
end Mine

open PySem PySem.W PyProof.Rows PySem.Calls
set_option Elab.async false
set_option maxRecDepth 100000
namespace Mine

def nameAt (l : List Nat) : Option (Str × Str) := namesT.find? fun p => p.1.cps.toList.isPrefixOf l
abbrev Rd := List Str × List Str × List Str
def readS : Nat → List Nat → Option Rd
  | _, [] => some ([], [], [])
  | k + 1, _ :: l => readS k l
  | 0, c :: l => if c = 38 then (match nameAt (c :: l) with
      | none => none
      | some p => (readS (p.1.length - 1) l).map fun q => (q.1, p.1 :: q.2.1, p.2 :: q.2.2))
    else (readS 0 l).map fun q => (⟨#[c]⟩ :: q.1, q.2.1, ⟨#[c]⟩ :: q.2.2)
def RI (X : List Nat) (i : Nat) (b r s : List Str) : Prop := i ≤ X.length ∧ readS 0 X = (readS 0 (X.drop i)).map fun q => (b ++ q.1, r ++ q.2.1, s ++ q.2.2)

theorem readS_skip : ∀ (k : Nat) (l : List Nat), readS k l = readS 0 (l.drop k)
  | 0, _ => rfl
  | k + 1, [] => by simp [readS]
  | k + 1, c :: l => by rw [readS, List.drop_succ_cons]; exact readS_skip k l
theorem RI.start (X : List Nat) : RI X 0 [] [] [] := ⟨Nat.zero_le _, by
  rw [List.drop_zero]
  cases readS 0 X <;> rfl⟩
theorem RI.bare {X : List Nat} {i : Nat} {b r s : List Str} {c : Nat} (h : RI X i b r s) (hc : X[i]? = some c) (h38 : c ≠ 38) : RI X (i + 1) (b ++ [⟨#[c]⟩]) r (s ++ [⟨#[c]⟩]) := by
  have hlt : i < X.length := (List.getElem?_eq_some_iff.mp hc).1
  refine ⟨hlt, ?_⟩
  have e : X.drop i = c :: X.drop (i + 1) := by
    rw [List.drop_eq_getElem_cons hlt]
    rw [List.getElem?_eq_getElem hlt] at hc
    rw [Option.some.inj hc]
  rw [h.2, e, readS, if_neg h38]
  cases readS 0 (X.drop (i + 1)) with
  | none => rfl
  | some q => simp
theorem RI.none {X : List Nat} {i : Nat} {b r s : List Str} (h : RI X i b r s) (hc : X[i]? = some 38) (hn : nameAt (X.drop i) = none) : readS 0 X = none := by
  have hlt : i < X.length := (List.getElem?_eq_some_iff.mp hc).1
  have e : X.drop i = 38 :: X.drop (i + 1) := by
    rw [List.drop_eq_getElem_cons hlt]
    rw [List.getElem?_eq_getElem hlt] at hc
    rw [Option.some.inj hc]
  rw [e] at hn
  rw [h.2, e, readS, if_pos rfl, hn]
  rfl
theorem RI.ref {X : List Nat} {i : Nat} {b r s : List Str} {p : Str × Str} (h : RI X i b r s) (hc : X[i]? = some 38) (hn : nameAt (X.drop i) = some p) : RI X (i + p.1.length) b (r ++ [p.1]) (s ++ [p.2]) := by
  have hlt : i < X.length := (List.getElem?_eq_some_iff.mp hc).1
  have e : X.drop i = 38 :: X.drop (i + 1) := by
    rw [List.drop_eq_getElem_cons hlt]
    rw [List.getElem?_eq_getElem hlt] at hc
    rw [Option.some.inj hc]
  have hp : p.1.cps.toList.isPrefixOf (X.drop i) = true := List.find?_some (p := fun p : Str × Str => p.1.cps.toList.isPrefixOf (X.drop i)) hn
  have hmem := List.mem_of_find?_eq_some hn
  have hpos : 1 ≤ p.1.length := by
    have : ∀ q ∈ namesT, 1 ≤ q.1.length := by decide +kernel
    exact this p hmem
  have hle : p.1.length ≤ (X.drop i).length := by
    have := (List.isPrefixOf_iff_prefix.mp hp).length_le
    have e2 : p.1.cps.toList.length = p.1.length := by simp [Str.length]
    omega
  rw [List.length_drop] at hle
  refine ⟨by omega, ?_⟩
  rw [h.2, e, readS, if_pos rfl]
  rw [e] at hn
  rw [hn]
  dsimp only
  rw [readS_skip, List.drop_drop]
  have e3 : i + 1 + (p.1.length - 1) = i + p.1.length := by omega
  rw [e3]
  cases readS 0 (X.drop (i + p.1.length)) with
  | none => rfl
  | some q => simp
theorem RI.done {X : List Nat} {i : Nat} {b r s : List Str} (h : RI X i b r s) (hi : ¬ i < X.length) : readS 0 X = some (b, r, s) := by
  have : X.drop i = [] := List.drop_eq_nil_of_le (by omega)
  rw [h.2, this]
  simp [readS]

def hereL (l : List Nat) : List Str := (namesT.map (·.1)).filter fun k => k.cps.toList.isPrefixOf l
theorem filter_find {α β : Type} (f : α → β) (q : β → Bool) : ∀ l : List α, ((l.map f).filter q = [] ↔ l.find? (fun a => q (f a)) = none) ∧ ∀ a, l.find? (fun a => q (f a)) = some a → ((l.map f).filter q)[0]? = some (f a)
  | [] => by simp
  | a :: r => by
    have ih := filter_find f q r
    rw [List.map_cons, List.filter_cons, List.find?_cons]
    cases h : q (f a) with
    | true => simp
    | false => simpa using ih
theorem here_none {l : List Nat} : hereL l = [] ↔ nameAt l = none := (filter_find (fun p : Str × Str => p.1) (fun k => k.cps.toList.isPrefixOf l) namesT).1
theorem here_some {l : List Nat} {p : Str × Str} (h : nameAt l = some p) : (hereL l)[0]? = some p.1 := (filter_find (fun p : Str × Str => p.1) (fun k => k.cps.toList.isPrefixOf l) namesT).2 p h

theorem nameAt_mem {l : List Nat} {p : Str × Str} (h : nameAt l = some p) : p ∈ namesT := List.mem_of_find?_eq_some h
theorem names_lookup {l : List Nat} {p : Str × Str} (h : nameAt l = some p) (tk : Nat) : PySem.Spec.lookup (.str p.1) ((constEnts tk namesT).map fun e => (PyData.str e.k, PyData.str e.v)) = some (.str p.2) := by
  rw [lookup_E, find_const]
  have h2 : ∀ q ∈ namesT, (namesT.find? fun r => decide (r.1 = q.1)) = some q := by decide +kernel
  rw [h2 p (nameAt_mem h)]
  rfl
end Mine

open PySem PySem.W PyProof.Rows PySem.Calls
set_option Elab.async false
set_option maxRecDepth 100000
set_option maxHeartbeats 8000000
namespace Mine
open PySem.Challenge

section
variable {w : World} {p : Program} {loose : List Str} {mg mb : Str → Option Value} {dp un : Nat} {fr : Option (List Env)} {gd : Option (List Code)}
  {h₀ : Heap} {g : Array GenState} {dr : Drawn} {tk : Nat} {os : OsState} {Q E : Value → Shared → Prop}

local macro_rules | `(tactic| k_call_by "enter" $b) => `(tactic| (refine' enter_plain (binds := $b) ?X ?T ?k6 ?k7 ?k8 ?k9 ?kB ?_ ?c2 ?c3 ?c4 ?c5; (case X => assumption); (case T => assumption); (case k6 => k_is); (case k7 => k_is); (case k8 => (show dp < recursionLimit; omega)); (case k9 => first | exact BindsTo.of_eq rfl | exact binds_K (by assumption) rfl (by k_is) rfl rfl rfl | (refine' binds_two ?hh ?hb ?hc; (case hh => assumption); (case hb => exact binds_K (by assumption) rfl (by k_is) rfl rfl rfl); (case hc => intro e; subst e; exact binds_K (by assumption) rfl (by k_is) rfl rfl rfl))); (case kB => exact locs rfl); (case c2 => exact rfl); (case c3 => exact rfl); (case c4 => exact rfl); (case c5 => decide)))
local macro_rules | `(tactic| walk_at "getMethod ref") => `(tactic| (k_here; (with_reducible show wpAny _ _ (getMethod (Value.ref _) (Str.ofString "items") _) _ _ _); refine' method_E ?k1 (by assumption) PySem.F.slot_dict_items PySem.F.type_dict_items ?_; (case k1 => exact Fr.keep (by assumption) _ _ (by assumption))))
local macro_rules | `(tactic| walk_at "eval Name") => `(tactic| (k_here; k_dflt (refine' nameX_L ?F ?v ?_ ?a ?b; (case a => rfl); (case b => rfl); (case F => k_asm); (case v => assumption); k_whole)))

theorem booked (X : (hd.heap_39 w.params).In h₀) (T : TopRead p loose mg mb h₀) : NoneBooked h₀ := noneBooked_of X T rfl

theorem dict_replace_spec (X : (hd.heap_39 w.params).In h₀) (T : TopRead p loose mg mb h₀) (hdp : dp + 1 < recursionLimit) (hun : un + 40 < cLine) (htk : 1 ≤ tk) {x : Str} {t : Tok} {d : Addr} {es : List Ent} {ep : Nat}
    (hd : h₀.get? d = some (dictO w es ep)) (hdn : (es.map Ent.k).Nodup) (hds : (d == sysModules) = false) (hes : Sound es) (hf : Fits x (txt es))
    (hQ : ∀ t' h' tk', (∀ b o, h₀.get? b = some o → h'.get? b = some o) → Q (.str (repl x (txt es)) t') ⟨h', g, dr, tk', os⟩) :
    wpAny (model rw_in0094_02.row.prog w) (ar dp un fr gd) (call (.ref 21) [.str x t, .ref d]) Q E ⟨h₀, g, dr, tk, os⟩ := by
  revert X
  k_fill
  intro X
  refine wpAny_call ?_
  k_call_by "enter" [(Str.ofString "s", Value.str x t), (Str.ofString "d", Value.ref d)]
  intro L h₁ F N
  have htk2 : 1 ≤ tk + 2 := by omega
  refine gen_toks htk2 fun tk htk => ?_
  k_steps
  refine wpAny_For ?_ (by intro _; rfl)
  repeat' ((fail_if_success (with_reducible show wpAny _ _ (call _ _) _ _ _)); walk1)
  refine view_E (F.keep _ _ hd) hdn hds ?_
  have F2 := F.push { cls := .type "dict_items", data := .fields #[.ref d] }
  have hv : (h₁.push { cls := .type "dict_items", data := .fields #[.ref d] }).IsItemsView h₁.objs.size d := ⟨_, Heap.get?_push_size _ rfl, rfl, rfl⟩
  refine iter_items_E hv (F2.keep _ _ hd) hdn ?_
  dsimp only
  have hx0 : (fun y => List.lookup y [(Str.ofString "s", Value.str x t), (Str.ofString "d", Value.ref d)].reverse) (Str.ofString "s") = some (Value.str x t) := rfl
  refine forLoop_items_E (h₀ := h₀) (news := []) rfl rfl rfl rfl (Heap.get?_push_size _ rfl) (next_is_new F2) (Nat.ne_of_gt F2.ns.lt) (fun _ hp => nomatch hp) hd hdn (F2.push _) News.nil htk
    (fun i m => ∃ t, m (Str.ofString "s") = some (.str (repl x (txt (es.take i))) t)) ⟨t, hx0⟩ ?_ ?_
  · rintro i hi m₁ h tk own ⟨t1, hs⟩ htk F N
    k_steps
    obtain ⟨a1, a2, a3⟩ := hes es[i] (List.getElem_mem hi)
    refine replaceK htk a1 a2 a3 (hf.at hi) (booked (X.keeps F.keep) (T.keeps F.keep)) fun t' k hk => ?_
    rw [← repl_take_succ hi]
    k_steps
    rename Fr _ _ _ _ => F'
    rename News _ _ _ _ => N'
    exact ⟨_, _, _, rfl, F', N', ⟨t', rfl⟩⟩
  · rintro h' tk m' F N ⟨t1, hs⟩
    rw [List.take_length] at hs
    k_steps
    exact hQ _ _ _ F.keep


theorem dict_replace_t (X : (hd.heap_39 w.params).In h₀) (T : TopRead p loose mg mb h₀) (hdp : dp + 1 < recursionLimit) (hun : un + 40 < cLine) (htk : 1 ≤ tk) {x : Str} {t : Tok} {d : Addr} {es : List Ent} {ep : Nat}
    (hd : h₀.get? d = some (dictO w es ep)) (hdn : (es.map Ent.k).Nodup) (hds : (d == sysModules) = false) (hes : Sound es) (hf : Fits x (txt es))
    (hQ : ∀ t' h' tk', 1 ≤ tk' → (∀ b o, h₀.get? b = some o → h'.get? b = some o) → Q (.str (repl x (txt es)) t') ⟨h', g, dr, tk', os⟩) :
    wpAny (model rw_in0094_02.row.prog w) (ar dp un fr gd) (call (.ref 21) [.str x t, .ref d]) Q E ⟨h₀, g, dr, tk, os⟩ :=
  wpAny_with_toks (n := 1) htk (dict_replace_spec X T hdp hun htk hd hdn hds hes hf fun t' h' tk' hk q => hQ t' h' tk' q hk)

local macro_rules | `(tactic| walk_at "call builtin:str.replace") => `(tactic| (k_here; (with_reducible show wpAny _ _ (call (Value.builtin "str.replace") [Value.str _ _, Value.str _ _, Value.str _ _]) _ _ _); refine' replaceK ?k1 ?k2 ?k3 ?k4 ?k5 ?k6 ?_; (case k1 => omega); (case k2 => (show @Ne Nat _ _; omega)); (case k3 => (show @Ne Nat _ _; omega)); (case k4 => (intro q; exact absurd q (by show ¬ (@Eq Nat _ _); omega))); (case k5 => exact size_ok (by first | assumption | exact Nat.le_trans (by assumption) (Nat.le_of_ble_eq_true rfl)) (by decide +kernel)); (case k6 => exact booked (Frag.In.keeps (by assumption) (Fr.keep (by assumption))) (TopRead.keeps (by assumption) (Fr.keep (by assumption)))); intro t' k' hk'))
local macro_rules | `(tactic| walk_at "execs nil") => `(tactic| (k_here; refine' gen_toks ?k1 ?_; (case k1 => omega); intro tk' htk'; refine wpAny_execs_nil ?_))
local macro_rules | `(tactic| walk_at "execs cons") => `(tactic| (k_here; refine' gen_toks ?k1 ?_; (case k1 => omega); intro tk' htk'; refine wpAny_execs_cons ?_))

local macro_rules | `(tactic| walk_at "truthy ref") => `(tactic| (k_here; (with_reducible show wpAny _ _ (truthy (Value.ref _)) _ _ _); refine' truthy_E ?k1 ?k2 ?k3 ?k4 (fun hE' => ?_) (fun hE' => ?_); (case k1 => exact Fr.keep (by assumption) _ _ (by assumption)); (case k2 => assumption); (case k3 => assumption); (case k4 => assumption)))
local macro_rules | `(tactic| walk_at "call ref") => `(tactic| (k_here; (with_reducible show wpAny _ _ (call (Value.ref 21) [Value.str _ _, Value.ref _]) _ _ _); refine' dict_replace_t ?X ?T ?k1 ?k2 ?k3 ?k4 ?k5 ?k6 ?k7 ?k8 ?_; (case X => exact Frag.In.keeps (by assumption) (Fr.keep (by assumption))); (case T => exact TopRead.keeps (by assumption) (Fr.keep (by assumption))); (case k1 => (show dp + 1 + 1 < recursionLimit; omega)); (case k2 => (show un + 3 + 40 < cLine; omega)); (case k3 => omega); (case k4 => exact Fr.keep (by assumption) _ _ (by assumption)); (case k5 => assumption); (case k6 => assumption); (case k7 => assumption); (case k8 => assumption); intro t' h' tk' htk' hk'; (rename Fr _ _ _ _ => kF'); (rename News _ _ _ _ => kN'); (have kF9 := fr_up kF' hk'); (have kN9 := news_up kN' hk'); clear kF' kN' hk'))

theorem escape_spec (X : (hd.heap_39 w.params).In h₀) (T : TopRead p loose mg mb h₀) (hdp : dp + 2 < recursionLimit) (hun : un + 50 < cLine) (htk : 1 ≤ tk) {x : Str} {t : Tok} {d : Addr} {es : List Ent} {ep : Nat} {args : List Value} (hargs : args = [.str x t, .ref d] ∨ (args = [.str x t] ∧ d = 22))
    (hd : h₀.get? d = some (dictO w es ep)) (hdn : (es.map Ent.k).Nodup) (hdl : es.length ≤ 1000) (hds : (d == sysModules) = false) (hes : Sound es) (hx : x.length ≤ 1000) (hf : Fits (esc3 x) (txt es))
    (hQ : ∀ t' h' tk', (∀ b o, h₀.get? b = some o → h'.get? b = some o) → Q (.str (repl (esc3 x) (txt es)) t') ⟨h', g, dr, tk', os⟩) :
    wpAny (model rw_in0094_02.row.prog w) (ar dp un fr gd) (call (.ref 30) args) Q E ⟨h₀, g, dr, tk, os⟩ := by
  have hx1 : (Txt.replace x (Str.ofString "&") (Str.ofString "&amp;")).length ≤ 10000 := replace_len_le hx (b := 5) (by decide +kernel) (by omega)
  have hx2 : (Txt.replace (Txt.replace x (Str.ofString "&") (Str.ofString "&amp;")) (Str.ofString ">") (Str.ofString "&gt;")).length ≤ 100000 := replace_len_le hx1 (b := 4) (by decide +kernel) (by omega)
  revert X
  k_fill
  intro X
  refine wpAny_call ?_
  k_call_by "enter" [(Str.ofString "data", Value.str x t), (Str.ofString "entities", Value.ref d)]
  intro L h₁ F N
  dsimp only [List.length_cons, List.length_nil]
  k_steps
  · rename (es = []) => hE
    subst hE
    exact hQ _ _ _ (Fr.keep (by assumption))
  · exact hQ _ _ _ (Fr.keep (by assumption))

theorem unescape_spec (X : (hd.heap_39 w.params).In h₀) (T : TopRead p loose mg mb h₀) (hdp : dp + 2 < recursionLimit) (hun : un + 50 < cLine) (htk : 1 ≤ tk) {x : Str} {t : Tok} {d : Addr} {es : List Ent} {ep : Nat} {args : List Value} (hargs : args = [.str x t, .ref d] ∨ (args = [.str x t] ∧ d = 31))
    (hd : h₀.get? d = some (dictO w es ep)) (hdn : (es.map Ent.k).Nodup) (hdl : es.length ≤ 1000) (hds : (d == sysModules) = false) (hes : Sound es) (hx : x.length ≤ 1000) (hf : Fits (une2 x) (txt es)) (hf2 : (repl (une2 x) (txt es)).length ≤ 1000000)
    (hQ : ∀ t' h' tk', (∀ b o, h₀.get? b = some o → h'.get? b = some o) → Q (.str (Txt.replace (repl (une2 x) (txt es)) (Str.ofString "&amp;") (Str.ofString "&")) t') ⟨h', g, dr, tk', os⟩) :
    wpAny (model rw_in0094_02.row.prog w) (ar dp un fr gd) (call (.ref 39) args) Q E ⟨h₀, g, dr, tk, os⟩ := by
  have hx1 : (Txt.replace x (Str.ofString "&lt;") (Str.ofString "<")).length ≤ 10000 := replace_len_le hx (b := 1) (by decide +kernel) (by omega)
  have hx2 : (Txt.replace (Txt.replace x (Str.ofString "&lt;") (Str.ofString "<")) (Str.ofString "&gt;") (Str.ofString ">")).length ≤ 1000000 := replace_len_le hx1 (b := 1) (by decide +kernel) (by omega)
  revert X
  k_fill
  intro X
  refine wpAny_call ?_
  k_call_by "enter" [(Str.ofString "data", Value.str x t), (Str.ofString "entities", Value.ref d)]
  intro L h₁ F N
  dsimp only [List.length_cons, List.length_nil]
  k_steps
  · rename (es = []) => hE
    subst hE
    exact hQ _ _ _ (Fr.keep (by assumption))
  · exact hQ _ _ _ (Fr.keep (by assumption))

abbrev qtab (l : List (Str × Str)) : List (Str × Str) := mergeT (mergeT [] l) (mergeT [] whites)
theorem escape_t (X : (hd.heap_39 w.params).In h₀) (T : TopRead p loose mg mb h₀) (hdp : dp + 2 < recursionLimit) (hun : un + 50 < cLine) (htk : 1 ≤ tk) {x : Str} {t : Tok} {d : Addr} {es : List Ent} {ep : Nat} {args : List Value} (hargs : args = [.str x t, .ref d] ∨ (args = [.str x t] ∧ d = 22))
    (hd : h₀.get? d = some (dictO w es ep)) (hdn : (es.map Ent.k).Nodup) (hdl : es.length ≤ 1000) (hds : (d == sysModules) = false) (hes : Sound es) (hx : x.length ≤ 1000) (hf : Fits (esc3 x) (txt es))
    (hQ : ∀ t' h' tk', 1 ≤ tk' → (∀ b o, h₀.get? b = some o → h'.get? b = some o) → Q (.str (repl (esc3 x) (txt es)) t') ⟨h', g, dr, tk', os⟩) :
    wpAny (model rw_in0094_02.row.prog w) (ar dp un fr gd) (call (.ref 30) args) Q E ⟨h₀, g, dr, tk, os⟩ :=
  wpAny_with_toks (n := 1) htk (escape_spec X T hdp hun htk hargs hd hdn hdl hds hes hx hf fun t' h' tk' hk q => hQ t' h' tk' q hk)
local macro_rules | `(tactic| walk_at "call ref") => `(tactic| (k_here; (with_reducible show wpAny _ _ (call (Value.ref 30) _) _ _ _); refine' escape_t ?X ?T ?k1 ?k2 ?k3 ?ka ?k4 ?k5 ?k5b ?k6 ?k7 ?k7b ?k8 ?_; (case X => exact Frag.In.keeps (by assumption) (Fr.keep (by assumption))); (case T => exact TopRead.keeps (by assumption) (Fr.keep (by assumption))); (case k1 => (show dp + 1 + 2 < recursionLimit; omega)); (case k2 => (show un + 3 + 50 < cLine; omega)); (case k3 => omega); (case ka => first | exact Or.inl rfl | exact Or.inr ⟨rfl, rfl⟩); (case k4 => first | exact Frag.In.keeps (by assumption) (Fr.keep (by assumption)) 22 _ rfl | exact Fr.keep (by assumption) _ _ (by assumption) | exact News.get (by assumption) (List.mem_cons_self ..)); (case k5 => assumption); (case k5b => assumption); (case k6 => assumption); (case k7 => assumption); (case k7b => assumption); (case k8 => assumption); intro t' h' tk' htk' hk'; (rename Fr _ _ _ _ => kF'); (rename News _ _ _ _ => kN'); (have kF9 := fr_up kF' hk'); (have kN9 := news_up kN' hk'); clear kF' kN' hk'))

local macro_rules | `(tactic| walk_at "binaryOp Mod str str") => `(tactic| (k_here; (first | ((with_reducible show wpAny _ _ (binaryOp Operator.Mod (Value.str (Str.ofString "\"%s\"") _) (Value.str _ _)) _ _ _); refine' percent_dq ?k1 ?k2 ?_) | ((with_reducible show wpAny _ _ (binaryOp Operator.Mod (Value.str (Str.ofString "'%s'") _) (Value.str _ _)) _ _ _); refine' percent_sq ?k1 ?k2 ?_)); (case k1 => omega); (case k2 => first | assumption | exact Nat.le_trans (by assumption) (Nat.le_of_ble_eq_true rfl)); intro t' k' hk'))
theorem quoteattr_spec (X : (hd.heap_39 w.params).In h₀) (T : TopRead p loose mg mb h₀) (hdp : dp + 3 < recursionLimit) (hun : un + 60 < cLine) (htk : 1 ≤ tk) {x : Str} {t : Tok} {d : Addr} {es : List Ent} {ep : Nat} {args : List Value} (hargs : args = [.str x t, .ref d] ∨ (args = [.str x t] ∧ d = 40))
    (hd : h₀.get? d = some (dictO w es ep)) (hdn : (es.map Ent.k).Nodup) (hdl : es.length ≤ 900) (hds : (d == sysModules) = false) (hes : Sound es) (hlt : ∀ e ∈ es, e.kt < tk ∧ e.vt < tk) (hx : x.length ≤ 1000)
    (hf : Fits (esc3 x) (qtab (txt es))) (hf2 : (repl (esc3 x) (qtab (txt es))).length ≤ 2295000)
    (hQ : ∀ t' h' tk', (∀ b o, h₀.get? b = some o → h'.get? b = some o) → Q (.str (quoted (repl (esc3 x) (qtab (txt es)))) t') ⟨h', g, dr, tk', os⟩) :
    wpAny (model rw_in0094_02.row.prog w) (ar dp un fr gd) (call (.ref 48) args) Q E ⟨h₀, g, dr, tk, os⟩ := by
  revert X
  k_fill
  intro X
  refine wpAny_call ?_
  k_call_by "enter" [(Str.ofString "data", Value.str x t), (Str.ofString "entities", Value.ref d)]
  intro L h₁ F N
  dsimp only [List.length_cons, List.length_nil]
  refine wpAny_execs_cons ?_
  repeat' ((fail_if_success (with_reducible show wpAny _ _ (eval (Expr.Dict _ _ _) _) _ _ _)); walk1)
  have hbig : sysModules < h₁.objs.size := Nat.lt_trans (by decide : sysModules < 2) (Nat.lt_of_lt_of_le (Heap.lt_size (X 2 _ rfl)) (Nat.le_trans F.above (Nat.le_of_lt F.ns.lt)))
  refine Spread_E (a := d) (es := es) (ep := ep) (kvs := whites) (by simp only [arm_evalEachOpt_cons, arm_evalEachOpt_nil, arm_evalOpt_some, arm_eval_Constant, constValue, whites, List.map]) (by simp only [arm_evalEach_cons, arm_evalEach_nil, arm_eval_Constant, constValue, whites, List.map]) (List.cons_ne_nil _ _) (Nat.le_of_ble_eq_true rfl) (fun Q' hq => ?_) (F.keep _ _ hd) hds hbig hdl ?_
  · refine nameX_L (F.push _) rfl hq rfl rfl
  intro D h₂ ep₂ tk₂ tk₃ hD hDa ht2 ht3 hk
  have hq1 : txt (mergeE (mergeE [] es) (mergeE [] (constEnts tk₂ whites))) = qtab (txt es) := by
    rw [txt_merge, txt_merge, txt_merge, txt_const]
    rfl
  have hq2 : Sound (mergeE (mergeE [] es) (mergeE [] (constEnts tk₂ whites))) := by
    rw [merge_nil hdn, merge_nil (es := constEnts tk₂ whites) (by rw [const_keys]; decide +kernel)]
    exact sound_merge hes hlt htk (by dsimp only at ht2; omega)
  have hq3 : ((mergeE (mergeE [] es) (mergeE [] (constEnts tk₂ whites))).map Ent.k).Nodup := merge_nodup (merge_nodup List.nodup_nil)
  have hq4 : (mergeE (mergeE [] es) (mergeE [] (constEnts tk₂ whites))).length ≤ 1000 := by
    have e1 := mergeE_length (mergeE [] (constEnts tk₂ whites)) (mergeE [] es)
    have e2 := mergeE_length (constEnts tk₂ whites) []
    have e3 := mergeE_length es []
    rw [constEnts_length] at e2
    have e4 : whites.length = 3 := rfl
    rw [e4] at e2
    simp only [List.length_nil] at e2 e3
    omega
  generalize mergeE (mergeE [] es) (mergeE [] (constEnts tk₂ whites)) = es' at hD hq1 hq2 hq3 hq4
  rw [← hq1] at hf hf2 hQ
  have hLD : L < D := Nat.lt_of_lt_of_le F.ns.lt hDa
  have hDs : (D == sysModules) = false := beq_false_of_ne (Nat.ne_of_gt (Nat.lt_of_lt_of_le hbig hDa))
  have F2 := fr_up F hk
  have N2 : News h₀ L h₂ [(D, dictO w es' ep₂)] := by
    intro q hq
    rw [List.mem_singleton.mp hq]
    refine ⟨hD, Nat.ne_of_gt hLD, ?_⟩
    cases e : h₀.get? D with
    | none => rfl
    | some o => exact absurd (Nat.lt_of_lt_of_le (Heap.lt_size e) F.above) (Nat.not_lt.mpr (Nat.le_of_lt hLD))
  dsimp only at ht2
  have htk₃ : 1 ≤ tk₃ := by omega
  clear N F hk hD hd hes hlt hdn hds
  have hf3 : (Txt.replace (repl (esc3 x) (txt es')) dq (Str.ofString "&quot;")).length ≤ 16070000 := replace_len_le hf2 (b := 6) (by decide +kernel) (by omega)
  k_steps
  · rw [quoted_1 (b := repl (esc3 x) (txt es')) (by assumption)] at hQ
    exact hQ _ _ _ (Fr.keep (by assumption))
  · rw [quoted_2 (b := repl (esc3 x) (txt es')) (by assumption) (by assumption)] at hQ
    exact hQ _ _ _ (Fr.keep (by assumption))
  · rw [quoted_3 (b := repl (esc3 x) (txt es')) (by assumption) (by assumption)] at hQ
    exact hQ _ _ _ (Fr.keep (by assumption))

theorem quoteattr_t (X : (hd.heap_39 w.params).In h₀) (T : TopRead p loose mg mb h₀) (hdp : dp + 3 < recursionLimit) (hun : un + 60 < cLine) (htk : 1 ≤ tk) {x : Str} {t : Tok} {d : Addr} {es : List Ent} {ep : Nat} {args : List Value} (hargs : args = [.str x t, .ref d] ∨ (args = [.str x t] ∧ d = 40))
    (hd : h₀.get? d = some (dictO w es ep)) (hdn : (es.map Ent.k).Nodup) (hdl : es.length ≤ 900) (hds : (d == sysModules) = false) (hes : Sound es) (hlt : ∀ e ∈ es, e.kt < tk ∧ e.vt < tk) (hx : x.length ≤ 1000)
    (hf : Fits (esc3 x) (qtab (txt es))) (hf2 : (repl (esc3 x) (qtab (txt es))).length ≤ 2295000)
    (hQ : ∀ t' h' tk', tk ≤ tk' → (∀ b o, h₀.get? b = some o → h'.get? b = some o) → Q (.str (quoted (repl (esc3 x) (qtab (txt es)))) t') ⟨h', g, dr, tk', os⟩) :
    wpAny (model rw_in0094_02.row.prog w) (ar dp un fr gd) (call (.ref 48) args) Q E ⟨h₀, g, dr, tk, os⟩ :=
  wpAny_with_toks (n := tk) (Nat.le_refl _) (quoteattr_spec X T hdp hun htk hargs hd hdn hdl hds hes hlt hx hf hf2 fun t' h' tk' hk q => hQ t' h' tk' q hk)
theorem unescape_t (X : (hd.heap_39 w.params).In h₀) (T : TopRead p loose mg mb h₀) (hdp : dp + 2 < recursionLimit) (hun : un + 50 < cLine) (htk : 1 ≤ tk) {x : Str} {t : Tok} {d : Addr} {es : List Ent} {ep : Nat} {args : List Value} (hargs : args = [.str x t, .ref d] ∨ (args = [.str x t] ∧ d = 31))
    (hd : h₀.get? d = some (dictO w es ep)) (hdn : (es.map Ent.k).Nodup) (hdl : es.length ≤ 1000) (hds : (d == sysModules) = false) (hes : Sound es) (hx : x.length ≤ 1000) (hf : Fits (une2 x) (txt es)) (hf2 : (repl (une2 x) (txt es)).length ≤ 1000000)
    (hQ : ∀ t' h' tk', tk ≤ tk' → (∀ b o, h₀.get? b = some o → h'.get? b = some o) → Q (.str (Txt.replace (repl (une2 x) (txt es)) (Str.ofString "&amp;") (Str.ofString "&")) t') ⟨h', g, dr, tk', os⟩) :
    wpAny (model rw_in0094_02.row.prog w) (ar dp un fr gd) (call (.ref 39) args) Q E ⟨h₀, g, dr, tk, os⟩ :=
  wpAny_with_toks (n := tk) (Nat.le_refl _) (unescape_spec X T hdp hun htk hargs hd hdn hdl hds hes hx hf hf2 fun t' h' tk' hk q => hQ t' h' tk' q hk)
end
end Mine

open PySem PySem.W PyProof.Rows PySem.Calls
set_option Elab.async false
set_option maxRecDepth 100000
set_option maxHeartbeats 8000000
namespace Mine
open PySem.Challenge

section
variable {w : World} {p : Program} {loose : List Str} {mg mb : Str → Option Value} {dp un : Nat} {fr : Option (List Env)} {gd : Option (List Code)}
  {h₀ : Heap} {g : Array GenState} {dr : Drawn} {tk : Nat} {os : OsState} {Q E : Value → Shared → Prop}

local macro_rules | `(tactic| k_call_by "enterC" $b) => `(tactic| (refine' enter_cells (binds := $b) ?X ?T ?k6 ?k7 ?k8 ?k9 ?kB ?kD ?_ ?c2 ?c3 ?c4; (case X => assumption); (case T => assumption); (case k6 => k_is); (case k7 => k_is); (case k8 => (show dp < recursionLimit; omega)); (case k9 => exact BindsTo.of_eq rfl); (case kB => exact rfl); (case kD => decide +kernel); (case c2 => exact rfl); (case c3 => exact rfl); (case c4 => exact rfl)))
local macro_rules | `(tactic| walk_at "eval Name") => `(tactic| (k_here; k_dflt (refine' nameX_L ?F ?v ?_ ?a ?b; (case a => rfl); (case b => rfl); (case F => k_asm); (case v => assumption); k_whole)))
local macro_rules | `(tactic| walk_at "call builtin:list.append") => `(tactic| (k_here; (with_reducible show wpAny _ _ (call (Value.builtin _) [Value.ref _, _]) _ _ _); k_dflt (refine' append_K ?k1 ?k2 ?k3 ?_ ?z; (case k1 => k_asm); (case k2 => k_asm); (case k3 => k_upd); (case z => (rw [sizeLine_eq]; omega)); k_whole); intro h' F' N'; (try k_sweep)))
local macro_rules | `(tactic| walk_at "eval Name") => `(tactic| (k_here; k_dflt (first | (refine' cname_L ?n ?v ?_; (case n => first | assumption | exact Heap.Ns.keeps (by assumption) (by assumption)); (case v => assumption); k_whole) | (refine' cname_C ?c ?g ?d ?_; (case c => rfl); (case g => assumption); (case d => assumption); k_whole) | (refine' cname_B ?X ?T ?e ?v ?n ?_ ?g ?b; (case X => assumption); (case T => assumption); (case e => k_is); (case v => boot_fast); (case n => decide); (case g => rfl); (case b => rfl); k_whole))))
local macro_rules | `(tactic| walk_at "subscriptTail") => `(tactic| (k_here; (with_reducible show wpAny _ _ (subscriptTail _ _ (Value.str _ _) (Value.ref _)) _ _ _); (first | (refine' sliceP_ss ?h ?hsz; case' hsz => (rw [sizeLine_eq]; omega)) | (refine' sliceP_ns ?h ?hsz; case' hsz => (rw [sizeLine_eq]; omega)) | (refine' sliceP_sn ?h ?hsz; case' hsz => (rw [sizeLine_eq]; omega))); intro h' t' k' hk'; (try dsimp only at hk')))
local macro_rules | `(tactic| walk_at "subscriptTail") => `(tactic| (k_here; (with_reducible show wpAny _ _ (subscriptTail _ _ (Value.ref _) (Value.int _ _)) _ _ _); k_dflt (refine' item_L ?l ?a ?b ?x ?_; (case l => exact News.get (by k_asm) (by k_mem)); (case a => first | decide | omega); (case b => first | decide | omega); (case x => assumption); k_whole)))
local macro_rules | `(tactic| walk_at "subscriptTail") => `(tactic| (k_here; (with_reducible show wpAny _ _ (subscriptTail _ _ (Value.ref _) (Value.str _ _)) _ _ _); k_dflt (refine' item_D ?l ?a ?b ?x ?_; (case l => exact News.get (by k_asm) (by k_mem)); (case a => assumption); (case b => assumption); (case x => assumption); k_whole); intro t'))
local macro_rules | `(tactic| walk_at "execs nil") => `(tactic| (k_here; (try dsimp only); refine' gen_toks ?k1 ?_; (case k1 => omega); intro tk' htk'; refine wpAny_execs_nil ?_))
local macro_rules | `(tactic| walk_at "execs cons") => `(tactic| (k_here; (try dsimp only); refine' gen_toks ?k1 ?_; (case k1 => omega); intro tk' htk'; refine wpAny_execs_cons ?_))

theorem read_spec (X : (hd.heap_39 w.params).In h₀) (T : TopRead p loose mg mb h₀) (hdp : dp + 1 < recursionLimit) (hun : un + 90 < cLine) (htk : 1 ≤ tk) {x : Str} {t : Tok} (hx : x.length ≤ 1000)
    (hN : readS 0 x.cps.toList = none → ∀ h' tk', (∀ b o, h₀.get? b = some o → h'.get? b = some o) → Q .none ⟨h', g, dr, tk', os⟩)
    (hS : ∀ q, readS 0 x.cps.toList = some q → ∀ (a lb lr : Addr) vb vr nb nr t h' tk', (∀ b o, h₀.get? b = some o → h'.get? b = some o) → h'.get? a = some { cls := .type "tuple", data := .seq #[.ref lb, .ref lr, .str (Txt.join (Str.ofString "") q.2.2) t] } →
      h'.get? lb = some (W.listOf vb nb) → TxtA vb q.1 → h'.get? lr = some (W.listOf vr nr) → TxtA vr q.2.1 → h₀.get? a = none → h₀.get? lb = none → h₀.get? lr = none → vb.size ≤ 1000 → vr.size ≤ 1000 → Q (.ref a) ⟨h', g, dr, tk', os⟩) :
    wpAny (model rw_in0094_02.row.prog w) (ar dp un fr gd) (call (.ref 60) [.str x t]) Q E ⟨h₀, g, dr, tk, os⟩ := by
  revert X
  k_fill
  intro X
  refine wpAny_call ?_
  k_call_by "enterC" [(Str.ofString "told", Value.str x t)]
  intro L h₁ tk₁ cells F N htk1 Y
  obtain ⟨o1, o2, hE, d1, d2⟩ := CellsAre.two Y
  subst hE
  clear Y
  replace d1 : o1.data = .cell none := d1
  replace d2 : o2.data = .cell (some (.str x t)) := d2
  repeat' ((fail_if_success (with_reducible show wpAny _ _ (eval (Expr.Dict _ _ _) _) _ _ _)); walk1)
  refine' Dict_E (kvs := namesT) ?ka ?kb ?kc ?kd ?_
  case ka => simp only [arm_evalEachOpt_cons, arm_evalEachOpt_nil, arm_evalOpt_some, arm_eval_Constant, constValue, namesT, List.map]
  case kb => simp only [arm_evalEach_cons, arm_evalEach_nil, arm_eval_Constant, constValue, namesT, List.map]
  case kc => exact List.cons_ne_nil _ _
  case kd => exact Nat.le_of_ble_eq_true rfl
  rename_i tkD _
  intro h₂ ep₂ tk₂ hD ht2 hk
  rw [merge_nil (by rw [const_keys]; decide +kernel)] at hD
  have l1 := news_lt N
  k_lt l1
  have N2 := news_new F N hk hD
  have F2 := fr_up F hk
  dsimp only at N2 F2 hk hD ht2 l1 ⊢
  have htk2 : 1 ≤ tk₂ := by omega
  generalize h₁.objs.size = D at N2 hD l1 ⊢
  clear hk hD N F h₁
  repeat' ((fail_if_success (with_reducible show wpAny _ _ (exec (Stmt.While _ _ _ _) _) _ _ _)); walk1)
  rename_i lB _ lB1 _ _ _ lR _ lR1 _ _ _ lS _ lS1 _ _ _ h oA F N d1' tk₃ htk₃
  try dsimp only at d1' ⊢
  generalize hm : (fun y => if y = Str.ofString "said" then some (Value.ref lS) else _) = m at F
  have mS : m (Str.ofString "said") = some (Value.ref lS) := by rw [← hm]; rfl
  have mR : m (Str.ofString "refs") = some (Value.ref lR) := by rw [← hm]; rfl
  have mB : m (Str.ofString "bare") = some (Value.ref lB) := by rw [← hm]; rfl
  have mN : m (Str.ofString "names") = some (Value.ref D) := by rw [← hm]; rfl
  clear hm
  refine while_E (fun n s' => ∃ h tk m oA vb vr vs nb nr ns b r sd i ti, s' = ⟨h, g, dr, tk, os⟩ ∧ 1 ≤ tk ∧ Fr h₀ L h m ∧ News h₀ L h [(lS, W.listOf vs ns), (lR, W.listOf vr nr), (lB, W.listOf vb nb), (D, dictO w (constEnts tkD namesT) ep₂), (L + 1 + 1, oA), (L + 1, o2)] ∧
    oA.data = .cell (some (.int (i : Nat) ti)) ∧ m (Str.ofString "said") = some (Value.ref lS) ∧ m (Str.ofString "refs") = some (Value.ref lR) ∧ m (Str.ofString "bare") = some (Value.ref lB) ∧ m (Str.ofString "names") = some (Value.ref D) ∧
    TxtA vb b ∧ TxtA vr r ∧ TxtA vs sd ∧ RI x.cps.toList i b r sd ∧ vb.size ≤ i ∧ vr.size ≤ i ∧ vs.size ≤ i ∧ (sd.map (·.length)).sum ≤ i ∧ n = x.cps.toList.length - i) ?_ _
    ⟨h, _, m, oA, #[], #[], #[], 0, 0, 0, [], [], [], 0, _, rfl, by omega, F, N, d1', mS, mR, mB, mN, .nil, .nil, .nil, .start _, Nat.zero_le _, Nat.zero_le _, Nat.zero_le _, Nat.zero_le _, rfl⟩
  clear N d1' mS mR mB mN F h htk₃ tk₃ oA m
  rintro n s' ⟨h, tk, m, oA, vb, vr, vs, nb, nr, ns, b, r, sd, i, ti, rfl, htk, F, N, d1', mS, mR, mB, mN, tB, tR, tS, hRI, hbl, hrl, hsl, hsum, rfl⟩
  have hiX := hRI.1
  have hXl : x.cps.toList.length = x.length := by simp [Str.length]
  have hi1 : i ≤ 1000 := by omega
  repeat' ((fail_if_success (with_reducible show wpAny _ _ (exec (Stmt.Assign _ (Expr.ListComp _ _ _ _) _) _) _ _ _)); (first | (k_unfold; (try dsimp only)) | walk1 | (dsimp only; walk1)))
  · rename (_ : Int) < _ => hlt
    rename (Txt.item x _ != _) = true => hne
    rename Fr _ _ _ _ => F'
    rename News _ _ _ _ => N'
    rename _ = Data.cell (some (Value.int (_ + 1) _)) => dA
    have hlt' : i < x.cps.toList.length := by omega
    have hc : x.cps.toList[i]? = some x.cps.toList[i] := List.getElem?_eq_getElem hlt'
    have hit : Txt.item x (i : Int) = ⟨#[x.cps.toList[i]]⟩ := item_meets (by omega) (by rw [Int.toNat_natCast]; simpa using hc)
    have h38 : x.cps.toList[i] ≠ 38 := fun e => by
      rw [hit, e] at hne
      exact absurd hne (by decide)
    rw [hit] at N'
    exact ⟨x.cps.toList.length - (i + 1), by omega, _, _, m, _, _, _, _, _, _, _, _, _, _, i + 1, _, rfl, by assumption, F', N', dA, mS, mR, mB, mN, tB.push, tR, tS.push, hRI.bare hc h38, by rw [Array.size_push]; omega, by omega, by rw [Array.size_push]; omega, by rw [sum_snoc]; show _ + 1 ≤ _; omega, rfl⟩
  · rename (_ : Int) < _ => hlt
    rename (Txt.item x _ != _) = false => heq
    have hlt' : i < x.cps.toList.length := by omega
    have hit : Txt.item x (i : Int) = ⟨#[x.cps.toList[i]]⟩ := item_meets (by omega) (by rw [Int.toNat_natCast]; simpa using List.getElem?_eq_getElem hlt')
    have hc38 : x.cps.toList[i] = 38 := by
      rw [hit] at heq
      have e : (⟨#[x.cps.toList[i]]⟩ : Str) = Str.ofString "&" := by simpa using heq
      have e2 : Str.ofString "&" = ⟨#[38]⟩ := by decide +kernel
      rw [e2] at e
      simpa using e
    refine wpAny_with_toks (n := 1) (by assumption) (wpAny_Assign_ListComp_free (fun v => match v with | .str k _ => k.cps.toList.isPrefixOf (x.cps.toList.drop i) | _ => false) Eq rfl rfl (by decide) rfl (by decide) rfl rfl rfl ?_)
    refine nameX_L F mN ?_ rfl rfl
    have hDs : (D == sysModules) = false := beq_false_of_ne (Nat.ne_of_gt (Nat.lt_trans (Nat.succ_lt_succ (Nat.succ_pos L) : 1 < L + 1 + 1) l1.1))
    have hDn : ((constEnts tkD namesT).map Ent.k).Nodup := by rw [const_keys]; decide +kernel
    have hDg : h.get? D = some (dictO w (constEnts tkD namesT) ep₂) := N.get (by k_mem)
    have hDh : D < h.objs.size := Heap.lt_size hDg
    refine wpAny_pyIter_dict (knd := strKind _ _) hDs (dictAt_E hDg hDn) ?_
    refine ⟨h.objs.size, _, _, _, _, _, m, rfl, Walks.dictKeys (knd := strKind _ _) rfl h.objs.size D (Nat.ne_of_lt hDh) ((constEnts tkD namesT).map fun e => (e.k, Value.str e.v e.vt)) ep₂, ?_, ⟨⟨_, Heap.get?_push_size _ rfl, rfl, rfl⟩, (dictAt_E hDg hDn).push _⟩, ?_, ?_, (F.push _).ns, ⟨?_, ?_⟩, ?_⟩
    · rw [List.length_map, constEnts_length]; decide
    · intro q hq
      rw [Heap.size_push]
      rcases List.mem_cons.mp hq with rfl | hq
      · exact Nat.lt_succ_self _
      · rw [List.mem_singleton.mp hq]; exact Nat.lt_succ_of_lt hDh
    · rw [List.mem_singleton]; exact Nat.ne_of_lt F.ns.lt
    · rintro C j v s₃ m₃ E' hC ⟨k, xv, hkv, hkis⟩ hn hm hk htk
      obtain ⟨tt, rfl⟩ := Value.isStrOf_shape hkis
      refine forIn_one ?_
      obtain ⟨h3, g3, dr3, tk3, os3⟩ := s₃
      dsimp only at hk hn htk ⊢
      have up3 : ∀ b o, h.get? b = some o → h3.get? b = some o := fun b o e => hk b o (by rw [List.mem_singleton]; exact Nat.ne_of_lt (Heap.lt_size e)) (Heap.get?_push_of_some _ e)
      have gT : h3.get? (L + 1) = some o2 := up3 _ _ (N.get (by k_mem))
      have gA : h3.get? (L + 1 + 1) = some oA := up3 _ _ (N.get (by k_mem))
      have X3 : (hd.heap_39 w.params).In h3 := Frag.In.keeps X fun b o e => up3 b o (F.keep b o e)
      have T3 : TopRead p loose mg mb h3 := T.keeps fun b o e => up3 b o (F.keep b o e)
      clear hk
      have hk9 : k.length ≤ 9 := by
        have hm := List.mem_of_getElem? hkv
        obtain ⟨e, he, q⟩ := List.mem_map.mp hm
        have h1 : e.k ∈ (constEnts tkD namesT).map Ent.k := List.mem_map.mpr ⟨e, he, rfl⟩
        rw [const_keys] at h1
        have h2 : ∀ y ∈ namesT.map (·.1), y.length ≤ 9 := by decide +kernel
        rw [← (Prod.mk.inj q).1]
        exact h2 _ h1
      repeat' ((fail_if_success (with_reducible show _ ∧ _)); (first | (k_unfold; (try dsimp only)) | walk1 | (dsimp only; walk1)))
      exact ⟨slice_is, _, _, rfl, by assumption⟩
    · rintro C j v s₃ m₃ E' hC ⟨k, xv, hkv, hkis⟩ _ hn hm hk htk
      exact cname_L hn hm ⟨rfl, _, _, rfl, fun _ _ e => e⟩
    · intro Dh h' tk' ys vs' hDh' hys hpl hlen hP hF hns hk htk9
      have tV : Txts vs' (namesT.map (·.1)) := by
        refine ⟨by rw [hlen, List.length_map, constEnts_length, List.length_map], fun j y hy => ?_⟩
        have hj : j < vs'.length := by
          rw [hlen, List.length_map, constEnts_length]
          have := (List.getElem?_eq_some_iff.mp hy).1
          rwa [List.length_map] at this
        obtain ⟨k, xv, hkv, hkis⟩ := hP j vs'[j] (List.getElem?_eq_getElem hj)
        obtain ⟨tt, e⟩ := Value.isStrOf_shape hkis
        have h1 : ((constEnts tkD namesT).map fun e => (e.k, Value.str e.v e.vt)).map (·.1) = namesT.map (·.1) := by rw [List.map_map, ← const_keys namesT tkD]; rfl
        have h2 := congrArg (·[j]?) h1
        simp only [List.getElem?_map] at h2 hy
        rw [List.getElem?_map] at hkv
        rw [hkv, hy] at h2
        exact ⟨tt, by rw [List.getElem?_eq_getElem hj, e, ← Option.some.inj h2]⟩
      have tH : TxtA ys (hereL (x.cps.toList.drop i)) := by
        unfold TxtA
        rw [← paired_eq hF]
        exact Txts.filter (fun _ _ => rfl) tV
      clear hF hP tV hlen hys vs'
      obtain ⟨nH, hg⟩ := hpl
      dsimp only at hDh' hk hns
      obtain ⟨F', N', hne, hneL⟩ := after_comp F N hns hDh' hg hk
      have n1 := neN (hne (lS, _) (by k_mem))
      have n2 := neN (hne (lR, _) (by k_mem))
      have n3 := neN (hne (lB, _) (by k_mem))
      have n4 := neN (hne (D, _) (by k_mem))
      have n5 := neN (hne (L + 1 + 1, _) (by k_mem))
      have n6 := neN (hne (L + 1, _) (by k_mem))
      clear hne hk hns hDh' hg hDg hDh F N
      dsimp only at n1 n2 n3 n4 n5 n6 ⊢
      have hszH : ys.size ≤ 7 := by
        rw [tH.size]
        exact Nat.le_trans (List.length_filter_le _ _) (by decide)
      dsimp only at htk9
      have okH : ∀ y ∈ hereL (x.cps.toList.drop i), PyData.strOk y = true := by
        have h2 : ∀ y ∈ namesT.map (·.1), PyData.strOk y = true := by decide +kernel
        exact fun y hy => h2 y (List.mem_filter.mp hy).1
      repeat' ((fail_if_success (with_reducible show wpAny _ _ (compareOp _ _ _) _ _ _)); (first | (k_unfold; (try dsimp only)) | walk1 | (dsimp only; walk1)))
      rename News _ _ _ _ => N9
      rename Fr _ _ _ _ => F9
      refine eq_txts (N9.get (by k_mem)) tH (N9.get (by k_mem)) TxtA.nil okH (fun _ q => nomatch q) (by show un + 3 + 64 < cLine; omega) ?_
      by_cases hE : hereL (x.cps.toList.drop i) = []
      · rw [decide_eq_true hE]
        k_steps
        refine hN (hRI.none ?_ (here_none.mp hE)) _ _ (Fr.keep (by assumption))
        rw [List.getElem?_eq_getElem hlt', hc38]
      · rw [decide_eq_false hE]
        cases hnm : nameAt (x.cps.toList.drop i) with
        | none => exact absurd (here_none.mpr hnm) hE
        | some q =>
          obtain ⟨tq, hx0⟩ := tH.2 0 _ (here_some hnm)
          rw [Array.getElem?_toList] at hx0
          have hlk := names_lookup hnm tkD
          have hq9 : q.1.length ≤ 9 := by
            have h2 : ∀ y ∈ namesT, y.1.length ≤ 9 := by decide +kernel
            exact h2 q (nameAt_mem hnm)
          k_steps
          rename Fr _ _ _ _ => F'
          rename News _ _ _ _ => N'
          rename _ = Data.cell (some (Value.int (_ + _) _)) => dA
          have hc : x.cps.toList[i]? = some 38 := by rw [List.getElem?_eq_getElem hlt', hc38]
          have hq2 : q.2.length ≤ q.1.length ∧ 1 ≤ q.1.length := by
            have h2 : ∀ y ∈ namesT, y.2.length ≤ y.1.length ∧ 1 ≤ y.1.length := by decide +kernel
            exact h2 q (nameAt_mem hnm)
          have hR' := hRI.ref hc hnm
          have hR1 := hR'.1
          exact ⟨x.cps.toList.length - (i + q.1.length), by omega, _, _, _, _, _, _, _, _, _, _, _, _, _, i + q.1.length, _, rfl, by assumption, F', news_sub N' (fun p hp => List.mem_cons_of_mem _ (List.mem_cons_of_mem _ hp)), dA, mS, mR, mB, mN, tB, tR.push, tS.push, hR', by omega, by rw [Array.size_push]; omega, by rw [Array.size_push]; omega, by rw [sum_snoc]; omega, rfl⟩
  · rename ¬ (_ : Int) < _ => hge
    have hdone := hRI.done (by omega)
    refine join_E (N.get (by k_mem)) tS ?_ fun t' k => ?_
    · show _ + _ * 0 ≤ _
      omega
    k_steps
    rename Fr _ _ _ _ => F'
    rename News _ _ _ _ => N'
    exact hS _ hdone _ _ _ _ _ _ _ _ _ _ F'.keep (N'.get (by k_mem)) (N'.get (by k_mem)) tB (N'.get (by k_mem)) tR (N'.fresh (List.mem_cons_self ..)) (N'.fresh (by k_mem : (lB, _) ∈ _)) (N'.fresh (by k_mem : (lR, _) ∈ _)) (by omega) (by omega)
end
end Mine

open PySem PySem.W PyProof.Rows PySem.Calls
set_option Elab.async false
set_option maxRecDepth 100000
set_option maxHeartbeats 8000000
namespace Mine
open PySem.Challenge

section
variable {w : World} {p : Program} {loose : List Str} {mg mb : Str → Option Value} {dp un : Nat} {fr : Option (List Env)} {gd : Option (List Code)}
  {h₀ : Heap} {g : Array GenState} {dr : Drawn} {tk : Nat} {os : OsState} {Q E : Value → Shared → Prop}

theorem read_t (X : (hd.heap_39 w.params).In h₀) (T : TopRead p loose mg mb h₀) (hdp : dp + 1 < recursionLimit) (hun : un + 90 < cLine) (htk : 1 ≤ tk) {x : Str} {t : Tok} (hx : x.length ≤ 1000)
    (hN : readS 0 x.cps.toList = none → ∀ h' tk', 1 ≤ tk' → (∀ b o, h₀.get? b = some o → h'.get? b = some o) → Q .none ⟨h', g, dr, tk', os⟩)
    (hS : ∀ q, readS 0 x.cps.toList = some q → ∀ (a lb lr : Addr) vb vr nb nr t h' tk', 1 ≤ tk' → (∀ b o, h₀.get? b = some o → h'.get? b = some o) → h'.get? a = some { cls := .type "tuple", data := .seq #[.ref lb, .ref lr, .str (Txt.join (Str.ofString "") q.2.2) t] } →
      h'.get? lb = some (W.listOf vb nb) → TxtA vb q.1 → h'.get? lr = some (W.listOf vr nr) → TxtA vr q.2.1 → h₀.get? a = none → h₀.get? lb = none → h₀.get? lr = none → vb.size ≤ 1000 → vr.size ≤ 1000 → Q (.ref a) ⟨h', g, dr, tk', os⟩) :
    wpAny (model rw_in0094_02.row.prog w) (ar dp un fr gd) (call (.ref 60) [.str x t]) Q E ⟨h₀, g, dr, tk, os⟩ :=
  wpAny_with_toks (n := 1) htk (read_spec X T hdp hun htk hx (fun e h' tk' hk q => hN e h' tk' q hk) fun q e a lb lr vb vr nb nr t h' tk' hk h1 h2 h3 h4 h5 h6 h7 h8 h9 h10 z => hS q e a lb lr vb vr nb nr t h' tk' z hk h1 h2 h3 h4 h5 h6 h7 h8 h9 h10)

def opens (x : Str) : Bool := [dq, sq].any (· == Txt.item x 0)
def badS (x : Str) : List Str := [Str.ofString "<", Str.ofString ">", Str.ofString "\n", Str.ofString "\r", Str.ofString "\t", Txt.item x 0]
def aloneS (y : Str) : Bool := within dq y && !within sq y
def valueQ (x : Str) (q : Rd) : Option Str :=
  if (badS x).any (fun b => q.1.any (· == b)) = true then none
  else if ((Txt.item x 0 == sq) != aloneS (Txt.join (Str.ofString "") q.2.2)) = true then none
  else if (aloneS (Txt.join (Str.ofString "") q.2.2) && q.2.1.any (· == Str.ofString "&quot;")) = true then none
  else some (Txt.join (Str.ofString "") q.2.2)
def valueB (x : Str) : Option Str := match readS 0 (Txt.slice x (some 1) (some (-1))).cps.toList with
  | none => none
  | some q => valueQ x q
def valueS (x : Str) : Option Str :=
  if x.length < 2 then none else if opens x = false then none else if Txt.item x (-1) ≠ Txt.item x 0 then none else valueB x

local macro_rules | `(tactic| k_call_by "enter" $b) => `(tactic| (refine' enter_plain (binds := $b) ?X ?T ?k6 ?k7 ?k8 ?k9 ?kB ?_ ?c2 ?c3 ?c4 ?c5; (case X => assumption); (case T => assumption); (case k6 => k_is); (case k7 => k_is); (case k8 => (show dp < recursionLimit; omega)); (case k9 => exact BindsTo.of_eq rfl); (case kB => exact locs rfl); (case c2 => exact rfl); (case c3 => exact rfl); (case c4 => exact rfl); (case c5 => decide)))
local macro_rules | `(tactic| walk_at "eval Name") => `(tactic| (k_here; k_dflt (refine' nameX_L ?F ?v ?_ ?a ?b; (case a => rfl); (case b => rfl); (case F => k_asm); (case v => assumption); k_whole)))
local macro_rules | `(tactic| walk_at "subscriptTail Name Slice str ref") => `(tactic| (k_here; (with_reducible show wpAny _ _ (subscriptTail _ _ (Value.str _ _) (Value.ref _)) _ _ _); (first | (refine' sliceT_ss (s := ⟨_, _, _, _, _⟩) ?z ?h ?hsz; case' hsz => (rw [sizeLine_eq]; omega)) | (refine' sliceT_ns (s := ⟨_, _, _, _, _⟩) ?z ?h ?hsz; case' hsz => (rw [sizeLine_eq]; omega)) | (refine' sliceT_sn (s := ⟨_, _, _, _, _⟩) ?z ?h ?hsz; case' hsz => (rw [sizeLine_eq]; omega))); (case z => (dsimp only; omega)); intro h' t' k' htk' hk'; (try dsimp only at hk'); (rename Fr _ _ _ _ => kF'); (rename News _ _ _ _ => kN'); (have kF9 := fr_up kF' hk'); (have kN9 := news_up kN' hk'); clear kF' kN' hk'))
local macro_rules | `(tactic| walk_at "compareOp In str ref") => `(tactic| (k_here; k_dflt (refine' in_E ?l ?t ?_; (case l => exact News.get (by k_asm) (by k_mem)); (case t => assumption); k_whole)))
local macro_rules | `(tactic| walk_at "compareOp NotIn str ref") => `(tactic| (k_here; k_dflt (refine' notin_E ?l ?t ?_; (case l => exact News.get (by k_asm) (by k_mem)); (case t => assumption); k_whole)))
local macro_rules | `(tactic| walk_at "execs nil") => `(tactic| (k_here; (try dsimp only); refine' gen_toks ?k1 ?_; (case k1 => omega); intro tk' htk'; refine wpAny_execs_nil ?_))
local macro_rules | `(tactic| walk_at "execs cons") => `(tactic| (k_here; (try dsimp only); refine' gen_toks ?k1 ?_; (case k1 => omega); intro tk' htk'; refine wpAny_execs_cons ?_))

theorem value_spec (X : (hd.heap_39 w.params).In h₀) (T : TopRead p loose mg mb h₀) (hdp : dp + 2 < recursionLimit) (hun : un + 120 < cLine) (htk : 1 ≤ tk) {x : Str} {t : Tok} (hx : x.length ≤ 1000)
    (hN : valueS x = none → ∀ h' tk', (∀ b o, h₀.get? b = some o → h'.get? b = some o) → Q .none ⟨h', g, dr, tk', os⟩)
    (hS : ∀ q, valueS x = some q → ∀ t h' tk', (∀ b o, h₀.get? b = some o → h'.get? b = some o) → Q (.str q t) ⟨h', g, dr, tk', os⟩) :
    wpAny (model rw_in0094_02.row.prog w) (ar dp un fr gd) (call (.ref 67) [.str x t]) Q E ⟨h₀, g, dr, tk, os⟩ := by
  revert X
  k_fill
  intro X
  refine wpAny_call ?_
  k_call_by "enter" [(Str.ofString "told", Value.str x t)]
  intro L h₁ F N
  dsimp only [List.length_cons, List.length_nil]
  k_steps
  · rename ((x.length : Int) < 2) => h1
    exact hN (by unfold valueS; rw [if_pos (by omega)]) _ _ (Fr.keep (by assumption))
  · rename ¬ ((x.length : Int) < 2) => h1
    rename (Txt.item x (-1) != Txt.item x 0) = true => h3
    rename (List.any _ _) = true => h2
    refine hN ?_ _ _ (Fr.keep (by assumption))
    unfold valueS
    rw [if_neg (by omega), if_neg (by unfold opens; rw [h2]; exact Bool.noConfusion), if_pos (by simpa using h3)]
  · rename ¬ ((x.length : Int) < 2) => h1
    rename (Txt.item x (-1) != Txt.item x 0) = false => h3
    rename (List.any _ _) = true => h2
    rename Fr _ _ _ _ => F2
    rename News _ _ _ _ => N2
    have hsl := slice_len x (some 1) (some (-1))
    have e0 : valueS x = valueB x := by
      unfold valueS
      rw [if_neg (by omega), if_neg (by unfold opens; rw [h2]; exact Bool.noConfusion), if_neg (by simpa using h3)]
    refine read_t (X.keeps F2.keep) (T.keeps F2.keep) (by show dp + 1 + 1 < recursionLimit; omega) (by show un + 3 + 90 < cLine; omega) (by omega) (by omega) (fun hr h' tk' htk' hk => ?_) fun q hr a lb lr vb vr nb nr t' h' tk' htk' hk ga gb tb gr tr fa fb fr' szb szr => ?_
    · unfold valueB at e0; rw [hr] at e0; dsimp only at e0
      have F3 := fr_up F2 hk
      have N3 := news_up N2 hk
      clear hk F2 N2
      k_steps
      refine hN e0 _ _ (Fr.keep (by assumption))
    · unfold valueB at e0; rw [hr] at e0; dsimp only at e0
      have F3 := fr_up F2 hk
      have N3 := news_fresh F2 fa ga (news_fresh F2 fb gb (news_fresh F2 fr' gr (news_up N2 hk)))
      clear hk F2 N2 ga fa gb fb gr fr'
      k_steps
      all_goals (first | refine hN (e0.trans ?_) _ _ (Fr.keep (by assumption)) | refine hS _ (e0.trans ?_) _ _ _ (Fr.keep (by assumption)))
      all_goals (unfold valueQ badS aloneS within; simp only [*, List.any_cons, List.any_nil, Bool.or_true, Bool.true_or, Bool.or_false, Bool.false_or, Bool.not_true, Bool.not_false, Bool.and_true, Bool.and_false, Bool.true_and, Bool.false_and, if_true, if_false, Bool.false_eq_true])
      all_goals (rename ((_ == _) != _) = _ => hq; simp only [*, Bool.not_true, Bool.not_false] at hq; simp only [sq, hq, if_true, if_false, Bool.false_eq_true, ite_self])
  · rename ¬ ((x.length : Int) < 2) => h1
    rename (List.any _ _) = false => h2
    refine hN ?_ _ _ (Fr.keep (by assumption))
    unfold valueS
    rw [if_neg (by omega), if_pos (by unfold opens; rw [h2])]
end
end Mine

open PySem PySem.W PyProof.Rows PySem.Calls
set_option Elab.async false
set_option maxRecDepth 100000
set_option maxHeartbeats 8000000
namespace Mine
open PySem.Challenge

section
variable {w : World} {p : Program} {loose : List Str} {mg mb : Str → Option Value} {dp un : Nat} {fr : Option (List Env)} {gd : Option (List Code)}
  {h₀ : Heap} {g : Array GenState} {dr : Drawn} {tk : Nat} {os : OsState} {Q E : Value → Shared → Prop}

def textQ (q : Rd) : Option Str :=
  if q.1.any (· == Str.ofString "<") = true then none else if q.1.any (· == Str.ofString ">") = true then none
  else if q.2.1.filter (fun n => !([Str.ofString "&amp;", Str.ofString "&lt;", Str.ofString "&gt;"].any (· == n))) ≠ [] then none else some (Txt.join (Str.ofString "") q.2.2)
def textS (x : Str) : Option Str := match readS 0 x.cps.toList with
  | none => none
  | some q => textQ q

theorem readS_refs : ∀ (l : List Nat) (k : Nat) (q : Rd), readS k l = some q → ∀ r ∈ q.2.1, r ∈ namesT.map (·.1)
  | [], k, q, h, r, hr => by
    cases k <;> (simp only [readS, Option.some.injEq] at h; subst h; exact nomatch hr)
  | c :: l, k + 1, q, h, r, hr => readS_refs l k q h r hr
  | c :: l, 0, q, h, r, hr => by
    simp only [readS] at h
    split at h
    · split at h
      · cases h
      · rename_i p hp
        obtain ⟨q', hq', rfl⟩ := Option.map_eq_some_iff.mp h
        rcases List.mem_cons.mp hr with rfl | hr
        · exact List.mem_map.mpr ⟨p, nameAt_mem hp, rfl⟩
        · exact readS_refs l _ q' hq' r hr
    · obtain ⟨q', hq', rfl⟩ := Option.map_eq_some_iff.mp h
      exact readS_refs l _ q' hq' r hr
theorem read_refs_ok {l : List Nat} {k : Nat} {q : Rd} (h : readS k l = some q) : ∀ y ∈ q.2.1, PyData.strOk y = true := fun y hy => by
  have h2 : ∀ y ∈ namesT.map (·.1), PyData.strOk y = true := by decide +kernel
  exact h2 y (readS_refs l k q h y hy)

local macro_rules | `(tactic| k_call_by "enter" $b) => `(tactic| (refine' enter_plain (binds := $b) ?X ?T ?k6 ?k7 ?k8 ?k9 ?kB ?_ ?c2 ?c3 ?c4 ?c5; (case X => assumption); (case T => assumption); (case k6 => k_is); (case k7 => k_is); (case k8 => (show dp < recursionLimit; omega)); (case k9 => exact BindsTo.of_eq rfl); (case kB => exact locs rfl); (case c2 => exact rfl); (case c3 => exact rfl); (case c4 => exact rfl); (case c5 => decide)))
local macro_rules | `(tactic| walk_at "eval Name") => `(tactic| (k_here; k_dflt (refine' nameX_L ?F ?v ?_ ?a ?b; (case a => rfl); (case b => rfl); (case F => k_asm); (case v => assumption); k_whole)))
local macro_rules | `(tactic| walk_at "subscriptTail Name Slice str ref") => `(tactic| (k_here; (with_reducible show wpAny _ _ (subscriptTail _ _ (Value.str _ _) (Value.ref _)) _ _ _); (first | (refine' sliceT_ss (s := ⟨_, _, _, _, _⟩) ?z ?h ?hsz; case' hsz => (rw [sizeLine_eq]; omega)) | (refine' sliceT_ns (s := ⟨_, _, _, _, _⟩) ?z ?h ?hsz; case' hsz => (rw [sizeLine_eq]; omega)) | (refine' sliceT_sn (s := ⟨_, _, _, _, _⟩) ?z ?h ?hsz; case' hsz => (rw [sizeLine_eq]; omega))); (case z => (dsimp only; omega)); intro h' t' k' htk' hk'; (try dsimp only at hk'); (rename Fr _ _ _ _ => kF'); (rename News _ _ _ _ => kN'); (have kF9 := fr_up kF' hk'); (have kN9 := news_up kN' hk'); clear kF' kN' hk'))
local macro_rules | `(tactic| walk_at "compareOp In str ref") => `(tactic| (k_here; k_dflt (refine' in_E ?l ?t ?_; (case l => exact News.get (by k_asm) (by k_mem)); (case t => assumption); k_whole)))
local macro_rules | `(tactic| walk_at "compareOp NotIn str ref") => `(tactic| (k_here; k_dflt (refine' notin_E ?l ?t ?_; (case l => exact News.get (by k_asm) (by k_mem)); (case t => assumption); k_whole)))
local macro_rules | `(tactic| walk_at "execs nil") => `(tactic| (k_here; (try dsimp only); refine' gen_toks ?k1 ?_; (case k1 => omega); intro tk' htk'; refine wpAny_execs_nil ?_))
local macro_rules | `(tactic| walk_at "execs cons") => `(tactic| (k_here; (try dsimp only); refine' gen_toks ?k1 ?_; (case k1 => omega); intro tk' htk'; refine wpAny_execs_cons ?_))

theorem text_spec (X : (hd.heap_39 w.params).In h₀) (T : TopRead p loose mg mb h₀) (hdp : dp + 2 < recursionLimit) (hun : un + 120 < cLine) (htk : 1 ≤ tk) {x : Str} {t : Tok} (hx : x.length ≤ 1000)
    (hN : textS x = none → ∀ h' tk', (∀ b o, h₀.get? b = some o → h'.get? b = some o) → Q .none ⟨h', g, dr, tk', os⟩)
    (hS : ∀ q, textS x = some q → ∀ t h' tk', (∀ b o, h₀.get? b = some o → h'.get? b = some o) → Q (.str q t) ⟨h', g, dr, tk', os⟩) :
    wpAny (model rw_in0094_02.row.prog w) (ar dp un fr gd) (call (.ref 72) [.str x t]) Q E ⟨h₀, g, dr, tk, os⟩ := by
  revert X
  k_fill
  intro X
  refine wpAny_call ?_
  k_call_by "enter" [(Str.ofString "told", Value.str x t)]
  intro L h₁ F N
  dsimp only [List.length_cons, List.length_nil]
  k_steps
  rename Fr _ _ _ _ => F2
  rename News _ _ _ _ => N2
  refine read_t (X.keeps F2.keep) (T.keeps F2.keep) (by show dp + 1 + 1 < recursionLimit; omega) (by show un + 3 + 90 < cLine; omega) (by omega) (by omega) (fun hr h' tk' htk' hk => ?_) fun q hr a lb lr vb vr nb nr t' h' tk' htk' hk ga gb tb gr tr fa fb fr' szb szr => ?_
  · have e0 : textS x = none := by unfold textS; rw [hr]
    have F3 := fr_up F2 hk
    have N3 := news_up N2 hk
    clear hk F2 N2
    k_steps
    exact hN e0 _ _ (Fr.keep (by assumption))
  · have e0 : textS x = textQ q := by unfold textS; rw [hr]
    have F3 := fr_up F2 hk
    have N3 := news_fresh F2 fa ga (news_fresh F2 fb gb (news_fresh F2 fr' gr (news_up N2 hk)))
    clear hk F2 N2 ga fa gb fb gr fr'
    repeat' ((fail_if_success (with_reducible show wpAny _ _ (eval (Expr.ListComp _ _ _ _) _) _ _ _)); (first | (k_unfold; (try dsimp only)) | walk1 | (dsimp only; walk1)))
    · rename (List.any _ _) = true => hb
      exact hN (e0.trans (by unfold textQ; rw [if_pos hb])) _ _ (Fr.keep (by assumption))
    · rename (List.any _ _) = true => hb
      rename (List.any _ _) = false => hb2
      exact hN (e0.trans (by unfold textQ; rw [hb2, if_neg Bool.false_ne_true, if_pos hb])) _ _ (Fr.keep (by assumption))
    rename (q.1.any fun x => x == Str.ofString ">") = false => hb
    rename (q.1.any fun x => x == Str.ofString "<") = false => hb2
    have e1 : textQ q = if q.2.1.filter (fun n => !([Str.ofString "&amp;", Str.ofString "&lt;", Str.ofString "&gt;"].any (· == n))) ≠ [] then none else some (Txt.join (Str.ofString "") q.2.2) := by
      unfold textQ; rw [hb2, if_neg Bool.false_ne_true, hb, if_neg Bool.false_ne_true]
    rename Fr _ _ _ _ => F
    rename News _ _ _ _ => N
    refine wpAny_with_toks (n := 1) (by assumption) (wpAny_ListComp_free (fun v => match v with | .str n _ => !([Str.ofString "&amp;", Str.ofString "&lt;", Str.ofString "&gt;"].any (· == n)) | _ => false) Eq rfl (by decide) rfl (by decide) rfl ?_)
    have hLr := (N (lr, _) (by k_mem)).1
    dsimp only at hLr
    refine nameX_L F rfl ?_ rfl rfl
    have hlA : Heap.IsList _ lr vr := ⟨_, hLr, rfl, _, rfl⟩
    refine wpAny_pyIter_list hlA ?_
    have hlt := Heap.lt_size hLr
    refine ⟨_, _, _, _, _, _, rfl, Walks.list rfl _ lr (Nat.ne_of_lt hlt) vr, ?_, ⟨⟨_, Heap.get?_push_size _ rfl, rfl, rfl⟩, hlA.at fun o e => Heap.get?_push_of_some _ e⟩, ?_, ⟨?_, ?_⟩, ?_⟩
    · rw [sizeLine_eq]; omega
    · intro b hb
      dsimp only
      rw [Heap.size_push]
      rcases List.mem_cons.mp hb with rfl | hb
      · exact Nat.lt_succ_self _
      · rw [List.mem_singleton.mp hb]; exact Nat.lt_succ_of_lt hlt
    · rintro C j v s₃ m₃ E' hC hv hn hm hk htk
      obtain ⟨n, tn, hxn, rfl⟩ := TxtA.at tr hv
      refine forIn_one ?_
      obtain ⟨h3, g3, dr3, tk3, os3⟩ := s₃
      dsimp only at hk hn htk ⊢
      k_steps
      refine wpAny_newList ?_ (by size_fits)
      refine notin_list_strs (vs := [_, _, _]) (ys := [Str.ofString "&amp;", Str.ofString "&lt;", Str.ofString "&gt;"]) ⟨_, Heap.get?_push_size _ rfl, rfl, _, rfl⟩ (.cons _ _ (.cons _ _ (.cons _ _ .nil))) ?_
      k_steps
      exact ⟨_, _, rfl, fun _ _ e => Heap.get?_push_of_some _ e⟩
    · rintro C j v s₃ m₃ E' hC hv _ hn hm hk htk
      exact cname_L hn hm ⟨rfl, _, _, rfl, fun _ _ e => e⟩
    · intro Dh h' tk' ys vs hDh' hys hpl hlen hP hF hk htk9
      have hns := F.ns.at' (h' := h') fun o e => hk _ o (by rw [List.mem_singleton]; exact Nat.ne_of_lt F.ns.lt) (Heap.get?_push_of_some _ e)
      have tV : Txts vs q.2.1 := by rw [all_vs hlen hP]; exact tr
      have tH : TxtA ys (q.2.1.filter (fun n => !([Str.ofString "&amp;", Str.ofString "&lt;", Str.ofString "&gt;"].any (· == n)))) := by
        unfold TxtA
        rw [← paired_eq hF]
        exact Txts.filter (fun _ _ => rfl) tV
      clear hF hP tV hlen hys vs
      obtain ⟨nH, hg⟩ := hpl
      dsimp only at hDh' hk hns htk9
      obtain ⟨F', N', hne, hneL⟩ := after_comp F N hns hDh' hg (fun b o _ => hk b o)
      have n1 := neN (hne (a, _) (by k_mem))
      have n2 := neN (hne (lr, _) (by k_mem))
      have n3 := neN (hne (lb, _) (by k_mem))
      clear hne hk hns hDh' hg F N hLr hlA hlt
      dsimp only at n1 n2 n3 ⊢
      have okR : ∀ y ∈ q.2.1, PyData.strOk y = true := read_refs_ok hr
      have okH : ∀ y ∈ q.2.1.filter (fun n => !([Str.ofString "&amp;", Str.ofString "&lt;", Str.ofString "&gt;"].any (· == n))), PyData.strOk y = true := fun y hy => okR y (List.mem_filter.mp hy).1
      repeat' ((fail_if_success (with_reducible show wpAny _ _ (compareOp _ _ _) _ _ _)); (first | (k_unfold; (try dsimp only)) | walk1 | (dsimp only; walk1)))
      rename News _ _ _ _ => N9
      rename Fr _ _ _ _ => F9
      refine ne_txts (N9.get (by k_mem)) tH (N9.get (by k_mem)) TxtA.nil okH (fun _ q => nomatch q) (by show un + 3 + 64 < cLine; omega) ?_
      by_cases hE : q.2.1.filter (fun n => !([Str.ofString "&amp;", Str.ofString "&lt;", Str.ofString "&gt;"].any (· == n))) = []
      · rw [decide_eq_true hE]
        k_steps
        exact hS _ (e0.trans (e1.trans (by rw [if_neg (fun h => h hE)]))) _ _ _ (Fr.keep (by assumption))
      · rw [decide_eq_false hE]
        k_steps
        exact hN (e0.trans (e1.trans (by rw [if_pos hE]))) _ _ (Fr.keep (by assumption))
end
end Mine

open PySem PySem.W PyProof.Rows PySem.Calls
set_option Elab.async false
set_option maxRecDepth 100000
set_option maxHeartbeats 8000000
namespace Mine
open PySem.Challenge

section
variable {w : World} {p : Program} {loose : List Str} {mg mb : Str → Option Value} {dp un : Nat} {fr : Option (List Env)} {gd : Option (List Code)}
  {h₀ : Heap} {g : Array GenState} {dr : Drawn} {tk : Nat} {os : OsState} {Q E : Value → Shared → Prop}

local macro_rules | `(tactic| k_call_by "enter" $b) => `(tactic| (refine' enter_plain (binds := $b) ?X ?T ?k6 ?k7 ?k8 ?k9 ?kB ?_ ?c2 ?c3 ?c4 ?c5; (case X => assumption); (case T => assumption); (case k6 => k_is); (case k7 => k_is); (case k8 => (show dp < recursionLimit; omega)); (case k9 => exact BindsTo.of_eq rfl); (case kB => exact locs rfl); (case c2 => exact rfl); (case c3 => exact rfl); (case c4 => exact rfl); (case c5 => decide)))
local macro_rules | `(tactic| walk_at "eval Name") => `(tactic| (k_here; k_dflt (refine' nameX_L ?F ?v ?_ ?a ?b; (case a => rfl); (case b => rfl); (case F => k_asm); (case v => assumption); k_whole)))
local macro_rules | `(tactic| walk_at "subscriptTail Name Slice str ref") => `(tactic| (k_here; (with_reducible show wpAny _ _ (subscriptTail _ _ (Value.str _ _) (Value.ref _)) _ _ _); (first | (refine' sliceT_ss (s := ⟨_, _, _, _, _⟩) ?z ?h ?hsz; case' hsz => (rw [sizeLine_eq]; omega)) | (refine' sliceT_ns (s := ⟨_, _, _, _, _⟩) ?z ?h ?hsz; case' hsz => (rw [sizeLine_eq]; omega)) | (refine' sliceT_sn (s := ⟨_, _, _, _, _⟩) ?z ?h ?hsz; case' hsz => (rw [sizeLine_eq]; omega))); (case z => (dsimp only; omega)); intro h' t' k' htk' hk'; (try dsimp only at hk'); (rename Fr _ _ _ _ => kF'); (rename News _ _ _ _ => kN'); (have kF9 := fr_up kF' hk'); (have kN9 := news_up kN' hk'); clear kF' kN' hk'))
local macro_rules | `(tactic| walk_at "compareOp In str ref") => `(tactic| (k_here; k_dflt (refine' in_E ?l ?t ?_; (case l => exact News.get (by k_asm) (by k_mem)); (case t => assumption); k_whole)))
local macro_rules | `(tactic| walk_at "compareOp NotIn str ref") => `(tactic| (k_here; k_dflt (refine' notin_E ?l ?t ?_; (case l => exact News.get (by k_asm) (by k_mem)); (case t => assumption); k_whole)))
local macro_rules | `(tactic| walk_at "execs nil") => `(tactic| (k_here; (try dsimp only); refine' gen_toks ?k1 ?_; (case k1 => omega); intro tk' htk'; refine wpAny_execs_nil ?_))
local macro_rules | `(tactic| walk_at "execs cons") => `(tactic| (k_here; (try dsimp only); refine' gen_toks ?k1 ?_; (case k1 => omega); intro tk' htk'; refine wpAny_execs_cons ?_))

local macro_rules | `(tactic| walk_at "subscriptTail") => `(tactic| (k_here; (with_reducible show wpAny _ _ (subscriptTail _ _ (Value.ref _) (Value.int _ _)) _ _ _); k_dflt (refine' item_T (B := 8) ?l ?b ?h0 ?h1 ?h2 ?_; (case l => exact News.get (by k_asm) (by k_mem)); (case b => (repeat' (first | exact trivial | refine ⟨⟨_, _, rfl, by first | assumption | decide +kernel⟩, ?_⟩))); (case h0 => first | omega | exact Int.fmod_nonneg_of_pos _ (by decide)); (case h1 => (show _ < ((_ : Nat) : Int); simp only [List.length_cons, List.length_nil]; first | omega | exact Int.fmod_lt_of_pos _ (by decide))); (case h2 => (simp only [List.length_cons, List.length_nil]; decide))); intro y t hy))
theorem draw_spec (X : (hd.heap_39 w.params).In h₀) (T : TopRead p loose mg mb h₀) (hdp : dp + 2 < recursionLimit) (hun : un + 120 < cLine) {l : Addr} {vs : List Value} {ns : List Int} (hl : h₀.IsList l vs.toArray) (hi : IntsAre vs ns) (hns : ns.length ≤ 63)
    (hQ : ∀ y : Str, y.length ≤ 30 → ∀ t h' tk', 1 ≤ tk' → (∀ b o, h₀.get? b = some o → h'.get? b = some o) → Q (.str y t) ⟨h', g, dr, tk', os⟩) :
    wpAny (model rw_in0094_02.row.prog w) (ar dp un fr gd) (call (.ref 55) [.ref l]) Q E ⟨h₀, g, dr, tk, os⟩ := by
  revert X
  k_fill
  intro X
  refine wpAny_call ?_
  k_call_by "enter" [(Str.ofString "script", Value.ref l)]
  intro L h₁ F N
  dsimp only [List.length_cons, List.length_nil]
  repeat' ((fail_if_success (with_reducible show wpAny _ _ (exec (Stmt.For _ _ _ _ _) _) _ _ _)); walk1)
  refine wpAny_For ?_ (by intro _; rfl)
  repeat' ((fail_if_success (with_reducible show wpAny _ _ (pyIter _) _ _ _)); walk1)
  rename IntsAre _ (List.take 63 ns) => hI
  rename Fr _ _ _ _ => F
  rename News _ _ _ _ => N
  generalize hm : (fun y => if y = Str.ofString "slips" then some (Value.ref _) else _) = m at F
  rename_i lF _ _ _ _ _ lS _ _ _ _ _ D ws hh hC hL l1
  have mS : m (Str.ofString "slips") = some (Value.ref lS) := by rw [← hm]; rfl
  have mF : m (Str.ofString "fit") = some (Value.ref lF) := by rw [← hm]; rfl
  have mI : ∃ y t, m (Str.ofString "inner") = some (.str y t) ∧ y.length ≤ 22 := ⟨_, _, by rw [← hm]; rfl, by omega⟩
  clear hm
  refine for_list_E rfl rfl rfl F N (by dsimp only; omega) (List.mem_cons_self ..) (fun _ m' news' _ => news' = _ ∧ (∃ y t, m' (Str.ofString "inner") = some (Value.str y t) ∧ y.length ≤ 22) ∧ m' (Str.ofString "fit") = some (Value.ref lF) ∧ m' (Str.ofString "slips") = some (Value.ref lS)) ⟨rfl, mI, mF, mS⟩ (fun _ _ _ _ q => by rw [q.1]; exact List.mem_cons_self ..) ?_ ?_
  · rintro i v m₁ h tk news' own hv ⟨rfl, ⟨y, t, hin, hyl⟩, hfit, hslip⟩ htk _ _ F N
    obtain ⟨n, tn, rfl⟩ := ints_at hI (by simpa using hv)
    dsimp only at F N ⊢
    have htk : 1 ≤ tk + 1 := by omega
    refine gen_toks htk fun tk htk => ?_
    k_steps
    · rename Fr _ _ _ _ => F'; rename News _ _ _ _ => N'; refine turn_next F' N' (fun _ hp => List.mem_cons_of_mem _ hp) rfl ⟨rfl, ⟨_, _, rfl, by omega⟩, hfit, hslip⟩
    · rename Fr _ _ _ _ => F'; rename News _ _ _ _ => N'; refine turn_next F' N' (fun _ hp => List.mem_cons_of_mem _ hp) rfl ⟨rfl, ⟨_, _, rfl, chr_len (by assumption) (by assumption)⟩, hfit, hslip⟩
    · rename Fr _ _ _ _ => F'; rename News _ _ _ _ => N'; refine turn_next F' N' (fun _ hp => List.mem_cons_of_mem _ hp) rfl ⟨rfl, ⟨_, _, rfl, by omega⟩, hfit, hslip⟩
    · rename Fr _ _ _ _ => F'; rename News _ _ _ _ => N'; refine turn_next F' N' (fun _ hp => List.mem_cons_of_mem _ hp) rfl ⟨rfl, ⟨_, _, hin, hyl⟩, hfit, hslip⟩
  · rintro h' tk m' news' ⟨rfl, ⟨y, t, hin, hyl⟩, hfit, hslip⟩ htk _ F N
    k_steps
    exact hQ _ (by omega) _ _ _ (by omega) (Fr.keep (by assumption))
end
end Mine

open PySem PySem.W PyProof.Rows PySem.Calls
set_option Elab.async false
set_option maxRecDepth 100000
namespace Mine
open PySem.StrLaws PySem.Builtin.Str

/-- the left-to-right scan that lays v wherever k stands -/
def rep (k v : List Nat) : Nat → List Nat → List Nat
  | _, [] => []
  | n + 1, _ :: l => rep k v n l
  | 0, c :: l => if k.isPrefixOf (c :: l) = true then v ++ rep k v (k.length - 1) l else c :: rep k v 0 l

theorem rep_skip (k v : List Nat) : ∀ (n : Nat) (l : List Nat), rep k v n l = rep k v 0 (l.drop n)
  | 0, _ => rfl
  | n + 1, [] => by simp [rep]
  | n + 1, c :: l => by rw [rep, List.drop_succ_cons]; exact rep_skip k v n l

theorem len_cps (x : Str) : x.cps.toList.length = x.length := by simp [Str.length]
theorem str_ext {x y : Str} (h : x.cps.toList = y.cps.toList) : x = y := Str.ext' (Array.toList_inj.mp h)

theorem at_iff {x y : Str} (hy : 1 ≤ y.length) (i : Nat) : At x y x.length i ↔ y.cps.toList.isPrefixOf (x.cps.toList.drop i) = true := by
  have hx := len_cps x
  have hl := len_cps y
  unfold At
  rw [subAt_eq, List.isPrefixOf_iff_prefix, beq_iff_eq]
  constructor
  · rintro ⟨_, h⟩
    rw [← h]
    exact List.take_prefix _ _
  · intro h
    have h1 := h.length_le
    rw [List.length_drop] at h1
    refine ⟨by omega, ?_⟩
    rw [← hl]
    exact (List.prefix_iff_eq_take.mp h).symm

theorem rep_free {x y : Str} (hy : 1 ≤ y.length) (v : List Nat) : ∀ (n a : Nat), a + n ≤ x.cps.toList.length → (∀ k, a ≤ k → k < a + n → ¬ At x y x.length k) →
    rep y.cps.toList v 0 (x.cps.toList.drop a) = (x.cps.toList.drop a).take n ++ rep y.cps.toList v 0 (x.cps.toList.drop (a + n))
  | 0, a, _, _ => by simp
  | n + 1, a, h, hn => by
    have hlt : a < x.cps.toList.length := by omega
    have ih := rep_free hy v n (a + 1) (by omega) fun k h1 h2 => hn k (by omega) (by omega)
    have h0 : ¬ (y.cps.toList.isPrefixOf (x.cps.toList[a] :: x.cps.toList.drop (a + 1)) = true) := by
      rw [← List.drop_eq_getElem_cons hlt]
      exact fun q => hn a (Nat.le_refl _) (by omega) ((at_iff hy a).mpr q)
    rw [List.drop_eq_getElem_cons hlt, rep, if_neg h0, ih, List.take_succ_cons, show a + (n + 1) = a + 1 + n from by omega]
    rfl

theorem rep_chain {x y : Str} (hy : 1 ≤ y.length) (z : Str) : ∀ (cuts : List Nat) (a f : Nat), a ≤ x.length → ChainG x y x.length a cuts f → (∀ k, f ≤ k → ¬ At x y x.length k) →
    (Str.join z (partsFrom x y.length a cuts)).cps.toList = rep y.cps.toList z.cps.toList 0 (x.cps.toList.drop a)
  | [], a, f, ha, h, hn => by
    have e : f = a := h
    subst e
    have hx := len_cps x
    show (strSub x f x.length).cps.toList = _
    rw [strSub_toList, rep_free hy _ (x.length - f) f (by omega) fun k h1 _ => hn k h1]
    rw [show f + (x.length - f) = x.cps.toList.length from by omega, List.drop_length]
    simp [rep]
  | c :: r, a, f, ha, h, hn => by
    obtain ⟨p, q, e⟩ := partsFrom_ne x y.length (c + y.length) r
    have hx := len_cps x
    have hl := len_cps y
    have hc := h.2.1.1
    have ih := rep_chain hy z r (c + y.length) f (by omega) h.2.2.2 hn
    show (Str.join z (strSub x a c :: partsFrom x y.length (c + y.length) r)).cps.toList = _
    rw [e] at ih ⊢
    show (strSub x a c ++ z ++ Str.join z (p :: q)).cps.toList = _
    simp only [Str.cps_append, Array.toList_append]
    rw [ih, strSub_toList, rep_free hy _ (c - a) a (by have := h.1; omega) fun k h1 h2 => h.2.2.1 k h1 (by omega)]
    have e2 : a + (c - a) = c := by have := h.1; omega
    have hlt : c < x.cps.toList.length := by omega
    have hp := (at_iff hy c).mp h.2.1
    rw [e2, List.append_assoc]
    congr 1
    rw [List.drop_eq_getElem_cons hlt] at hp ⊢
    rw [rep, if_pos hp, rep_skip _ _ (y.cps.toList.length - 1), List.drop_drop, show c + 1 + (y.cps.toList.length - 1) = c + y.length from by omega]

theorem replace_rep (x y z : Str) (hy : 1 ≤ y.length) : (Txt.replace x y z).cps.toList = rep y.cps.toList z.cps.toList 0 x.cps.toList := by
  obtain ⟨f, hG, hn⟩ := occ_tight x y hy
  have h := rep_chain hy z _ 0 f (Nat.zero_le _) hG hn
  rw [List.drop_zero] at h
  rw [← h, ← partsBetween_eq, ← glued_eq_join]
  unfold Txt.replace
  cases ho : occurrences x y 0 x.length (x.length + 1) with
  | nil =>
    rw [show (([] : List Nat).isEmpty || (y.length == 0 && z.length == 0)) = true from rfl, if_pos rfl, partsBetween_eq, glued_eq_join]
    show _ = (strSub x 0 x.length).cps.toList
    rw [sub_whole]
  | cons i r =>
    have h0 : (y.length == 0) = false := by simp; omega
    rw [h0]
    rfl

theorem rep_len_le {k v : List Nat} (h : v.length ≤ k.length) (hk : 1 ≤ k.length) : ∀ (l : List Nat) (n : Nat), n ≤ l.length → (rep k v n l).length + n ≤ l.length
  | [], n, hn => by cases n <;> simp_all [rep]
  | c :: l, n + 1, hn => by
    rw [List.length_cons] at hn ⊢
    have := rep_len_le h hk l n (by omega)
    rw [rep]; omega
  | c :: l, 0, _ => by
    rw [rep]
    split
    · rename_i hp
      have h1 := (List.isPrefixOf_iff_prefix.mp hp).length_le
      rw [List.length_cons] at h1
      have := rep_len_le h hk l (k.length - 1) (by omega)
      rw [List.length_append, List.length_cons]; omega
    · have := rep_len_le h hk l 0 (Nat.zero_le _)
      rw [List.length_cons, List.length_cons]; omega
theorem replace_shrinks (x y z : Str) (hy : 1 ≤ y.length) (h : z.length ≤ y.length) : (Txt.replace x y z).length ≤ x.length := by
  rw [← len_cps, ← len_cps x, replace_rep x y z hy]
  exact rep_len_le (by rw [len_cps, len_cps]; exact h) (by rw [len_cps]; exact hy) _ 0 (Nat.zero_le _)
/-- each sign becomes at most B signs -/
theorem rep_len_mul {k v : List Nat} {B : Nat} (h : v.length ≤ B) (hB : 1 ≤ B) : ∀ (l : List Nat) (n : Nat), (rep k v n l).length ≤ l.length * B
  | [], n => by cases n <;> simp [rep]
  | c :: l, n + 1 => by
    rw [rep, List.length_cons, Nat.succ_mul]
    exact Nat.le_trans (rep_len_mul h hB l n) (Nat.le_add_right _ _)
  | c :: l, 0 => by
    rw [rep, List.length_cons, Nat.succ_mul]
    split
    · rw [List.length_append]
      have := rep_len_mul (k := k) h hB l (k.length - 1)
      omega
    · rw [List.length_cons]
      have := rep_len_mul (k := k) h hB l 0
      omega
theorem replace_mul (x y z : Str) (hy : 1 ≤ y.length) {B : Nat} (h : z.length ≤ B) (hB : 1 ≤ B) : (Txt.replace x y z).length ≤ x.length * B := by
  rw [← len_cps, ← len_cps x, replace_rep x y z hy]
  exact rep_len_mul (by rw [len_cps]; exact h) hB _ 0

theorem rep_one (c : Nat) (v : List Nat) : ∀ l : List Nat, rep [c] v 0 l = l.flatMap fun d => if d = c then v else [d]
  | [] => rfl
  | d :: l => by
    have ih := rep_one c v l
    rw [rep, List.flatMap_cons]
    by_cases h : d = c
    · subst h
      rw [if_pos (by simp [List.isPrefixOf]), if_pos rfl]
      show v ++ rep [d] v 0 l = _
      rw [ih]
    · rw [if_neg (by simp [List.isPrefixOf]; exact fun q => h q.symm), if_neg h, ih]
      rfl
theorem rep_pass {k : List Nat} {a : Nat} {k' : List Nat} (hk : k = a :: k') (v m : List Nat) : ∀ l : List Nat, (∀ d ∈ l, d ≠ a) → rep k v 0 (l ++ m) = l ++ rep k v 0 m
  | [], _ => rfl
  | d :: l, h => by
    have hd : d ≠ a := h d (List.mem_cons_self ..)
    rw [List.cons_append, rep, if_neg (by subst hk; simp [List.isPrefixOf]; exact fun q => absurd q.symm hd), rep_pass hk v m l fun e he => h e (List.mem_cons_of_mem _ he)]
    rfl
end Mine

open PySem PySem.W PyProof.Rows PySem.Calls
set_option Elab.async false
set_option maxRecDepth 100000
namespace Mine
open PySem.StrLaws PySem.Builtin.Str

/-- a sign that is no mark, or one of the seven references -/
abbrev TK := Nat ⊕ (Str × Str)
def tkOk : TK → Prop
  | .inl c => c ≠ 38
  | .inr p => p ∈ namesT
def tkCodes : TK → List Nat
  | .inl c => [c]
  | .inr p => p.1.cps.toList
def tkVal : TK → Str
  | .inl c => ⟨#[c]⟩
  | .inr p => p.2
def tkBare : TK → Option Str
  | .inl c => some ⟨#[c]⟩
  | .inr _ => none
def tkRef : TK → Option Str
  | .inl _ => none
  | .inr p => some p.1
def tkFlat (T : List TK) : List Nat := T.flatMap tkCodes

theorem nm_head : ∀ p ∈ namesT, p.1.cps.toList = 38 :: p.1.cps.toList.tail ∧ ∀ d ∈ p.1.cps.toList.tail, d ≠ 38 := by decide +kernel
theorem nm_cmp : ∀ p ∈ namesT, ∀ q ∈ namesT, p.1.cps.toList.isPrefixOf q.1.cps.toList = true → p = q := by decide +kernel
theorem nm_prefix {p q : Str × Str} (hp : p ∈ namesT) (hq : q ∈ namesT) {rest : List Nat} (h : p.1.cps.toList.isPrefixOf (q.1.cps.toList ++ rest) = true) : p = q := by
  rcases List.prefix_or_prefix_of_prefix (List.isPrefixOf_iff_prefix.mp h) (List.prefix_append q.1.cps.toList rest) with a | a
  · exact nm_cmp p hp q hq (List.isPrefixOf_iff_prefix.mpr a)
  · exact (nm_cmp q hq p hp (List.isPrefixOf_iff_prefix.mpr a)).symm
theorem nameAt_tok {p : Str × Str} (hp : p ∈ namesT) (rest : List Nat) : nameAt (p.1.cps.toList ++ rest) = some p := by
  cases h : nameAt (p.1.cps.toList ++ rest) with
  | none =>
    unfold nameAt at h
    have := List.find?_eq_none.mp h p hp
    exact absurd (List.isPrefixOf_iff_prefix.mpr (List.prefix_append _ _)) this
  | some q =>
    have h1 := nameAt_mem h
    unfold nameAt at h
    have h2 := List.find?_some h
    rw [nm_prefix h1 hp h2]

theorem readS_tok : ∀ T : List TK, (∀ t ∈ T, tkOk t) → readS 0 (tkFlat T) = some (T.filterMap tkBare, T.filterMap tkRef, T.map tkVal)
  | [], _ => rfl
  | .inl c :: T, h => by
    have ih := readS_tok T fun t ht => h t (List.mem_cons_of_mem _ ht)
    have hc : c ≠ 38 := h _ (List.mem_cons_self ..)
    show readS 0 (c :: tkFlat T) = _
    rw [readS, if_neg hc, ih]
    rfl
  | .inr p :: T, h => by
    have ih := readS_tok T fun t ht => h t (List.mem_cons_of_mem _ ht)
    have hp : p ∈ namesT := h (.inr p) (List.mem_cons_self ..)
    have e := nm_head p hp
    have hn := nameAt_tok hp (tkFlat T)
    show readS 0 (p.1.cps.toList ++ tkFlat T) = _
    rw [e.1, List.cons_append] at hn ⊢
    rw [readS, if_pos rfl, hn]
    dsimp only
    rw [readS_skip]
    have hl : p.1.length - 1 = p.1.cps.toList.tail.length := by rw [List.length_tail, len_cps]
    rw [hl, List.drop_left, ih]
    rfl

theorem readS_inv : ∀ (n : Nat) (l : List Nat), l.length ≤ n → ∀ q, readS 0 l = some q → ∃ T : List TK, (∀ t ∈ T, tkOk t) ∧ l = tkFlat T
  | _, [], _, _, _ => ⟨[], (fun _ h => nomatch h), rfl⟩
  | n + 1, c :: l, hn, q, h => by
    rw [List.length_cons] at hn
    rw [readS] at h
    split at h
    · rename_i hc
      split at h
      · cases h
      · rename_i p hp
        obtain ⟨q', hq', _⟩ := Option.map_eq_some_iff.mp h
        rw [readS_skip] at hq'
        obtain ⟨T, hT, e⟩ := readS_inv n (l.drop (p.1.length - 1)) (by rw [List.length_drop]; omega) q' hq'
        have hm := nameAt_mem hp
        unfold nameAt at hp
        have hpre := List.isPrefixOf_iff_prefix.mp (List.find?_some (p := fun p : Str × Str => p.1.cps.toList.isPrefixOf (c :: l)) hp)
        refine ⟨.inr p :: T, fun t ht => ?_, ?_⟩
        · rcases List.mem_cons.mp ht with rfl | ht
          · exact hm
          · exact hT t ht
        · obtain ⟨r, hr⟩ := hpre
          show _ = p.1.cps.toList ++ tkFlat T
          rw [← e, ← hr]
          congr 1
          have e2 := (nm_head p hm).1
          rw [e2, List.cons_append] at hr
          have hl : p.1.length - 1 = p.1.cps.toList.tail.length := by rw [List.length_tail, len_cps]
          rw [hl, ← (List.cons.inj hr).2, List.drop_left]
    · rename_i hc
      obtain ⟨q', hq', _⟩ := Option.map_eq_some_iff.mp h
      obtain ⟨T, hT, e⟩ := readS_inv n l (by omega) q' hq'
      refine ⟨.inl c :: T, fun t ht => ?_, ?_⟩
      · rcases List.mem_cons.mp ht with rfl | ht
        · exact hc
        · exact hT t ht
      · show _ = c :: tkFlat T
        rw [← e]

theorem rep_tok {p : Str × Str} (hp : p ∈ namesT) (v : List Nat) : ∀ T : List TK, (∀ t ∈ T, tkOk t) → rep p.1.cps.toList v 0 (tkFlat T) = T.flatMap fun t => if t = .inr p then v else tkCodes t
  | [], _ => rfl
  | .inl c :: T, h => by
    have ih := rep_tok hp v T fun t ht => h t (List.mem_cons_of_mem _ ht)
    have hc : c ≠ 38 := h _ (List.mem_cons_self ..)
    show rep _ v 0 ([c] ++ tkFlat T) = _
    rw [rep_pass (nm_head p hp).1 v _ [c] (fun d hd => by rw [List.mem_singleton.mp hd]; exact hc), ih, List.flatMap_cons, if_neg (fun e => nomatch e)]
    rfl
  | .inr q :: T, h => by
    have ih := rep_tok hp v T fun t ht => h t (List.mem_cons_of_mem _ ht)
    have hq : q ∈ namesT := h (.inr q) (List.mem_cons_self ..)
    have e := nm_head q hq
    show rep _ v 0 (q.1.cps.toList ++ tkFlat T) = _
    rw [List.flatMap_cons]
    by_cases hpq : q = p
    · subst hpq
      have hpre : q.1.cps.toList.isPrefixOf (q.1.cps.toList ++ tkFlat T) = true := List.isPrefixOf_iff_prefix.mpr (List.prefix_append _ _)
      rw [if_pos rfl, ← ih]
      have hl : q.1.cps.toList.length - 1 = q.1.cps.toList.tail.length := by rw [List.length_tail]
      generalize q.1.cps.toList = k at *
      obtain ⟨e1, _⟩ := e
      cases k with
      | nil => cases e1
      | cons a k' =>
        rw [List.cons_append] at hpre ⊢
        rw [rep, if_pos hpre, rep_skip _ _ ((a :: k').length - 1), hl, List.tail_cons, List.drop_left]
    · rw [if_neg (fun h => hpq (Sum.inr.inj h)), ← ih]
      have hno : ¬ p.1.cps.toList.isPrefixOf (q.1.cps.toList ++ tkFlat T) = true := fun h => hpq (nm_prefix hp hq h).symm
      show _ = q.1.cps.toList ++ _
      have e1 := e.1
      rw [e1, List.cons_append] at hno ⊢
      rw [rep, if_neg hno, rep_pass (nm_head p hp).1 v _ _ e.2]
      rfl

def tkSub (p : Str × Str) (d : Nat) (t : TK) : TK := if t = .inr p then .inl d else t
theorem rep_sub {p : Str × Str} (hp : p ∈ namesT) (d : Nat) {T : List TK} (hT : ∀ t ∈ T, tkOk t) : rep p.1.cps.toList [d] 0 (tkFlat T) = tkFlat (T.map (tkSub p d)) := by
  rw [rep_tok hp _ T hT, tkFlat, List.flatMap_map]
  refine congrArg (fun f => List.flatMap f T) (funext fun t => ?_)
  unfold tkSub
  split <;> rfl
theorem sub_ok {p : Str × Str} {d : Nat} (hd : d ≠ 38) {T : List TK} (hT : ∀ t ∈ T, tkOk t) : ∀ t ∈ T.map (tkSub p d), tkOk t := fun t ht => by
  obtain ⟨u, hu, rfl⟩ := List.mem_map.mp ht
  unfold tkSub
  split
  · exact hd
  · exact hT u hu

theorem join_codes : ∀ xs : List Str, (Txt.join (Str.ofString "") xs).cps.toList = xs.flatMap fun x => x.cps.toList
  | [] => by
    show (glued _ []).cps.toList = _
    rw [glued_eq_join]; rfl
  | [x] => by
    show (glued _ [x]).cps.toList = _
    rw [glued_eq_join, List.flatMap_cons, List.flatMap_nil, List.append_nil]; rfl
  | x :: y :: r => by
    have ih := join_codes (y :: r)
    show (glued _ (x :: y :: r)).cps.toList = _
    change (glued _ (y :: r)).cps.toList = _ at ih
    rw [glued_eq_join] at ih ⊢
    show (x ++ Str.ofString "" ++ Str.join _ (y :: r)).cps.toList = _
    simp only [Str.cps_append, Array.toList_append]
    rw [ih, show (Str.ofString "").cps.toList = [] from by decide +kernel, List.append_nil]
    rfl

abbrev pAmp : Str × Str := (Str.ofString "&amp;", Str.ofString "&")
abbrev pLt : Str × Str := (Str.ofString "&lt;", Str.ofString "<")
abbrev pGt : Str × Str := (Str.ofString "&gt;", Str.ofString ">")
abbrev pQuot : Str × Str := (Str.ofString "&quot;", Str.ofString "\"")
abbrev pNl : Str × Str := (Str.ofString "&#10;", Str.ofString "\n")
abbrev pCr : Str × Str := (Str.ofString "&#13;", Str.ofString "\r")
abbrev pTab : Str × Str := (Str.ofString "&#9;", Str.ofString "\t")
theorem mAmp : pAmp ∈ namesT := by decide +kernel
theorem mLt : pLt ∈ namesT := by decide +kernel
theorem mGt : pGt ∈ namesT := by decide +kernel
theorem mQuot : pQuot ∈ namesT := by decide +kernel
theorem mNl : pNl ∈ namesT := by decide +kernel
theorem mCr : pCr ∈ namesT := by decide +kernel
theorem mTab : pTab ∈ namesT := by decide +kernel
theorem cAmp : (Str.ofString "&").cps.toList = [38] := by decide +kernel
theorem cLt : (Str.ofString "<").cps.toList = [60] := by decide +kernel
theorem cGt : (Str.ofString ">").cps.toList = [62] := by decide +kernel
theorem cQuot : (Str.ofString "\"").cps.toList = [34] := by decide +kernel
theorem cNl : (Str.ofString "\n").cps.toList = [10] := by decide +kernel
theorem cCr : (Str.ofString "\r").cps.toList = [13] := by decide +kernel
theorem cTab : (Str.ofString "\t").cps.toList = [9] := by decide +kernel

def backT : List (Str × Str) := [(Str.ofString "&quot;", Str.ofString "\""), (Str.ofString "&#10;", Str.ofString "\n"), (Str.ofString "&#13;", Str.ofString "\r"), (Str.ofString "&#9;", Str.ofString "\t")]
def readT (y : Str) : Str := Txt.replace (repl (une2 y) backT) (Str.ofString "&amp;") (Str.ofString "&")
def openT (x : Str) : Str := Txt.replace (repl (une2 x) []) (Str.ofString "&amp;") (Str.ofString "&")
def wrT (r : Str) : Str := quoted (repl (esc3 r) whites)

theorem une2_tok {y : Str} {T : List TK} (hT : ∀ t ∈ T, tkOk t) (hy : y.cps.toList = tkFlat T) : (une2 y).cps.toList = tkFlat ((T.map (tkSub pLt 60)).map (tkSub pGt 62)) := by
  unfold une2
  rw [replace_rep _ _ _ (by decide +kernel), replace_rep _ _ _ (by decide +kernel), hy, cLt, cGt, rep_sub mLt 60 hT, rep_sub mGt 62 (sub_ok (by decide) hT)]

def tkRead (t : TK) : List Nat := (fun t => if t = .inr pAmp then [38] else tkCodes t) (tkSub pTab 9 (tkSub pCr 13 (tkSub pNl 10 (tkSub pQuot 34 (tkSub pGt 62 (tkSub pLt 60 t))))))
def tkOpen (t : TK) : List Nat := (fun t => if t = .inr pAmp then [38] else tkCodes t) (tkSub pGt 62 (tkSub pLt 60 t))
theorem read_val {t : TK} (h : tkOk t) : tkRead t = (tkVal t).cps.toList := by
  cases t with
  | inl c => rfl
  | inr p =>
    have h2 : ∀ p ∈ namesT, tkRead (.inr p) = (tkVal (.inr p)).cps.toList := by decide +kernel
    exact h2 p h
theorem readT_tok {y : Str} {T : List TK} (hT : ∀ t ∈ T, tkOk t) (hy : y.cps.toList = tkFlat T) : readT y = Txt.join (Str.ofString "") (T.map tkVal) := by
  refine str_ext ?_
  rw [join_codes]
  unfold readT repl backT
  simp only [List.foldl_cons, List.foldl_nil]
  have h1 := sub_ok (p := pLt) (d := 60) (by decide) hT
  have h2 := sub_ok (p := pGt) (d := 62) (by decide) h1
  have h3 := sub_ok (p := pQuot) (d := 34) (by decide) h2
  have h4 := sub_ok (p := pNl) (d := 10) (by decide) h3
  have h5 := sub_ok (p := pCr) (d := 13) (by decide) h4
  have h6 := sub_ok (p := pTab) (d := 9) (by decide) h5
  rw [replace_rep _ _ _ (by decide +kernel), replace_rep _ _ _ (by decide +kernel), replace_rep _ _ _ (by decide +kernel), replace_rep _ _ _ (by decide +kernel), replace_rep _ _ _ (by decide +kernel), une2_tok hT hy,
    cAmp, cQuot, cNl, cCr, cTab, rep_sub mQuot 34 h2, rep_sub mNl 10 h3, rep_sub mCr 13 h4, rep_sub mTab 9 h5, rep_tok mAmp _ _ h6]
  simp only [List.flatMap_map]
  clear h1 h2 h3 h4 h5 h6 hy
  induction T with
  | nil => rfl
  | cons t T ih =>
    rw [List.flatMap_cons, List.flatMap_cons, ih fun u hu => hT u (List.mem_cons_of_mem _ hu)]
    congr 1
    exact read_val (hT t (List.mem_cons_self ..))
theorem open_val {t : TK} (h : tkOk t) (h' : ∀ p, t = .inr p → p ∈ [pAmp, pLt, pGt]) : tkOpen t = (tkVal t).cps.toList := by
  cases t with
  | inl c => rfl
  | inr p =>
    have h2 : ∀ p ∈ [pAmp, pLt, pGt], tkOpen (.inr p) = (tkVal (.inr p)).cps.toList := by decide +kernel
    exact h2 p (h' p rfl)
theorem openT_tok {y : Str} {T : List TK} (hT : ∀ t ∈ T, tkOk t) (hR : ∀ p, .inr p ∈ T → p ∈ [pAmp, pLt, pGt]) (hy : y.cps.toList = tkFlat T) : openT y = Txt.join (Str.ofString "") (T.map tkVal) := by
  refine str_ext ?_
  rw [join_codes]
  unfold openT repl
  simp only [List.foldl_nil]
  have h1 := sub_ok (p := pLt) (d := 60) (by decide) hT
  have h2 := sub_ok (p := pGt) (d := 62) (by decide) h1
  rw [replace_rep _ _ _ (by decide +kernel), une2_tok hT hy, cAmp, rep_tok mAmp _ _ h2]
  simp only [List.flatMap_map]
  clear h1 h2 hy
  induction T with
  | nil => rfl
  | cons t T ih =>
    rw [List.flatMap_cons, List.flatMap_cons, ih (fun u hu => hT u (List.mem_cons_of_mem _ hu)) fun p hp => hR p (List.mem_cons_of_mem _ hp)]
    congr 1
    exact open_val (hT t (List.mem_cons_self ..)) fun p e => hR p (e ▸ List.mem_cons_self ..)
end Mine

open PySem PySem.W PyProof.Rows PySem.Calls
set_option Elab.async false
set_option maxRecDepth 100000
set_option maxHeartbeats 8000000
namespace Mine
open PySem.Challenge

theorem qtab_nil : qtab [] = whites := by decide +kernel
theorem mul_le {a b B : Nat} (h : a ≤ b) : a * B ≤ b * B := Nat.mul_le_mul_right _ h
theorem une2_len (y : Str) : (une2 y).length ≤ y.length := by
  unfold une2
  exact Nat.le_trans (replace_shrinks _ _ _ (by decide +kernel) (by decide +kernel)) (replace_shrinks _ _ _ (by decide +kernel) (by decide +kernel))
theorem repl_len : ∀ (T : List (Str × Str)), (∀ p ∈ T, 1 ≤ p.1.length ∧ p.2.length ≤ p.1.length) → ∀ x : Str, (repl x T).length ≤ x.length
  | [], _, x => Nat.le_refl _
  | p :: T, h, x => by
    have hp := h p (List.mem_cons_self ..)
    exact Nat.le_trans (repl_len T (fun q hq => h q (List.mem_cons_of_mem _ hq)) _) (replace_shrinks _ _ _ hp.1 hp.2)
theorem back_ok : ∀ p ∈ backT, 1 ≤ p.1.length ∧ p.2.length ≤ p.1.length := by decide +kernel
theorem back_len (y : Str) : (repl (une2 y) backT).length ≤ y.length := Nat.le_trans (repl_len _ back_ok _) (une2_len y)
theorem readT_len (y : Str) : (readT y).length ≤ y.length := Nat.le_trans (replace_shrinks _ _ _ (by decide +kernel) (by decide +kernel)) (back_len y)
theorem openT_len (y : Str) : (openT y).length ≤ y.length := Nat.le_trans (replace_shrinks _ _ _ (by decide +kernel) (by decide +kernel)) (une2_len y)
theorem fits_mul {B : Nat} (hB : 1 ≤ B) (hB6 : B ≤ 6) : ∀ (T : List (Str × Str)), (∀ p ∈ T, 1 ≤ p.1.length ∧ p.2.length ≤ B) → ∀ (x : Str) (N : Nat), x.length ≤ N → N * B ^ T.length ≤ 2300000 → Fits x T ∧ (repl x T).length ≤ N * B ^ T.length
  | [], _, x, N, hx, hN => ⟨trivial, by simpa [repl] using hx⟩
  | p :: T, h, x, N, hx, hN => by
    have hp := h p (List.mem_cons_self ..)
    have h1 := replace_mul x p.1 p.2 hp.1 hp.2 hB
    have h2 : x.length * B ≤ N * B := mul_le hx
    have e : N * B * B ^ T.length = N * B ^ (p :: T).length := by rw [List.length_cons, Nat.pow_succ', Nat.mul_assoc]
    have h3 := fits_mul hB hB6 T (fun q hq => h q (List.mem_cons_of_mem _ hq)) (Txt.replace x p.1 p.2) (N * B) (Nat.le_trans h1 h2) (by rw [e]; exact hN)
    rw [e] at h3
    have hpos : 1 ≤ B ^ (p :: T).length := Nat.one_le_pow _ _ hB
    have h4 : N ≤ N * B ^ (p :: T).length := Nat.le_mul_of_pos_right _ hpos
    exact ⟨⟨size_ok (by omega) (by omega), h3.1⟩, h3.2⟩
theorem esc3_len {x : Str} {N : Nat} (h : x.length ≤ N) : (esc3 x).length ≤ N * 5 * 4 * 4 := by
  unfold esc3
  have h1 := replace_mul x (Str.ofString "&") (Str.ofString "&amp;") (by decide +kernel) (B := 5) (by decide +kernel) (by decide)
  have h2 := replace_mul (Txt.replace x (Str.ofString "&") (Str.ofString "&amp;")) (Str.ofString ">") (Str.ofString "&gt;") (by decide +kernel) (B := 4) (by decide +kernel) (by decide)
  have h3 := replace_mul (Txt.replace (Txt.replace x (Str.ofString "&") (Str.ofString "&amp;")) (Str.ofString ">") (Str.ofString "&gt;")) (Str.ofString "<") (Str.ofString "&lt;") (by decide +kernel) (B := 4) (by decide +kernel) (by decide)
  omega
theorem fits_back {y : Str} (h : y.length ≤ 100) : Fits (une2 y) backT :=
  (fits_mul (B := 1) (by decide) (by decide) backT (by decide +kernel) (une2 y) 100 (Nat.le_trans (une2_len y) h) (by decide)).1
theorem fits_wr {x : Str} (h : x.length ≤ 100) : Fits (esc3 x) whites ∧ (repl (esc3 x) whites).length ≤ 2295000 := by
  have := fits_mul (B := 5) (by decide) (by decide) whites (by decide +kernel) (esc3 x) 8000 (esc3_len (N := 100) h) (by decide)
  exact ⟨this.1, Nat.le_trans this.2 (by decide)⟩

section
variable {w : World} {p : Program} {loose : List Str} {mg mb : Str → Option Value} {dp un : Nat} {fr : Option (List Env)} {gd : Option (List Code)}
  {h₀ : Heap} {g : Array GenState} {dr : Drawn} {tk : Nat} {os : OsState} {Q E : Value → Shared → Prop}

theorem read_call (X : (hd.heap_39 w.params).In h₀) (T : TopRead p loose mg mb h₀) (hdp : dp + 2 < recursionLimit) (hun : un + 50 < cLine) (htk : 1 ≤ tk) {x : Str} {t : Tok} {d : Addr} {tkD ep : Nat}
    (hd : h₀.get? d = some (dictO w (constEnts tkD backT) ep)) (hds : (d == sysModules) = false) (htD : 1 ≤ tkD) (hx : x.length ≤ 100)
    (hQ : ∀ t' h' tk', 1 ≤ tk' → (∀ b o, h₀.get? b = some o → h'.get? b = some o) → Q (.str (readT x) t') ⟨h', g, dr, tk', os⟩) :
    wpAny (model rw_in0094_02.row.prog w) (ar dp un fr gd) (call (.ref 39) [.str x t, .ref d]) Q E ⟨h₀, g, dr, tk, os⟩ := by
  have e : txt (constEnts tkD backT) = backT := txt_const _ _
  refine unescape_t X T hdp hun htk (es := constEnts tkD backT) (Or.inl rfl) hd (by rw [const_keys]; decide +kernel) (by rw [constEnts_length]; decide) hds (const_sound htD) (by omega) (by rw [e]; exact fits_back hx) (by rw [e]; have := back_len x; omega) fun t' h' tk' hk q => ?_
  rw [e]
  exact hQ _ _ _ (Nat.le_trans htk hk) q
theorem open_call (X : (hd.heap_39 w.params).In h₀) (T : TopRead p loose mg mb h₀) (hdp : dp + 2 < recursionLimit) (hun : un + 50 < cLine) (htk : 1 ≤ tk) {x : Str} {t : Tok} (hx : x.length ≤ 100)
    (hQ : ∀ t' h' tk', 1 ≤ tk' → (∀ b o, h₀.get? b = some o → h'.get? b = some o) → Q (.str (openT x) t') ⟨h', g, dr, tk', os⟩) :
    wpAny (model rw_in0094_02.row.prog w) (ar dp un fr gd) (call (.ref 39) [.str x t]) Q E ⟨h₀, g, dr, tk, os⟩ := by
  refine unescape_t X T hdp hun htk (es := []) (d := 31) (Or.inr ⟨rfl, rfl⟩) (X 31 _ rfl) List.nodup_nil (Nat.zero_le _) rfl (fun _ q => nomatch q) (by omega) trivial (by show (une2 x).length ≤ _; have := une2_len x; omega) fun t' h' tk' hk q => ?_
  exact hQ _ _ _ (Nat.le_trans htk hk) q
theorem wr_call (X : (hd.heap_39 w.params).In h₀) (T : TopRead p loose mg mb h₀) (hdp : dp + 3 < recursionLimit) (hun : un + 60 < cLine) (htk : 1 ≤ tk) {x : Str} {t : Tok} (hx : x.length ≤ 100)
    (hQ : ∀ t' h' tk', 1 ≤ tk' → (∀ b o, h₀.get? b = some o → h'.get? b = some o) → Q (.str (wrT x) t') ⟨h', g, dr, tk', os⟩) :
    wpAny (model rw_in0094_02.row.prog w) (ar dp un fr gd) (call (.ref 48) [.str x t]) Q E ⟨h₀, g, dr, tk, os⟩ := by
  have e : qtab (txt []) = whites := qtab_nil
  refine quoteattr_t X T hdp hun htk (es := []) (d := 40) (Or.inr ⟨rfl, rfl⟩) (X 40 _ rfl) List.nodup_nil (Nat.zero_le _) rfl (fun _ q => nomatch q) (fun _ q => nomatch q) (by omega) (by rw [e]; exact (fits_wr hx).1) (by rw [e]; exact (fits_wr hx).2) fun t' h' tk' hk q => ?_
  rw [e]
  exact hQ _ _ _ (Nat.le_trans htk hk) q
theorem esc_call (X : (hd.heap_39 w.params).In h₀) (T : TopRead p loose mg mb h₀) (hdp : dp + 2 < recursionLimit) (hun : un + 50 < cLine) (htk : 1 ≤ tk) {x : Str} {t : Tok} (hx : x.length ≤ 100)
    (hQ : ∀ t' h' tk', 1 ≤ tk' → (∀ b o, h₀.get? b = some o → h'.get? b = some o) → Q (.str (esc3 x) t') ⟨h', g, dr, tk', os⟩) :
    wpAny (model rw_in0094_02.row.prog w) (ar dp un fr gd) (call (.ref 30) [.str x t]) Q E ⟨h₀, g, dr, tk, os⟩ :=
  escape_t X T hdp hun htk (es := []) (d := 22) (Or.inr ⟨rfl, rfl⟩) (X 22 _ rfl) List.nodup_nil (Nat.zero_le _) rfl (fun _ q => nomatch q) (by omega) trivial hQ
end
end Mine

open PySem PySem.W PyProof.Rows PySem.Calls
set_option Elab.async false
set_option maxRecDepth 100000
namespace Mine
open PySem.StrLaws PySem.Builtin.Str

/-- the token that a sign is written as; q: quotation marks too -/
def enc (q : Bool) (c : Nat) : TK :=
  if c = 38 then .inr pAmp else if c = 62 then .inr pGt else if c = 60 then .inr pLt else if c = 10 then .inr pNl else if c = 13 then .inr pCr else if c = 9 then .inr pTab
  else if q = true ∧ c = 34 then .inr pQuot else .inl c
def enc3 (c : Nat) : TK := if c = 38 then .inr pAmp else if c = 62 then .inr pGt else if c = 60 then .inr pLt else .inl c
theorem enc_ok (q : Bool) (c : Nat) : tkOk (enc q c) := by
  unfold enc
  by_cases h : c = 38
  · rw [if_pos h]; exact mAmp
  rw [if_neg h]
  split
  · exact mGt
  split
  · exact mLt
  split
  · exact mNl
  split
  · exact mCr
  split
  · exact mTab
  split
  · exact mQuot
  · exact h
theorem enc3_ok (c : Nat) : tkOk (enc3 c) := by
  unfold enc3
  by_cases h : c = 38
  · rw [if_pos h]; exact mAmp
  rw [if_neg h]
  split
  · exact mGt
  split
  · exact mLt
  · exact h
theorem enc_val (q : Bool) (c : Nat) : tkVal (enc q c) = ⟨#[c]⟩ := by
  unfold enc
  by_cases h : c = 38
  · rw [if_pos h, h]; decide +kernel
  rw [if_neg h]
  by_cases h : c = 62
  · rw [if_pos h, h]; decide +kernel
  rw [if_neg h]
  by_cases h : c = 60
  · rw [if_pos h, h]; decide +kernel
  rw [if_neg h]
  by_cases h : c = 10
  · rw [if_pos h, h]; decide +kernel
  rw [if_neg h]
  by_cases h : c = 13
  · rw [if_pos h, h]; decide +kernel
  rw [if_neg h]
  by_cases h : c = 9
  · rw [if_pos h, h]; decide +kernel
  rw [if_neg h]
  by_cases h : q = true ∧ c = 34
  · rw [if_pos h, h.2]; decide +kernel
  rw [if_neg h]
  rfl
theorem enc3_val (c : Nat) : tkVal (enc3 c) = ⟨#[c]⟩ := by
  unfold enc3
  by_cases h : c = 38
  · rw [if_pos h, h]; decide +kernel
  rw [if_neg h]
  by_cases h : c = 62
  · rw [if_pos h, h]; decide +kernel
  rw [if_neg h]
  by_cases h : c = 60
  · rw [if_pos h, h]; decide +kernel
  rw [if_neg h]
  rfl

theorem rep_flatMap (c : Nat) (v : List Nat) (f : Nat → List Nat) (l : List Nat) : rep [c] v 0 (l.flatMap f) = l.flatMap fun d => rep [c] v 0 (f d) := by
  rw [rep_one, List.flatMap_assoc]
  refine congrArg (fun g => List.flatMap g l) (funext fun d => ?_)
  rw [rep_one]
theorem rep_single {c d : Nat} (v : List Nat) (h : ¬ d = c) : rep [c] v 0 [d] = [d] := by
  rw [rep_one, List.flatMap_cons, if_neg h]; rfl
theorem flat_single (l : List Nat) : l = l.flatMap fun d => [d] := by simp

theorem esc3_flat (x : Str) : (esc3 x).cps.toList = x.cps.toList.flatMap fun d => rep [60] (Str.ofString "&lt;").cps.toList 0 (rep [62] (Str.ofString "&gt;").cps.toList 0 (rep [38] (Str.ofString "&amp;").cps.toList 0 [d])) := by
  unfold esc3
  rw [replace_rep _ _ _ (by decide +kernel), replace_rep _ _ _ (by decide +kernel), replace_rep _ _ _ (by decide +kernel), cAmp, cLt, cGt]
  conv => lhs; rw [flat_single x.cps.toList]
  rw [rep_flatMap, rep_flatMap, rep_flatMap]
theorem esc3_enc (x : Str) : (esc3 x).cps.toList = tkFlat (x.cps.toList.map enc3) := by
  rw [esc3_flat, tkFlat, List.flatMap_map]
  refine congrArg (fun f => List.flatMap f x.cps.toList) (funext fun d => ?_)
  unfold enc3
  by_cases h : d = 38
  · rw [if_pos h, h]; decide +kernel
  by_cases h2 : d = 62
  · rw [if_neg h, if_pos h2, h2]; decide +kernel
  by_cases h3 : d = 60
  · rw [if_neg h, if_neg h2, if_pos h3, h3]; decide +kernel
  rw [if_neg h, if_neg h2, if_neg h3, rep_single _ h, rep_single _ h2, rep_single _ h3]
  rfl
theorem body_enc (x : Str) : (repl (esc3 x) whites).cps.toList = tkFlat (x.cps.toList.map (enc false)) := by
  unfold repl whites
  simp only [List.foldl_cons, List.foldl_nil]
  rw [replace_rep _ _ _ (by decide +kernel), replace_rep _ _ _ (by decide +kernel), replace_rep _ _ _ (by decide +kernel), cNl, cCr, cTab, esc3_flat, rep_flatMap, rep_flatMap, rep_flatMap, tkFlat, List.flatMap_map]
  refine congrArg (fun f => List.flatMap f x.cps.toList) (funext fun d => ?_)
  unfold enc
  by_cases h : d = 38
  · rw [if_pos h, h]; decide +kernel
  by_cases h2 : d = 62
  · rw [if_neg h, if_pos h2, h2]; decide +kernel
  by_cases h3 : d = 60
  · rw [if_neg h, if_neg h2, if_pos h3, h3]; decide +kernel
  by_cases h4 : d = 10
  · rw [if_neg h, if_neg h2, if_neg h3, if_pos h4, h4]; decide +kernel
  by_cases h5 : d = 13
  · rw [if_neg h, if_neg h2, if_neg h3, if_neg h4, if_pos h5, h5]; decide +kernel
  by_cases h6 : d = 9
  · rw [if_neg h, if_neg h2, if_neg h3, if_neg h4, if_neg h5, if_pos h6, h6]; decide +kernel
  rw [if_neg h, if_neg h2, if_neg h3, if_neg h4, if_neg h5, if_neg h6, rep_single _ h, rep_single _ h2, rep_single _ h3, rep_single _ h4, rep_single _ h5, rep_single _ h6, if_neg (fun q => Bool.noConfusion q.1)]
  rfl
theorem bodyQ_enc (x : Str) : (Txt.replace (repl (esc3 x) whites) dq (Str.ofString "&quot;")).cps.toList = tkFlat (x.cps.toList.map (enc true)) := by
  rw [replace_rep _ _ _ (by decide +kernel), body_enc, cQuot, tkFlat, tkFlat, List.flatMap_map, List.flatMap_map, rep_flatMap]
  refine congrArg (fun f => List.flatMap f x.cps.toList) (funext fun d => ?_)
  unfold enc
  by_cases h : d = 38
  · rw [if_pos h, if_pos h]; decide +kernel
  by_cases h2 : d = 62
  · rw [if_neg h, if_neg h, if_pos h2, if_pos h2]; decide +kernel
  by_cases h3 : d = 60
  · rw [if_neg h, if_neg h, if_neg h2, if_neg h2, if_pos h3, if_pos h3]; decide +kernel
  by_cases h4 : d = 10
  · rw [if_neg h, if_neg h, if_neg h2, if_neg h2, if_neg h3, if_neg h3, if_pos h4, if_pos h4]; decide +kernel
  by_cases h5 : d = 13
  · rw [if_neg h, if_neg h, if_neg h2, if_neg h2, if_neg h3, if_neg h3, if_neg h4, if_neg h4, if_pos h5, if_pos h5]; decide +kernel
  by_cases h6 : d = 9
  · rw [if_neg h, if_neg h, if_neg h2, if_neg h2, if_neg h3, if_neg h3, if_neg h4, if_neg h4, if_neg h5, if_neg h5, if_pos h6, if_pos h6]; decide +kernel
  rw [if_neg h, if_neg h, if_neg h2, if_neg h2, if_neg h3, if_neg h3, if_neg h4, if_neg h4, if_neg h5, if_neg h5, if_neg h6, if_neg h6, if_neg (fun q => Bool.noConfusion q.1)]
  by_cases h7 : d = 34
  · rw [if_pos ⟨rfl, h7⟩, h7]; decide +kernel
  · rw [if_neg (fun q => h7 q.2)]
    exact rep_single _ h7

theorem within_one (x : Str) (c : Nat) : within ⟨#[c]⟩ x = decide (c ∈ x.cps.toList) := found_one x c
theorem dq_eq : dq = ⟨#[34]⟩ := by decide +kernel
theorem sq_eq : sq = ⟨#[39]⟩ := by decide +kernel
theorem mem_flat (q : Bool) (d : Nat) (hd : d = 34 ∧ q = false ∨ d = 39) (l : List Nat) : d ∈ tkFlat (l.map (enc q)) ↔ d ∈ l := by
  have hn : ∀ p ∈ namesT, 34 ∉ p.1.cps.toList ∧ 39 ∉ p.1.cps.toList := by decide +kernel
  have key : ∀ c, d ∈ tkCodes (enc q c) ↔ d = c := fun c => by
    have ok := enc_ok q c
    have hv := enc_val q c
    cases he : enc q c with
    | inl e =>
      rw [he] at hv
      have : e = c := by simpa [tkVal] using hv
      subst this
      exact List.mem_singleton
    | inr p =>
      rw [he] at ok hv
      have h1 := hn p ok
      constructor
      · intro hm
        rcases hd with ⟨rfl, _⟩ | rfl
        · exact absurd hm h1.1
        · exact absurd hm h1.2
      · intro e
        subst e
        unfold enc at he
        rcases hd with ⟨rfl, rfl⟩ | rfl
        · exact nomatch he
        · simp at he
  rw [tkFlat, List.flatMap_map, List.mem_flatMap]
  constructor
  · rintro ⟨a, ha, hm⟩
    rw [(key a).mp hm]
    exact ha
  · exact fun h => ⟨d, h, (key d).mpr rfl⟩
def both (r : Str) : Bool := decide (34 ∈ r.cps.toList) && decide (39 ∈ r.cps.toList)
def mk1 (r : Str) : Nat := if decide (34 ∈ r.cps.toList) && !decide (39 ∈ r.cps.toList) then 39 else 34
theorem wrT_enc (r : Str) : (wrT r).cps.toList = mk1 r :: (tkFlat (r.cps.toList.map (enc (both r))) ++ [mk1 r]) := by
  unfold wrT quoted both mk1
  rw [dq_eq, sq_eq, within_one, within_one, body_enc, decide_eq_decide.mpr (mem_flat false 34 (.inl ⟨rfl, rfl⟩) _), decide_eq_decide.mpr (mem_flat false 39 (.inr rfl) _)]
  cases decide (34 ∈ r.cps.toList) <;> cases decide (39 ∈ r.cps.toList)
  · rw [if_neg Bool.false_ne_true]
    simp only [Str.cps_append, Array.toList_append, body_enc]
    rfl
  · rw [if_neg Bool.false_ne_true]
    simp only [Str.cps_append, Array.toList_append, body_enc]
    rfl
  · rw [if_pos rfl, if_neg Bool.false_ne_true]
    simp only [Str.cps_append, Array.toList_append, body_enc]
    rfl
  · rw [if_pos rfl, if_pos rfl, ← dq_eq]
    simp only [Str.cps_append, Array.toList_append, bodyQ_enc]
    rw [dq_eq]
    rfl

theorem join_enc (q : Bool) (r : Str) : Txt.join (Str.ofString "") ((r.cps.toList.map (enc q)).map tkVal) = r := by
  refine str_ext ?_
  rw [join_codes, List.map_map, List.flatMap_map]
  rw [show (fun a => ((tkVal ∘ enc q) a).cps.toList) = fun a => [a] from funext fun a => by show (tkVal (enc q a)).cps.toList = _; rw [enc_val]]
  exact (flat_single _).symm
theorem join_enc3 (r : Str) : Txt.join (Str.ofString "") ((r.cps.toList.map enc3).map tkVal) = r := by
  refine str_ext ?_
  rw [join_codes, List.map_map, List.flatMap_map]
  rw [show (fun a => ((tkVal ∘ enc3) a).cps.toList) = fun a => [a] from funext fun a => by show (tkVal (enc3 a)).cps.toList = _; rw [enc3_val]]
  exact (flat_single _).symm
end Mine

open PySem PySem.W PyProof.Rows PySem.Calls
set_option Elab.async false
set_option maxRecDepth 100000
namespace Mine
open PySem.StrLaws PySem.Builtin.Str

theorem item_first {x : Str} {m : Nat} {l : List Nat} (h : x.cps.toList = m :: l) : Txt.item x 0 = ⟨#[m]⟩ :=
  PyProof.Rows.item_meets (by omega) (by rw [← Array.getElem?_toList, h]; rfl)
theorem item_last {x : Str} {n : Nat} {l : List Nat} (h : x.cps.toList = l ++ [n]) : Txt.item x (-1) = ⟨#[n]⟩ := by
  have hl : x.length = l.length + 1 := by rw [← len_cps, h, List.length_append]; rfl
  have hx : x.cps[l.length]? = some n := by rw [← Array.getElem?_toList, h]; simp
  have e : seqIndex? (-1) x.length = some l.length := by
    have h1 : ((-1 : Int) + ((l.length + 1 : Nat) : Int)) = (l.length : Int) := by omega
    unfold seqIndex?
    rw [hl]
    simp only [show ((-1 : Int) < 0) = True from by simp, if_true, h1]
    rw [if_pos (by rw [Bool.and_eq_true]; exact ⟨decide_eq_true (by omega), decide_eq_true (by omega)⟩)]
    rfl
  unfold Txt.item Txt.charAt
  rw [e]
  simp [hx]
theorem slice_inner {x : Str} {m n : Nat} {l : List Nat} (h : x.cps.toList = m :: (l ++ [n])) : (Txt.slice x (some 1) (some (-1))).cps.toList = l := by
  have hl : x.length = l.length + 2 := by rw [← len_cps, h, List.length_cons, List.length_append]; rfl
  rw [slice_toList, h, hl]
  have e1 : loN (some 1) (l.length + 2) = 1 := by unfold loN clipN; simp; omega
  have e2 : hiN (some (-1)) (l.length + 2) = l.length + 1 := by unfold hiN clipN; simp; omega
  rw [e1, e2, List.drop_succ_cons, List.drop_zero, Nat.add_sub_cancel, List.take_left]
theorem ends_of {x : Str} (h : ¬ x.length < 2) : ∃ m l n, x.cps.toList = m :: (l ++ [n]) := by
  rw [← len_cps] at h
  cases hx : x.cps.toList with
  | nil => rw [hx] at h; exact absurd (by decide) h
  | cons m r =>
    rw [hx, List.length_cons] at h
    rcases List.eq_nil_or_concat r with rfl | ⟨l, n, rfl⟩
    · exact absurd (by decide) h
    · exact ⟨m, l, n, by rw [List.concat_eq_append]⟩

/-- what T says -/
def tkSaid (T : List TK) : Str := Txt.join (Str.ofString "") (T.map tkVal)
theorem any_bare {T : List TK} {c : Nat} : (T.filterMap tkBare).any (· == (⟨#[c]⟩ : Str)) = true ↔ .inl c ∈ T := by
  rw [List.any_eq_true]
  constructor
  · rintro ⟨y, hy, e⟩
    obtain ⟨t, ht, q⟩ := List.mem_filterMap.mp hy
    rw [beq_iff_eq] at e
    cases t with
    | inr p => cases q
    | inl d =>
      have : d = c := by
        have q' : (⟨#[d]⟩ : Str) = y := Option.some.inj q
        rw [e] at q'
        simpa using q'
      exact this ▸ ht
  · intro h
    exact ⟨⟨#[c]⟩, List.mem_filterMap.mpr ⟨.inl c, h, rfl⟩, beq_self_eq_true _⟩
theorem mem_refs {T : List TK} {y : Str} : y ∈ T.filterMap tkRef ↔ ∃ p, .inr p ∈ T ∧ p.1 = y := by
  rw [List.mem_filterMap]
  constructor
  · rintro ⟨t, ht, q⟩
    cases t with
    | inl d => cases q
    | inr p => exact ⟨p, ht, Option.some.inj q⟩
  · rintro ⟨p, hp, e⟩
    exact ⟨.inr p, hp, by rw [← e]; rfl⟩
theorem map_val {e : Nat → TK} : ∀ T : List TK, (∀ t ∈ T, (tkVal t).cps.toList.map e = [t]) → (tkSaid T).cps.toList.map e = T := by
  intro T
  unfold tkSaid
  rw [join_codes]
  induction T with
  | nil => intro _; rfl
  | cons t T ih =>
    intro h
    rw [List.map_cons, List.flatMap_cons, List.map_append, h t (List.mem_cons_self ..), ih fun u hu => h u (List.mem_cons_of_mem _ hu)]
    rfl

/-! the text law -/
def GoodT (T : List TK) : Prop := (∀ t ∈ T, tkOk t) ∧ (∀ c, .inl c ∈ T → c ≠ 60 ∧ c ≠ 62) ∧ ∀ p, .inr p ∈ T → p ∈ [pAmp, pLt, pGt]
theorem oLt : Str.ofString "<" = ⟨#[60]⟩ := by decide +kernel
theorem oGt : Str.ofString ">" = ⟨#[62]⟩ := by decide +kernel
theorem oNl : Str.ofString "\n" = ⟨#[10]⟩ := by decide +kernel
theorem oCr : Str.ofString "\r" = ⟨#[13]⟩ := by decide +kernel
theorem oTab : Str.ofString "\t" = ⟨#[9]⟩ := by decide +kernel
theorem textS_tok {x : Str} {T : List TK} (h : GoodT T) (hx : x.cps.toList = tkFlat T) : textS x = some (tkSaid T) := by
  unfold textS textQ
  rw [hx, readS_tok T h.1]
  dsimp only
  rw [oLt, oGt, if_neg (fun q => (h.2.1 _ (any_bare.mp q)).1 rfl), if_neg (fun q => (h.2.1 _ (any_bare.mp q)).2 rfl), if_neg]
  · rfl
  · intro q
    refine q (List.filter_eq_nil_iff.mpr fun y hy => ?_)
    obtain ⟨p, hp, rfl⟩ := mem_refs.mp hy
    have h3 : ∀ p ∈ [pAmp, pLt, pGt], ¬ (!([Str.ofString "&amp;", Str.ofString "&lt;", Str.ofString "&gt;"].any (· == p.1))) = true := by decide +kernel
    exact h3 p (h.2.2 p hp)
theorem textS_inv {x v : Str} (h : textS x = some v) : ∃ T, GoodT T ∧ x.cps.toList = tkFlat T ∧ v = tkSaid T := by
  unfold textS at h
  split at h
  · cases h
  · rename_i q hq
    obtain ⟨T, hT, e⟩ := readS_inv _ _ (Nat.le_refl _) q hq
    rw [e, readS_tok T hT] at hq
    obtain rfl := Option.some.inj hq
    unfold textQ at h
    dsimp only at h
    rw [oLt, oGt] at h
    split at h
    · cases h
    rename_i h1
    split at h
    · cases h
    rename_i h2
    split at h
    · cases h
    rename_i h3
    refine ⟨T, ⟨hT, fun c hc => ⟨?_, ?_⟩, fun p hp => ?_⟩, e, (Option.some.inj h).symm⟩
    · rintro rfl; exact h1 (any_bare.mpr hc)
    · rintro rfl; exact h2 (any_bare.mpr hc)
    · have h3' := Decidable.not_not.mp h3
      have h4 := List.filter_eq_nil_iff.mp h3' p.1 (mem_refs.mpr ⟨p, hp, rfl⟩)
      have h5 : ∀ p ∈ namesT, ¬ (!([Str.ofString "&amp;", Str.ofString "&lt;", Str.ofString "&gt;"].any (· == p.1))) = true → p ∈ [pAmp, pLt, pGt] := by decide +kernel
      exact h5 p (hT _ hp) h4
theorem enc3_inl {c d : Nat} (h : enc3 c = .inl d) : d = c ∧ c ≠ 60 ∧ c ≠ 62 := by
  have hv := enc3_val c
  rw [h] at hv
  refine ⟨by simpa [tkVal] using hv, ?_, ?_⟩ <;> rintro rfl
  · rw [show enc3 60 = .inr pLt from by decide +kernel] at h; cases h
  · rw [show enc3 62 = .inr pGt from by decide +kernel] at h; cases h
theorem enc3_inr {c : Nat} {p : Str × Str} (h : enc3 c = .inr p) : p ∈ [pAmp, pLt, pGt] := by
  unfold enc3 at h
  split at h
  · rw [← Sum.inr.inj h]; exact List.mem_cons_self ..
  split at h
  · rw [← Sum.inr.inj h]; exact List.mem_cons_of_mem _ (List.mem_cons_of_mem _ (List.mem_cons_self ..))
  split at h
  · rw [← Sum.inr.inj h]; exact List.mem_cons_of_mem _ (List.mem_cons_self ..)
  · cases h
theorem enc3_good (r : Str) : GoodT (r.cps.toList.map enc3) := by
  refine ⟨fun t ht => ?_, fun c hc => ?_, fun p hp => ?_⟩
  · obtain ⟨c, _, rfl⟩ := List.mem_map.mp ht
    exact enc3_ok c
  · obtain ⟨d, _, e⟩ := List.mem_map.mp hc
    obtain ⟨rfl, a, b⟩ := enc3_inl e
    exact ⟨a, b⟩
  · obtain ⟨d, _, e⟩ := List.mem_map.mp hp
    exact enc3_inr e
theorem law_text_some {x v : Str} (h : textS x = some v) : openT x = v ∧ esc3 v = x := by
  obtain ⟨T, hT, hx, rfl⟩ := textS_inv h
  refine ⟨openT_tok hT.1 hT.2.2 hx, str_ext ?_⟩
  rw [esc3_enc, hx, map_val T]
  intro t ht
  cases t with
  | inl c =>
    have h38 : c ≠ 38 := hT.1 _ ht
    obtain ⟨h60, h62⟩ := hT.2.1 c ht
    show [enc3 c] = _
    unfold enc3
    rw [if_neg h38, if_neg h62, if_neg h60]
  | inr p =>
    have h2 : ∀ p ∈ [pAmp, pLt, pGt], (tkVal (.inr p)).cps.toList.map enc3 = [.inr p] := by decide +kernel
    exact h2 p (hT.2.2 p ht)
theorem text_wr (r : Str) : textS (esc3 r) = some r := by
  rw [textS_tok (enc3_good r) (esc3_enc r)]
  exact congrArg some (join_enc3 r)
theorem law_text_none {x : Str} (h : textS x = none) : (esc3 (openT x) == x) = false := by
  cases e : (esc3 (openT x) == x) with
  | false => rfl
  | true =>
    rw [beq_iff_eq] at e
    have := text_wr (openT x)
    rw [e, h] at this
    cases this

/-! the value law -/
structure GoodV (m : Nat) (T : List TK) : Prop where
  ok : ∀ t ∈ T, tkOk t
  mark : m = 34 ∨ m = 39
  bare : ∀ c, .inl c ∈ T → c ≠ 60 ∧ c ≠ 62 ∧ c ≠ 10 ∧ c ≠ 13 ∧ c ≠ 9 ∧ c ≠ m
  alone : m = mk1 (tkSaid T)
  quot : mk1 (tkSaid T) = 39 → .inr pQuot ∉ T
theorem alone_mk (y : Str) : aloneS y = (mk1 y == 39) := by
  unfold aloneS mk1
  rw [dq_eq, sq_eq, within_one, within_one]
  cases decide (34 ∈ y.cps.toList) <;> cases decide (39 ∈ y.cps.toList) <;> rfl
theorem quot_mem {T : List TK} (hT : ∀ t ∈ T, tkOk t) : (T.filterMap tkRef).any (· == Str.ofString "&quot;") = true ↔ .inr pQuot ∈ T := by
  rw [List.any_eq_true]
  constructor
  · rintro ⟨y, hy, e⟩
    rw [beq_iff_eq] at e
    obtain ⟨p, hp, rfl⟩ := mem_refs.mp hy
    have h5 : ∀ p ∈ namesT, p.1 = Str.ofString "&quot;" → p = pQuot := by decide +kernel
    exact h5 p (hT _ hp) e ▸ hp
  · intro h
    exact ⟨_, mem_refs.mpr ⟨pQuot, h, rfl⟩, beq_self_eq_true _⟩
theorem mark_ne (y : Str) (m : Nat) (hm : m = 34 ∨ m = 39) : (((⟨#[m]⟩ : Str) == sq) != (mk1 y == 39)) = false ↔ m = mk1 y := by
  have h2 : mk1 y = 34 ∨ mk1 y = 39 := by
    unfold mk1
    split
    · exact .inr rfl
    · exact .inl rfl
  rw [sq_eq]
  generalize mk1 y = k at h2
  rcases hm with rfl | rfl <;> rcases h2 with rfl | rfl <;> decide
theorem badS_any {x : Str} {T : List TK} {m : Nat} (h0 : Txt.item x 0 = ⟨#[m]⟩) : ((badS x).any (fun b => (T.filterMap tkBare).any (· == b)) = true) ↔ (.inl 60 ∈ T ∨ .inl 62 ∈ T ∨ .inl 10 ∈ T ∨ .inl 13 ∈ T ∨ .inl 9 ∈ T ∨ .inl m ∈ T) := by
  unfold badS
  rw [h0, oLt, oGt, oNl, oCr, oTab]
  simp only [List.any_cons (l := _ :: _), List.any_cons (l := []), List.any_nil, Bool.or_eq_true, any_bare, Bool.false_eq_true, or_false]
theorem opens_iff {x : Str} {m : Nat} (h0 : Txt.item x 0 = ⟨#[m]⟩) : opens x = true ↔ (m = 34 ∨ m = 39) := by
  unfold opens
  rw [h0, dq_eq, sq_eq]
  simp only [List.any_cons, List.any_nil, Bool.or_false, Bool.or_eq_true, beq_iff_eq, Str.mk.injEq]
  constructor
  · rintro (h | h)
    · exact .inl (by simpa using h.symm)
    · exact .inr (by simpa using h.symm)
  · rintro (rfl | rfl)
    · exact .inl rfl
    · exact .inr rfl
theorem valueS_tok {x : Str} {m : Nat} {T : List TK} (h : GoodV m T) (hx : x.cps.toList = m :: (tkFlat T ++ [m])) : valueS x = some (tkSaid T) := by
  have h0 := item_first hx
  have h1 : Txt.item x (-1) = ⟨#[m]⟩ := item_last (l := m :: tkFlat T) hx
  have hl : x.length = (tkFlat T).length + 2 := by rw [← len_cps, hx, List.length_cons, List.length_append]; rfl
  unfold valueS
  rw [if_neg (by omega), if_neg (by rw [(opens_iff h0).mpr h.mark]; exact Bool.noConfusion), if_neg (by rw [h0, h1]; exact fun q => q rfl)]
  unfold valueB
  rw [slice_inner hx, readS_tok T h.ok]
  dsimp only
  unfold valueQ
  dsimp only
  rw [show Txt.join (Str.ofString "") (T.map tkVal) = tkSaid T from rfl, if_neg, if_neg, if_neg]
  · rw [Bool.and_eq_true, quot_mem h.ok, alone_mk]
    rintro ⟨a, b⟩
    exact h.quot (by simpa using a) b
  · rw [h0, alone_mk, (mark_ne _ _ h.mark).mpr h.alone]
    exact Bool.false_ne_true
  · rw [badS_any h0]
    rintro (q | q | q | q | q | q)
    · exact (h.bare _ q).1 rfl
    · exact (h.bare _ q).2.1 rfl
    · exact (h.bare _ q).2.2.1 rfl
    · exact (h.bare _ q).2.2.2.1 rfl
    · exact (h.bare _ q).2.2.2.2.1 rfl
    · exact (h.bare _ q).2.2.2.2.2 rfl
theorem valueS_inv {x v : Str} (h : valueS x = some v) : ∃ m T, GoodV m T ∧ x.cps.toList = m :: (tkFlat T ++ [m]) ∧ v = tkSaid T := by
  unfold valueS at h
  split at h
  · cases h
  rename_i h2
  obtain ⟨m, l, n, hx⟩ := ends_of h2
  have h0 := item_first hx
  have h1 : Txt.item x (-1) = ⟨#[n]⟩ := item_last (l := m :: l) hx
  split at h
  · cases h
  rename_i hop
  have hm := (opens_iff h0).mp (by simpa using hop)
  split at h
  · cases h
  rename_i hmn
  rw [h0, h1] at hmn
  have e : n = m := by simpa using hmn
  subst e
  unfold valueB at h
  rw [slice_inner hx] at h
  split at h
  · cases h
  rename_i q hq
  obtain ⟨T, hT, e⟩ := readS_inv _ _ (Nat.le_refl _) q hq
  rw [e, readS_tok T hT] at hq
  obtain rfl := Option.some.inj hq
  subst e
  unfold valueQ at h
  dsimp only at h
  split at h
  · cases h
  rename_i hb
  split at h
  · cases h
  rename_i ha
  split at h
  · cases h
  rename_i hc
  rw [badS_any h0] at hb
  rw [h0, alone_mk, Bool.not_eq_true, mark_ne _ _ hm] at ha
  rw [Bool.and_eq_true, quot_mem hT, alone_mk] at hc
  refine ⟨n, T, ⟨hT, hm, fun c hc => ⟨?_, ?_, ?_, ?_, ?_, ?_⟩, ha, fun a b => hc ⟨beq_iff_eq.mpr a, b⟩⟩, hx, (Option.some.inj h).symm⟩ <;> rintro rfl
  · exact hb (.inl hc)
  · exact hb (.inr (.inl hc))
  · exact hb (.inr (.inr (.inl hc)))
  · exact hb (.inr (.inr (.inr (.inl hc))))
  · exact hb (.inr (.inr (.inr (.inr (.inl hc)))))
  · exact hb (.inr (.inr (.inr (.inr (.inr hc)))))
theorem said_mem {T : List TK} {t : TK} {d : Nat} (h : t ∈ T) (hd : d ∈ (tkVal t).cps.toList) : d ∈ (tkSaid T).cps.toList := by
  unfold tkSaid
  rw [join_codes, List.flatMap_map]
  exact List.mem_flatMap.mpr ⟨t, h, hd⟩
theorem both_of {y : Str} (h34 : 34 ∈ y.cps.toList) (h : mk1 y ≠ 39) : both y = true := by
  unfold mk1 at h
  unfold both
  rw [decide_eq_true h34] at h ⊢
  cases hd : decide (39 ∈ y.cps.toList) with
  | true => rfl
  | false => rw [hd] at h; exact absurd rfl h
theorem both_mk {y : Str} (h : both y = true) : mk1 y = 34 := by
  unfold both at h
  unfold mk1
  rw [Bool.and_eq_true] at h
  rw [h.2, Bool.not_true, Bool.and_false]
  rfl
theorem law_value_some {x v : Str} (h : valueS x = some v) : readT (Txt.slice x (some 1) (some (-1))) = v ∧ wrT v = x := by
  obtain ⟨m, T, hT, hx, rfl⟩ := valueS_inv h
  refine ⟨readT_tok hT.ok (slice_inner hx), str_ext ?_⟩
  rw [wrT_enc, hx, ← hT.alone, map_val T]
  intro t ht
  cases t with
  | inl c =>
    have h38 : c ≠ 38 := hT.ok _ ht
    obtain ⟨h60, h62, h10, h13, h9, hm⟩ := hT.bare c ht
    show [enc _ c] = _
    unfold enc
    rw [if_neg h38, if_neg h62, if_neg h60, if_neg h10, if_neg h13, if_neg h9, if_neg]
    rintro ⟨hb, rfl⟩
    exact hm ((both_mk hb).symm.trans hT.alone.symm)
  | inr p =>
    by_cases hp : p = pQuot
    · subst hp
      have h34 : 34 ∈ (tkSaid T).cps.toList := said_mem ht (by decide +kernel)
      have hb := both_of h34 fun q => hT.quot q ht
      rw [hb]
      decide +kernel
    · have h2 : ∀ q : Bool, ∀ p ∈ namesT, p ≠ pQuot → (tkVal (.inr p)).cps.toList.map (enc q) = [.inr p] := by decide +kernel
      exact h2 _ p (hT.ok _ ht) hp
theorem said_enc (q : Bool) (r : Str) : tkSaid (r.cps.toList.map (enc q)) = r := join_enc q r
theorem enc_inl {q : Bool} {c d : Nat} (h : enc q c = .inl d) : d = c ∧ c ≠ 60 ∧ c ≠ 62 ∧ c ≠ 10 ∧ c ≠ 13 ∧ c ≠ 9 ∧ (q = true → c ≠ 34) := by
  have hv := enc_val q c
  rw [h] at hv
  have hn : ∀ q, ∀ c ∈ [60, 62, 10, 13, 9], ∃ p, enc q c = .inr p := fun q c hc => by
    have h2 : ∀ q : Bool, ∀ c ∈ [60, 62, 10, 13, 9], (enc q c).isRight = true := by decide +kernel
    have := h2 q c hc
    cases he : enc q c with
    | inl d => rw [he] at this; cases this
    | inr p => exact ⟨p, rfl⟩
  have no : c ∉ [60, 62, 10, 13, 9] := fun hc => by
    obtain ⟨p, e⟩ := hn q c hc
    rw [e] at h; cases h
  simp only [List.mem_cons, List.not_mem_nil, or_false, not_or] at no
  refine ⟨by simpa [tkVal] using hv, no.1, no.2.1, no.2.2.1, no.2.2.2.1, no.2.2.2.2, ?_⟩
  rintro rfl rfl
  rw [show enc true 34 = .inr pQuot from by decide +kernel] at h
  cases h
theorem value_wr (r : Str) : valueS (wrT r) = some r := by
  have hm : mk1 r = 34 ∨ mk1 r = 39 := by
    unfold mk1
    split
    · exact .inr rfl
    · exact .inl rfl
  have good : GoodV (mk1 r) (r.cps.toList.map (enc (both r))) := by
    refine ⟨fun t ht => ?_, hm, fun c hc => ?_, by rw [said_enc], fun ha hq => ?_⟩
    · obtain ⟨c, _, rfl⟩ := List.mem_map.mp ht
      exact enc_ok _ c
    · obtain ⟨d, hd, e⟩ := List.mem_map.mp hc
      obtain ⟨rfl, h1, h2, h3, h4, h5, h6⟩ := enc_inl e
      refine ⟨h1, h2, h3, h4, h5, fun q => ?_⟩
      rcases hm with hm | hm
      · rw [hm] at q
        subst q
        exact h6 (both_of hd (by rw [hm]; decide)) rfl
      · rw [hm] at q
        subst q
        unfold mk1 at hm
        rw [decide_eq_true hd] at hm
        simp at hm
    · rw [said_enc] at ha
      obtain ⟨d, hd, e⟩ := List.mem_map.mp hq
      have hb : both r = false := by
        cases hb : both r with
        | false => rfl
        | true => rw [both_mk hb] at ha; cases ha
      rw [hb] at e
      have hv := enc_val false d
      rw [e] at hv
      have : d = 34 := by
        have e2 : (⟨#[34]⟩ : Str) = ⟨#[d]⟩ := by rw [← hv]; decide +kernel
        simpa using e2.symm
      subst this
      rw [show enc false 34 = .inl 34 from by decide +kernel] at e
      cases e
  rw [valueS_tok good (wrT_enc r), said_enc]
theorem law_value_none {x : Str} (h : valueS x = none) : (wrT (readT (Txt.slice x (some 1) (some (-1)))) == x) = false := by
  cases e : (wrT (readT (Txt.slice x (some 1) (some (-1)))) == x) with
  | false => rfl
  | true =>
    rw [beq_iff_eq] at e
    have := value_wr (readT (Txt.slice x (some 1) (some (-1))))
    rw [e, h] at this
    cases this
end Mine

open PySem PySem.W PyProof.Rows PySem.Calls
set_option Elab.async false
set_option maxRecDepth 100000
set_option maxHeartbeats 2000000
namespace Mine
local macro_rules | `(tactic| walk_at "eval Name") => `(tactic| (k_here; k_dflt (first | (refine' cname_L ?n ?v ?_ ?k ?kk; (case n => first | assumption | exact Heap.Ns.keeps (by assumption) (by assumption)); (case v => assumption); (case k => assumption); (case kk => assumption); k_whole) | (refine' cname_C ?c ?g ?d ?_ ?k ?kk; (case c => assumption); (case g => first | assumption | exact (by assumption : ∀ b o, _ → _) _ _ (by assumption)); (case d => assumption); (case k => assumption); (case kk => assumption); k_whole))))
local macro_rules | `(tactic| walk_at "subscriptTail") => `(tactic| (k_here; (with_reducible show wpAny _ _ (subscriptTail _ _ (Value.str _ _) (Value.ref _)) _ _ _); k_dflt (first | (refine' sliceP_ss ?h ?hsz; case' hsz => (rw [sizeLine_eq]; omega)) | (refine' sliceP_ns ?h ?hsz; case' hsz => (rw [sizeLine_eq]; omega)) | (refine' sliceP_sn ?h ?hsz; case' hsz => (rw [sizeLine_eq]; omega))); intro h' t' k' hk'; (try dsimp only at hk')))
theorem elt_E {prog : Program} {w : World} {A : Around} {E : Value → Shared → Prop} {h3 : Heap} {g : Array GenState} {dr : Drawn} {tk : Nat} {os : OsState} {scope : Scope} {cl : List (Str × Addr)} {C c : Addr} {o : Obj} {env : Env} {m : Str → Option Value} {p1 p2 p3 p4 p5 p6 p7 p8 p9 p10 p11 : Pos} {q : Nat} {j : Nat} {t tx : Tok} {x : Str}
    (hn : h3.Ns C m) (hm : m (Str.ofString "k") = some (.int (j : Int) t)) (hc : cl.lookup (Str.ofString "whole") = some c) (gW : h3.get? c = some o) (dW : o.data = .cell (some (.str x tx))) (hx : x.length ≤ 50)
    (k1 : (compEnvC scope cl C env).scope.kind = .function) (k2 : (compEnvC scope cl C env).kindOf (Str.ofString "k") = some .local) (k3 : (compEnvC scope cl C env).kindOf (Str.ofString "whole") = some .cell) :
    wpAny (model prog w) A (eval (.BinOp (.Subscript (.Name (Str.ofString "whole") p1) (.Slice none (some (.Name (Str.ofString "k") p2)) none p3) p4) .Add (.Subscript (.Name (Str.ofString "whole") p5) (.Slice (some (.BinOp (.Name (Str.ofString "k") p6) .Add (.Constant (.int 1) q p7) p8)) none none p9) p10) p11) (compEnvC scope cl C env))
      (fun y s₄ => (∃ s t, y = .str s t ∧ s.length ≤ 100) ∧ Keeps ⟨h3, g, dr, tk, os⟩ s₄) E ⟨h3, g, dr, tk, os⟩ := by
  k_steps
  refine cname_C hc gW dW ?_ k1 k3
  k_steps
  refine cname_L hn hm ?_ k1 k2
  k_steps
  refine sliceP_ns (s := ⟨_, _, _, _, _⟩) (fun h' t' k' hk' => ?_) (by rw [sizeLine_eq]; omega)
  dsimp only at hk' ⊢
  k_steps
  refine cname_C hc (hk' _ _ gW) dW ?_ k1 k3
  k_steps
  refine cname_L (hn.keeps hk') hm ?_ k1 k2
  k_steps
  dsimp only
  refine sliceP_sn (s := ⟨_, _, _, _, _⟩) (fun h'' t'' k'' hk'' => ?_) (by rw [sizeLine_eq]; omega)
  dsimp only at hk'' ⊢
  have l1 := slice_len x none (some (j : Int))
  have l2 := slice_len x (some ((j : Int) + 1)) none
  repeat' ((fail_if_success (with_reducible show _ ∧ _)); walk1)
  exact ⟨⟨_, _, rfl, by omega⟩, _, _, rfl, fun b o e => hk'' _ _ (hk' _ _ e)⟩
theorem paired_len {R : Value → Value → Prop} {a b : List Value} (h : Paired R a b) : a.length = b.length := by
  induction h with
  | nil => rfl
  | cons _ _ ih => simp [ih]
end Mine

open PySem PySem.W PyProof.Rows PySem.Calls
set_option Elab.async false
set_option maxRecDepth 100000
set_option maxHeartbeats 16000000
namespace Mine
open PySem.Challenge
local macro_rules | `(tactic| k_call_by "enter" $b) => `(tactic| (refine' enter_plain (binds := $b) ?X ?T ?k6 ?k7 ?k8 ?k9 ?kB ?_ ?c2 ?c3 ?c4 ?c5; (case X => assumption); (case T => assumption); (case k6 => k_is); (case k7 => k_is); (case k8 => (show dp < recursionLimit; omega)); (case k9 => exact BindsTo.of_eq rfl); (case kB => exact locs rfl); (case c2 => exact rfl); (case c3 => exact rfl); (case c4 => exact rfl); (case c5 => decide)))
local macro_rules | `(tactic| walk_at "eval Name") => `(tactic| (k_here; k_dflt (refine' nameX_L ?F ?v ?_ ?a ?b; (case a => rfl); (case b => rfl); (case F => k_asm); (case v => assumption); k_whole)))
local macro_rules | `(tactic| walk_at "subscriptTail Name Slice str ref") => `(tactic| (k_here; (with_reducible show wpAny _ _ (subscriptTail _ _ (Value.str _ _) (Value.ref _)) _ _ _); (first | (refine' sliceT_ss (s := ⟨_, _, _, _, _⟩) ?z ?h ?hsz; case' hsz => (rw [sizeLine_eq]; omega)) | (refine' sliceT_ns (s := ⟨_, _, _, _, _⟩) ?z ?h ?hsz; case' hsz => (rw [sizeLine_eq]; omega)) | (refine' sliceT_sn (s := ⟨_, _, _, _, _⟩) ?z ?h ?hsz; case' hsz => (rw [sizeLine_eq]; omega))); (case z => first | (dsimp only; omega) | omega); intro h' t' k' htk' hk'; (try dsimp only at hk'); (rename Fr _ _ _ _ => kF'); (rename News _ _ _ _ => kN'); (have kF9 := fr_up kF' hk'); (have kN9 := news_up kN' hk'); clear kF' kN' hk'))
local macro_rules | `(tactic| walk_at "compareOp In str ref") => `(tactic| (k_here; k_dflt (refine' in_E ?l ?t ?_; (case l => exact News.get (by k_asm) (by k_mem)); (case t => assumption); k_whole)))
local macro_rules | `(tactic| walk_at "compareOp NotIn str ref") => `(tactic| (k_here; k_dflt (refine' notin_E ?l ?t ?_; (case l => exact News.get (by k_asm) (by k_mem)); (case t => assumption); k_whole)))
local macro_rules | `(tactic| walk_at "execs nil") => `(tactic| (k_here; (try dsimp only); refine' gen_toks ?k1 ?_; (case k1 => omega); intro tk' htk'; refine wpAny_execs_nil ?_))
local macro_rules | `(tactic| walk_at "execs cons") => `(tactic| (k_here; (try dsimp only); refine' gen_toks ?k1 ?_; (case k1 => omega); intro tk' htk'; refine wpAny_execs_cons ?_))




theorem law2 : rw_in0094_02.Holds := hd (by
  k_go0
  rename Shared => s₁
  rename Heap.IsList _ _ _ => hL
  rename IntsAre _ _ => hI
  rename Frag.In _ _ => KX
  rename Top _ _ _ _ _ _ => T0
  have T := topRead_of T0
  rename Fr _ _ _ _ => F
  rename News _ _ _ _ => N
  rename CellsAre _ _ _ => Y
  rename ¬ (_ : Int) < _ => hlen
  rename Below _ _ _ _ => K0
  rename Dflts _ _ _ _ _ _ => hD
  clear K0 hD T0
  repeat' ((fail_if_success (with_reducible show wpAny _ _ (call _ _) _ _ _)); walk1)
  refine draw_spec (KX.keeps F.keep) (T.keeps F.keep) (by decide) (by decide) (hL.at fun o e => F.keep _ o e) hI (by omega) ?_
  intro inner hin ti h tk htk hk
  have F2 := fr_up F hk
  have N2 := news_up N hk
  clear F N hk
  rename _ = Data.cell _ => hw
  rename Obj => oW
  replace hw : oW.data = Data.cell none := hw
  clear Y
  repeat' ((fail_if_success (with_reducible show wpAny _ _ (eval (Expr.Dict _ _ _) _) _ _ _)); walk1)
  rename Fr _ _ _ _ => F
  rename News _ _ _ _ => N
  rename Heap => hX
  refine' Dict_E (kvs := backT) ?ka ?kb ?kc ?kd ?_
  case ka => simp only [arm_evalEachOpt_cons, arm_evalEachOpt_nil, arm_evalOpt_some, arm_eval_Constant, constValue, backT, List.map]
  case kb => simp only [arm_evalEach_cons, arm_evalEach_nil, arm_eval_Constant, constValue, backT, List.map]
  case kc => exact List.cons_ne_nil _ _
  case kd => exact Nat.le_of_ble_eq_true rfl
  rename_i tkD htkD
  intro h₂ ep₂ tk₂ hD ht2 hk
  rw [merge_nil (by rw [const_keys]; decide +kernel)] at hD
  have hsE : Sound (constEnts tkD backT) := const_sound (by omega)
  have l1 := news_lt N
  k_lt l1
  have N2 := news_new F N hk hD
  have F2 := fr_up F hk
  dsimp only at N2 F2 hk hD ht2 l1 ⊢
  have htk2 : 1 ≤ tk₂ := by omega
  generalize hX.objs.size = D at N2 hD l1 ⊢
  have hDs : (D == sysModules) = false := beq_false_of_ne (Nat.ne_of_gt (Nat.lt_of_lt_of_le (Nat.succ_lt_succ (Nat.succ_pos s₁.heap.objs.size)) l1))
  clear hk hD N F
  repeat' ((fail_if_success (with_reducible show wpAny _ _ (exec (Stmt.For _ _ _ _ _) _) _ _ _)); walk1)
  refine wpAny_For ?_ (by intro _; rfl)
  repeat' ((fail_if_success (with_reducible show wpAny _ _ (pyIter _) _ _ _)); walk1)
  rename_i lM _ _ _ lMl
  rename Fr _ _ _ _ => F
  rename News _ _ _ _ => N
  generalize hm : (fun y => if y = Str.ofString "back" then some (Value.ref _) else _) = m at F
  have mB : m (Str.ofString "back") = some (Value.ref D) := by rw [← hm]; rfl
  have mI : m (Str.ofString "inner") = some (.str inner ti) := by rw [← hm]; rfl
  clear hm
  refine for_list_E rfl rfl rfl F N (by dsimp only; omega) (List.mem_cons_self ..) (fun _ m' news' _ => (∃ oW c, news' = [(lM, _), (D, _), (_, oW)] ∧ oW.data = Data.cell c) ∧ m' (Str.ofString "back") = some (Value.ref D) ∧ m' (Str.ofString "inner") = some (Value.str inner ti)) ⟨⟨_, _, rfl, hw⟩, mB, mI⟩ (fun _ _ _ _ ⟨⟨_, _, e, _⟩, _⟩ => by rw [e]; exact List.mem_cons_self ..) ?_ ?_
  · rintro i v m₁ h tk news' own hv ⟨⟨oW, c, rfl, d1⟩, mB, mI⟩ htk _ hown F N
    have o1 := neN (hown (lM, _) (by k_mem))
    have o2 := neN (hown (D, _) (by k_mem))
    have o3 := neN (hown (s₁.heap.objs.size + 1, _) (by k_mem))
    dsimp only at o1 o2 o3
    clear hown
    obtain ⟨mk, tm, hmk, hmkl⟩ := AllB.at (B := 8) (l := [Value.str (Str.ofString "\"") _, Value.str (Str.ofString "'") _]) ⟨⟨_, _, rfl, by decide +kernel⟩, ⟨_, _, rfl, by decide +kernel⟩, trivial⟩ (i := i) (Array.getElem?_eq_some_iff.mp hv).1
    obtain rfl := Option.some.inj (hv.symm.trans ((List.getElem?_toArray ..).trans hmk))
    dsimp only at F N ⊢
    change Fr s₁.heap s₁.heap.objs.size _ _ at F
    change News s₁.heap s₁.heap.objs.size _ _ at N
    have htk : 1 ≤ tk + 1 := by omega
    refine gen_toks htk fun tk htk => ?_
    repeat' ((fail_if_success (with_reducible show wpAny _ _ (exec (Stmt.For _ _ _ _ _) _) _ _ _)); walk1)
    refine wpAny_For ?_ (by intro _; rfl)
    repeat' ((fail_if_success (with_reducible show wpAny _ _ (eval (Expr.ListComp _ _ _ _) _) _ _ _)); walk1)
    rename Fr _ _ _ _ => F9
    rename News _ _ _ _ => N9
    rename _ = Data.cell (some _) => dW
    generalize hxw : mk ++ inner ++ mk = whole at *
    have hwl : whole.length ≤ 46 := by omega
    clear hxw
    refine wpAny_with_toks (n := 1) (Nat.le_add_left _ _) (wpAny_ListComp_free (fun _ => true) (fun _ y => ∃ s t, y = .str s t ∧ s.length ≤ 100) rfl (by decide) rfl (by decide) rfl ?_)
    repeat' ((fail_if_success (with_reducible show wpAny _ _ (pyIter _) _ _ _)); walk1)
    rename IsRange _ _ _ _ _ _ _ _ => hrg
    rename Fr _ _ _ _ => F
    rename News _ _ _ _ => N
    rename Heap => hC
    refine iter_range hrg (by omega) fun oI hoI hit => ?_
    refine ⟨_, _, _, _, _, _, rfl, Walks.range rfl _ 0 1 whole.length, ?_, hit, ?_, ⟨?_, ?_⟩, ?_⟩
    · rw [sizeLine_eq]; omega
    · intro b hb
      rw [List.mem_singleton.mp hb]
      dsimp only
      rw [Heap.size_push]
      exact Nat.lt_succ_self _
    · rintro C j v s₃ m₃ E' hC ⟨t, rfl⟩ hn hm hk htk
      exact forIn_none ⟨rfl, _, _, rfl, fun _ _ e => e⟩
    · rintro C j v s₃ m₃ E' hC' ⟨t, rfl⟩ _ hn hm hk htk
      obtain ⟨h3, g3, dr3, tk3, os3⟩ := s₃
      dsimp only at hk hn htk ⊢
      have gW : h3.get? (s₁.heap.objs.size + 1) = some _ := hk _ _ (by rw [List.mem_singleton]; exact Nat.ne_of_lt (Heap.lt_size (N.get (by k_mem)))) (Heap.get?_push_of_some _ (N.get (by k_mem)))
      clear hk
      have ej : (0 + (j : Int) * 1) = (j : Int) := by omega
      rw [ej] at hm
      exact elt_E hn hm rfl gW dW (by omega) rfl rfl rfl
    · intro Dh h' tk' ys vs hDh' hys hpl hlen hP hF hk htk9
      dsimp only at hDh' hk htk9
      have hns := F.ns.at' (h' := h') fun o e => hk _ o (by rw [List.mem_singleton]; exact Nat.ne_of_lt F.ns.lt) (Heap.get?_push_of_some _ e)
      obtain ⟨nH, hg⟩ := hpl
      obtain ⟨F', N', hne, hneL⟩ := after_comp F N hns hDh' hg (fun b o _ => hk b o)
      have yB : AllB 100 ys.toList := AllB.of_paired hF
      have yl : ys.toList.length ≤ 46 := by
        rw [← paired_len hF]
        have := List.length_filter_le (fun _ => true) vs
        omega
      clear hk hg hDh' hF hP hlen hys hns hne hneL hit hoI N F
      dsimp only
      refine add_lists (vs := [_, _, _, _]) (ws := ys.toList) F' N' ⟨_, N'.get (by k_mem), rfl, _, rfl⟩ ⟨_, N'.get (by k_mem), rfl, _, rfl⟩ ?_ (by rw [sizeLine_eq]; simp only [List.length_cons, List.length_nil]; omega)
      intro h'' F'' N''
      clear F' N'
      have yA : ∀ a b c d, AllB 100 ([Value.str whole a, Value.str (mk ++ mk) b, Value.str mk c, Value.str (Str.ofString "") d] ++ ys.toList) := fun a b c d => AllB.app ⟨⟨_, _, rfl, by omega⟩, ⟨_, _, rfl, by omega⟩, ⟨_, _, rfl, by omega⟩, ⟨_, _, rfl, by decide +kernel⟩, trivial⟩ yB
      generalize hI9 : (_ : List Value) ++ ys.toList = items at N''
      have yA : AllB 100 items := hI9 ▸ yA _ _ _ _
      clear hI9 yB
      refine for_list_E rfl rfl rfl F'' N'' (by dsimp only; omega) (List.mem_cons_self ..) (fun _ m' news' _ => news' = _ ∧ m' (Str.ofString "back") = some (Value.ref D) ∧ m' (Str.ofString "inner") = some (Value.str inner ti)) ⟨rfl, mB, mI⟩ (fun _ _ _ _ q => by rw [q.1]; exact List.mem_cons_self ..) ?_ ?_
      · rintro i v m₂ h tk news' own2 hv ⟨rfl, mB, mI⟩ htk _ _ F N
        obtain ⟨x, tx, hx, hxl⟩ := AllB.at yA (i := i) (by simpa using (Array.getElem?_eq_some_iff.mp hv).1)
        obtain rfl := Option.some.inj (hv.symm.trans ((List.getElem?_toArray ..).trans hx))
        clear hv hx
        dsimp only at F N ⊢
        change Fr s₁.heap s₁.heap.objs.size _ _ at F
        change News s₁.heap s₁.heap.objs.size _ _ at N
        have htk : 1 ≤ tk + 1 := by omega
        refine gen_toks htk fun tk htk => ?_
        repeat' ((fail_if_success (with_reducible show wpAny _ _ (call _ _) _ _ _)); walk1)
        rename Fr _ _ _ _ => F
        rename News _ _ _ _ => N
        have b1 := slice_len x (some 1) (some (-1))
        have b2 := readT_len (Txt.slice x (some 1) (some (-1)))
        have b3 := openT_len x
        refine wpAny_with_toks (n := 1) (by dsimp only; omega) (value_spec (KX.keeps F.keep) (T.keeps F.keep) (by decide) (by decide) (by omega) (by omega) (fun hv h' tk' hk htk' => ?_) (fun v hv tv h' tk' hk htk' => ?_))
        · have F9 := fr_up F hk
          have N9 := news_up N hk
          have e3 := law_value_none hv
          have e1 := e3
          clear hk F N
          try dsimp only
          repeat' ((fail_if_success (with_reducible show wpAny _ _ (call _ _) _ _ _)); walk1)
          refine' read_call ?X ?T ?k1 ?k2 ?k3 ?hd ?ds ?tD ?hx ?_
          case hd => exact News.get (by assumption) (by k_mem)
          case ds => assumption
          case tD => assumption
          case hx => omega
          case X => exact Frag.In.keeps (by assumption) (Fr.keep (by assumption))
          case T => exact TopRead.keeps (by assumption) (Fr.keep (by assumption))
          case k1 => decide
          case k2 => decide
          case k3 => first | omega | (dsimp only; omega) | (dsimp only at *; omega)
          intro t' h' tk' htk' hk'
          rename Fr _ _ _ _ => kF'
          rename News _ _ _ _ => kN'
          have kF9 := fr_up kF' hk'
          have kN9 := news_up kN' hk'
          clear kF' kN' hk'
          try dsimp only
          repeat' ((fail_if_success (with_reducible show wpAny _ _ (call _ _) _ _ _)); walk1)
          refine' wr_call ?X ?T ?k1 ?k2 ?k3 ?hx ?_
          case hx => omega
          case X => exact Frag.In.keeps (by assumption) (Fr.keep (by assumption))
          case T => exact TopRead.keeps (by assumption) (Fr.keep (by assumption))
          case k1 => decide
          case k2 => decide
          case k3 => first | omega | (dsimp only; omega) | (dsimp only at *; omega)
          intro t' h' tk' htk' hk'
          rename Fr _ _ _ _ => kF'
          rename News _ _ _ _ => kN'
          have kF9 := fr_up kF' hk'
          have kN9 := news_up kN' hk'
          clear kF' kN' hk'
          try dsimp only
          repeat' ((fail_if_success (with_reducible show wpAny _ _ (call _ _) _ _ _)); walk1)
          all_goals (first | (rename (_ != _) = true => q; exact absurd q (by first | (rw [e3]; decide) | (rw [e1]; simp))) | skip)
          rename Fr _ _ _ _ => F
          rename News _ _ _ _ => N
          refine wpAny_with_toks (n := 1) (by dsimp only; omega) (text_spec (KX.keeps F.keep) (T.keeps F.keep) (by decide) (by decide) (by omega) (by omega) (fun hp h' tk' hk htk' => ?_) (fun u hp tu h' tk' hk htk' => ?_))
          · have F9 := fr_up F hk
            have N9 := news_up N hk
            have g1 := law_text_none hp
            clear hk F N
            try dsimp only
            repeat' ((fail_if_success (with_reducible show wpAny _ _ (call _ _) _ _ _)); walk1)
            refine' open_call ?X ?T ?k1 ?k2 ?k3 ?hx ?_
            case hx => omega
            case X => exact Frag.In.keeps (by assumption) (Fr.keep (by assumption))
            case T => exact TopRead.keeps (by assumption) (Fr.keep (by assumption))
            case k1 => decide
            case k2 => decide
            case k3 => first | omega | (dsimp only; omega) | (dsimp only at *; omega)
            intro t' h' tk' htk' hk'
            rename Fr _ _ _ _ => kF'
            rename News _ _ _ _ => kN'
            have kF9 := fr_up kF' hk'
            have kN9 := news_up kN' hk'
            clear kF' kN' hk'
            try dsimp only
            repeat' ((fail_if_success (with_reducible show wpAny _ _ (call _ _) _ _ _)); walk1)
            refine' esc_call ?X ?T ?k1 ?k2 ?k3 ?hx ?_
            case hx => omega
            case X => exact Frag.In.keeps (by assumption) (Fr.keep (by assumption))
            case T => exact TopRead.keeps (by assumption) (Fr.keep (by assumption))
            case k1 => decide
            case k2 => decide
            case k3 => first | omega | (dsimp only; omega) | (dsimp only at *; omega)
            intro t' h' tk' htk' hk'
            rename Fr _ _ _ _ => kF'
            rename News _ _ _ _ => kN'
            have kF9 := fr_up kF' hk'
            have kN9 := news_up kN' hk'
            clear kF' kN' hk'
            try dsimp only
            repeat' ((fail_if_success (with_reducible show TurnL _ _ _ _ _ _ _ _ _)); walk1)
            all_goals (first | (rename (_ != _) = true => q; exact absurd q (by rw [g1]; decide)) | skip)
            rename Fr _ _ _ _ => F'
            rename News _ _ _ _ => N'
            exact turn_next F' N' (fun _ hp => hp) rfl ⟨rfl, mB, mI⟩
          · have F9 := fr_up F hk
            have N9 := news_up N hk
            obtain ⟨g1, g2⟩ := law_text_some hp
            have g3 : (esc3 (openT x) == x) = true := by rw [g1, g2]; simp
            clear hk F N
            try dsimp only
            repeat' ((fail_if_success (with_reducible show wpAny _ _ (call _ _) _ _ _)); walk1)
            refine' open_call ?X ?T ?k1 ?k2 ?k3 ?hx ?_
            case hx => omega
            case X => exact Frag.In.keeps (by assumption) (Fr.keep (by assumption))
            case T => exact TopRead.keeps (by assumption) (Fr.keep (by assumption))
            case k1 => decide
            case k2 => decide
            case k3 => first | omega | (dsimp only; omega) | (dsimp only at *; omega)
            intro t' h' tk' htk' hk'
            rename Fr _ _ _ _ => kF'
            rename News _ _ _ _ => kN'
            have kF9 := fr_up kF' hk'
            have kN9 := news_up kN' hk'
            clear kF' kN' hk'
            try dsimp only
            repeat' ((fail_if_success (with_reducible show wpAny _ _ (call _ _) _ _ _)); walk1)
            refine' esc_call ?X ?T ?k1 ?k2 ?k3 ?hx ?_
            case hx => omega
            case X => exact Frag.In.keeps (by assumption) (Fr.keep (by assumption))
            case T => exact TopRead.keeps (by assumption) (Fr.keep (by assumption))
            case k1 => decide
            case k2 => decide
            case k3 => first | omega | (dsimp only; omega) | (dsimp only at *; omega)
            intro t' h' tk' htk' hk'
            rename Fr _ _ _ _ => kF'
            rename News _ _ _ _ => kN'
            have kF9 := fr_up kF' hk'
            have kN9 := news_up kN' hk'
            clear kF' kN' hk'
            try dsimp only
            repeat' ((fail_if_success (with_reducible show TurnL _ _ _ _ _ _ _ _ _)); walk1)
            all_goals (first | (rename (_ != _) = true => q; exact absurd q (by first | (rw [g3]; decide) | (rw [g1]; simp))) | skip)
            rename Fr _ _ _ _ => F'
            rename News _ _ _ _ => N'
            exact turn_next F' N' (fun _ hp => hp) rfl ⟨rfl, mB, mI⟩
        · have F9 := fr_up F hk
          have N9 := news_up N hk
          obtain ⟨e1, e2⟩ := law_value_some hv
          have e3 : (wrT (readT (Txt.slice x (some 1) (some (-1)))) == x) = true := by rw [e1, e2]; simp
          clear hk F N
          try dsimp only
          repeat' ((fail_if_success (with_reducible show wpAny _ _ (subscriptTail _ _ _ _) _ _ _)); walk1)
          refine' sliceT_ss (s := ⟨_, _, _, _, _⟩) ?z ?h ?hsz
          case' hsz => (rw [sizeLine_eq]; omega)
          case z => first | (dsimp only; omega) | omega
          intro h' t' k' htk' hk'
          (try dsimp only at hk')
          (rename Fr _ _ _ _ => kF'); (rename News _ _ _ _ => kN'); (have kF9 := fr_up kF' hk'); (have kN9 := news_up kN' hk'); clear kF' kN' hk'
          repeat' ((fail_if_success (with_reducible show wpAny _ _ (call _ _) _ _ _)); walk1)
          refine' read_call ?X ?T ?k1 ?k2 ?k3 ?hd ?ds ?tD ?hx ?_
          case hd => exact News.get (by assumption) (by k_mem)
          case ds => assumption
          case tD => assumption
          case hx => omega
          case X => exact Frag.In.keeps (by assumption) (Fr.keep (by assumption))
          case T => exact TopRead.keeps (by assumption) (Fr.keep (by assumption))
          case k1 => decide
          case k2 => decide
          case k3 => first | omega | (dsimp only; omega) | (dsimp only at *; omega)
          intro t' h' tk' htk' hk'
          rename Fr _ _ _ _ => kF'
          rename News _ _ _ _ => kN'
          have kF9 := fr_up kF' hk'
          have kN9 := news_up kN' hk'
          clear kF' kN' hk'
          try dsimp only
          repeat' ((fail_if_success (with_reducible show wpAny _ _ (call _ _) _ _ _)); walk1)
          refine' wr_call ?X ?T ?k1 ?k2 ?k3 ?hx ?_
          case hx => omega
          case X => exact Frag.In.keeps (by assumption) (Fr.keep (by assumption))
          case T => exact TopRead.keeps (by assumption) (Fr.keep (by assumption))
          case k1 => decide
          case k2 => decide
          case k3 => first | omega | (dsimp only; omega) | (dsimp only at *; omega)
          intro t' h' tk' htk' hk'
          rename Fr _ _ _ _ => kF'
          rename News _ _ _ _ => kN'
          have kF9 := fr_up kF' hk'
          have kN9 := news_up kN' hk'
          clear kF' kN' hk'
          try dsimp only
          repeat' ((fail_if_success (with_reducible show wpAny _ _ (call _ _) _ _ _)); walk1)
          all_goals (first | (rename (_ != _) = true => q; exact absurd q (by first | (rw [e3]; decide) | (rw [e1]; simp))) | skip)
          rename Fr _ _ _ _ => F
          rename News _ _ _ _ => N
          refine wpAny_with_toks (n := 1) (by dsimp only; omega) (text_spec (KX.keeps F.keep) (T.keeps F.keep) (by decide) (by decide) (by omega) (by omega) (fun hp h' tk' hk htk' => ?_) (fun u hp tu h' tk' hk htk' => ?_))
          · have F9 := fr_up F hk
            have N9 := news_up N hk
            have g1 := law_text_none hp
            clear hk F N
            try dsimp only
            repeat' ((fail_if_success (with_reducible show wpAny _ _ (call _ _) _ _ _)); walk1)
            refine' open_call ?X ?T ?k1 ?k2 ?k3 ?hx ?_
            case hx => omega
            case X => exact Frag.In.keeps (by assumption) (Fr.keep (by assumption))
            case T => exact TopRead.keeps (by assumption) (Fr.keep (by assumption))
            case k1 => decide
            case k2 => decide
            case k3 => first | omega | (dsimp only; omega) | (dsimp only at *; omega)
            intro t' h' tk' htk' hk'
            rename Fr _ _ _ _ => kF'
            rename News _ _ _ _ => kN'
            have kF9 := fr_up kF' hk'
            have kN9 := news_up kN' hk'
            clear kF' kN' hk'
            try dsimp only
            repeat' ((fail_if_success (with_reducible show wpAny _ _ (call _ _) _ _ _)); walk1)
            refine' esc_call ?X ?T ?k1 ?k2 ?k3 ?hx ?_
            case hx => omega
            case X => exact Frag.In.keeps (by assumption) (Fr.keep (by assumption))
            case T => exact TopRead.keeps (by assumption) (Fr.keep (by assumption))
            case k1 => decide
            case k2 => decide
            case k3 => first | omega | (dsimp only; omega) | (dsimp only at *; omega)
            intro t' h' tk' htk' hk'
            rename Fr _ _ _ _ => kF'
            rename News _ _ _ _ => kN'
            have kF9 := fr_up kF' hk'
            have kN9 := news_up kN' hk'
            clear kF' kN' hk'
            try dsimp only
            repeat' ((fail_if_success (with_reducible show TurnL _ _ _ _ _ _ _ _ _)); walk1)
            all_goals (first | (rename (_ != _) = true => q; exact absurd q (by rw [g1]; decide)) | skip)
            rename Fr _ _ _ _ => F'
            rename News _ _ _ _ => N'
            exact turn_next F' N' (fun _ hp => hp) rfl ⟨rfl, mB, mI⟩
          · have F9 := fr_up F hk
            have N9 := news_up N hk
            obtain ⟨g1, g2⟩ := law_text_some hp
            have g3 : (esc3 (openT x) == x) = true := by rw [g1, g2]; simp
            clear hk F N
            try dsimp only
            repeat' ((fail_if_success (with_reducible show wpAny _ _ (call _ _) _ _ _)); walk1)
            refine' open_call ?X ?T ?k1 ?k2 ?k3 ?hx ?_
            case hx => omega
            case X => exact Frag.In.keeps (by assumption) (Fr.keep (by assumption))
            case T => exact TopRead.keeps (by assumption) (Fr.keep (by assumption))
            case k1 => decide
            case k2 => decide
            case k3 => first | omega | (dsimp only; omega) | (dsimp only at *; omega)
            intro t' h' tk' htk' hk'
            rename Fr _ _ _ _ => kF'
            rename News _ _ _ _ => kN'
            have kF9 := fr_up kF' hk'
            have kN9 := news_up kN' hk'
            clear kF' kN' hk'
            try dsimp only
            repeat' ((fail_if_success (with_reducible show wpAny _ _ (call _ _) _ _ _)); walk1)
            refine' esc_call ?X ?T ?k1 ?k2 ?k3 ?hx ?_
            case hx => omega
            case X => exact Frag.In.keeps (by assumption) (Fr.keep (by assumption))
            case T => exact TopRead.keeps (by assumption) (Fr.keep (by assumption))
            case k1 => decide
            case k2 => decide
            case k3 => first | omega | (dsimp only; omega) | (dsimp only at *; omega)
            intro t' h' tk' htk' hk'
            rename Fr _ _ _ _ => kF'
            rename News _ _ _ _ => kN'
            have kF9 := fr_up kF' hk'
            have kN9 := news_up kN' hk'
            clear kF' kN' hk'
            try dsimp only
            repeat' ((fail_if_success (with_reducible show TurnL _ _ _ _ _ _ _ _ _)); walk1)
            all_goals (first | (rename (_ != _) = true => q; exact absurd q (by first | (rw [g3]; decide) | (rw [g1]; simp))) | skip)
            rename Fr _ _ _ _ => F'
            rename News _ _ _ _ => N'
            exact turn_next F' N' (fun _ hp => hp) rfl ⟨rfl, mB, mI⟩
      · rintro h' tk m' news' ⟨rfl, mB, mI⟩ htk _ F N
        k_steps
        rename Fr _ _ _ _ => F'
        rename News _ _ _ _ => N'
        exact turn_next F' N' (fun _ hp => List.mem_cons_of_mem _ (List.mem_cons_of_mem _ (List.mem_cons_of_mem _ hp))) rfl ⟨⟨_, _, rfl, dW⟩, mB, mI⟩
  · rintro h' tk m' news' ⟨⟨oW, c, rfl, d1⟩, mB, mI⟩ htk _ F N
    k_steps
  )
end Mine

theorem PySem.Challenge.cw_in0094_02_holds : PySem.Challenge.rw_in0094_02.Holds :=
  Mine.law2
