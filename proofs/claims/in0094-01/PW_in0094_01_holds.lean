import PyProof.Rows.All
import Wide.All
import OpenK.AllK
import Wide.FinOn
import PySem.Challenge.RW_in0094_01
open PySem PySem.W PyProof.Rows
set_option Elab.async false
set_option maxRecDepth 100000
set_option maxHeartbeats 8000000
namespace Mine
open_top hd for PySem.Challenge.rw_in0094_01
end Mine

open PySem PySem.W PyProof.Rows PySem.Calls
set_option Elab.async false
set_option maxRecDepth 100000
namespace Mine

abbrev ar (dp un : Nat) (fr : Option (List Env)) (gd : Option (List Code)) : Around := { handled := none, depth := dp, frames := fr, guards := gd, units := un }

theorem enter_plain {prog : Program} {w : World} {A : Around} {R : Result → Shared → Prop} {K : Frag} {p : Program} {loose : List Str} {mg mb : Str → Option Value}
    {h₀ : Heap} {g : Array GenState} {dr : Drawn} {tk : Nat} {os : OsState}
    {name qual : Str} {params : Arguments} {body : List Stmt} {scope : Scope} {dV kV doc pm cdv ct oc : Value} {an od : Option Addr} {osl : Array (Option Value)} {f : Addr} {args : Args} {binds : List (Str × Value)}
    (X : K.In h₀) (T : TopRead p loose mg mb h₀)
    (ho : K.lookup f = some ⟨oc, od, .func (fnOf name qual params body scope dV kV doc pm an cdv ct), osl⟩) (hcd : codeIn K cdv qual = true) (hroom : A.depth < recursionLimit)
    (hbind : BindsTo ⟨h₀, g, dr, tk, os⟩ (fnOf name qual params body scope dV kV doc pm an cdv ct) args binds) (hloc : ∀ y ∈ binds, scope.names.lookup y.1 = some .local)
    (h : ∀ L h₁, Fr h₀ L h₁ (fun y => binds.reverse.lookup y) → News h₀ L h₁ [] →
      wpAny (model prog w) (A.deeper (envX qual scope L f cdv [])) (execs body (envX qual scope L f cdv []))
        (fun fl s' => R (.ok (.ret (match fl with | .ret v => v | _ => .none))) s') (fun _ _ => False) ⟨h₁, g, dr, tk + binds.length, os⟩)
    (hco : scope.isCoroutine = false) (hgen : scope.isGenerator = false) (hk : scope.kind = .function)
    (hcell : ∀ x ∈ scope.names, x.2 ≠ .cell) : codeAny (model prog w) A (.call (.ref f) args) R ⟨h₀, g, dr, tk, os⟩ := by
  refine codeAny_call_def (fd := fnOf name qual params body scope dV kV doc pm an cdv ct) (body := body) (binds := binds) hroom (X _ _ ho) rfl T.nolimit (codeRec_of X hcd) rfl hbind hcell hloc (fun h₁ hns hk₁ => ?_) hco hgen hk
  exact wpAny_mono (h h₀.objs.size h₁ ⟨hns, hk₁, Nat.le_refl _⟩ News.nil) (fun _ _ x => x) (fun _ _ x => x.elim)

theorem enter_cells {prog : Program} {w : World} {A : Around} {R : Result → Shared → Prop} {K : Frag} {p : Program} {loose : List Str} {mg mb : Str → Option Value}
    {h₀ : Heap} {g : Array GenState} {dr : Drawn} {tk : Nat} {os : OsState}
    {name qual : Str} {params : Arguments} {body : List Stmt} {scope : Scope} {dV kV doc pm cdv ct oc : Value} {an od : Option Addr} {osl : Array (Option Value)} {f : Addr} {args : Args} {binds : List (Str × Value)}
    (X : K.In h₀) (T : TopRead p loose mg mb h₀)
    (ho : K.lookup f = some ⟨oc, od, .func (fnOf name qual params body scope dV kV doc pm an cdv ct), osl⟩) (hcd : codeIn K cdv qual = true) (hroom : A.depth < recursionLimit)
    (hbind : BindsTo ⟨h₀, g, dr, tk, os⟩ (fnOf name qual params body scope dV kV doc pm an cdv ct) args binds)
    (hkind : (binds.all fun y => scope.names.lookup y.1 == some .local || scope.names.lookup y.1 == some .cell) = true)
    (hnd : ((cellsFrom 0 scope.names []).map (·.1)).Nodup)
    (h : ∀ L h₁ tk₁ cells, Fr h₀ L h₁ (bindL (envOfC qual scope L f cdv).kindOf binds fun _ => none) → News h₀ L h₁ cells → tk ≤ tk₁ →
      CellsAre (bindC (envOfC qual scope L f cdv).kindOf binds fun _ => none) (cellsFrom (L + 1) scope.names []) cells →
      wpAny (model prog w) (A.deeper (envOfC qual scope L f cdv)) (execs body (envOfC qual scope L f cdv))
        (fun fl s' => R (.ok (.ret (match fl with | .ret v => v | _ => .none))) s') (fun _ _ => False) ⟨h₁, g, dr, tk₁, os⟩)
    (hco : scope.isCoroutine = false) (hgen : scope.isGenerator = false) (hk : scope.kind = .function) : codeAny (model prog w) A (.call (.ref f) args) R ⟨h₀, g, dr, tk, os⟩ := by
  refine codeAny_call_function hroom (X _ _ ho) rfl hco hgen rfl (codeRec_of X hcd) (hbind _ _ _ _ ?_)
  refine wpAny_with_toks (n := tk) (Nat.le_refl _) (wpAny_newFunctionEnv_cells hk (kindsX hkind _) fun env' he s' x htk => ?_)
  subst he
  refine ⟨T.nolimit.keeps x.toInCall.keep, codeAny_func ?_⟩
  obtain ⟨h₁, tk₁, rfl, _⟩ := x.done
  have hk₁ := x.toInCall.keep
  obtain ⟨cells, NC, Y⟩ := Cl.news (h₀ := h₀) (Nat.le_refl _) fun n c hm => ⟨x.cell n c (lookup_of_mem_nodup (cellsFrom_names scope.names 0 (h₀.objs.size + 1) [] [] rfl ▸ hnd) hm), x.above n c hm⟩
  exact wpAny_mono (h h₀.objs.size h₁ tk₁ cells ⟨x.toInCall.ns, hk₁, Nat.le_refl _⟩ NC htk Y) (fun _ _ x => x) (fun _ _ x => x.elim)
end Mine
namespace Mine

theorem ns_none_of {K : Frag} {h : Heap} {a : Addr} {mg : Str → Option Value} {n : Str} (X : K.In h) (G : h.Ns a mg) (e : nsIn K a n = some none) : mg n = none := by
  obtain ⟨o, es, ep, ho, hd, _, hf⟩ := G
  unfold nsIn at e
  split at e
  · rename_i c d es' n' sl q
    have := X _ _ q
    rw [ho] at this
    cases this
    cases hd
    split at e
    · cases e
    · rename_i he
      rw [← hf]
      unfold nsFind findBy
      rw [← Array.find?_toList, he]
      rfl
  · cases e

theorem noneBooked_of {K : Frag} {h : Heap} {p : Program} {loose : List Str} {mg mb : Str → Option Value} (X : K.In h) (T : TopRead p loose mg mb h) (e : nsIn K cStatics sharingNotToldKey = some none) : NoneBooked h := by
  obtain ⟨mc, hn, _⟩ := T.nolimit
  exact ⟨mc, hn, ns_none_of X hn e⟩

section
open Builtin Builtin.Str
variable {prog : Program} {w : World} {A : Around} {E : Value → Shared → Prop} {s : Shared} {x y z : Str} {t u v : Tok} {Q : Value → Shared → Prop}

theorem gives_replace_same (x y : Str) (t u : Tok) (h0 : u ≠ 0) :
    Gives («str.replace» ⟨[.str x t, .str y u, .str y u], []⟩) (.val (.str x t)) := by
  show Gives (if ((occurrences x y 0 x.length (x.length + 1)).isEmpty || (y.length == 0 && y.length == 0)) = true then (do rule "str.replace.nothing"; ret (.str x t)) else
          (do let same ← isSame (.str y u) (.str y u)
              if same = true then (do rule "str.replace.old-is-new"; ret (.str x t)) else
              if tooLong (x.length + (occurrences x y 0 x.length (x.length + 1)).length * y.length) = true then unsupported "str.replace:memory" else
              retStr (glued y (partsBetween x (occurrences x y 0 x.length (x.length + 1)) y.length)))) _
  cases hc : ((occurrences x y 0 x.length (x.length + 1)).isEmpty || (y.length == 0 && y.length == 0))
  · have e : isSame (.str y u) (.str y u) = pure true := by
      show isSame.created (y == y) u u = pure true
      unfold isSame.created
      simp [h0]
    rw [e]
    exact .rule (.of_eq rfl)
  · exact .rule (.of_eq rfl)

theorem replaceT (hu : u ≠ 0) (hv : v ≠ 0) (huv : u = v → y = z) (hb : x.length + (x.length + 1) * z.length ≤ 16777216)
    (hnb : NoneBooked s.heap) (hq : ∀ t' k, Q (.str (Txt.replace x y z) t') { s with toks := k }) :
    wpAny (model prog w) A (call (.builtin "str.replace") [.str x t, .str y u, .str z v]) Q E s := by
  by_cases h : u = v
  · have e := huv h
    subst e
    subst h
    refine call_gives F.slot_str_replace (typeIs_str _ _ _) F.entry_str_replace (F.args_str_replace_3 _ _ _) (gives_replace_same x y t u hu) ?_
    have := hq t s.toks
    rw [Txt.replace_self] at this
    exact this
  · exact SC.replaceA hu hv h hb hq hnb
end
end Mine

open PySem PySem.W PyProof.Rows PySem.Calls
set_option Elab.async false
set_option maxRecDepth 100000
namespace Mine

/-- one entry of a table of texts, with the objects' tokens -/
structure Ent where
  k : Str
  kt : Nat
  v : Str
  vt : Nat

def Ent.de (w : World) (e : Ent) : DictEntry := ⟨hashStr w e.k, .str e.k e.kt, .str e.v e.vt⟩
abbrev dictO (w : World) (es : List Ent) (ep : Nat) : Obj := dictOf (es.map (Ent.de w)) ep

def putE (n : Ent) : List Ent → List Ent
  | [] => [n]
  | e :: r => if e.k = n.k then ⟨e.k, e.kt, n.v, n.vt⟩ :: r else e :: putE n r
def mergeE (es more : List Ent) : List Ent := more.foldl (fun acc e => putE e acc) es

theorem putE_length (n : Ent) : ∀ es : List Ent, (putE n es).length ≤ es.length + 1
  | [] => by simp [putE]
  | e :: r => by
    have := putE_length n r
    unfold putE
    split <;> simp <;> omega
theorem mergeE_length (more : List Ent) : ∀ es : List Ent, (mergeE es more).length ≤ es.length + more.length := by
  induction more with
  | nil => intro es; simp [mergeE]
  | cons e r ih =>
    intro es
    have h1 := ih (putE e es)
    have h2 := putE_length e es
    simp only [mergeE, List.foldl_cons, List.length_cons] at h1 ⊢
    omega

theorem keysOf_ents (prog : Program) (w : World) (es : List Ent) : PySem.KeysOf (strKind prog w) (es.map (Ent.de w)).toArray := by
  intro e he
  simp only [List.mem_toArray, List.mem_map] at he
  obtain ⟨a, _, rfl⟩ := he
  exact ⟨a.k, strKind_is _ _ _ _, rfl⟩

theorem is_de (prog : Program) (w : World) (k : Str) (e : Ent) : (strKind prog w).is k (e.de w).key = decide (e.k = k) := by
  have := KeyKind.is_eq_decide (strKind_is prog w e.k e.kt) k
  show (strKind prog w).is k (.str e.k e.kt) = _
  rw [this]
  by_cases h : k = e.k
  · simp [h]
  · rw [decide_eq_false h, decide_eq_false (Ne.symm h)]

theorem find_ents (prog : Program) (w : World) (k : Str) (es : List Ent) :
    ((es.map (Ent.de w)).toArray.findIdx? fun e => (strKind prog w).is k e.key) = es.findIdx? fun e => decide (e.k = k) := by
  rw [List.findIdx?_toArray, List.findIdx?_map]
  exact congrArg (fun f => List.findIdx? f es) (funext fun e => is_de prog w k e)

theorem put_find (n : Ent) : ∀ es : List Ent, (match es.findIdx? (fun e => decide (e.k = n.k)) with
    | some i => es.modify i fun e => ⟨e.k, e.kt, n.v, n.vt⟩
    | none => es ++ [n]) = putE n es
  | [] => rfl
  | e :: r => by
    have ih := put_find n r
    simp only [List.findIdx?_cons, putE]
    by_cases h : e.k = n.k
    · simp [h]
    · simp only [h, decide_false, if_false, Bool.false_eq_true]
      rw [← ih]
      cases r.findIdx? (fun e => decide (e.k = n.k)) with
      | none => rfl
      | some i => simp [List.modify_succ_cons]

section
variable {prog : Program} {w : World} {A : Around} {E : Value → Shared → Prop} {s : Shared}

theorem dictFind_E {d : Addr} {es : List Ent} {ep : Nat} {k : Str} {t : Tok} {Q : Option Nat → Shared → Prop} (ho : s.heap.get? d = some (dictO w es ep))
    (h : Q (es.findIdx? fun e => decide (e.k = k)) s) : wpAny (model prog w) A (dictFind d (.str k t) (hashStr w k)) Q E s := by
  refine wpAny_dictFind_of (knd := strKind prog w) (strKind_is _ _ k t) ho rfl (keysOf_ents prog w es) ?_
  rw [find_ents]
  exact h

theorem map_modify_E (n : Ent) : ∀ (es : List Ent) (i : Nat), ((es.map (Ent.de w)).modify i fun e => { e with val := .str n.v n.vt }) = (es.modify i fun e => ⟨e.k, e.kt, n.v, n.vt⟩).map (Ent.de w)
  | [], _ => by simp
  | e :: r, 0 => by simp [Ent.de]
  | e :: r, i + 1 => by simp [List.modify_succ_cons, map_modify_E n r i]
theorem mapDict_E (es : List Ent) (ep i : Nat) (n : Ent) : Obj.mapDict (·.modify i fun e => { e with val := .str n.v n.vt }) (dictO w es ep) = dictO w (es.modify i fun e => ⟨e.k, e.kt, n.v, n.vt⟩) ep := by
  show ({ cls := .type "dict", data := .dict (((es.map (Ent.de w)).toArray).modify i fun e => { e with val := .str n.v n.vt }) ep } : Obj) = _
  unfold dictO dictOf
  congr 2
  apply Array.ext'
  simp only [Array.toList_modify]
  exact map_modify_E n es i
theorem mapKeys_E (es : List Ent) (ep : Nat) (n : Ent) : Obj.mapDictKeys (·.push ⟨hashStr w n.k, .str n.k n.kt, .str n.v n.vt⟩) (dictO w es ep) = dictO w (es ++ [n]) (ep + 1) := by
  show ({ cls := .type "dict", data := .dict (((es.map (Ent.de w)).toArray).push ⟨hashStr w n.k, .str n.k n.kt, .str n.v n.vt⟩) (ep + 1) } : Obj) = _
  simp [Ent.de]

theorem dictPut_E {d : Addr} {es : List Ent} {ep : Nat} (n : Ent) {Q : Unit → Shared → Prop} (ho : s.heap.get? d = some (dictO w es ep)) (hz : es.length ≤ 1000)
    (h : ∀ h' ep', h'.get? d = some (dictO w (putE n es) ep') → Heap.SameBut d s.heap h' → Q () { s with heap := h' }) :
    wpAny (model prog w) A (dictPut d (hashStr w n.k) (.str n.k n.kt) (.str n.v n.vt)) Q E s := by
  unfold dictPut
  refine wpAny_bind (dictFind_E ho ?_)
  have hp := put_find n es
  cases hi : es.findIdx? fun e => decide (e.k = n.k) with
  | some i =>
    rw [hi] at hp
    dsimp only at hp ⊢
    refine wpAny_updateDict ho rfl (h _ ep ?_ (Heap.SameBut.update ..))
    rw [Heap.get?_update_self _ ho rfl, mapDict_E, hp]
  | none =>
    rw [hi] at hp
    dsimp only at hp ⊢
    refine wpAny_updateDictKeys ho rfl (h _ (ep + 1) ?_ (Heap.SameBut.update ..)) (by simp [sizeLine_eq]; omega)
    rw [Heap.get?_update_self _ ho rfl, mapKeys_E, hp]

theorem dictSet_E {d : Addr} {es : List Ent} {ep : Nat} (n : Ent) {Q : Unit → Shared → Prop} (ho : s.heap.get? d = some (dictO w es ep)) (hz : es.length ≤ 1000)
    (h : ∀ h' ep', h'.get? d = some (dictO w (putE n es) ep') → Heap.SameBut d s.heap h' → Q () { s with heap := h', toks := s.toks + 1 }) :
    wpAny (model prog w) A (dictSet d (.str n.k n.kt) (.str n.v n.vt)) Q E s := by
  unfold dictSet
  refine wpAny_holding (wpAny_bind (wpAny_pyHash_str ?_))
  unfold dictSetHashed
  refine wpAny_holding (wpAny_bind (dictFind_E ho ?_))
  have hp := put_find n es
  cases hi : es.findIdx? fun e => decide (e.k = n.k) with
  | some i =>
    rw [hi] at hp
    dsimp only at hp ⊢
    refine wpAny_bind (wpAny_rule (wpAny_bind (wpAny_updateDict ho rfl (wpAny_point (h _ ep ?_ (Heap.SameBut.update ..))))))
    rw [Heap.get?_update_self _ ho rfl, mapDict_E, hp]
  | none =>
    rw [hi] at hp
    dsimp only at hp ⊢
    refine wpAny_bind (wpAny_rule (wpAny_updateDictKeys ho rfl (h _ (ep + 1) ?_ (Heap.SameBut.update ..)) (by simp [sizeLine_eq]; omega)))
    rw [Heap.get?_update_self _ ho rfl, mapKeys_E, hp]

theorem entries_get {es : List Ent} {ep : Nat} {a : Addr} {Q : Array DictEntry → Shared → Prop} (ho : s.heap.get? a = some (dictO w es ep)) (h : Q (es.map (Ent.de w)).toArray s) :
    wpAny (model prog w) A (dictEntries a) Q E s := wpAny_dictEntries ho rfl h

/-- a loop that puts each entry of a table into another -/
theorem mergeRun {d a : Addr} {es more : List Ent} {ep ep2 : Nat} {Q : Unit → Shared → Prop} {f : Nat → PUnit → Sem (ForInStep PUnit)} (hd : s.heap.get? d = some (dictO w es ep)) (ha : s.heap.get? a = some (dictO w more ep2)) (hne : a ≠ d)
    (hz : es.length + more.length ≤ 1000) (h : ∀ h' ep' tk, h'.get? d = some (dictO w (mergeE es more) ep') → Heap.SameBut d s.heap h' → Q () { s with heap := h', toks := tk })
    (hf : ∀ x (hx : x < more.length) cur h' ep' tk, h'.get? d = some (dictO w cur ep') → h'.get? a = some (dictO w more ep2) → cur.length ≤ 1000 →
      wpAny (model prog w) A (f x ⟨⟩) (fun r s'' => ∃ h'' ep'', r = .yield ⟨⟩ ∧ s'' = { s with heap := h'', toks := tk } ∧ h''.get? d = some (dictO w (putE more[x] cur) ep'') ∧ Heap.SameBut d h' h'') E { s with heap := h', toks := tk }) :
    wpAny (model prog w) A (forIn (List.range more.length) PUnit.unit f) (fun _ s' => Q () s') E s := by
  refine wpAny_forIn_list _ (fun rest _ s' => ∃ i h' ep' tk, rest = List.range' i (more.length - i) ∧ i ≤ more.length ∧ s' = { s with heap := h', toks := tk } ∧
    h'.get? d = some (dictO w (mergeE es (more.take i)) ep') ∧ Heap.SameBut d s.heap h') _ ?_ ?_ _ _ ⟨0, s.heap, ep, s.toks, by rw [List.range_eq_range', Nat.sub_zero], Nat.zero_le _, rfl, by simpa [mergeE] using hd, Heap.SameBut.refl _ _⟩
  · rintro x rest _ s' ⟨i, h', ep', tk, hr, hi, rfl, hd', hs'⟩
    have hlt : i < more.length := by
      rcases Nat.lt_or_ge i more.length with q | q
      · exact q
      · rw [Nat.sub_eq_zero_of_le q] at hr; cases hr
    have hsucc : more.length - i = (more.length - (i + 1)) + 1 := by omega
    rw [hsucc, List.range'_succ] at hr
    obtain ⟨rfl, rfl⟩ := List.cons.inj hr
    have ha' : h'.get? a = some (dictO w more ep2) := (hs'.2 a hne).trans ha
    have hlen : (mergeE es (more.take x)).length ≤ 1000 := by
      have := mergeE_length (more.take x) es
      rw [List.length_take] at this
      omega
    refine wpAny_mono (hf x hlt _ h' ep' tk hd' ha' hlen) (fun r s'' q => ?_) fun _ _ e => e
    obtain ⟨h'', ep'', rfl, rfl, hd'', hs''⟩ := q
    refine ⟨x + 1, h'', ep'', tk, rfl, hlt, rfl, ?_, hs'.trans hs''⟩
    rw [List.take_add_one, List.getElem?_eq_getElem hlt, mergeE, List.foldl_append]
    exact hd''
  · rintro _ s' ⟨i, h', ep', tk, hr, hi, rfl, hd', hs'⟩
    have hge : i = more.length := by
      have := congrArg List.length hr
      simp at this
      omega
    rw [hge, List.take_length] at hd'
    exact h h' ep' tk hd' hs'

theorem mergeMapping_E {d a : Addr} {es more : List Ent} {ep ep2 : Nat} {Q : Unit → Shared → Prop} (hd : s.heap.get? d = some (dictO w es ep)) (ha : s.heap.get? a = some (dictO w more ep2)) (hne : a ≠ d)
    (hsys : (a == sysModules) = false) (hz : es.length + more.length ≤ 1000)
    (h : ∀ h' ep' tk, h'.get? d = some (dictO w (mergeE es more) ep') → Heap.SameBut d s.heap h' → Q () { s with heap := h', toks := tk }) :
    wpAny (model prog w) A (mergeMapping d (.ref a) false) Q E s := by
  have hT : s.TypeIs (.ref a) "dict" := ⟨_, ha, rfl⟩
  have e : (more.map (Ent.de w)).toArray.size = more.length := by simp
  unfold mergeMapping
  refine wpAny_bind (wpAny_isInstance hT isSubtype_dict_dict ?_)
  rw [if_pos rfl]
  refine wpAny_bind (wpAny_specialOf hT F.slot_dict_iter.lookup ?_)
  refine wpAny_bind (wpAny_pure ?_)
  simp only [beq_self_eq_true]
  rw [if_neg (by rw [hsys]; exact Bool.false_ne_true)]
  refine wpAny_bind (entries_get hd ?_)
  split
  refine wpAny_bind (entries_get ha ?_)
  refine wpAny_bind ?_
  rw [← Array.forIn_toList]
  refine' wpAny_forIn_list _ (fun rest _ s' => s' = s ∧ ∀ e ∈ rest, ∃ x t, e.key = .str x t) _ ?c1 ?c2 _ _ ⟨rfl, ?c3⟩
  case c1 =>
    rintro x rest _ s' ⟨rfl, hx⟩
    obtain ⟨q, t, e⟩ := hx x (List.mem_cons_self ..)
    rw [e]
    exact wpAny_pure ⟨rfl, fun e he => hx e (List.mem_cons_of_mem _ he)⟩
  case c3 =>
    intro e he
    simp only [List.mem_map] at he
    obtain ⟨q, _, rfl⟩ := he
    exact ⟨q.k, q.kt, rfl⟩
  rintro _ s' ⟨rfl, _⟩
  all_goals
    refine wpAny_bind (entries_get ha ?_)
    refine wpAny_bind (wpAny_dictEpoch ha rfl ?_)
    refine wpAny_bind ?_
    rw [e]
    refine wpAny_mono (mergeRun hd ha hne hz h ?_) (fun _ _ q => wpAny_pure q) fun _ _ q => q
    intro x hlt cur h' ep' tk hd' ha' hlen
    refine wpAny_bind (entries_get ha' ?_)
    have hx : (more.map (Ent.de w)).toArray[x]? = some (more[x].de w) := by simp [hlt]
    rw [hx]
    dsimp only
    refine wpAny_bind (wpAny_holding ?_)
    rw [if_neg Bool.false_ne_true]
    refine dictPut_E more[x] hd' hlen fun h'' ep'' hd'' hs'' => ?_
    have ha'' : h''.get? a = some (dictO w more ep2) := (hs''.2 a hne).trans ha'
    refine wpAny_bind (wpAny_dictEpoch ha'' rfl ?_)
    rw [if_neg (by simp)]
    exact wpAny_pure ⟨h'', ep'', rfl, rfl, hd'', hs''⟩

theorem storeAll_E {d : Addr} : ∀ (more es : List Ent) (ep : Nat) (s : Shared) (Q : Unit → Shared → Prop), s.heap.get? d = some (dictO w es ep) → es.length + more.length ≤ 1000 →
    (∀ h' ep' tk, h'.get? d = some (dictO w (mergeE es more) ep') → Heap.SameBut d s.heap h' → Q () { s with heap := h', toks := tk }) →
    wpAny (model prog w) A (storeAll d (more.map fun e => (.str e.k e.kt, .str e.v e.vt))) Q E s
  | [], es, ep, s, Q, hd, _, h => by
    unfold storeAll
    exact wpAny_pure (h s.heap ep s.toks hd (Heap.SameBut.refl _ _))
  | e :: r, es, ep, s, Q, hd, hz, h => by
    unfold storeAll
    rw [List.map_cons, List.forIn_cons]
    rw [List.length_cons] at hz
    refine wpAny_bind (wpAny_bind (dictSet_E e hd (by omega) fun h' ep' hd' hs' => wpAny_pure ?_))
    refine storeAll_E r (putE e es) ep' _ Q hd' (by have := putE_length e es; omega) fun h'' ep'' tk hd'' hs'' => ?_
    exact h h'' ep'' tk hd'' (hs'.trans hs'')

def constEnts (tk : Nat) : List (Str × Str) → List Ent
  | [] => []
  | p :: r => ⟨p.1, tk, p.2, tk + 1⟩ :: constEnts (tk + 2) r
theorem constEnts_length : ∀ (l : List (Str × Str)) (tk : Nat), (constEnts tk l).length = l.length
  | [], _ => rfl
  | p :: r, tk => by rw [constEnts, List.length_cons, List.length_cons, constEnts_length r]

def constPairs (pos : Pos) (l : List (Str × Str)) : List (Sem Value × Sem Value) := l.map fun p => (mkText p.1, do let x ← mkText p.2; standAt pos; pure x)

theorem evalPairs_const {pos : Pos} : ∀ (l : List (Str × Str)) (s : Shared) (Q : List (Value × Value) → Shared → Prop),
    Q ((constEnts s.toks l).map fun e => (.str e.k e.kt, .str e.v e.vt)) { s with toks := s.toks + 2 * l.length } → wpAny (model prog w) A (evalPairs (constPairs pos l)) Q E s
  | [], s, Q, h => by
    exact wpAny_pure h
  | p :: r, s, Q, h => by
    show wpAny _ _ (evalPairs ((mkText p.1, do let x ← mkText p.2; standAt pos; pure x) :: constPairs pos r)) Q E s
    rw [evalPairs]
    refine wpAny_bind (wpAny_mkText (wpAny_bind (wpAny_holding (wpAny_bind (wpAny_mkText (wpAny_bind (wpAny_standAt (wpAny_pure ?_))))))))
    refine wpAny_bind (wpAny_holding (evalPairs_const r _ _ (wpAny_pure ?_)))
    have e : s.toks + 1 + 1 + 2 * r.length = s.toks + 2 * (p :: r).length := by rw [List.length_cons]; omega
    dsimp only
    rw [e]
    exact h

theorem forIn_gatherM (d : Addr) (f : (Option (Sem Value) × Sem Value) → (Option Addr × List (Sem Value × Sem Value)) → Sem (ForInStep (Option Addr × List (Sem Value × Sem Value))))
    (hf : ∀ (p : Sem Value × Sem Value) (run : List (Sem Value × Sem Value)), run.length + 1 < 17 → f (some p.1, p.2) (some d, run) = pure (.yield (some d, run ++ [p]))) :
    ∀ (items run : List (Sem Value × Sem Value)), run.length + items.length < 17 → forIn (items.map fun p => (some p.1, p.2)) ((some d : Option Addr), run) f = pure (some d, run ++ items)
  | [], run, _ => by simp
  | p :: rest, run, h => by
    rw [List.length_cons] at h
    rw [List.map_cons, List.forIn_cons, hf p run (by omega), pure_bind]
    refine (forIn_gatherM d f hf rest (run ++ [p]) (by rw [List.length_append, List.length_singleton]; omega)).trans ?_
    rw [List.append_assoc]; rfl

/-- the display with one table laid open at its head and at most fifteen written pairs behind it -/
theorem display_E {v : Sem Value} {pos : Pos} {kvs : List (Str × Str)} {a : Addr} {es : List Ent} {ep : Nat} {Q : Value → Shared → Prop} (h0 : kvs ≠ []) (hlen : kvs.length ≤ 15)
    (hv : ∀ Q' : Value → Shared → Prop, Q' (.ref a) { s with heap := s.heap.push { cls := .type "dict", data := .dict #[] } } → wpAny (model prog w) A v Q' E { s with heap := s.heap.push { cls := .type "dict", data := .dict #[] } })
    (ha : s.heap.get? a = some (dictO w es ep)) (hsys : (a == sysModules) = false) (hbig : sysModules < s.heap.objs.size) (hes : es.length ≤ 900)
    (h : ∀ d h' ep' tk tk', h'.get? d = some (dictO w (mergeE (mergeE [] es) (mergeE [] (constEnts tk kvs))) ep') → s.heap.objs.size ≤ d → s.toks ≤ tk → tk + 2 * kvs.length ≤ tk' →
      (∀ b o, s.heap.get? b = some o → h'.get? b = some o) → Q (.ref d) { s with heap := h', toks := tk' }) :
    wpAny (model prog w) A (dictDisplay ((none, v) :: (constPairs pos kvs).map fun p => (some p.1, p.2))) Q E s := by
  have hnd : a ≠ s.heap.objs.size := Nat.ne_of_lt (Heap.lt_size ha)
  have hpl : (constPairs pos kvs).length = kvs.length := by simp [constPairs]
  unfold dictDisplay
  dsimp only
  refine wpAny_bind ?_
  rw [List.forIn_cons]
  refine wpAny_bind ?_
  refine wpAny_bind (wpAny_pure ?_)
  refine wpAny_bind (wpAny_alloc ?_)
  refine wpAny_bind (wpAny_holding (hv _ ?_))
  have hd1 : (s.heap.push { cls := .type "dict", data := .dict #[] }).get? s.heap.objs.size = some (dictO w [] 0) := Heap.get?_push_size _ rfl
  have ha1 : (s.heap.push { cls := .type "dict", data := .dict #[] }).get? a = some (dictO w es ep) := Heap.get?_push_of_some _ ha
  refine wpAny_bind (wpAny_onRaise (wpAny_tryCatch (wpAny_onRaise (wpAny_holding (wpAny_with_toks (n := s.toks) (Nat.le_refl _) (mergeMapping_E hd1 ha1 hnd hsys (by simp; omega) fun h₂ ep₂ tk₂ hd₂ hs₂ htk₂ => ?_))))))
  refine wpAny_pure ?_
  dsimp only
  rw [forIn_gatherM s.heap.objs.size _ (fun p run h => by
    have hne : ((run ++ [(p.1, p.2)]).length == 17) = false := by simp; omega
    simp only [hne, Bool.false_eq_true, if_false]) (constPairs pos kvs) [] (by simp; omega)]
  refine wpAny_pure ?_
  have hne : ([] ++ constPairs pos kvs).isEmpty = false := by
    cases kvs with
    | nil => exact absurd rfl h0
    | cons p r => rfl
  rw [if_neg (by rw [hne]; exact Bool.false_ne_true)]
  dsimp only
  refine wpAny_bind (wpAny_bind (wpAny_holding (wpAny_subDict_any (by simp; omega) ?_)))
  rw [List.nil_append]
  refine evalPairs_const kvs _ _ ?_
  dsimp only
  have hz₂ : h₂.objs.size = s.heap.objs.size + 1 := by rw [hs₂.1, Heap.size_push]
  refine wpAny_with_toks (n := tk₂ + 2 * kvs.length) (Nat.le_refl _) (storeAll_E (constEnts tk₂ kvs) [] 0 _ _ (Heap.get?_push_size _ rfl) (by rw [constEnts_length]; simp; omega) fun h₃ ep₃ tk₃ hd₃ hs₃ htk₃ => ?_)
  have hdn : s.heap.objs.size ≠ h₂.objs.size := by rw [hz₂]; exact Nat.ne_of_lt (Nat.lt_succ_self _)
  have hd₃' : h₃.get? s.heap.objs.size = some (dictO w (mergeE [] es) ep₂) := (hs₃.2 _ hdn).trans (Heap.get?_push_of_some _ hd₂)
  refine wpAny_bind (wpAny_onRaise (wpAny_holding (wpAny_with_toks (n := tk₂ + 2 * kvs.length) htk₃ (mergeMapping_E hd₃' hd₃ (Ne.symm hdn) (by rw [hz₂]; exact beq_false_of_ne (Nat.ne_of_gt (Nat.lt_succ_of_lt hbig))) ?_ fun h₄ ep₄ tk₄ hd₄ hs₄ htk₄ => ?_))))
  · have e1 := mergeE_length es []
    have e2 := mergeE_length (constEnts tk₂ kvs) []
    rw [constEnts_length] at e2
    simp at e1 e2
    omega
  · refine wpAny_pure (wpAny_pure ?_)
    refine (h _ h₄ ep₄ tk₂ tk₄ hd₄ (Nat.le_refl _) htk₂ htk₄ fun b o e => ?_)
    have hb := Heap.lt_size e
    have hb1 : b ≠ s.heap.objs.size := Nat.ne_of_lt hb
    have hb2 : b ≠ h₂.objs.size := by rw [hz₂]; exact Nat.ne_of_lt (Nat.lt_succ_of_lt hb)
    exact (hs₄.2 b hb1).trans ((hs₃.2 b hb2).trans (Heap.get?_push_of_some _ ((hs₂.2 b hb1).trans (Heap.get?_push_of_some _ e))))

/-- a written table of texts -/
theorem Dict_E {env : Env} {keys : List (Option Expr)} {values : List Expr} {pos : Pos} {kvs : List (Str × Str)} {Q : Value → Shared → Prop}
    (hk : evalEachOpt keys env = kvs.map fun p => some (mkText p.1)) (hv : evalEach values env = kvs.map fun p => mkText p.2) (h0 : kvs ≠ []) (hlen : kvs.length ≤ 15)
    (h : ∀ h' ep' tk', h'.get? s.heap.objs.size = some (dictO w (mergeE [] (constEnts s.toks kvs)) ep') → s.toks + 2 * kvs.length ≤ tk' →
      (∀ b o, s.heap.get? b = some o → h'.get? b = some o) → Q (.ref s.heap.objs.size) { s with heap := h', toks := tk' }) :
    wpAny (model prog w) A (eval (.Dict keys values pos) env) Q E s := by
  have hpl : (constPairs pos kvs).length = kvs.length := by simp [constPairs]
  have e : (evalEachOpt keys env).zip ((evalEach values env).map fun v => do let x ← v; standAt pos; pure x) = (constPairs pos kvs).map fun p => (some p.1, p.2) := by
    rw [hk, hv, constPairs, List.map_map, List.zip_map', List.map_map]
    rfl
  rw [arm_eval_Dict, e, dictDisplay_pairs _ (by intro q; rw [q] at hpl; exact h0 (List.length_eq_zero_iff.mp hpl.symm)) (by omega)]
  refine wpAny_bind (wpAny_standAt (wpAny_bind (wpAny_subDict_any (by omega) ?_)))
  refine evalPairs_const kvs _ _ ?_
  refine wpAny_with_toks (n := s.toks + 2 * kvs.length) (Nat.le_refl _) (storeAll_E (constEnts s.toks kvs) [] 0 _ _ (Heap.get?_push_size _ rfl) (by rw [constEnts_length]; simp; omega) fun h₃ ep₃ tk₃ hd₃ hs₃ htk₃ => ?_)
  exact wpAny_pure (h h₃ ep₃ tk₃ hd₃ htk₃ fun b o e => (hs₃.2 b (Nat.ne_of_lt (Heap.lt_size e))).trans (Heap.get?_push_of_some _ e))
end
end Mine

open PySem PySem.W PyProof.Rows PySem.Calls
set_option Elab.async false
set_option maxRecDepth 100000
namespace Mine

theorem pairs_E (prog : Program) (w : World) : ∀ es : List Ent, Pairs (strKind prog w) (es.map (Ent.de w)) (es.map fun e => (e.k, Value.str e.v e.vt))
  | [] => .nil
  | e :: r => .cons (strKind_is prog w e.k e.kt) rfl (pairs_E prog w r)

theorem dictAt_E {prog : Program} {w : World} {h : Heap} {d : Addr} {es : List Ent} {ep : Nat} (hd : h.get? d = some (dictO w es ep)) (hn : (es.map Ent.k).Nodup) :
    h.DictAt (strKind prog w) d (es.map fun e => (e.k, Value.str e.v e.vt)) ep :=
  ⟨_, _, hd, ⟨rfl, rfl, rfl⟩, rfl, keysOf_ents prog w es, pairs_E prog w es, by rw [List.map_map]; exact hn⟩

section
variable {prog : Program} {w : World} {A : Around} {E : Value → Shared → Prop} {s : Shared}

/-- one step of the walk over a table's items, the entry told to the token -/
theorem next_item_E {I d : Addr} {es : List Ent} {i ep : Nat} {o1 o2 : Value} {Q : Option Value → Shared → Prop} (hI : IsItemIter s.heap I d i es.length ep o1 o2)
    (hd : s.heap.get? d = some (dictO w es ep)) (hi : i < es.length)
    (h : ∀ h', IsItemIterOut h' I d (i + 1) es.length ep (.str es[i].k es[i].kt) (.str es[i].v es[i].vt) s.heap.objs.size →
      h'.get? s.heap.objs.size = some { cls := .type "tuple", data := .seq #[.str es[i].k es[i].kt, .str es[i].v es[i].vt] } → h'.objs.size = s.heap.objs.size + 1 →
      (∀ b o, b ≠ I → s.heap.get? b = some o → h'.get? b = some o) → Q (some (.ref s.heap.objs.size)) { s with heap := h' }) :
    wpAny (model prog w) A (pyNext (.ref I)) Q E s := by
  obtain ⟨H, gs, dr, tk, os⟩ := s
  have hT : Shared.TypeIs ⟨H, gs, dr, tk, os⟩ (.ref I) "dict_itemiterator" := ⟨_, hI, rfl⟩
  have hsz : ((es.map (Ent.de w)).toArray.size : Int) = (es.length : Int) := by simp
  have hel : (es.map (Ent.de w)).toArray[i]? = some (es[i].de w) := by simp [hi]
  have own : Builtin.Dict_items.ownsTuple "dict_itemiterator" = true := by decide
  unfold pyNext
  refine wpAny_bind (wpAny_attempt (wpAny_callSpecial?_slot (name := Str.ofString "__next__") hT F.slot_dict_itemiterator_next (wpAny_call_entry F.slot_dict_itemiterator_next hT F.entry_dict_itemiterator_next ?_ (F.args_dict_itemiterator_next_1 _))))
  -- the iterator's place
  refine wpAny_bind (wpAny_pure (wpAny_bind (wpAny_bind (wpAny_bind (wpAny_typeNameOfWhole_itemiter hT (wpAny_pure (wpAny_bind (m := fieldsOf (.ref I)) (wpAny_fieldsOf hI rfl ?_))))))))
  rw [own]
  show wpAny _ _ (if (Value.ref d == Value.none) = true then _ else _) _ _ _
  rw [if_neg (show ¬ (Value.ref d == Value.none) = true from Bool.false_ne_true)]
  refine wpAny_bind (wpAny_pure (wpAny_bind (wpAny_dictEntries hd rfl ?_)))
  rw [if_neg (by rw [hsz]; simp)]
  refine wpAny_bind (wpAny_pure (wpAny_bind (wpAny_dictEpoch hd rfl ?_)))
  rw [if_neg (by simp)]
  refine wpAny_pure ?_
  -- the entry, the place moved on
  simp only [show ¬ ((i : Int) < 0) from by omega, if_false, Int.toNat_natCast, hel]
  refine wpAny_bind (wpAny_bind (wpAny_typeNameOfWhole_itemiter hT (wpAny_pure (wpAny_bind (wpAny_isOneOf_itemiter hT ?_)))))
  show wpAny _ _ (setField (.ref I) 3 (rawInt ((i : Int) + 1)) >>= _) _ _ ⟨H, gs, dr, tk, os⟩
  refine wpAny_bind (wpAny_setField_rec hI (by simp) fun h1 e1 s1 => ?_)
  have hI1 : IsItemIter h1 I d (i + 1) es.length ep o1 o2 := by
    have q : ((i + 1 : Nat) : Int) = (i : Int) + 1 := by omega
    unfold IsItemIter; rw [q]; exact e1
  have hT1 : Shared.TypeIs ⟨h1, gs, dr, tk, os⟩ (.ref I) "dict_itemiterator" := ⟨_, hI1, rfl⟩
  refine wpAny_bind (wpAny_holding (wpAny_bind (wpAny_isOneOf_itemiter hT1 (wpAny_bind (wpAny_isOneOf_itemiter hT1 ?_)))))
  show wpAny _ _ (Builtin.Dict_items.pairFromOwner (.ref I) 6 (.str es[i].k es[i].kt) (.str es[i].v es[i].vt)) _ _ ⟨h1, gs, dr, tk, os⟩
  unfold Builtin.Dict_items.pairFromOwner
  have hIl : I < H.objs.size := Heap.lt_size hI
  have hz1 : h1.objs.size = H.objs.size := s1.1
  refine wpAny_bind (wpAny_newTuple ?_)
  -- the tuple is laid; the iterator notes it
  generalize h2e : h1.push { cls := .type "tuple", data := .seq #[.str es[i].k es[i].kt, .str es[i].v es[i].vt] } = h2
  have hI2 : IsItemIter h2 I d (i + 1) es.length ep o1 o2 := by rw [← h2e]; exact Heap.get?_push_of_some _ hI1
  have hT2 : h2.get? H.objs.size = some { cls := .type "tuple", data := .seq #[.str es[i].k es[i].kt, .str es[i].v es[i].vt] } := by rw [← h2e, ← hz1]; exact Heap.get?_push_size _ rfl
  have hz2 : h2.objs.size = H.objs.size + 1 := by rw [← h2e, Heap.size_push, hz1]
  have k2 : ∀ b o, b ≠ I → H.get? b = some o → h2.get? b = some o := fun b o hb e => by rw [← h2e]; exact Heap.get?_push_of_some _ (s1.extBut b o hb e)
  rw [hz1]
  refine wpAny_bind ?_
  unfold Builtin.Dict_items.ownedTupleIsFree
  refine wpAny_bind (wpAny_field hI2 rfl (x := .none) rfl (wpAny_pure ?_))
  rw [if_pos rfl]
  dsimp only
  refine wpAny_bind (wpAny_field hI2 rfl (x := o1) rfl (wpAny_bind (wpAny_field hI2 rfl (x := o2) rfl ?_)))
  refine wpAny_bind (wpAny_setField_rec hI2 (by simp) fun h3 e3 s3 => ?_)
  refine wpAny_bind (wpAny_setField_rec e3 (by simp) fun h4 e4 s4 => ?_)
  refine wpAny_bind (wpAny_setField_rec e4 (by simp) fun h5 e5 s5 => ?_)
  refine wpAny_bind (wpAny_setField_rec e5 (by simp) fun h6 e6 s6 => ?_)
  have hne : H.objs.size ≠ I := Nat.ne_of_gt hIl
  have up : ∀ b o, b ≠ I → h2.get? b = some o → h6.get? b = some o := fun b o hb e => s6.extBut b o hb (s5.extBut b o hb (s4.extBut b o hb (s3.extBut b o hb e)))
  have z6 : h6.objs.size = H.objs.size + 1 := by rw [← hz2]; exact (s6.1.trans s5.1).trans (s4.1.trans s3.1)
  refine wpAny_bind (wpAny_letGo (wpAny_pure (wpAny_pure ⟨_, rfl, wpAny_pure (h h6 e6 (up _ _ hne hT2) z6 fun b o hb e => up b o hb (k2 b o hb e))⟩)))
end

section
variable {prog : Program} {w : World} {A : Around} {s : Shared} {env : Env} {h₀ : Heap}

/-- what a turn must give back -/
def TurnEnd (h₀ : Heap) (L : Addr) (own : Addr × Obj) (news : List (Addr × Obj)) (J : (Str → Option Value) → Prop) (s₁ s₂ : Shared) : Prop :=
  ∃ h' tk m', s₂ = { s₁ with heap := h', toks := tk } ∧ Fr h₀ L h' m' ∧ News h₀ L h' (own :: news) ∧ J m'

theorem forLoop_items_E {R : Result → Shared → Prop} {xk xv : Str} {pk pv pt : Pos} {x1} {body : List Stmt} {I d : Addr} {es : List Ent} {ep : Nat} {m : Str → Option Value} {news : List (Addr × Obj)}
    (hh : A.handled = none) (hxk : env.kindOf xk = some .local) (hxv : env.kindOf xv = some .local)
    (hp : (env.scope.kind == .class || (env.scope.kind == .module && env.locals != env.globals)) = false)
    (hI : IsItemIter s.heap I d 0 es.length ep .none .none) (hI0 : h₀.get? I = none) (hIL : I ≠ env.locals) (hnI : ∀ p ∈ news, p.1 ≠ I) (hd : h₀.get? d = some (dictO w es ep)) (hdn : (es.map Ent.k).Nodup)
    (F : Fr h₀ env.locals s.heap m) (N : News h₀ env.locals s.heap news) (htk : 1 ≤ s.toks)
    (J : Nat → (Str → Option Value) → Prop) (h0 : J 0 m)
    (step : ∀ i (hi : i < es.length) m₁ h tk own, J i m₁ → 1 ≤ tk → Fr h₀ env.locals h (fun y => if y = xv then some (.str es[i].v es[i].vt) else if y = xk then some (.str es[i].k es[i].kt) else m₁ y) →
      News h₀ env.locals h (own :: news) →
      wpAny (model prog w) A (execs body env) (fun f s₂ => f = .next ∧ TurnEnd h₀ env.locals own news (J (i + 1)) { s with heap := h, toks := tk } s₂) (fun _ _ => False) { s with heap := h, toks := tk })
    (hR : ∀ h' tk m', Fr h₀ env.locals h' m' → News h₀ env.locals h' news → J es.length m' → R (.ok .next) { s with heap := h', toks := tk }) :
    codeAny (model prog w) A (.forLoop (.Tuple [.Name xk pk, .Name xv pv] x1 pt) (.ref I) body [] env) R s := by
  have hdI : d ≠ I := fun e => by rw [e, hI0] at hd; cases hd
  refine codeAny_forLoop_any
    (fun n s' => ∃ h' tk m' i ok ov, s' = { s with heap := h', toks := tk } ∧ IsItemIter h' I d i es.length ep ok ov ∧ Fr h₀ env.locals h' m' ∧ News h₀ env.locals h' news ∧ J i m' ∧ i ≤ es.length ∧
      n = es.length + 1 - i ∧ 1 ≤ tk) ?_ (es.length + 1)
    ⟨s.heap, s.toks, m, 0, .none, .none, rfl, hI, F, N, h0, Nat.zero_le _, rfl, htk⟩
  rintro n s' ⟨H, tk, m', i, ok, ov, rfl, hI', F', N', hJ, hi, rfl, htk'⟩
  have hd' : H.get? d = some (dictO w es ep) := F'.keep d _ hd
  by_cases hlt : i < es.length
  · refine next_item_E hI' hd' hlt fun h1 eo1 t1 z1 k1 => ?_
    refine wpAny_letOwnedTupleGo_items eo1 fun h2 e2 s2 => ?_
    have hIH : I < H.objs.size := Heap.lt_size hI'
    have hLH : env.locals < H.objs.size := F'.ns.lt
    have t2 : h2.IsTuple H.objs.size #[.str es[i].k es[i].kt, .str es[i].v es[i].vt] := ⟨_, (s2.2 _ (Nat.ne_of_gt hIH)).trans t1, rfl, _, rfl⟩
    have z2 : h2.objs.size = H.objs.size + 1 := s2.1.trans z1
    refine wpAny_assign_Tuple hh t2 rfl rfl fun h3 x3 => ?_
    have old : ∀ b o, b < H.objs.size → h2.get? b = some o → h3.get? b = some o := fun b o hb e => x3 b o (by show b ≠ h2.objs.size; rw [z2]; exact Nat.ne_of_lt (Nat.lt_succ_of_lt hb)) e
    have k3 : ∀ b o, b ≠ I → H.get? b = some o → h3.get? b = some o := fun b o hb e => old b o (Heap.lt_size e) ((s2.2 b hb).trans (k1 b o hb e))
    have F3 : Fr h₀ env.locals h3 m' := ⟨F'.ns.at' fun o e => k3 _ o (Ne.symm hIL) e, fun b o e => k3 b o (fun q => by rw [q, hI0] at e; cases e) (F'.keep b o e), F'.above⟩
    have N3 : News h₀ env.locals h3 news := fun p hp => ⟨k3 _ _ (hnI p hp) (N' p hp).1, (N' p hp).2⟩
    have hI3 : h3.get? I = some { cls := .type "dict_itemiterator", dict := none, data := .fields #[.none, .bool false, .ref d, .int ((i + 1 : Nat) : Int) 0, .int es.length 0, .int ep 0, .str es[i].k es[i].kt, .str es[i].v es[i].vt], slots := #[] } := old I _ hIH e2
    show wpAny _ _ (do holding [.str es[i].v es[i].vt] (assign (.Name xk pk) env (.str es[i].k es[i].kt)); do holding [] (assign (.Name xv pv) env (.str es[i].v es[i].vt)); pure ()) _ _ _
    refine wpAny_bind (wpAny_holding (wpAny_assign_Name (wpAny_storeName_local hxk F3.ns (fun h4 n4 s4 => ?_) hp)))
    refine wpAny_bind (wpAny_holding (wpAny_assign_Name (wpAny_storeName_local hxv n4 (fun h5 n5 s5 => wpAny_pure ?_) hp)))
    have F5 := (F3.set n4 s4).set n5 s5
    have N5 : News h₀ env.locals h5 ((I, _) :: news) := fun p hp => by
      rcases List.mem_cons.mp hp with rfl | hp
      · exact ⟨((s5.2 I hIL).trans (s4.2 I hIL)).trans hI3, hIL, hI0⟩
      · exact (N3.set s4).set s5 p hp
    have htk5 : 1 ≤ tk + 1 + 1 := by omega
    refine wpAny_with_toks (n := 1) htk5 (wpAny_mono (step i hlt m' h5 _ _ hJ htk5 F5 N5) (fun f s₃ q htk6 => ?_) fun _ _ q => q.elim)
    obtain ⟨rfl, h6, tk6, m6, rfl, F6, N6, J6⟩ := q
    exact ⟨es.length + 1 - (i + 1), by omega, h6, tk6, m6, i + 1, _, _, rfl, (N6 _ (List.mem_cons_self ..)).1, F6, fun p hp => N6 p (List.mem_cons_of_mem _ hp), J6, hlt, rfl, htk6⟩
  · have hin : i = es.length := by omega
    subst hin
    have hat := dictAt_E (prog := prog) hd' hdn
    have hlen : (es.map fun e => (e.k, Value.str e.v e.vt)).length = es.length := List.length_map _
    refine wpAny_pyNext_items_end (knd := strKind prog w) (kvs := es.map fun e => (e.k, Value.str e.v e.vt)) hh (by rw [hlen]; exact hI') hat (by simp) fun h1 x1 => wpAny_execs_nil ?_
    have k1 : ∀ b o, b ≠ I → H.get? b = some o → h1.get? b = some o := fun b o hb e => x1 b o hb e
    exact hR h1 tk m' ⟨F'.ns.at' fun o e => k1 _ o (Ne.symm hIL) e, fun b o e => k1 b o (fun q => by rw [q, hI0] at e; cases e) (F'.keep b o e), F'.above⟩
      (fun p hp => ⟨k1 _ _ (hnI p hp) (N' p hp).1, (N' p hp).2⟩) hJ
end
end Mine

open PySem PySem.W PyProof.Rows PySem.Calls
set_option Elab.async false
set_option maxRecDepth 100000
namespace Mine

abbrev txt (es : List Ent) : List (Str × Str) := es.map fun e => (e.k, e.v)
def repl (x : Str) (es : List (Str × Str)) : Str := es.foldl (fun x e => Txt.replace x e.1 e.2) x
def Fits : Str → List (Str × Str) → Prop
  | _, [] => True
  | x, e :: r => x.length + (x.length + 1) * e.2.length ≤ 16777216 ∧ Fits (Txt.replace x e.1 e.2) r
/-- the tokens of a table tell its texts apart -/
def Sound (es : List Ent) : Prop := ∀ e ∈ es, e.kt ≠ 0 ∧ e.vt ≠ 0 ∧ (e.kt = e.vt → e.k = e.v)
def putT (n : Str × Str) : List (Str × Str) → List (Str × Str)
  | [] => [n]
  | e :: r => if e.1 = n.1 then (e.1, n.2) :: r else e :: putT n r
def mergeT (es more : List (Str × Str)) : List (Str × Str) := more.foldl (fun acc e => putT e acc) es
theorem txt_put (n : Ent) : ∀ es : List Ent, txt (putE n es) = putT (n.k, n.v) (txt es)
  | [] => rfl
  | e :: r => by
    have := txt_put n r
    simp only [txt, putE, putT, List.map_cons] at this ⊢
    split
    · rfl
    · rw [List.map_cons, this]
theorem txt_merge (more : List Ent) : ∀ es : List Ent, txt (mergeE es more) = mergeT (txt es) (txt more) := by
  induction more with
  | nil => intro es; rfl
  | cons e r ih =>
    intro es
    show txt (mergeE (putE e es) r) = mergeT (putT (e.k, e.v) (txt es)) (txt r)
    rw [ih, txt_put]
theorem txt_const : ∀ (l : List (Str × Str)) (tk : Nat), txt (constEnts tk l) = l
  | [], _ => rfl
  | p :: r, tk => by
    have := txt_const r (tk + 2)
    simp only [txt, constEnts, List.map_cons] at this ⊢
    rw [this]

theorem repl_take_succ {x : Str} {es : List Ent} {i : Nat} (hi : i < es.length) : repl x (txt (es.take (i + 1))) = Txt.replace (repl x (txt (es.take i))) es[i].k es[i].v := by
  rw [List.take_add_one, List.getElem?_eq_getElem hi, txt, repl, repl, List.map_append, List.foldl_append]
  rfl
theorem Fits.at {es : List Ent} : ∀ {x : Str} (_ : Fits x (txt es)) {i : Nat} (hi : i < es.length), (repl x (txt (es.take i))).length + ((repl x (txt (es.take i))).length + 1) * es[i].v.length ≤ 16777216 := by
  induction es with
  | nil => intro x _ i hi; simp at hi
  | cons e r ih =>
    intro x hf i hi
    cases i with
    | zero => exact hf.1
    | succ i =>
      have := ih hf.2 (i := i) (by simpa using hi)
      simpa [repl] using this

theorem fr_keeps {h₀ h : Heap} {L : Addr} {m : Str → Option Value} (F : Fr h₀ L h m) : ∀ b o, h₀.get? b = some o → h.get? b = some o := F.keep
theorem fr_up {h₀ h h' : Heap} {L : Addr} {m : Str → Option Value} (F : Fr h₀ L h m) (hk : ∀ b o, h.get? b = some o → h'.get? b = some o) : Fr h₀ L h' m :=
  ⟨F.ns.at' fun o e => hk _ o e, fun b o e => hk b o (F.keep b o e), F.above⟩
theorem news_up {h₀ h h' : Heap} {L : Addr} {news : List (Addr × Obj)} (N : News h₀ L h news) (hk : ∀ b o, h.get? b = some o → h'.get? b = some o) : News h₀ L h' news :=
  fun p hp => ⟨hk _ _ (N p hp).1, (N p hp).2⟩
theorem gen_toks {α : Type} {M : Model} {A : Around} {t : Sem α} {Q : α → Shared → Prop} {E : Value → Shared → Prop} {h : Heap} {g : Array GenState} {dr : Drawn} {os : OsState} {tk : Nat} (hn : 1 ≤ tk)
    (k : ∀ tk', 1 ≤ tk' → wpAny M A t Q E ⟨h, g, dr, tk', os⟩) : wpAny M A t Q E ⟨h, g, dr, tk, os⟩ := k tk hn
theorem view_E {prog : Program} {w : World} {A : Around} {E : Value → Shared → Prop} {s : Shared} {d : Addr} {es : List Ent} {ep : Nat} {Q : Value → Shared → Prop} (hd : s.heap.get? d = some (dictO w es ep)) (hdn : (es.map Ent.k).Nodup) (lo : (d == sysModules) = false)
    (h : Q (.ref s.heap.objs.size) { s with heap := s.heap.push { cls := .type "dict_items", data := .fields #[.ref d] } }) : wpAny (model prog w) A (call (.builtin "dict.items") [.ref d]) Q E s :=
  have hD := (dictAt_E (prog := prog) hd hdn).dictOf
  call_meetsIn PySem.F.slot_dict_items hD.typeIs PySem.F.entry_dict_items (PySem.F.args_dict_items_1 _) (meets_dict_items (strKind prog w) d lo) ⟨⟨_, hD⟩, h⟩

theorem replaceK {prog : Program} {w : World} {A : Around} {E : Value → Shared → Prop} {h : Heap} {g : Array GenState} {dr : Drawn} {os : OsState} {tk : Nat} {x y z : Str} {t u v : Tok} {Q : Value → Shared → Prop} (htk : 1 ≤ tk) (hu : u ≠ 0) (hv : v ≠ 0) (huv : u = v → y = z) (hb : x.length + (x.length + 1) * z.length ≤ 16777216)
    (hnb : NoneBooked h) (hq : ∀ t' k, 1 ≤ k → Q (.str (Txt.replace x y z) t') ⟨h, g, dr, k, os⟩) :
    wpAny (model prog w) A (call (.builtin "str.replace") [.str x t, .str y u, .str z v]) Q E ⟨h, g, dr, tk, os⟩ :=
  wpAny_with_toks (n := 1) htk (replaceT hu hv huv hb hnb fun t' k hk => hq t' k hk)

theorem method_E {prog : Program} {w : World} {A : Around} {E : Value → Shared → Prop} {s : Shared} {d : Addr} {es : List Ent} {ep : Nat} {name : Str} {id : String} {pl : Sem Bool} {Q : Value × List Value → Shared → Prop} (hd : s.heap.get? d = some (dictO w es ep)) (hdn : (es.map Ent.k).Nodup)
    (slot : Slot "dict" name id) (ty : typeOf (.builtin id) = pure (.type "method_descriptor")) (h : Q (.builtin id, [.ref d]) s) : wpAny (model prog w) A (getMethod (.ref d) name pl) Q E s :=
  have hD := (dictAt_E (prog := prog) hd hdn).dictOf
  getMethod_builtin hD.typeIs PySem.F.plainAttrs_dict slot ty hD.mapOf.noDict h

theorem iter_items_E {prog : Program} {w : World} {A : Around} {E : Value → Shared → Prop} {s : Shared} {v d : Addr} {es : List Ent} {ep : Nat} {Q : Value → Shared → Prop} (hv : s.heap.IsItemsView v d) (hd : s.heap.get? d = some (dictO w es ep)) (hdn : (es.map Ent.k).Nodup)
    (hQ : Q (.ref s.heap.objs.size) { s with heap := s.heap.push { cls := .type "dict_itemiterator", data := .fields #[.none, .bool false, .ref d, .int 0 0, .int es.length 0, .int ep 0, .none, .none] } }) :
    wpAny (model prog w) A (pyIter (.ref v)) Q E s := by
  refine wpAny_pyIter_items (knd := strKind prog w) hv (dictAt_E hd hdn) ?_
  rw [List.length_map]
  exact hQ

theorem replace_len (x y z : Str) : (Txt.replace x y z).length ≤ x.length + (x.length + 1) * z.length := by
  unfold Txt.replace
  split
  · omega
  · have h1 := StrLaws.occ_length_le x y 0 x.length (x.length + 1)
    have hy : (Builtin.Str.glued y (Builtin.Str.partsBetween x (Builtin.Str.occurrences x y 0 x.length (x.length + 1)) y.length)).length = x.length := by rw [StrLaws.glued_between_self]
    rw [size_glued, length_partsBetween, Nat.add_sub_cancel] at hy
    rw [size_glued, length_partsBetween, Nat.add_sub_cancel]
    have h2 : (Builtin.Str.occurrences x y 0 x.length (x.length + 1)).length * z.length ≤ (x.length + 1) * z.length := Nat.mul_le_mul_right _ h1
    omega
theorem replace_len_le {x y z : Str} {a b c : Nat} (hx : x.length ≤ a) (hz : z.length ≤ b) (hc : a + (a + 1) * b ≤ c) : (Txt.replace x y z).length ≤ c := by
  have h1 := replace_len x y z
  have h2 : (x.length + 1) * z.length ≤ (a + 1) * b := Nat.mul_le_mul (by omega) hz
  omega
theorem size_ok {x z : Str} (hx : x.length ≤ 2300000) (hz : z.length ≤ 6) : x.length + (x.length + 1) * z.length ≤ 16777216 := by
  have h2 : (x.length + 1) * z.length ≤ (x.length + 1) * 6 := Nat.mul_le_mul_left _ hz
  omega
def esc3 (x : Str) : Str := Txt.replace (Txt.replace (Txt.replace x (Str.ofString "&") (Str.ofString "&amp;")) (Str.ofString ">") (Str.ofString "&gt;")) (Str.ofString "<") (Str.ofString "&lt;")

theorem truthy_E {prog : Program} {w : World} {A : Around} {E : Value → Shared → Prop} {s : Shared} {d : Addr} {es : List Ent} {ep : Nat} {Q : Bool → Shared → Prop} (hd : s.heap.get? d = some (dictO w es ep)) (hdn : (es.map Ent.k).Nodup)
    (hds : (d == sysModules) = false) (hl : es.length ≤ 1000) (h0 : es = [] → Q false { s with toks := s.toks + 1 + 1 }) (h1 : es ≠ [] → Q true { s with toks := s.toks + 1 + 1 }) : wpAny (model prog w) A (truthy (.ref d)) Q E s := by
  refine wpAny_truthy_dict (knd := strKind prog w) hds (dictAt_E (prog := prog) hd hdn).dictOf (by rw [List.length_map]; omega) ?_
  cases es with
  | nil => exact h0 rfl
  | cons e r => exact h1 (by simp)
def une2 (x : Str) : Str := Txt.replace (Txt.replace x (Str.ofString "&lt;") (Str.ofString "<")) (Str.ofString "&gt;") (Str.ofString ">")
def whites : List (Str × Str) := [(Str.ofString "\n", Str.ofString "&#10;"), (Str.ofString "\r", Str.ofString "&#13;"), (Str.ofString "\t", Str.ofString "&#9;")]
theorem mem_put {n e : Ent} : ∀ {es : List Ent}, e ∈ putE n es → e ∈ es ∨ (e.v = n.v ∧ e.vt = n.vt ∧ ((e.k = n.k ∧ e.kt = n.kt) ∨ ∃ e1 ∈ es, e.k = e1.k ∧ e.kt = e1.kt))
  | [], h => by
    rw [putE, List.mem_singleton] at h
    subst h
    exact .inr ⟨rfl, rfl, .inl ⟨rfl, rfl⟩⟩
  | a :: r, h => by
    unfold putE at h
    split at h
    · rcases List.mem_cons.mp h with rfl | h
      · exact .inr ⟨rfl, rfl, .inr ⟨a, List.mem_cons_self .., rfl, rfl⟩⟩
      · exact .inl (List.mem_cons_of_mem _ h)
    · rcases List.mem_cons.mp h with rfl | h
      · exact .inl (List.mem_cons_self ..)
      · rcases mem_put h with q | ⟨q1, q2, q3⟩
        · exact .inl (List.mem_cons_of_mem _ q)
        · refine .inr ⟨q1, q2, q3.imp id fun ⟨e1, he, q⟩ => ⟨e1, List.mem_cons_of_mem _ he, q⟩⟩
theorem mem_merge {e : Ent} : ∀ {more es : List Ent}, e ∈ mergeE es more → e ∈ es ∨ ∃ n ∈ more, e.v = n.v ∧ e.vt = n.vt ∧ ∃ e1 ∈ es ++ more, e.k = e1.k ∧ e.kt = e1.kt
  | [], es, h => .inl h
  | n :: r, es, h => by
    have h' : e ∈ mergeE (putE n es) r := h
    rcases mem_merge h' with q | ⟨m, hm, q1, q2, e1, he1, q3⟩
    · rcases mem_put q with q | ⟨q1, q2, q3⟩
      · exact .inl q
      · refine .inr ⟨n, List.mem_cons_self .., q1, q2, ?_⟩
        rcases q3 with q3 | ⟨e1, he, q3⟩
        · exact ⟨n, List.mem_append_right _ (List.mem_cons_self ..), q3⟩
        · exact ⟨e1, List.mem_append_left _ he, q3⟩
    · refine .inr ⟨m, List.mem_cons_of_mem _ hm, q1, q2, ?_⟩
      rcases List.mem_append.mp he1 with he1 | he1
      · rcases mem_put he1 with q | ⟨_, _, q⟩
        · exact ⟨e1, List.mem_append_left _ q, q3⟩
        · rcases q with q | ⟨e2, he2, q⟩
          · exact ⟨n, List.mem_append_right _ (List.mem_cons_self ..), q3.1.trans q.1, q3.2.trans q.2⟩
          · exact ⟨e2, List.mem_append_left _ he2, q3.1.trans q.1, q3.2.trans q.2⟩
      · exact ⟨e1, List.mem_append_right _ (List.mem_cons_of_mem _ he1), q3⟩
theorem put_keys (n : Ent) : ∀ es : List Ent, (putE n es).map Ent.k = if n.k ∈ es.map Ent.k then es.map Ent.k else es.map Ent.k ++ [n.k]
  | [] => by simp [putE]
  | a :: r => by
    have ih := put_keys n r
    unfold putE
    split
    · rename_i h; simp [h]
    · rename_i h
      have h' : ¬ n.k = a.k := fun q => h q.symm
      rw [List.map_cons, ih, List.map_cons]
      by_cases q : n.k ∈ r.map Ent.k
      · rw [if_pos q, if_pos (List.mem_cons_of_mem _ q)]
      · rw [if_neg q, if_neg (by rw [List.mem_cons, not_or]; exact ⟨h', q⟩)]; rfl
theorem put_nodup {n : Ent} {es : List Ent} (h : (es.map Ent.k).Nodup) : ((putE n es).map Ent.k).Nodup := by
  rw [put_keys]
  split
  · exact h
  · rename_i q
    rw [List.nodup_append]
    refine ⟨h, by simp, fun a ha b hb e => ?_⟩
    rw [List.mem_singleton] at hb
    subst hb; subst e
    exact q ha
theorem merge_nodup : ∀ {more es : List Ent}, (es.map Ent.k).Nodup → ((mergeE es more).map Ent.k).Nodup
  | [], _, h => h
  | n :: r, es, h => merge_nodup (more := r) (es := putE n es) (put_nodup h)
theorem put_fresh {n : Ent} : ∀ {es : List Ent}, n.k ∉ es.map Ent.k → putE n es = es ++ [n]
  | [], _ => rfl
  | a :: r, h => by
    rw [List.map_cons, List.mem_cons, not_or] at h
    unfold putE
    rw [if_neg (fun q => h.1 q.symm), put_fresh h.2]
    rfl
theorem merge_fresh : ∀ {more es : List Ent}, ((es ++ more).map Ent.k).Nodup → mergeE es more = es ++ more
  | [], es, _ => by simp [mergeE]
  | n :: r, es, h => by
    have hn : n.k ∉ es.map Ent.k := by
      rw [List.map_append, List.map_cons, List.nodup_append] at h
      exact fun q => h.2.2 _ q _ (List.mem_cons_self ..) rfl
    show mergeE (putE n es) r = _
    rw [put_fresh hn, merge_fresh (by rw [List.append_assoc]; exact h), List.append_assoc]
    rfl
theorem merge_nil {es : List Ent} (h : (es.map Ent.k).Nodup) : mergeE [] es = es := by
  rw [merge_fresh (by simpa using h)]; rfl
theorem mem_const {e : Ent} : ∀ {l : List (Str × Str)} {tk : Nat}, e ∈ constEnts tk l → tk ≤ e.kt ∧ (e.kt - tk) % 2 = 0 ∧ e.vt = e.kt + 1
  | p :: r, tk, h => by
    rcases List.mem_cons.mp h with rfl | h
    · exact ⟨Nat.le_refl _, by simp, rfl⟩
    · obtain ⟨a, b, c⟩ := mem_const h
      exact ⟨by omega, by omega, c⟩
theorem const_keys : ∀ (l : List (Str × Str)) (tk : Nat), (constEnts tk l).map Ent.k = l.map (·.1)
  | [], _ => rfl
  | p :: r, tk => by rw [constEnts, List.map_cons, List.map_cons, const_keys r]
theorem const_sound {l : List (Str × Str)} {tk : Nat} (htk : 1 ≤ tk) : Sound (constEnts tk l) := fun e he => by
  obtain ⟨a, b, c⟩ := mem_const he
  refine ⟨by omega, by omega, fun q => by omega⟩
theorem sound_merge {es : List Ent} {l : List (Str × Str)} {tk tk' : Nat} (h : Sound es) (hlt : ∀ e ∈ es, e.kt < tk ∧ e.vt < tk) (h1 : 1 ≤ tk) (h2 : tk ≤ tk') : Sound (mergeE es (constEnts tk' l)) := fun e he => by
  rcases mem_merge he with q | ⟨n, hn, _, q2, e1, he1, _, q4⟩
  · exact h e q
  · obtain ⟨a, b, c⟩ := mem_const hn
    have key : e.kt ≠ 0 ∧ e.kt ≠ e.vt := by
      rcases List.mem_append.mp he1 with he1 | he1
      · have z := (h e1 he1).1
        have y := (hlt e1 he1).1
        omega
      · obtain ⟨d, f, _⟩ := mem_const he1
        omega
    exact ⟨key.1, by omega, fun q => absurd q key.2⟩

/-- the text stands in the other -/
def within (y x : Str) : Bool := !(Builtin.Str.occurrences x y 0 x.length 1).isEmpty
abbrev dq : Str := Str.ofString "\""
abbrev sq : Str := Str.ofString "'"
def quoted (b : Str) : Str :=
  if within dq b = true then (if within sq b = true then dq ++ Txt.replace b dq (Str.ofString "&quot;") ++ dq else sq ++ b ++ sq) else dq ++ b ++ dq

theorem quoted_1 {b : Str} (h : (Builtin.Str.occurrences b dq 0 b.length 1).isEmpty = true) : quoted b = dq ++ b ++ dq := by
  unfold quoted within; rw [h]; rfl
theorem quoted_2 {b : Str} (h : (Builtin.Str.occurrences b dq 0 b.length 1).isEmpty = false) (h2 : (Builtin.Str.occurrences b sq 0 b.length 1).isEmpty = true) : quoted b = sq ++ b ++ sq := by
  unfold quoted within; rw [h, h2]; rfl
theorem quoted_3 {b : Str} (h : (Builtin.Str.occurrences b dq 0 b.length 1).isEmpty = false) (h2 : (Builtin.Str.occurrences b sq 0 b.length 1).isEmpty = false) : quoted b = dq ++ Txt.replace b dq (Str.ofString "&quot;") ++ dq := by
  unfold quoted within; rw [h, h2]; rfl

open Builtin in
theorem mod_str0 {prog : Program} {w : World} {A : Around} {E : Value → Shared → Prop} {s : Shared} {X X' T y : Str} {t u : Tok} {Q : Value → Shared → Prop} (hX : X = X')
    (hm : Meets («str.__mod__» ⟨[.str X' t, .str y u], []⟩) (fun _ R s => ∀ t' k, R (.ok (.ret (.str T t'))) { s with toks := k }))
    (h : ∀ t' k, Q (.str T t') { s with toks := k }) : wpAny (model prog w) A (binaryOp .Mod (.str X t) (.str y u)) Q E s := by
  subst hX
  exact binaryOp_meets (T := "str") (op := .Mod) (typeIs_str s X t) (typeIs_str s y u) F.fills_str_mod F.slot_str_mod F.entry_str_mod (F.args_str_mod_2 _ _) hm (fun t' k => ⟨(fun e => nomatch e), h t' k⟩)
open Builtin in
theorem meets_dq (t u : Tok) : ∀ z : Str, z.length ≤ 16070000 → Meets («str.__mod__» ⟨[.str ⟨#[34, 37, 115, 34]⟩ t, .str z u], []⟩) (fun _ R s => ∀ t' k, R (.ok (.ret (.str (dq ++ z ++ dq) t'))) { s with toks := k }) := by
  kpc_run_s
open Builtin in
theorem meets_sq (t u : Tok) : ∀ z : Str, z.length ≤ 16070000 → Meets («str.__mod__» ⟨[.str ⟨#[39, 37, 115, 39]⟩ t, .str z u], []⟩) (fun _ R s => ∀ t' k, R (.ok (.ret (.str (sq ++ z ++ sq) t'))) { s with toks := k }) := by
  kpc_run_s
section
variable {prog : Program} {w : World} {A : Around} {E : Value → Shared → Prop} {h : Heap} {g : Array GenState} {dr : Drawn} {os : OsState} {tk : Nat} {y : Str} {t u : Tok} {Q : Value → Shared → Prop}
theorem percent_dq (htk : 1 ≤ tk) (hy : y.length ≤ 16070000) (k : ∀ t' k, 1 ≤ k → Q (.str (dq ++ y ++ dq) t') ⟨h, g, dr, k, os⟩) : wpAny (model prog w) A (binaryOp .Mod (.str (Str.ofString "\"%s\"") t) (.str y u)) Q E ⟨h, g, dr, tk, os⟩ :=
  wpAny_with_toks (n := 1) htk (mod_str0 (by decide +kernel) (meets_dq _ _ y hy) fun t' q hq => k t' q hq)
theorem percent_sq (htk : 1 ≤ tk) (hy : y.length ≤ 16070000) (k : ∀ t' k, 1 ≤ k → Q (.str (sq ++ y ++ sq) t') ⟨h, g, dr, k, os⟩) : wpAny (model prog w) A (binaryOp .Mod (.str (Str.ofString "'%s'") t) (.str y u)) Q E ⟨h, g, dr, tk, os⟩ :=
  wpAny_with_toks (n := 1) htk (mod_str0 (by decide +kernel) (meets_sq _ _ y hy) fun t' q hq => k t' q hq)
end

theorem Spread_E {prog : Program} {w : World} {A : Around} {E : Value → Shared → Prop} {s : Shared} {env : Env} {e0 : Expr} {ks : List (Option Expr)} {vs : List Expr} {pos : Pos} {kvs : List (Str × Str)} {a : Addr} {es : List Ent} {ep : Nat} {Q : Value → Shared → Prop}
    (hk : evalEachOpt ks env = kvs.map fun p => some (mkText p.1)) (hv : evalEach vs env = kvs.map fun p => mkText p.2) (h0 : kvs ≠ []) (hlen : kvs.length ≤ 15)
    (hev : ∀ Q' : Value → Shared → Prop, Q' (.ref a) { s with heap := s.heap.push { cls := .type "dict", data := .dict #[] } } → wpAny (model prog w) A (eval e0 env) Q' E { s with heap := s.heap.push { cls := .type "dict", data := .dict #[] } })
    (ha : s.heap.get? a = some (dictO w es ep)) (hsys : (a == sysModules) = false) (hbig : sysModules < s.heap.objs.size) (hes : es.length ≤ 900)
    (h : ∀ d h' ep' tk tk', h'.get? d = some (dictO w (mergeE (mergeE [] es) (mergeE [] (constEnts tk kvs))) ep') → s.heap.objs.size ≤ d → s.toks ≤ tk → tk + 2 * kvs.length ≤ tk' →
      (∀ b o, s.heap.get? b = some o → h'.get? b = some o) → Q (.ref d) { s with heap := h', toks := tk' }) :
    wpAny (model prog w) A (eval (.Dict (none :: ks) (e0 :: vs) pos) env) Q E s := by
  have e : (evalEachOpt (none :: ks) env).zip ((evalEach (e0 :: vs) env).map fun v => do let x ← v; standAt pos; pure x) = (none, do let x ← eval e0 env; standAt pos; pure x) :: (constPairs pos kvs).map fun p => (some p.1, p.2) := by
    show (none :: evalEachOpt ks env).zip ((eval e0 env :: evalEach vs env).map fun v => do let x ← v; standAt pos; pure x) = _
    rw [hk, hv, constPairs, List.map_cons, List.zip_cons_cons, List.map_map, List.zip_map', List.map_map]
    rfl
  rw [arm_eval_Dict, e]
  exact wpAny_bind (wpAny_standAt (display_E h0 hlen (fun Q' hq => wpAny_bind (hev _ (wpAny_bind (wpAny_standAt (wpAny_pure hq))))) ha hsys hbig hes h))

theorem binds_two {s : Shared} {fd : FuncData} {args a b : List Value} {P : Prop} {binds : List (Str × Value)} (h : args = a ∨ (args = b ∧ P)) (h1 : BindsTo s fd ⟨a, []⟩ binds) (h2 : P → BindsTo s fd ⟨b, []⟩ binds) : BindsTo s fd ⟨args, []⟩ binds := by
  rcases h with rfl | ⟨rfl, q⟩
  · exact h1
  · exact h2 q

/-- a new object onto the ledger, by its place -/
theorem news_new {h₀ h h' : Heap} {L : Addr} {m : Str → Option Value} {news : List (Addr × Obj)} {o : Obj} (F : Fr h₀ L h m) (N : News h₀ L h news) (hk : ∀ b o, h.get? b = some o → h'.get? b = some o) (ho : h'.get? h.objs.size = some o) : News h₀ L h' ((h.objs.size, o) :: news) := by
  intro q hq
  rcases List.mem_cons.mp hq with rfl | hq
  · refine ⟨ho, Nat.ne_of_gt F.ns.lt, ?_⟩
    cases e : h₀.get? h.objs.size with
    | none => rfl
    | some o' => exact absurd (Heap.lt_size (F.keep _ _ e)) (Nat.lt_irrefl _)
  · exact news_up N hk q hq
theorem news_lt {h₀ h : Heap} {L : Addr} {news : List (Addr × Obj)} (N : News h₀ L h news) : ∀ p ∈ news, p.1 < h.objs.size := fun p hp => Heap.lt_size (N p hp).1

/-- values that are these texts -/
def Txts (vs : List Value) (xs : List Str) : Prop := vs.length = xs.length ∧ ∀ (i : Nat) (x : Str), xs[i]? = some x → ∃ t : Tok, vs[i]? = some (Value.str x t)
theorem Txts.nil : Txts [] [] := ⟨rfl, fun i x h => by simp at h⟩
theorem Txts.snoc {vs : List Value} {xs : List Str} {x : Str} {t : Tok} (h : Txts vs xs) : Txts (vs ++ [Value.str x t]) (xs ++ [x]) := by
  refine ⟨by simp [h.1], fun i y hy => ?_⟩
  rcases Nat.lt_trichotomy i xs.length with q | q | q
  · rw [List.getElem?_append_left q] at hy
    obtain ⟨u, hu⟩ := h.2 i y hy
    exact ⟨u, by rw [List.getElem?_append_left (by rw [h.1]; exact q)]; exact hu⟩
  · subst q
    simp at hy
    subst hy
    exact ⟨t, by rw [← h.1]; simp⟩
  · rw [List.getElem?_eq_none (by simp; omega)] at hy
    cases hy
def namesT : List (Str × Str) := [(Str.ofString "&amp;", Str.ofString "&"), (Str.ofString "&lt;", Str.ofString "<"), (Str.ofString "&gt;", Str.ofString ">"), (Str.ofString "&quot;", Str.ofString "\""), (Str.ofString "&#10;", Str.ofString "\n"), (Str.ofString "&#13;", Str.ofString "\r"), (Str.ofString "&#9;", Str.ofString "\t")]

def TxtA (a : Array Value) (xs : List Str) : Prop := Txts a.toList xs
theorem TxtA.nil : TxtA #[] [] := Txts.nil
theorem TxtA.push {a : Array Value} {xs : List Str} {x : Str} {t : Tok} (h : TxtA a xs) : TxtA (a.push (.str x t)) (xs ++ [x]) := by
  unfold TxtA
  rw [Array.toList_push]
  exact Txts.snoc h
theorem TxtA.size {a : Array Value} {xs : List Str} (h : TxtA a xs) : a.size = xs.length := by
  rw [← h.1, Array.length_toList]

def WEnd (I : Nat → Shared → Prop) (n : Nat) (Q : Flow → Shared → Prop) (f : Flow) (s₃ : Shared) : Prop := match f with
  | .next | .cont => ∃ m, m < n ∧ I m s₃
  | .brk => Q .next s₃
  | .ret v => Q (.ret v) s₃
theorem while_E {prog : Program} {w : World} {A : Around} {E : Value → Shared → Prop} {s : Shared} {env : Env} {test : Expr} {body : List Stmt} {pos : Pos} {Q : Flow → Shared → Prop} (I : Nat → Shared → Prop)
    (turn : ∀ n s, I n s → wpAny (model prog w) A (isTrue test env (eval test env)) (fun b s₂ => if b = true then wpAny (model prog w) A (execs body env) (WEnd I n Q) (fun _ _ => False) s₂ else Q .next s₂) (fun _ _ => False) s)
    (n : Nat) (h : I n s) : wpAny (model prog w) A (exec (.While test body [] pos) env) Q E s := by
  refine wpAny_While (codeAny_whileLoop I (fun n s hI => ?_) n h)
  refine wpAny_mono (turn n s hI) (fun b s₂ q => ?_) (fun _ _ q => q.elim)
  cases b with
  | true =>
    rw [if_pos rfl] at q ⊢
    refine wpAny_mono q (fun f s₃ q => ?_) (fun _ _ q => q.elim)
    cases f with
    | next => exact q
    | cont => exact q
    | brk => exact q
    | ret v => exact q
  | false =>
    rw [if_neg Bool.false_ne_true] at q ⊢
    exact wpAny_execs_nil q

section
variable {M : Model} {A : Around} {E : Value → Shared → Prop} {s : Shared} {scope : Scope} {cl : List (Str × Addr)} {C c : Addr} {o : Obj} {env : Env} {m mg mb : Str → Option Value} {x : Str} {pos : Pos} {v : Value} {Q : Value → Shared → Prop}
theorem cname_L (hn : s.heap.Ns C m) (hv : m x = some v) (h : Q v s) (hk : (compEnvC scope cl C env).scope.kind = .function := by rfl) (hl : (compEnvC scope cl C env).kindOf x = some .local := by rfl) (hd : (x == ("__debug__" : Str)) = false := by decide) :
    wpAny M A (eval (.Name x pos) (compEnvC scope cl C env)) Q E s := wpAny_Name (wpAny_loadName_local hk hl hn hv h) hd
theorem cname_C (hc : cl.lookup x = some c) (hg : s.heap.get? c = some o) (hd : o.data = .cell (some v)) (h : Q v s) (hk : (compEnvC scope cl C env).scope.kind = .function := by rfl) (hl : (compEnvC scope cl C env).kindOf x = some .cell := by rfl) (hb : (x == ("__debug__" : Str)) = false := by decide) :
    wpAny M A (eval (.Name x pos) (compEnvC scope cl C env)) Q E s := wpAny_Name (wpAny_loadName_cell hk hl hc ⟨o, hg, hd⟩ h) hb
theorem cname_B {K : Frag} {p : Program} {loose : List Str} (X : K.In s.heap) (T : TopRead p loose mg mb s.heap) (e : nsIn K mainGlobals x = some none) (hv : bootBuiltins x = some v) (hn : x ≠ "__name__") (h : Q v s) (hgl : (compEnvC scope cl C env).globals = mainGlobals) (hbl : (compEnvC scope cl C env).builtins = builtinsNs)
    (hk : (compEnvC scope cl C env).scope.kind = .function := by rfl) (hx : (compEnvC scope cl C env).kindOf x = some .globalImplicit := by rfl) (hd : (x == ("__debug__" : Str)) = false := by decide) :
    wpAny M A (eval (.Name x pos) (compEnvC scope cl C env)) Q E s :=
  Name_function_global hk hx (loadGlobal_builtin (env := compEnvC scope cl C env) (hgl ▸ T.g) (mg_none_of X T.g e) (hbl ▸ T.b) ((T.builtins x hn).trans hv) h) hd
end

theorem forIn_one {M : Model} {A : Around} {E : Value → Shared → Prop} {s : Shared} {env : Env} {c : Expr} {Q : Bool → Shared → Prop} (h : wpAny M A (isTrue c env (eval c env)) (fun ok s' => Q ok s') E s) :
    wpAny M A (forIn [c] true fun c r => if r = true then do let ok ← isTrue c env (eval c env); pure (ForInStep.yield ok) else pure (ForInStep.yield r)) Q E s := by
  rw [List.forIn_cons, if_pos rfl]
  refine wpAny_bind (wpAny_bind (wpAny_mono h (fun ok s' q => wpAny_pure ?_) fun _ _ q => q))
  dsimp only
  rw [List.forIn_nil]
  exact wpAny_pure q
theorem forIn_none {M : Model} {A : Around} {E : Value → Shared → Prop} {s : Shared} {env : Env} {Q : Bool → Shared → Prop} (h : Q true s) :
    wpAny M A (forIn ([] : List Expr) true fun c r => if r = true then do let ok ← isTrue c env (eval c env); pure (ForInStep.yield ok) else pure (ForInStep.yield r)) Q E s := by
  rw [List.forIn_nil]
  exact wpAny_pure h

end Mine

open PySem PySem.W PyProof.Rows PySem.Calls
set_option Elab.async false
set_option maxRecDepth 100000
namespace Mine

def clipN (i : Int) (n : Nat) : Nat := (max 0 (min (if i < 0 then i + n else i) (n : Int))).toNat
def loN (l : Option Int) (n : Nat) : Nat := match l with | none => 0 | some i => clipN i n
def hiN (u : Option Int) (n : Nat) : Nat := match u with | none => n | some i => clipN i n
theorem clipN_le (i : Int) (n : Nat) : clipN i n ≤ n := by unfold clipN; omega
theorem clipN_cast (i : Int) (n : Nat) : (clipN i n : Int) = max 0 (min (if i < 0 then i + n else i) (n : Int)) := by unfold clipN; omega
theorem loN_le (l : Option Int) (n : Nat) : loN l n ≤ n := by cases l with | none => exact Nat.zero_le _ | some i => exact clipN_le i n
theorem hiN_le (l : Option Int) (n : Nat) : hiN l n ≤ n := by cases l with | none => exact Nat.le_refl _ | some i => exact clipN_le i n
theorem indices_eq (l u : Option Int) (n : Nat) : Builtin.Str.strSliceIndices l u 1 n = Builtin.Str.strSliceIndices (some (loN l n : Int)) (some (hiN u n : Int)) 1 n := by
  have h1 := loN_le l n
  have h2 := hiN_le u n
  have e1 : ¬ ((loN l n : Int) < 0) := by omega
  have e2 : ¬ ((hiN u n : Int) < 0) := by omega
  have e3 : max (0 : Int) (min (loN l n : Int) (n : Int)) = loN l n := by omega
  have e4 : max (0 : Int) (min (hiN u n : Int) (n : Int)) = hiN u n := by omega
  simp only [Builtin.Str.strSliceIndices, e1, e2, if_false, e3, e4, show ((1 : Int) > 0) = True from by simp, if_true]
  congr 1
  · cases l with
    | none => rfl
    | some i => exact (clipN_cast i n).symm
  · cases u with
    | none => rfl
    | some i => exact (clipN_cast i n).symm
theorem slice_toList (x : Str) (l u : Option Int) : (Txt.slice x l u).cps.toList = (x.cps.toList.drop (loN l x.length)).take (hiN u x.length - loN l x.length) := by
  have h1 := loN_le l x.length
  have h2 := hiN_le u x.length
  have hx : x.cps.toList.length = x.length := by simp [Str.length]
  have key : (Builtin.Str.strSliceIndices l u 1 x.length).filterMap (x.cps[·]?) = (x.cps.toList.drop (loN l x.length)).take (hiN u x.length - loN l x.length) := by
    rw [indices_eq]
    by_cases hab : loN l x.length ≤ hiN u x.length
    · exact StrLaws.sliced_plain x hab h2
    · have e : Builtin.Str.strSliceIndices (some (loN l x.length : Int)) (some (hiN u x.length : Int)) 1 x.length = [] := by
        have e1 : ¬ ((loN l x.length : Int) < 0) := by omega
        have e2 : ¬ ((hiN u x.length : Int) < 0) := by omega
        have e3 : max (0 : Int) (min (loN l x.length : Int) (x.length : Int)) = loN l x.length := by omega
        have e4 : max (0 : Int) (min (hiN u x.length : Int) (x.length : Int)) = hiN u x.length := by omega
        have e5 : ¬ ((loN l x.length : Int) < (hiN u x.length : Int)) := by omega
        simp only [Builtin.Str.strSliceIndices, sliceRange, e1, e2, if_false, e3, e4, e5, show ((1 : Int) > 0) = True from by simp, if_true]
        simp
      have e0 : hiN u x.length - loN l x.length = 0 := by omega
      rw [e, e0, List.take_zero]
      rfl
  unfold Txt.slice
  split
  · rename_i h
    have h' : (Builtin.Str.strSliceIndices l u 1 x.length).length = x.length := by simpa using h
    rw [← key]
    -- the indices are all the places
    rw [indices_eq] at h' ⊢
    have hab : loN l x.length ≤ hiN u x.length ∨ x.length = 0 := by
      by_cases q : loN l x.length ≤ hiN u x.length
      · exact .inl q
      · right
        have e1 : ¬ ((loN l x.length : Int) < 0) := by omega
        have e2 : ¬ ((hiN u x.length : Int) < 0) := by omega
        have e3 : max (0 : Int) (min (loN l x.length : Int) (x.length : Int)) = loN l x.length := by omega
        have e4 : max (0 : Int) (min (hiN u x.length : Int) (x.length : Int)) = hiN u x.length := by omega
        have e5 : ¬ ((loN l x.length : Int) < (hiN u x.length : Int)) := by omega
        simp only [Builtin.Str.strSliceIndices, sliceRange, e1, e2, if_false, e3, e4, e5, show ((1 : Int) > 0) = True from by simp, if_true] at h'
        simpa using h'.symm
    have hab' : loN l x.length ≤ hiN u x.length := by omega
    have h0 := StrLaws.sliced_plain x hab' h2
    rw [StrLaws.strSliceIndices_plain hab' h2, List.length_map, List.length_range] at h'
    rw [h0]
    have q1 : loN l x.length = 0 := by omega
    rw [q1, List.drop_zero, List.take_of_length_le (by omega)]
  · rw [key]

section
variable {M : Model} {A : Around} {E : Value → Shared → Prop} {s : Shared} {x : Str} {t : Tok} {value slice : Expr} {Q : Value → Shared → Prop} {prog : Program} {w : World}
theorem sliceP_ss {i j : Int} {ui uj : Tok} (h : ∀ h' t' k, (∀ b o, s.heap.get? b = some o → h'.get? b = some o) → Q (.str (Txt.slice x (some i) (some j)) t') { s with heap := h', toks := k }) (hsz : x.length ≤ sizeLine)
    (hs : subscripted slice false (.str x t) (.ref s.heap.objs.size) = operate [.ref s.heap.objs.size, .str x t] (getItem (.str x t) (.ref s.heap.objs.size)) := by with_unfolding_all rfl)
    (ht : ∀ r, letTemporaryGo value (.str x t) r = pure () := by intro _; with_unfolding_all rfl) :
    wpAny (model prog w) A (subscriptTail value slice (.str x t) (.ref s.heap.objs.size)) Q E { s with heap := s.heap.push { cls := .type "slice", data := .fields #[.int i ui, .int j uj, .none] } } :=
  tail_of_ItemOn (SBH.sliceItem_ss (P := fun h' => ∀ b o, s.heap.get? b = some o → h'.get? b = some o) (fun _ _ hp b o e => Heap.get?_push_of_some _ (hp b o e)) (fun _ _ e => e) h hsz) hs ht
theorem sliceP_ns {j : Int} {uj : Tok} (h : ∀ h' t' k, (∀ b o, s.heap.get? b = some o → h'.get? b = some o) → Q (.str (Txt.slice x none (some j)) t') { s with heap := h', toks := k }) (hsz : x.length ≤ sizeLine)
    (hs : subscripted slice false (.str x t) (.ref s.heap.objs.size) = operate [.ref s.heap.objs.size, .str x t] (getItem (.str x t) (.ref s.heap.objs.size)) := by with_unfolding_all rfl)
    (ht : ∀ r, letTemporaryGo value (.str x t) r = pure () := by intro _; with_unfolding_all rfl) :
    wpAny (model prog w) A (subscriptTail value slice (.str x t) (.ref s.heap.objs.size)) Q E { s with heap := s.heap.push { cls := .type "slice", data := .fields #[.none, .int j uj, .none] } } :=
  tail_of_ItemOn (SBH.sliceItem_ns (P := fun h' => ∀ b o, s.heap.get? b = some o → h'.get? b = some o) (fun _ _ hp b o e => Heap.get?_push_of_some _ (hp b o e)) (fun _ _ e => e) h hsz) hs ht
theorem sliceP_sn {i : Int} {ui : Tok} (h : ∀ h' t' k, (∀ b o, s.heap.get? b = some o → h'.get? b = some o) → Q (.str (Txt.slice x (some i) none) t') { s with heap := h', toks := k }) (hsz : x.length ≤ sizeLine)
    (hs : subscripted slice false (.str x t) (.ref s.heap.objs.size) = operate [.ref s.heap.objs.size, .str x t] (getItem (.str x t) (.ref s.heap.objs.size)) := by with_unfolding_all rfl)
    (ht : ∀ r, letTemporaryGo value (.str x t) r = pure () := by intro _; with_unfolding_all rfl) :
    wpAny (model prog w) A (subscriptTail value slice (.str x t) (.ref s.heap.objs.size)) Q E { s with heap := s.heap.push { cls := .type "slice", data := .fields #[.int i ui, .none, .none] } } :=
  tail_of_ItemOn (SBH.sliceItem_sn (P := fun h' => ∀ b o, s.heap.get? b = some o → h'.get? b = some o) (fun _ _ hp b o e => Heap.get?_push_of_some _ (hp b o e)) (fun _ _ e => e) h hsz) hs ht
end

theorem clipN_nat (a n : Nat) : clipN (a : Int) n = min a n := by unfold clipN; omega
theorem slice_is {x k : Str} {a : Nat} : (Txt.slice x (some (a : Int)) (some ((a : Int) + (k.length : Int))) == k) = k.cps.toList.isPrefixOf (x.cps.toList.drop a) := by
  have hx : x.cps.toList.length = x.length := by simp [Str.length]
  have hk : k.cps.toList.length = k.length := by simp [Str.length]
  have h := slice_toList x (some (a : Int)) (some ((a : Int) + (k.length : Int)))
  have e : ((a : Int) + (k.length : Int)) = ((a + k.length : Nat) : Int) := by omega
  simp only [loN, hiN] at h
  rw [e, clipN_nat, clipN_nat] at h
  rw [e]
  have h2 : (x.cps.toList.drop (min a x.length)).take (min (a + k.length) x.length - min a x.length) = (x.cps.toList.drop a).take k.length := by
    by_cases q : a ≤ x.length
    · rw [Nat.min_eq_left q]
      by_cases q2 : a + k.length ≤ x.length
      · rw [Nat.min_eq_left q2]; congr 1; omega
      · rw [Nat.min_eq_right (by omega), List.take_of_length_le (by rw [List.length_drop]; omega), List.take_of_length_le (by rw [List.length_drop]; omega)]
    · rw [Nat.min_eq_right (by omega), List.drop_eq_nil_of_le (by omega), List.drop_eq_nil_of_le (by omega)]
      simp
  rw [h2] at h
  generalize Txt.slice x (some (a : Int)) (some ((a + k.length : Nat) : Int)) = y at h
  rw [Bool.eq_iff_iff, beq_iff_eq, List.isPrefixOf_iff_prefix]
  constructor
  · rintro rfl
    rw [h]
    exact List.take_prefix _ _
  · intro hp
    have : y.cps.toList = k.cps.toList := by
      rw [h, ← hk]
      exact (List.prefix_iff_eq_take.mp hp).symm
    cases y; cases k
    simp only [Str.mk.injEq]
    exact Array.toList_inj.mp this

theorem paired_eq {a b : List Value} (h : Paired Eq a b) : a = b := by
  induction h with
  | nil => rfl
  | cons h _ ih => rw [h, ih]
theorem Txts.tail {v : Value} {x : Str} {vs : List Value} {xs : List Str} (h : Txts (v :: vs) (x :: xs)) : (∃ t, v = .str x t) ∧ Txts vs xs := by
  refine ⟨?_, by have := h.1; simpa using this, fun i y hy => ?_⟩
  · obtain ⟨t, ht⟩ := h.2 0 x rfl
    exact ⟨t, by simpa using ht⟩
  · obtain ⟨t, ht⟩ := h.2 (i + 1) y (by simpa using hy)
    exact ⟨t, by simpa using ht⟩
theorem Txts.cons {x : Str} {t : Tok} {vs : List Value} {xs : List Str} (h : Txts vs xs) : Txts (.str x t :: vs) (x :: xs) := by
  refine ⟨by simp [h.1], fun i y hy => ?_⟩
  cases i with
  | zero =>
    simp at hy
    subst hy
    exact ⟨t, rfl⟩
  | succ i =>
    obtain ⟨u, hu⟩ := h.2 i y (by simpa using hy)
    exact ⟨u, by simpa using hu⟩
theorem Txts.filter {p : Value → Bool} {q : Str → Bool} (hpq : ∀ x t, p (.str x t) = q x) : ∀ {xs : List Str} {vs : List Value}, Txts vs xs → Txts (vs.filter p) (xs.filter q)
  | [], [], _ => Txts.nil
  | [], _ :: _, h => by have := h.1; simp at this
  | _ :: _, [], h => by have := h.1; simp at this
  | x :: xs, v :: vs, h => by
    obtain ⟨⟨t, rfl⟩, h'⟩ := h.tail
    have ih := Txts.filter hpq h'
    rw [List.filter_cons, List.filter_cons, hpq]
    cases q x with
    | true => exact ih.cons
    | false => exact ih
theorem after_comp {h₀ h h' : Heap} {L Dh : Addr} {m m' : Str → Option Value} {news : List (Addr × Obj)} {o oI : Obj} (F : Fr h₀ L h m) (N : News h₀ L h news) (hn : h'.Ns L m') (hD : (h.push oI).get? Dh = none) (ho : h'.get? Dh = some o)
    (hk : ∀ b o, b ≠ L → b ∉ [h.objs.size] → (h.push oI).get? b = some o → h'.get? b = some o) : Fr h₀ L h' m' ∧ News h₀ L h' ((Dh, o) :: news) ∧ (∀ p ∈ news, p.1 ≠ Dh) ∧ Dh ≠ L := by
  have up : ∀ b o, b ≠ L → h.get? b = some o → h'.get? b = some o := fun b o hb e => hk b o hb (by rw [List.mem_singleton]; exact Nat.ne_of_lt (Heap.lt_size e)) (Heap.get?_push_of_some _ e)
  have hL : ∀ o, h₀.get? L ≠ some o := fun o e => absurd (Nat.lt_of_lt_of_le (Heap.lt_size e) F.above) (Nat.lt_irrefl _)
  have hno : ∀ b o, h.get? b = some o → b ≠ Dh := fun b o e q => by
    rw [q] at e
    have := Heap.get?_push_of_some oI e
    rw [hD] at this
    cases this
  have hDL : Dh ≠ L := by
    obtain ⟨oL, _, _, e, _⟩ := F.ns
    exact fun q => hno L oL e q.symm
  refine ⟨⟨hn, fun b o e => up b o (fun q => hL o (q ▸ e)) (F.keep b o e), F.above⟩, fun p hp => ?_, fun p hp => hno _ _ (N p hp).1, hDL⟩
  rcases List.mem_cons.mp hp with rfl | hp
  · refine ⟨ho, hDL, ?_⟩
    cases e : h₀.get? Dh with
    | none => rfl
    | some o' => exact absurd rfl (hno _ _ (F.keep _ _ e))
  · exact ⟨up _ _ (N p hp).2.1 (N p hp).1, (N p hp).2⟩

section
open PySem.Spec PySem.SeqAt
theorem readsAll_txts {h : Heap} : ∀ {vs : List Value} {xs : List Str}, Txts vs xs → ReadsAll h vs (xs.map PyData.str) []
  | [], [], _ => .nil
  | [], _ :: _, q => by have := q.1; simp at this
  | _ :: _, [], q => by have := q.1; simp at this
  | v :: vs, x :: xs, q => by
    obtain ⟨⟨t, rfl⟩, q'⟩ := q.tail
    have := ReadsAll.cons (Reads.str (h := h) x t) (readsAll_txts (h := h) q')
    simpa using this
theorem reads_txts {h : Heap} {a : Addr} {ys : Array Value} {n : Nat} {xs : List Str} (hl : h.get? a = some (W.listOf ys n)) (q : TxtA ys xs) : Reads h (.ref a) (.list (xs.map PyData.str)) [a] :=
  Reads.list hl rfl rfl (readsAll_txts q)
theorem canLayAll0_strs : ∀ ns : List Str, (∀ x ∈ ns, PyData.strOk x = true) → PyData.canLayAll0 (ns.map PyData.str) = true
  | [], _ => by simp [PyData.canLayAll0]
  | n :: r, h => by simp [PyData.canLayAll0, PyData.canLay0, h n (List.mem_cons_self ..), canLayAll0_strs r fun x hx => h x (List.mem_cons_of_mem _ hx)]
theorem depthAll_strs : ∀ ns : List Str, PyData.depthAll (ns.map PyData.str) ≤ 1
  | [] => by simp [PyData.depthAll]
  | n :: r => by
    have := depthAll_strs r
    simp only [List.map_cons, PyData.depthAll, PyData.depth]
    omega
theorem shaped_strs (ns : List Str) (hok : ∀ x ∈ ns, PyData.strOk x = true) : shaped (.list (ns.map PyData.str)) = true := by
  have h1 := depthAll_strs ns
  have h2 : PyData.depth (.list (ns.map PyData.str)) ≤ 64 := by simp only [PyData.depth]; omega
  show (PyData.canLay0 (.list (ns.map PyData.str)) && decide (PyData.depth (.list (ns.map PyData.str)) ≤ 64)) = true
  rw [Bool.and_eq_true]
  exact ⟨by simp only [PyData.canLay0]; exact canLayAll0_strs ns hok, decide_eq_true h2⟩
theorem eqv_strs : ∀ ns ms : List Str, PyData.eqvAll (ns.map PyData.str) (ms.map PyData.str) = decide (ns = ms)
  | [], [] => by simp [PyData.eqvAll]
  | [], _ :: _ => by simp [PyData.eqvAll]
  | _ :: _, [] => by simp [PyData.eqvAll]
  | n :: r, k :: q => by
    simp only [List.map_cons, PyData.eqvAll, PyData.eqv, eqv_strs r q]
    by_cases h : n = k <;> by_cases h' : r = q <;> simp [h, h']
variable {prog : Program} {w : World} {A : Around} {E : Value → Shared → Prop} {s : Shared}
theorem eq_txts {a b : Addr} {ys zs : Array Value} {n m : Nat} {ns ms : List Str} {Q : Value → Shared → Prop} (hl : s.heap.get? a = some (W.listOf ys n)) (hi : TxtA ys ns) (hl' : s.heap.get? b = some (W.listOf zs m)) (hi' : TxtA zs ms) (ok1 : ∀ x ∈ ns, PyData.strOk x = true) (ok2 : ∀ x ∈ ms, PyData.strOk x = true) (hu : A.units + 64 < cLine)
    (h : Q (.bool (decide (ns = ms))) s) : wpAny (model prog w) A (compareOp .Eq (.ref a) (.ref b)) Q E s :=
  eq_dataH (reads_txts hl hi) (reads_txts hl' hi') (shaped_strs ns ok1) (shaped_strs ms ok2) hu (by simp only [PyData.eqv]; rw [eqv_strs]; exact h)
theorem ne_txts {a b : Addr} {ys zs : Array Value} {n m : Nat} {ns ms : List Str} {Q : Value → Shared → Prop} (hl : s.heap.get? a = some (W.listOf ys n)) (hi : TxtA ys ns) (hl' : s.heap.get? b = some (W.listOf zs m)) (hi' : TxtA zs ms) (ok1 : ∀ x ∈ ns, PyData.strOk x = true) (ok2 : ∀ x ∈ ms, PyData.strOk x = true) (hu : A.units + 64 < cLine)
    (h : Q (.bool (!decide (ns = ms))) s) : wpAny (model prog w) A (compareOp .NotEq (.ref a) (.ref b)) Q E s :=
  ne_dataH (reads_txts hl hi) (reads_txts hl' hi') (shaped_strs ns ok1) (shaped_strs ms ok2) hu (by simp only [PyData.eqv]; rw [eqv_strs]; exact h)
end

theorem strsAre_of : ∀ {vs : List Value} {xs : List Str}, Txts vs xs → StrsAre vs xs
  | [], [], _ => .nil
  | [], _ :: _, q => by have := q.1; simp at this
  | _ :: _, [], q => by have := q.1; simp at this
  | v :: vs, x :: xs, q => by
    obtain ⟨⟨t, rfl⟩, q'⟩ := q.tail
    exact .cons x t (strsAre_of q')
section
open PySem.Spec PyProof.V
variable {prog : Program} {w : World} {A : Around} {E : Value → Shared → Prop} {s : Shared}
theorem join_E {a : Addr} {ys : Array Value} {n : Nat} {xs : List Str} {x : Str} {t : Tok} {Q : Value → Shared → Prop} (hl : s.heap.get? a = some (W.listOf ys n)) (hi : TxtA ys xs) (hok : (xs.map (·.length)).sum + xs.length * x.length ≤ 16777216)
    (h : ∀ t' k, Q (.str (Txt.join x xs) t') { s with toks := k }) : wpAny (model prog w) A (call (.builtin "str.join") [.str x t, .ref a]) Q E s :=
  join_list ⟨_, hl, rfl, _, rfl⟩ (strsAre_of hi) hok h
theorem item_L {a : Addr} {ys : Array Value} {n : Nat} {k : Int} {u : Tok} {v : Value} {value slice : Expr} {Q : Value → Shared → Prop} (hl : s.heap.get? a = some (W.listOf ys n)) (h0 : 0 ≤ k) (h1 : k < 2 ^ 63) (hx : ys[k.toNat]? = some v) (h : Q v s)
    (hs : subscripted slice false (.ref a) (.int k u) = operate [.ref a, .int k u] (getItem (.ref a) (.int k u)) := by with_unfolding_all rfl) :
    wpAny (model prog w) A (subscriptTail value slice (.ref a) (.int k u)) Q E s :=
  have hL : s.heap.IsList a ys := ⟨_, hl, rfl, _, rfl⟩
  tail_any hL.typeIs PySem.F.slot_list_getitem.lookup (wpAny_getItem_list hL h0 h1 hx h) hs
theorem flat_E (es : List Ent) : FlatPairs PyData.str (es.map fun e => (e.k, Value.str e.v e.vt)) (es.map fun e => (PyData.str e.k, PyData.str e.v)) := by
  induction es with
  | nil => exact .nil
  | cons e r ih => exact .cons (Flat.str e.v e.vt) ih
theorem tab_E {h : Heap} {d : Addr} {es : List Ent} {ep : Nat} (hd : h.get? d = some (dictO w es ep)) (hn : (es.map Ent.k).Nodup) (hs : (d == sysModules) = false) :
    TabAt (strKind prog w) PyData.str h d (es.map fun e => (PyData.str e.k, PyData.str e.v)) := ⟨hs, _, (dictAt_E (prog := prog) hd hn).dictOf, flat_E es⟩
theorem lookup_E (x : Str) : ∀ es : List Ent, PySem.Spec.lookup (.str x) (es.map fun e => (PyData.str e.k, PyData.str e.v)) = (es.find? fun e => decide (e.k = x)).map fun e => .str e.v
  | [] => by simp [PySem.Spec.lookup]
  | e :: r => by
    rw [List.map_cons, PySem.Spec.lookup, List.find?_cons]
    by_cases h : e.k = x
    · simp [h, PySem.Spec.same]
    · have h' : same (PyData.str e.k) (PyData.str x) = false := by simp [PySem.Spec.same, h]
      rw [h', decide_eq_false h]
      simp only [Bool.false_eq_true, if_false]
      exact lookup_E x r
end

theorem find_const (x : Str) : ∀ (l : List (Str × Str)) (tk : Nat), ((constEnts tk l).find? fun e => decide (e.k = x)).map (fun e => PyData.str e.v) = (l.find? fun p => decide (p.1 = x)).map fun p => PyData.str p.2
  | [], _ => rfl
  | p :: r, tk => by
    rw [constEnts, List.find?_cons, List.find?_cons]
    by_cases h : p.1 = x
    · simp [h]
    · simp only [h, decide_false]
      exact find_const x r _
theorem item_D {prog : Program} {w : World} {A : Around} {E : Value → Shared → Prop} {s : Shared} {d : Addr} {es : List Ent} {ep : Nat} {x v : Str} {t : Tok} {value slice : Expr} {Q : Value → Shared → Prop} (hd : s.heap.get? d = some (dictO w es ep)) (hn : (es.map Ent.k).Nodup) (hds : (d == sysModules) = false)
    (hl : PySem.Spec.lookup (.str x) (es.map fun e => (PyData.str e.k, PyData.str e.v)) = some (.str v)) (h : ∀ t', Q (.str v t') { s with toks := s.toks + 1 })
    (hs : subscripted slice false (.ref d) (.str x t) = operate [.ref d, .str x t] (getItem (.ref d) (.str x t)) := by with_unfolding_all rfl) (hg : ∀ r, letTemporaryGo value (.ref d) r = pure () := by intro _; with_unfolding_all rfl) :
    wpAny (model prog w) A (subscriptTail value slice (.ref d) (.str x t)) Q E s :=
  item_strTab (tab_E hd hn hds) hl (fun v hv => by obtain ⟨t', e⟩ := hv.str_inv; subst e; exact h t') hs hg

theorem news_sub {h₀ h : Heap} {L : Addr} {news news' : List (Addr × Obj)} (N : News h₀ L h news) (hs : ∀ p ∈ news', p ∈ news) : News h₀ L h news' := fun p hp => N p (hs p hp)
theorem sum_snoc (xs : List Str) (x : Str) : ((xs ++ [x]).map (·.length)).sum = (xs.map (·.length)).sum + x.length := by simp
end Mine

open PySem PySem.W PyProof.Rows PySem.Calls
set_option Elab.async false
set_option maxRecDepth 100000
namespace Mine

def TurnL (h₀ : Heap) (L : Addr) (own : Addr × Obj) (as : List Addr) (P : (Str → Option Value) → List (Addr × Obj) → Nat → Prop) (R : Result → Shared → Prop) (s₁ : Shared) (f : Flow) (s₂ : Shared) : Prop := match f with
  | .next | .cont => ∃ h' tk m' news', s₂ = { s₁ with heap := h', toks := tk } ∧ Fr h₀ L h' m' ∧ News h₀ L h' (own :: news') ∧ news'.map (·.1) = as ∧ P m' news' tk
  | .brk => R (.ok .next) s₂
  | .ret v => R (.ok (.ret v)) s₂

section
variable {prog : Program} {w : World} {A : Around} {E : Value → Shared → Prop} {s : Shared} {env : Env} {h₀ : Heap}
/-- a for loop over a list that lies -/
theorem for_list_E {R : Result → Shared → Prop} {x : Str} {px : Pos} {body : List Stmt} {l : Addr} {items : Array Value} {nl : Nat} {m : Str → Option Value} {news : List (Addr × Obj)}
    (hh : A.handled = none) (hx : env.kindOf x = some .local)
    (hp : (env.scope.kind == .class || (env.scope.kind == .module && env.locals != env.globals)) = false)
    (F : Fr h₀ env.locals s.heap m) (N : News h₀ env.locals s.heap news) (htk : 1 ≤ s.toks)
    (hl : (l, W.listOf items nl) ∈ news)
    (P : Nat → (Str → Option Value) → List (Addr × Obj) → Nat → Prop) (hP0 : P 0 m news s.toks) (hPl : ∀ i m' news' tk, P i m' news' tk → (l, W.listOf items nl) ∈ news')
    (step : ∀ i v m₁ h tk news' own, items[i]? = some v → P i m₁ news' tk → 1 ≤ tk → news'.map (·.1) = news.map (·.1) → (∀ p ∈ news', p.1 ≠ own.1) → Fr h₀ env.locals h (fun y => if y = x then some v else m₁ y) → News h₀ env.locals h (own :: news') →
      wpAny (model prog w) A (execs body env) (TurnL h₀ env.locals own (news.map (·.1)) (P (i + 1)) R { s with heap := h, toks := tk + 1 }) (fun _ _ => False) { s with heap := h, toks := tk + 1 })
    (hR : ∀ h' tk m' news', P items.size m' news' tk → 1 ≤ tk → news'.map (·.1) = news.map (·.1) → Fr h₀ env.locals h' m' → News h₀ env.locals h' news' → R (.ok .next) { s with heap := h', toks := tk }) :
    wpAny (model prog w) A (pyIter (.ref l)) (fun it s₂ => codeAny (model prog w) A (.forLoop (.Name x px) it body [] env) R s₂) E s := by
  have hlA : s.heap.IsList l items := ⟨_, (N _ hl).1, rfl, _, rfl⟩
  refine wpAny_pyIter_list hlA ?_
  have hIL : s.heap.objs.size ≠ env.locals := Nat.ne_of_gt F.ns.lt
  have hI0 : h₀.get? s.heap.objs.size = none := by
    cases e : h₀.get? s.heap.objs.size with
    | none => rfl
    | some o' => exact absurd (Heap.lt_size (F.keep _ _ e)) (Nat.lt_irrefl _)
  have hnI : ∀ p ∈ news, p.1 ≠ s.heap.objs.size := fun p hp => Nat.ne_of_lt (Heap.lt_size (N p hp).1)
  have hnI' : ∀ news' : List (Addr × Obj), news'.map (·.1) = news.map (·.1) → ∀ p ∈ news', p.1 ≠ s.heap.objs.size := fun news' ha p hp => by
    have : p.1 ∈ news.map (·.1) := ha ▸ List.mem_map.mpr ⟨p, hp, rfl⟩
    obtain ⟨q, hq, e⟩ := List.mem_map.mp this
    exact e ▸ hnI q hq
  have hlI : l ≠ s.heap.objs.size := hnI _ hl
  generalize hI : s.heap.objs.size = I at hIL hI0 hnI hnI' hlI
  refine codeAny_forLoop
    (fun k s' => ∃ h' tk m' news' i, s' = { s with heap := h', toks := tk } ∧ h'.IsListIter I l i ∧ Fr h₀ env.locals h' m' ∧ News h₀ env.locals h' news' ∧ news'.map (·.1) = news.map (·.1) ∧ P i m' news' tk ∧ i ≤ items.size ∧ k = items.size + 1 - i ∧ 1 ≤ tk) ?_ (items.size + 1)
    ⟨s.heap.push _, s.toks, m, news, 0, rfl, ⟨_, hI ▸ Heap.get?_push_size _ rfl, rfl, rfl⟩, F.push _, fun p hp => ⟨Heap.get?_push_of_some _ (N p hp).1, (N p hp).2⟩, rfl, hP0, Nat.zero_le _, rfl, htk⟩
  rintro k s' ⟨h', tk, m', news', i, rfl, hit, F', N', ha, hP, hi, rfl, htk'⟩
  have hl' : h'.IsList l items := ⟨_, (N' _ (hPl _ _ _ _ hP)).1, rfl, _, rfl⟩
  cases hv : items[i]? with
  | none =>
    have hsz : i = items.size := Nat.le_antisymm hi (by simpa using hv)
    refine wpAny_pyNext_list_end hh hit hl' hv fun h₁ he₁ => wpAny_execs_nil ?_
    have k1 : ∀ b o, b ≠ I → h'.get? b = some o → h₁.get? b = some o := fun b o hb e => he₁ b o hb e
    exact hR h₁ tk m' news' (hsz ▸ hP) htk' ha ⟨F'.ns.at' fun o e => k1 _ o (Ne.symm hIL) e, fun b o e => k1 b o (fun q => by rw [q, hI0] at e; cases e) (F'.keep b o e), F'.above⟩
      (fun p hp => ⟨k1 _ _ (hnI' news' ha p hp) (N' p hp).1, (N' p hp).2⟩)
  | some v =>
    have hlt : i < items.size := (Array.getElem?_eq_some_iff.mp hv).1
    refine wpAny_pyNext_list_item hit hl' hv fun h₁ hit₁ hs₁ => ?_
    have k1 : ∀ b o, b ≠ I → h'.get? b = some o → h₁.get? b = some o := fun b o hb e => hs₁.extBut b o hb e
    have F1 : Fr h₀ env.locals h₁ m' := ⟨F'.ns.at' fun o e => k1 _ o (Ne.symm hIL) e, fun b o e => k1 b o (fun q => by rw [q, hI0] at e; cases e) (F'.keep b o e), F'.above⟩
    have N1 : News h₀ env.locals h₁ news' := fun p hp => ⟨k1 _ _ (hnI' news' ha p hp) (N' p hp).1, (N' p hp).2⟩
    refine wpAny_assign_Name (wpAny_storeName_local hx F1.ns (fun h₂ hn₂ hs₂ => ?_) hp)
    obtain ⟨oI, hoI, hc, hd⟩ := hit₁
    have N2 : News h₀ env.locals h₂ ((I, oI) :: news') := fun p hp => by
      rcases List.mem_cons.mp hp with rfl | hp
      · exact ⟨(hs₂.2 I hIL).trans hoI, hIL, hI0⟩
      · exact N1.set hs₂ p hp
    refine wpAny_with_toks (n := 1) (Nat.le_succ_of_le htk') (wpAny_mono (step i v m' h₂ tk news' _ hv hP htk' ha (hnI' news' ha) (F1.set hn₂ hs₂) N2) (fun f s₃ q htk6 => ?_) fun _ _ q => q.elim)
    cases f with
    | brk => exact q
    | ret v => exact q
    | next =>
      obtain ⟨h6, tk6, m6, news6, rfl, F6, N6, ha6, P6⟩ := q
      exact ⟨items.size + 1 - (i + 1), by omega, h6, tk6, m6, news6, i + 1, rfl, ⟨_, (N6 _ (List.mem_cons_self ..)).1, hc, hd⟩, F6, fun p hp => N6 p (List.mem_cons_of_mem _ hp), ha6, P6, hlt, rfl, htk6⟩
    | cont =>
      obtain ⟨h6, tk6, m6, news6, rfl, F6, N6, ha6, P6⟩ := q
      exact ⟨items.size + 1 - (i + 1), by omega, h6, tk6, m6, news6, i + 1, rfl, ⟨_, (N6 _ (List.mem_cons_self ..)).1, hc, hd⟩, F6, fun p hp => N6 p (List.mem_cons_of_mem _ hp), ha6, P6, hlt, rfl, htk6⟩
end

section
variable {prog : Program} {w : World} {A : Around} {E : Value → Shared → Prop} {s : Shared} {x : Str} {t : Tok} {value slice : Expr} {Q : Value → Shared → Prop}
theorem sliceT_ss {i j : Int} {ui uj : Tok} (htk : 1 ≤ s.toks) (h : ∀ h' t' k, 1 ≤ k → (∀ b o, s.heap.get? b = some o → h'.get? b = some o) → Q (.str (Txt.slice x (some i) (some j)) t') { s with heap := h', toks := k }) (hsz : x.length ≤ sizeLine)
    (hs : subscripted slice false (.str x t) (.ref s.heap.objs.size) = operate [.ref s.heap.objs.size, .str x t] (getItem (.str x t) (.ref s.heap.objs.size)) := by with_unfolding_all rfl)
    (ht : ∀ r, letTemporaryGo value (.str x t) r = pure () := by intro _; with_unfolding_all rfl) :
    wpAny (model prog w) A (subscriptTail value slice (.str x t) (.ref s.heap.objs.size)) Q E { s with heap := s.heap.push { cls := .type "slice", data := .fields #[.int i ui, .int j uj, .none] } } :=
  wpAny_with_toks (n := 1) htk (sliceP_ss (fun h' t' k hk q => h h' t' k q hk) hsz hs ht)
theorem sliceT_ns {j : Int} {uj : Tok} (htk : 1 ≤ s.toks) (h : ∀ h' t' k, 1 ≤ k → (∀ b o, s.heap.get? b = some o → h'.get? b = some o) → Q (.str (Txt.slice x none (some j)) t') { s with heap := h', toks := k }) (hsz : x.length ≤ sizeLine)
    (hs : subscripted slice false (.str x t) (.ref s.heap.objs.size) = operate [.ref s.heap.objs.size, .str x t] (getItem (.str x t) (.ref s.heap.objs.size)) := by with_unfolding_all rfl)
    (ht : ∀ r, letTemporaryGo value (.str x t) r = pure () := by intro _; with_unfolding_all rfl) :
    wpAny (model prog w) A (subscriptTail value slice (.str x t) (.ref s.heap.objs.size)) Q E { s with heap := s.heap.push { cls := .type "slice", data := .fields #[.none, .int j uj, .none] } } :=
  wpAny_with_toks (n := 1) htk (sliceP_ns (fun h' t' k hk q => h h' t' k q hk) hsz hs ht)
theorem sliceT_sn {i : Int} {ui : Tok} (htk : 1 ≤ s.toks) (h : ∀ h' t' k, 1 ≤ k → (∀ b o, s.heap.get? b = some o → h'.get? b = some o) → Q (.str (Txt.slice x (some i) none) t') { s with heap := h', toks := k }) (hsz : x.length ≤ sizeLine)
    (hs : subscripted slice false (.str x t) (.ref s.heap.objs.size) = operate [.ref s.heap.objs.size, .str x t] (getItem (.str x t) (.ref s.heap.objs.size)) := by with_unfolding_all rfl)
    (ht : ∀ r, letTemporaryGo value (.str x t) r = pure () := by intro _; with_unfolding_all rfl) :
    wpAny (model prog w) A (subscriptTail value slice (.str x t) (.ref s.heap.objs.size)) Q E { s with heap := s.heap.push { cls := .type "slice", data := .fields #[.int i ui, .none, .none] } } :=
  wpAny_with_toks (n := 1) htk (sliceP_sn (fun h' t' k hk q => h h' t' k q hk) hsz hs ht)
end
theorem slice_len (x : Str) (i j : Option Int) : (Txt.slice x i j).length ≤ x.length := by
  have h := slice_toList x i j
  have e : (Txt.slice x i j).cps.toList.length = (Txt.slice x i j).length := by simp [Str.length]
  have e2 : x.cps.toList.length = x.length := by simp [Str.length]
  rw [← e, ← e2, h, List.length_take, List.length_drop]
  omega
theorem news_fresh {h₀ h h' : Heap} {L a : Addr} {o : Obj} {m : Str → Option Value} {news : List (Addr × Obj)} (F : Fr h₀ L h m) (fa : h.get? a = none) (ga : h'.get? a = some o) (N : News h₀ L h' news) : News h₀ L h' ((a, o) :: news) := fun p hp => by
  rcases List.mem_cons.mp hp with rfl | hp
  · refine ⟨ga, fun q => ?_, ?_⟩
    · obtain ⟨oL, _, _, e, _⟩ := F.ns
      dsimp only at q
      rw [q, e] at fa
      cases fa
    · cases e : h₀.get? a with
      | none => rfl
      | some o' => rw [F.keep _ _ e] at fa; cases fa
  · exact N p hp
section
variable {prog : Program} {w : World} {A : Around} {E : Value → Shared → Prop} {s : Shared}
theorem in_E {a : Addr} {ys : Array Value} {n : Nat} {xs : List Str} {k : Str} {t : Tok} {Q : Value → Shared → Prop} (hl : s.heap.get? a = some (W.listOf ys n)) (hi : TxtA ys xs)
    (h : Q (.bool (xs.any (· == k))) s) : wpAny (model prog w) A (compareOp .In (.str k t) (.ref a)) Q E s :=
  in_list_strs (vs := ys.toList) ⟨_, hl, rfl, _, by rw [Array.toArray_toList]⟩ (strsAre_of hi) h
theorem notin_E {a : Addr} {ys : Array Value} {n : Nat} {xs : List Str} {k : Str} {t : Tok} {Q : Value → Shared → Prop} (hl : s.heap.get? a = some (W.listOf ys n)) (hi : TxtA ys xs)
    (h : Q (.bool (!(xs.any (· == k)))) s) : wpAny (model prog w) A (compareOp .NotIn (.str k t) (.ref a)) Q E s :=
  notin_list_strs (vs := ys.toList) ⟨_, hl, rfl, _, by rw [Array.toArray_toList]⟩ (strsAre_of hi) h
end
theorem TxtA.at {vr : Array Value} {xs : List Str} (h : TxtA vr xs) {j : Nat} {v : Value} (hv : vr[j]? = some v) : ∃ n t, xs[j]? = some n ∧ v = .str n t := by
  have hj : j < xs.length := by
    rw [← h.1, Array.length_toList]
    exact (Array.getElem?_eq_some_iff.mp hv).1
  obtain ⟨t, ht⟩ := h.2 j xs[j] (List.getElem?_eq_getElem hj)
  rw [Array.getElem?_toList, hv] at ht
  exact ⟨_, t, List.getElem?_eq_getElem hj, Option.some.inj ht⟩
theorem all_vs {vr : Array Value} {vs : List Value} (hlen : vs.length = vr.size) (hP : ∀ (j : Nat) v, vs[j]? = some v → vr[j]? = some v) : vs = vr.toList := by
  refine List.ext_getElem? fun j => ?_
  by_cases hj : j < vs.length
  · rw [List.getElem?_eq_getElem hj, Array.getElem?_toList]
    exact (hP j vs[j] (List.getElem?_eq_getElem hj)).symm
  · rw [List.getElem?_eq_none (by omega), List.getElem?_eq_none (by rw [Array.length_toList]; omega)]
theorem TxtA.all {ys : Array Value} {xs : List Str} {P : Str → Prop} (_ : TxtA ys xs) (h : ∀ x ∈ xs, P x) : ∀ x ∈ xs, P x := h
def AllB (B : Nat) : List Value → Prop
  | [] => True
  | v :: r => (∃ y t, v = .str y t ∧ y.length ≤ B) ∧ AllB B r
theorem AllB.at {B : Nat} : ∀ {l : List Value} (_ : AllB B l) {i : Nat} (_ : i < l.length), ∃ y t, l[i]? = some (.str y t) ∧ y.length ≤ B
  | [], _, i, hi => by simp at hi
  | v :: r, h, 0, _ => by
    obtain ⟨⟨y, t, rfl, hy⟩, _⟩ := h
    exact ⟨y, t, rfl, hy⟩
  | v :: r, h, i + 1, hi => by
    obtain ⟨y, t, e, hy⟩ := AllB.at h.2 (i := i) (by simpa using hi)
    exact ⟨y, t, by simpa using e, hy⟩
theorem item_T {prog : Program} {w : World} {A : Around} {E : Value → Shared → Prop} {s : Shared} {a : Addr} {ys : List Value} {n : Nat} {k : Int} {u : Tok} {B : Nat} {value slice : Expr} {Q : Value → Shared → Prop} (hl : s.heap.get? a = some (W.listOf ys.toArray n)) (hi : AllB B ys) (h0 : 0 ≤ k) (h1 : k < ys.length) (h2 : ys.length < 1000)
    (h : ∀ y t, y.length ≤ B → Q (.str y t) s)
    (hs : subscripted slice false (.ref a) (.int k u) = operate [.ref a, .int k u] (getItem (.ref a) (.int k u)) := by with_unfolding_all rfl) :
    wpAny (model prog w) A (subscriptTail value slice (.ref a) (.int k u)) Q E s := by
  obtain ⟨y, t, e, hy⟩ := hi.at (i := k.toNat) (by omega)
  exact item_L hl h0 (by omega) (by simpa using e) (h y t hy) hs
theorem ints_at {vs : List Value} {ns : List Int} (h : IntsAre vs ns) : ∀ {i : Nat} {v : Value}, vs[i]? = some v → ∃ n t, v = .int n t := by
  induction h with
  | nil => intro i v e; simp at e
  | cons n t _ ih =>
    intro i v e
    cases i with
    | zero => simp at e; exact ⟨_, _, e.symm⟩
    | succ i => exact ih (by simpa using e)
theorem ints_len {vs : List Value} {ns : List Int} (h : IntsAre vs ns) : vs.length = ns.length := by
  induction h with
  | nil => rfl
  | cons n t _ ih => simp [ih]
theorem turn_next {h₀ h h' : Heap} {L : Addr} {own : Addr × Obj} {as : List Addr} {P : (Str → Option Value) → List (Addr × Obj) → Nat → Prop} {R : Result → Shared → Prop} {g : Array GenState} {dr : Drawn} {os : OsState} {tk tk' : Nat} {m' : Str → Option Value} {news' all : List (Addr × Obj)}
    (F : Fr h₀ L h' m') (N : News h₀ L h' all) (hs : ∀ p ∈ own :: news', p ∈ all) (ha : news'.map (·.1) = as) (hP : P m' news' tk') : TurnL h₀ L own as P R ⟨h, g, dr, tk, os⟩ .next ⟨h', g, dr, tk', os⟩ :=
  ⟨h', tk', m', news', rfl, F, fun p hp => N p (hs p hp), ha, hP⟩
theorem chr_len {y : Str} {c : Nat} (h : y.length + (⟨#[c]⟩ : Str).length ≤ (y ++ ⟨#[c]⟩).length ∧ (y ++ ⟨#[c]⟩).length ≤ y.length + (⟨#[c]⟩ : Str).length) (hy : (y.length : Int) < 14) : (y ++ ⟨#[c]⟩).length ≤ 22 := by
  have e : (⟨#[c]⟩ : Str).length = 1 := rfl
  omega
theorem range_size (n : Nat) : Builtin.Range.rangeSize 0 (n : Int) 1 = n := by
  unfold Builtin.Range.rangeSize
  simp only [show (1 : Int) > 0 from by decide, if_true]
  split <;> omega
theorem range_small {n : Nat} (h : n ≤ 100000) : Builtin.Range.small 0 (n : Int) 1 = true := by
  unfold Builtin.Range.small
  rw [range_size]
  have f : ∀ i : Int, 0 ≤ i → i ≤ 100001 → Builtin.Range.rangeFitsLong i = true := fun i h0 h1 => by
    unfold Builtin.Range.rangeFitsLong
    rw [Bool.and_eq_true]
    exact ⟨decide_eq_true (by omega), decide_eq_true (by omega)⟩
  rw [f 0 (by omega) (by omega), f n (by omega) (by omega), f 1 (by omega) (by omega)]
  simp only [show (1 : Int) > 0 from by decide, if_true, f ((n : Int) + (1 - 1)) (by omega) (by omega)]
  simp
/-- a comprehension over range(n) -/
theorem iter_range {prog : Program} {w : World} {A : Around} {E : Value → Shared → Prop} {s : Shared} {r : Addr} {n : Nat} {t u v : Tok} {Q : Value → Shared → Prop} (hr : IsRange s.heap r 0 (n : Int) 1 t u v) (hn : n ≤ 100000)
    (h : ∀ o, (s.heap.push o).get? s.heap.objs.size = some o → IsRangeIter (s.heap.push o) s.heap.objs.size (0 + ((0 : Nat) : Int) * 1) ((n : Int) - ((0 : Nat) : Int)) 1 → Q (.ref s.heap.objs.size) { s with heap := s.heap.push o }) :
    wpAny (model prog w) A (pyIter (.ref r)) Q E s := by
  refine wpAny_pyIter_range hr (range_small hn) (h _ (Heap.get?_push_size _ rfl) ?_)
  rw [range_size]
  have e : (n : Int) - ((0 : Nat) : Int) = n := by omega
  rw [e]
  exact Heap.get?_push_size _ rfl
theorem AllB.of_paired {B : Nat} {vs ys : List Value} (h : Paired (fun _ y => ∃ s t, y = Value.str s t ∧ s.length ≤ B) vs ys) : AllB B ys := by
  induction h with
  | nil => trivial
  | cons h _ ih => exact ⟨h, ih⟩
theorem AllB.app {B : Nat} : ∀ {l r : List Value}, AllB B l → AllB B r → AllB B (l ++ r)
  | [], _, _, h => h
  | _ :: _, _, h, h' => ⟨h.1, AllB.app h.2 h'⟩
end Mine

open PySem PySem.W PyProof.Rows PySem.Calls
set_option Elab.async false
set_option maxRecDepth 100000
namespace Mine

def nameAt (l : List Nat) : Option (Str × Str) := namesT.find? fun p => p.1.cps.toList.isPrefixOf l
abbrev Rd := List Str × List Str × List Str
def readS : Nat → List Nat → Option Rd
  | _, [] => some ([], [], [])
  | k + 1, _ :: l => readS k l
  | 0, c :: l => if c = 38 then (match nameAt (c :: l) with
      | none => none
      | some p => (readS (p.1.length - 1) l).map fun q => (q.1, p.1 :: q.2.1, p.2 :: q.2.2))
    else (readS 0 l).map fun q => (⟨#[c]⟩ :: q.1, q.2.1, ⟨#[c]⟩ :: q.2.2)
def RI (X : List Nat) (i : Nat) (b r s : List Str) : Prop := i ≤ X.length ∧ readS 0 X = (readS 0 (X.drop i)).map fun q => (b ++ q.1, r ++ q.2.1, s ++ q.2.2)

theorem readS_skip : ∀ (k : Nat) (l : List Nat), readS k l = readS 0 (l.drop k)
  | 0, _ => rfl
  | k + 1, [] => by simp [readS]
  | k + 1, c :: l => by rw [readS, List.drop_succ_cons]; exact readS_skip k l
theorem RI.start (X : List Nat) : RI X 0 [] [] [] := ⟨Nat.zero_le _, by
  rw [List.drop_zero]
  cases readS 0 X <;> rfl⟩
theorem RI.bare {X : List Nat} {i : Nat} {b r s : List Str} {c : Nat} (h : RI X i b r s) (hc : X[i]? = some c) (h38 : c ≠ 38) : RI X (i + 1) (b ++ [⟨#[c]⟩]) r (s ++ [⟨#[c]⟩]) := by
  have hlt : i < X.length := (List.getElem?_eq_some_iff.mp hc).1
  refine ⟨hlt, ?_⟩
  have e : X.drop i = c :: X.drop (i + 1) := by
    rw [List.drop_eq_getElem_cons hlt]
    rw [List.getElem?_eq_getElem hlt] at hc
    rw [Option.some.inj hc]
  rw [h.2, e, readS, if_neg h38]
  cases readS 0 (X.drop (i + 1)) with
  | none => rfl
  | some q => simp
theorem RI.none {X : List Nat} {i : Nat} {b r s : List Str} (h : RI X i b r s) (hc : X[i]? = some 38) (hn : nameAt (X.drop i) = none) : readS 0 X = none := by
  have hlt : i < X.length := (List.getElem?_eq_some_iff.mp hc).1
  have e : X.drop i = 38 :: X.drop (i + 1) := by
    rw [List.drop_eq_getElem_cons hlt]
    rw [List.getElem?_eq_getElem hlt] at hc
    rw [Option.some.inj hc]
  rw [e] at hn
  rw [h.2, e, readS, if_pos rfl, hn]
  rfl
theorem RI.ref {X : List Nat} {i : Nat} {b r s : List Str} {p : Str × Str} (h : RI X i b r s) (hc : X[i]? = some 38) (hn : nameAt (X.drop i) = some p) : RI X (i + p.1.length) b (r ++ [p.1]) (s ++ [p.2]) := by
  have hlt : i < X.length := (List.getElem?_eq_some_iff.mp hc).1
  have e : X.drop i = 38 :: X.drop (i + 1) := by
    rw [List.drop_eq_getElem_cons hlt]
    rw [List.getElem?_eq_getElem hlt] at hc
    rw [Option.some.inj hc]
  have hp : p.1.cps.toList.isPrefixOf (X.drop i) = true := List.find?_some (p := fun p : Str × Str => p.1.cps.toList.isPrefixOf (X.drop i)) hn
  have hmem := List.mem_of_find?_eq_some hn
  have hpos : 1 ≤ p.1.length := by
    have : ∀ q ∈ namesT, 1 ≤ q.1.length := by decide +kernel
    exact this p hmem
  have hle : p.1.length ≤ (X.drop i).length := by
    have := (List.isPrefixOf_iff_prefix.mp hp).length_le
    have e2 : p.1.cps.toList.length = p.1.length := by simp [Str.length]
    omega
  rw [List.length_drop] at hle
  refine ⟨by omega, ?_⟩
  rw [h.2, e, readS, if_pos rfl]
  rw [e] at hn
  rw [hn]
  dsimp only
  rw [readS_skip, List.drop_drop]
  have e3 : i + 1 + (p.1.length - 1) = i + p.1.length := by omega
  rw [e3]
  cases readS 0 (X.drop (i + p.1.length)) with
  | none => rfl
  | some q => simp
theorem RI.done {X : List Nat} {i : Nat} {b r s : List Str} (h : RI X i b r s) (hi : ¬ i < X.length) : readS 0 X = some (b, r, s) := by
  have : X.drop i = [] := List.drop_eq_nil_of_le (by omega)
  rw [h.2, this]
  simp [readS]

def hereL (l : List Nat) : List Str := (namesT.map (·.1)).filter fun k => k.cps.toList.isPrefixOf l
theorem filter_find {α β : Type} (f : α → β) (q : β → Bool) : ∀ l : List α, ((l.map f).filter q = [] ↔ l.find? (fun a => q (f a)) = none) ∧ ∀ a, l.find? (fun a => q (f a)) = some a → ((l.map f).filter q)[0]? = some (f a)
  | [] => by simp
  | a :: r => by
    have ih := filter_find f q r
    rw [List.map_cons, List.filter_cons, List.find?_cons]
    cases h : q (f a) with
    | true => simp
    | false => simpa using ih
theorem here_none {l : List Nat} : hereL l = [] ↔ nameAt l = none := (filter_find (fun p : Str × Str => p.1) (fun k => k.cps.toList.isPrefixOf l) namesT).1
theorem here_some {l : List Nat} {p : Str × Str} (h : nameAt l = some p) : (hereL l)[0]? = some p.1 := (filter_find (fun p : Str × Str => p.1) (fun k => k.cps.toList.isPrefixOf l) namesT).2 p h

theorem nameAt_mem {l : List Nat} {p : Str × Str} (h : nameAt l = some p) : p ∈ namesT := List.mem_of_find?_eq_some h
theorem names_lookup {l : List Nat} {p : Str × Str} (h : nameAt l = some p) (tk : Nat) : PySem.Spec.lookup (.str p.1) ((constEnts tk namesT).map fun e => (PyData.str e.k, PyData.str e.v)) = some (.str p.2) := by
  rw [lookup_E, find_const]
  have h2 : ∀ q ∈ namesT, (namesT.find? fun r => decide (r.1 = q.1)) = some q := by decide +kernel
  rw [h2 p (nameAt_mem h)]
  rfl
end Mine

open PySem PySem.W PyProof.Rows PySem.Calls
set_option Elab.async false
set_option maxRecDepth 100000
set_option maxHeartbeats 8000000
namespace Mine
open PySem.Challenge

section
variable {w : World} {p : Program} {loose : List Str} {mg mb : Str → Option Value} {dp un : Nat} {fr : Option (List Env)} {gd : Option (List Code)}
  {h₀ : Heap} {g : Array GenState} {dr : Drawn} {tk : Nat} {os : OsState} {Q E : Value → Shared → Prop}

local macro_rules | `(tactic| k_call_by "enter" $b) => `(tactic| (refine' enter_plain (binds := $b) ?X ?T ?k6 ?k7 ?k8 ?k9 ?kB ?_ ?c2 ?c3 ?c4 ?c5; (case X => assumption); (case T => assumption); (case k6 => k_is); (case k7 => k_is); (case k8 => (show dp < recursionLimit; omega)); (case k9 => first | exact BindsTo.of_eq rfl | exact binds_K (by assumption) rfl (by k_is) rfl rfl rfl | (refine' binds_two ?hh ?hb ?hc; (case hh => assumption); (case hb => exact binds_K (by assumption) rfl (by k_is) rfl rfl rfl); (case hc => intro e; subst e; exact binds_K (by assumption) rfl (by k_is) rfl rfl rfl))); (case kB => exact locs rfl); (case c2 => exact rfl); (case c3 => exact rfl); (case c4 => exact rfl); (case c5 => decide)))
local macro_rules | `(tactic| walk_at "getMethod ref") => `(tactic| (k_here; (with_reducible show wpAny _ _ (getMethod (Value.ref _) (Str.ofString "items") _) _ _ _); refine' method_E ?k1 (by assumption) PySem.F.slot_dict_items PySem.F.type_dict_items ?_; (case k1 => exact Fr.keep (by assumption) _ _ (by assumption))))
local macro_rules | `(tactic| walk_at "eval Name") => `(tactic| (k_here; k_dflt (refine' nameX_L ?F ?v ?_ ?a ?b; (case a => rfl); (case b => rfl); (case F => k_asm); (case v => assumption); k_whole)))

theorem booked (X : (hd.heap_39 w.params).In h₀) (T : TopRead p loose mg mb h₀) : NoneBooked h₀ := noneBooked_of X T rfl

theorem dict_replace_spec (X : (hd.heap_39 w.params).In h₀) (T : TopRead p loose mg mb h₀) (hdp : dp + 1 < recursionLimit) (hun : un + 40 < cLine) (htk : 1 ≤ tk) {x : Str} {t : Tok} {d : Addr} {es : List Ent} {ep : Nat}
    (hd : h₀.get? d = some (dictO w es ep)) (hdn : (es.map Ent.k).Nodup) (hds : (d == sysModules) = false) (hes : Sound es) (hf : Fits x (txt es))
    (hQ : ∀ t' h' tk', (∀ b o, h₀.get? b = some o → h'.get? b = some o) → Q (.str (repl x (txt es)) t') ⟨h', g, dr, tk', os⟩) :
    wpAny (model rw_in0094_01.row.prog w) (ar dp un fr gd) (call (.ref 21) [.str x t, .ref d]) Q E ⟨h₀, g, dr, tk, os⟩ := by
  revert X
  k_fill
  intro X
  refine wpAny_call ?_
  k_call_by "enter" [(Str.ofString "s", Value.str x t), (Str.ofString "d", Value.ref d)]
  intro L h₁ F N
  have htk2 : 1 ≤ tk + 2 := by omega
  refine gen_toks htk2 fun tk htk => ?_
  k_steps
  refine wpAny_For ?_ (by intro _; rfl)
  repeat' ((fail_if_success (with_reducible show wpAny _ _ (call _ _) _ _ _)); walk1)
  refine view_E (F.keep _ _ hd) hdn hds ?_
  have F2 := F.push { cls := .type "dict_items", data := .fields #[.ref d] }
  have hv : (h₁.push { cls := .type "dict_items", data := .fields #[.ref d] }).IsItemsView h₁.objs.size d := ⟨_, Heap.get?_push_size _ rfl, rfl, rfl⟩
  refine iter_items_E hv (F2.keep _ _ hd) hdn ?_
  dsimp only
  have hx0 : (fun y => List.lookup y [(Str.ofString "s", Value.str x t), (Str.ofString "d", Value.ref d)].reverse) (Str.ofString "s") = some (Value.str x t) := rfl
  refine forLoop_items_E (h₀ := h₀) (news := []) rfl rfl rfl rfl (Heap.get?_push_size _ rfl) (next_is_new F2) (Nat.ne_of_gt F2.ns.lt) (fun _ hp => nomatch hp) hd hdn (F2.push _) News.nil htk
    (fun i m => ∃ t, m (Str.ofString "s") = some (.str (repl x (txt (es.take i))) t)) ⟨t, hx0⟩ ?_ ?_
  · rintro i hi m₁ h tk own ⟨t1, hs⟩ htk F N
    k_steps
    obtain ⟨a1, a2, a3⟩ := hes es[i] (List.getElem_mem hi)
    refine replaceK htk a1 a2 a3 (hf.at hi) (booked (X.keeps F.keep) (T.keeps F.keep)) fun t' k hk => ?_
    rw [← repl_take_succ hi]
    k_steps
    rename Fr _ _ _ _ => F'
    rename News _ _ _ _ => N'
    exact ⟨_, _, _, rfl, F', N', ⟨t', rfl⟩⟩
  · rintro h' tk m' F N ⟨t1, hs⟩
    rw [List.take_length] at hs
    k_steps
    exact hQ _ _ _ F.keep


theorem dict_replace_t (X : (hd.heap_39 w.params).In h₀) (T : TopRead p loose mg mb h₀) (hdp : dp + 1 < recursionLimit) (hun : un + 40 < cLine) (htk : 1 ≤ tk) {x : Str} {t : Tok} {d : Addr} {es : List Ent} {ep : Nat}
    (hd : h₀.get? d = some (dictO w es ep)) (hdn : (es.map Ent.k).Nodup) (hds : (d == sysModules) = false) (hes : Sound es) (hf : Fits x (txt es))
    (hQ : ∀ t' h' tk', 1 ≤ tk' → (∀ b o, h₀.get? b = some o → h'.get? b = some o) → Q (.str (repl x (txt es)) t') ⟨h', g, dr, tk', os⟩) :
    wpAny (model rw_in0094_01.row.prog w) (ar dp un fr gd) (call (.ref 21) [.str x t, .ref d]) Q E ⟨h₀, g, dr, tk, os⟩ :=
  wpAny_with_toks (n := 1) htk (dict_replace_spec X T hdp hun htk hd hdn hds hes hf fun t' h' tk' hk q => hQ t' h' tk' q hk)

local macro_rules | `(tactic| walk_at "call builtin:str.replace") => `(tactic| (k_here; (with_reducible show wpAny _ _ (call (Value.builtin "str.replace") [Value.str _ _, Value.str _ _, Value.str _ _]) _ _ _); refine' replaceK ?k1 ?k2 ?k3 ?k4 ?k5 ?k6 ?_; (case k1 => omega); (case k2 => (show @Ne Nat _ _; omega)); (case k3 => (show @Ne Nat _ _; omega)); (case k4 => (intro q; exact absurd q (by show ¬ (@Eq Nat _ _); omega))); (case k5 => exact size_ok (by first | assumption | exact Nat.le_trans (by assumption) (Nat.le_of_ble_eq_true rfl)) (by decide +kernel)); (case k6 => exact booked (Frag.In.keeps (by assumption) (Fr.keep (by assumption))) (TopRead.keeps (by assumption) (Fr.keep (by assumption)))); intro t' k' hk'))
local macro_rules | `(tactic| walk_at "execs nil") => `(tactic| (k_here; refine' gen_toks ?k1 ?_; (case k1 => omega); intro tk' htk'; refine wpAny_execs_nil ?_))
local macro_rules | `(tactic| walk_at "execs cons") => `(tactic| (k_here; refine' gen_toks ?k1 ?_; (case k1 => omega); intro tk' htk'; refine wpAny_execs_cons ?_))

local macro_rules | `(tactic| walk_at "truthy ref") => `(tactic| (k_here; (with_reducible show wpAny _ _ (truthy (Value.ref _)) _ _ _); refine' truthy_E ?k1 ?k2 ?k3 ?k4 (fun hE' => ?_) (fun hE' => ?_); (case k1 => exact Fr.keep (by assumption) _ _ (by assumption)); (case k2 => assumption); (case k3 => assumption); (case k4 => assumption)))
local macro_rules | `(tactic| walk_at "call ref") => `(tactic| (k_here; (with_reducible show wpAny _ _ (call (Value.ref 21) [Value.str _ _, Value.ref _]) _ _ _); refine' dict_replace_t ?X ?T ?k1 ?k2 ?k3 ?k4 ?k5 ?k6 ?k7 ?k8 ?_; (case X => exact Frag.In.keeps (by assumption) (Fr.keep (by assumption))); (case T => exact TopRead.keeps (by assumption) (Fr.keep (by assumption))); (case k1 => (show dp + 1 + 1 < recursionLimit; omega)); (case k2 => (show un + 3 + 40 < cLine; omega)); (case k3 => omega); (case k4 => exact Fr.keep (by assumption) _ _ (by assumption)); (case k5 => assumption); (case k6 => assumption); (case k7 => assumption); (case k8 => assumption); intro t' h' tk' htk' hk'; (rename Fr _ _ _ _ => kF'); (rename News _ _ _ _ => kN'); (have kF9 := fr_up kF' hk'); (have kN9 := news_up kN' hk'); clear kF' kN' hk'))

theorem escape_spec (X : (hd.heap_39 w.params).In h₀) (T : TopRead p loose mg mb h₀) (hdp : dp + 2 < recursionLimit) (hun : un + 50 < cLine) (htk : 1 ≤ tk) {x : Str} {t : Tok} {d : Addr} {es : List Ent} {ep : Nat} {args : List Value} (hargs : args = [.str x t, .ref d] ∨ (args = [.str x t] ∧ d = 22))
    (hd : h₀.get? d = some (dictO w es ep)) (hdn : (es.map Ent.k).Nodup) (hdl : es.length ≤ 1000) (hds : (d == sysModules) = false) (hes : Sound es) (hx : x.length ≤ 1000) (hf : Fits (esc3 x) (txt es))
    (hQ : ∀ t' h' tk', (∀ b o, h₀.get? b = some o → h'.get? b = some o) → Q (.str (repl (esc3 x) (txt es)) t') ⟨h', g, dr, tk', os⟩) :
    wpAny (model rw_in0094_01.row.prog w) (ar dp un fr gd) (call (.ref 30) args) Q E ⟨h₀, g, dr, tk, os⟩ := by
  have hx1 : (Txt.replace x (Str.ofString "&") (Str.ofString "&amp;")).length ≤ 10000 := replace_len_le hx (b := 5) (by decide +kernel) (by omega)
  have hx2 : (Txt.replace (Txt.replace x (Str.ofString "&") (Str.ofString "&amp;")) (Str.ofString ">") (Str.ofString "&gt;")).length ≤ 100000 := replace_len_le hx1 (b := 4) (by decide +kernel) (by omega)
  revert X
  k_fill
  intro X
  refine wpAny_call ?_
  k_call_by "enter" [(Str.ofString "data", Value.str x t), (Str.ofString "entities", Value.ref d)]
  intro L h₁ F N
  dsimp only [List.length_cons, List.length_nil]
  k_steps
  · rename (es = []) => hE
    subst hE
    exact hQ _ _ _ (Fr.keep (by assumption))
  · exact hQ _ _ _ (Fr.keep (by assumption))

theorem unescape_spec (X : (hd.heap_39 w.params).In h₀) (T : TopRead p loose mg mb h₀) (hdp : dp + 2 < recursionLimit) (hun : un + 50 < cLine) (htk : 1 ≤ tk) {x : Str} {t : Tok} {d : Addr} {es : List Ent} {ep : Nat} {args : List Value} (hargs : args = [.str x t, .ref d] ∨ (args = [.str x t] ∧ d = 31))
    (hd : h₀.get? d = some (dictO w es ep)) (hdn : (es.map Ent.k).Nodup) (hdl : es.length ≤ 1000) (hds : (d == sysModules) = false) (hes : Sound es) (hx : x.length ≤ 1000) (hf : Fits (une2 x) (txt es)) (hf2 : (repl (une2 x) (txt es)).length ≤ 1000000)
    (hQ : ∀ t' h' tk', (∀ b o, h₀.get? b = some o → h'.get? b = some o) → Q (.str (Txt.replace (repl (une2 x) (txt es)) (Str.ofString "&amp;") (Str.ofString "&")) t') ⟨h', g, dr, tk', os⟩) :
    wpAny (model rw_in0094_01.row.prog w) (ar dp un fr gd) (call (.ref 39) args) Q E ⟨h₀, g, dr, tk, os⟩ := by
  have hx1 : (Txt.replace x (Str.ofString "&lt;") (Str.ofString "<")).length ≤ 10000 := replace_len_le hx (b := 1) (by decide +kernel) (by omega)
  have hx2 : (Txt.replace (Txt.replace x (Str.ofString "&lt;") (Str.ofString "<")) (Str.ofString "&gt;") (Str.ofString ">")).length ≤ 1000000 := replace_len_le hx1 (b := 1) (by decide +kernel) (by omega)
  revert X
  k_fill
  intro X
  refine wpAny_call ?_
  k_call_by "enter" [(Str.ofString "data", Value.str x t), (Str.ofString "entities", Value.ref d)]
  intro L h₁ F N
  dsimp only [List.length_cons, List.length_nil]
  k_steps
  · rename (es = []) => hE
    subst hE
    exact hQ _ _ _ (Fr.keep (by assumption))
  · exact hQ _ _ _ (Fr.keep (by assumption))

abbrev qtab (l : List (Str × Str)) : List (Str × Str) := mergeT (mergeT [] l) (mergeT [] whites)
theorem escape_t (X : (hd.heap_39 w.params).In h₀) (T : TopRead p loose mg mb h₀) (hdp : dp + 2 < recursionLimit) (hun : un + 50 < cLine) (htk : 1 ≤ tk) {x : Str} {t : Tok} {d : Addr} {es : List Ent} {ep : Nat} {args : List Value} (hargs : args = [.str x t, .ref d] ∨ (args = [.str x t] ∧ d = 22))
    (hd : h₀.get? d = some (dictO w es ep)) (hdn : (es.map Ent.k).Nodup) (hdl : es.length ≤ 1000) (hds : (d == sysModules) = false) (hes : Sound es) (hx : x.length ≤ 1000) (hf : Fits (esc3 x) (txt es))
    (hQ : ∀ t' h' tk', 1 ≤ tk' → (∀ b o, h₀.get? b = some o → h'.get? b = some o) → Q (.str (repl (esc3 x) (txt es)) t') ⟨h', g, dr, tk', os⟩) :
    wpAny (model rw_in0094_01.row.prog w) (ar dp un fr gd) (call (.ref 30) args) Q E ⟨h₀, g, dr, tk, os⟩ :=
  wpAny_with_toks (n := 1) htk (escape_spec X T hdp hun htk hargs hd hdn hdl hds hes hx hf fun t' h' tk' hk q => hQ t' h' tk' q hk)
local macro_rules | `(tactic| walk_at "call ref") => `(tactic| (k_here; (with_reducible show wpAny _ _ (call (Value.ref 30) _) _ _ _); refine' escape_t ?X ?T ?k1 ?k2 ?k3 ?ka ?k4 ?k5 ?k5b ?k6 ?k7 ?k7b ?k8 ?_; (case X => exact Frag.In.keeps (by assumption) (Fr.keep (by assumption))); (case T => exact TopRead.keeps (by assumption) (Fr.keep (by assumption))); (case k1 => (show dp + 1 + 2 < recursionLimit; omega)); (case k2 => (show un + 3 + 50 < cLine; omega)); (case k3 => omega); (case ka => first | exact Or.inl rfl | exact Or.inr ⟨rfl, rfl⟩); (case k4 => first | exact Frag.In.keeps (by assumption) (Fr.keep (by assumption)) 22 _ rfl | exact Fr.keep (by assumption) _ _ (by assumption) | exact News.get (by assumption) (List.mem_cons_self ..)); (case k5 => assumption); (case k5b => assumption); (case k6 => assumption); (case k7 => assumption); (case k7b => assumption); (case k8 => assumption); intro t' h' tk' htk' hk'; (rename Fr _ _ _ _ => kF'); (rename News _ _ _ _ => kN'); (have kF9 := fr_up kF' hk'); (have kN9 := news_up kN' hk'); clear kF' kN' hk'))

local macro_rules | `(tactic| walk_at "binaryOp Mod str str") => `(tactic| (k_here; (first | ((with_reducible show wpAny _ _ (binaryOp Operator.Mod (Value.str (Str.ofString "\"%s\"") _) (Value.str _ _)) _ _ _); refine' percent_dq ?k1 ?k2 ?_) | ((with_reducible show wpAny _ _ (binaryOp Operator.Mod (Value.str (Str.ofString "'%s'") _) (Value.str _ _)) _ _ _); refine' percent_sq ?k1 ?k2 ?_)); (case k1 => omega); (case k2 => first | assumption | exact Nat.le_trans (by assumption) (Nat.le_of_ble_eq_true rfl)); intro t' k' hk'))
theorem quoteattr_spec (X : (hd.heap_39 w.params).In h₀) (T : TopRead p loose mg mb h₀) (hdp : dp + 3 < recursionLimit) (hun : un + 60 < cLine) (htk : 1 ≤ tk) {x : Str} {t : Tok} {d : Addr} {es : List Ent} {ep : Nat} {args : List Value} (hargs : args = [.str x t, .ref d] ∨ (args = [.str x t] ∧ d = 40))
    (hd : h₀.get? d = some (dictO w es ep)) (hdn : (es.map Ent.k).Nodup) (hdl : es.length ≤ 900) (hds : (d == sysModules) = false) (hes : Sound es) (hlt : ∀ e ∈ es, e.kt < tk ∧ e.vt < tk) (hx : x.length ≤ 1000)
    (hf : Fits (esc3 x) (qtab (txt es))) (hf2 : (repl (esc3 x) (qtab (txt es))).length ≤ 2295000)
    (hQ : ∀ t' h' tk', (∀ b o, h₀.get? b = some o → h'.get? b = some o) → Q (.str (quoted (repl (esc3 x) (qtab (txt es)))) t') ⟨h', g, dr, tk', os⟩) :
    wpAny (model rw_in0094_01.row.prog w) (ar dp un fr gd) (call (.ref 48) args) Q E ⟨h₀, g, dr, tk, os⟩ := by
  revert X
  k_fill
  intro X
  refine wpAny_call ?_
  k_call_by "enter" [(Str.ofString "data", Value.str x t), (Str.ofString "entities", Value.ref d)]
  intro L h₁ F N
  dsimp only [List.length_cons, List.length_nil]
  refine wpAny_execs_cons ?_
  repeat' ((fail_if_success (with_reducible show wpAny _ _ (eval (Expr.Dict _ _ _) _) _ _ _)); walk1)
  have hbig : sysModules < h₁.objs.size := Nat.lt_trans (by decide : sysModules < 2) (Nat.lt_of_lt_of_le (Heap.lt_size (X 2 _ rfl)) (Nat.le_trans F.above (Nat.le_of_lt F.ns.lt)))
  refine Spread_E (a := d) (es := es) (ep := ep) (kvs := whites) (by simp only [arm_evalEachOpt_cons, arm_evalEachOpt_nil, arm_evalOpt_some, arm_eval_Constant, constValue, whites, List.map]) (by simp only [arm_evalEach_cons, arm_evalEach_nil, arm_eval_Constant, constValue, whites, List.map]) (List.cons_ne_nil _ _) (Nat.le_of_ble_eq_true rfl) (fun Q' hq => ?_) (F.keep _ _ hd) hds hbig hdl ?_
  · refine nameX_L (F.push _) rfl hq rfl rfl
  intro D h₂ ep₂ tk₂ tk₃ hD hDa ht2 ht3 hk
  have hq1 : txt (mergeE (mergeE [] es) (mergeE [] (constEnts tk₂ whites))) = qtab (txt es) := by
    rw [txt_merge, txt_merge, txt_merge, txt_const]
    rfl
  have hq2 : Sound (mergeE (mergeE [] es) (mergeE [] (constEnts tk₂ whites))) := by
    rw [merge_nil hdn, merge_nil (es := constEnts tk₂ whites) (by rw [const_keys]; decide +kernel)]
    exact sound_merge hes hlt htk (by dsimp only at ht2; omega)
  have hq3 : ((mergeE (mergeE [] es) (mergeE [] (constEnts tk₂ whites))).map Ent.k).Nodup := merge_nodup (merge_nodup List.nodup_nil)
  have hq4 : (mergeE (mergeE [] es) (mergeE [] (constEnts tk₂ whites))).length ≤ 1000 := by
    have e1 := mergeE_length (mergeE [] (constEnts tk₂ whites)) (mergeE [] es)
    have e2 := mergeE_length (constEnts tk₂ whites) []
    have e3 := mergeE_length es []
    rw [constEnts_length] at e2
    have e4 : whites.length = 3 := rfl
    rw [e4] at e2
    simp only [List.length_nil] at e2 e3
    omega
  generalize mergeE (mergeE [] es) (mergeE [] (constEnts tk₂ whites)) = es' at hD hq1 hq2 hq3 hq4
  rw [← hq1] at hf hf2 hQ
  have hLD : L < D := Nat.lt_of_lt_of_le F.ns.lt hDa
  have hDs : (D == sysModules) = false := beq_false_of_ne (Nat.ne_of_gt (Nat.lt_of_lt_of_le hbig hDa))
  have F2 := fr_up F hk
  have N2 : News h₀ L h₂ [(D, dictO w es' ep₂)] := by
    intro q hq
    rw [List.mem_singleton.mp hq]
    refine ⟨hD, Nat.ne_of_gt hLD, ?_⟩
    cases e : h₀.get? D with
    | none => rfl
    | some o => exact absurd (Nat.lt_of_lt_of_le (Heap.lt_size e) F.above) (Nat.not_lt.mpr (Nat.le_of_lt hLD))
  dsimp only at ht2
  have htk₃ : 1 ≤ tk₃ := by omega
  clear N F hk hD hd hes hlt hdn hds
  have hf3 : (Txt.replace (repl (esc3 x) (txt es')) dq (Str.ofString "&quot;")).length ≤ 16070000 := replace_len_le hf2 (b := 6) (by decide +kernel) (by omega)
  k_steps
  · rw [quoted_1 (b := repl (esc3 x) (txt es')) (by assumption)] at hQ
    exact hQ _ _ _ (Fr.keep (by assumption))
  · rw [quoted_2 (b := repl (esc3 x) (txt es')) (by assumption) (by assumption)] at hQ
    exact hQ _ _ _ (Fr.keep (by assumption))
  · rw [quoted_3 (b := repl (esc3 x) (txt es')) (by assumption) (by assumption)] at hQ
    exact hQ _ _ _ (Fr.keep (by assumption))

theorem quoteattr_t (X : (hd.heap_39 w.params).In h₀) (T : TopRead p loose mg mb h₀) (hdp : dp + 3 < recursionLimit) (hun : un + 60 < cLine) (htk : 1 ≤ tk) {x : Str} {t : Tok} {d : Addr} {es : List Ent} {ep : Nat} {args : List Value} (hargs : args = [.str x t, .ref d] ∨ (args = [.str x t] ∧ d = 40))
    (hd : h₀.get? d = some (dictO w es ep)) (hdn : (es.map Ent.k).Nodup) (hdl : es.length ≤ 900) (hds : (d == sysModules) = false) (hes : Sound es) (hlt : ∀ e ∈ es, e.kt < tk ∧ e.vt < tk) (hx : x.length ≤ 1000)
    (hf : Fits (esc3 x) (qtab (txt es))) (hf2 : (repl (esc3 x) (qtab (txt es))).length ≤ 2295000)
    (hQ : ∀ t' h' tk', tk ≤ tk' → (∀ b o, h₀.get? b = some o → h'.get? b = some o) → Q (.str (quoted (repl (esc3 x) (qtab (txt es)))) t') ⟨h', g, dr, tk', os⟩) :
    wpAny (model rw_in0094_01.row.prog w) (ar dp un fr gd) (call (.ref 48) args) Q E ⟨h₀, g, dr, tk, os⟩ :=
  wpAny_with_toks (n := tk) (Nat.le_refl _) (quoteattr_spec X T hdp hun htk hargs hd hdn hdl hds hes hlt hx hf hf2 fun t' h' tk' hk q => hQ t' h' tk' q hk)
theorem unescape_t (X : (hd.heap_39 w.params).In h₀) (T : TopRead p loose mg mb h₀) (hdp : dp + 2 < recursionLimit) (hun : un + 50 < cLine) (htk : 1 ≤ tk) {x : Str} {t : Tok} {d : Addr} {es : List Ent} {ep : Nat} {args : List Value} (hargs : args = [.str x t, .ref d] ∨ (args = [.str x t] ∧ d = 31))
    (hd : h₀.get? d = some (dictO w es ep)) (hdn : (es.map Ent.k).Nodup) (hdl : es.length ≤ 1000) (hds : (d == sysModules) = false) (hes : Sound es) (hx : x.length ≤ 1000) (hf : Fits (une2 x) (txt es)) (hf2 : (repl (une2 x) (txt es)).length ≤ 1000000)
    (hQ : ∀ t' h' tk', tk ≤ tk' → (∀ b o, h₀.get? b = some o → h'.get? b = some o) → Q (.str (Txt.replace (repl (une2 x) (txt es)) (Str.ofString "&amp;") (Str.ofString "&")) t') ⟨h', g, dr, tk', os⟩) :
    wpAny (model rw_in0094_01.row.prog w) (ar dp un fr gd) (call (.ref 39) args) Q E ⟨h₀, g, dr, tk, os⟩ :=
  wpAny_with_toks (n := tk) (Nat.le_refl _) (unescape_spec X T hdp hun htk hargs hd hdn hdl hds hes hx hf hf2 fun t' h' tk' hk q => hQ t' h' tk' q hk)
end
end Mine

open PySem PySem.W PyProof.Rows PySem.Calls
set_option Elab.async false
set_option maxRecDepth 100000
namespace Mine
open PySem.StrLaws PySem.Builtin.Str

/-- the left-to-right scan that lays v wherever k stands -/
def rep (k v : List Nat) : Nat → List Nat → List Nat
  | _, [] => []
  | n + 1, _ :: l => rep k v n l
  | 0, c :: l => if k.isPrefixOf (c :: l) = true then v ++ rep k v (k.length - 1) l else c :: rep k v 0 l

theorem rep_skip (k v : List Nat) : ∀ (n : Nat) (l : List Nat), rep k v n l = rep k v 0 (l.drop n)
  | 0, _ => rfl
  | n + 1, [] => by simp [rep]
  | n + 1, c :: l => by rw [rep, List.drop_succ_cons]; exact rep_skip k v n l

theorem len_cps (x : Str) : x.cps.toList.length = x.length := by simp [Str.length]
theorem str_ext {x y : Str} (h : x.cps.toList = y.cps.toList) : x = y := Str.ext' (Array.toList_inj.mp h)

theorem at_iff {x y : Str} (hy : 1 ≤ y.length) (i : Nat) : At x y x.length i ↔ y.cps.toList.isPrefixOf (x.cps.toList.drop i) = true := by
  have hx := len_cps x
  have hl := len_cps y
  unfold At
  rw [subAt_eq, List.isPrefixOf_iff_prefix, beq_iff_eq]
  constructor
  · rintro ⟨_, h⟩
    rw [← h]
    exact List.take_prefix _ _
  · intro h
    have h1 := h.length_le
    rw [List.length_drop] at h1
    refine ⟨by omega, ?_⟩
    rw [← hl]
    exact (List.prefix_iff_eq_take.mp h).symm

theorem rep_free {x y : Str} (hy : 1 ≤ y.length) (v : List Nat) : ∀ (n a : Nat), a + n ≤ x.cps.toList.length → (∀ k, a ≤ k → k < a + n → ¬ At x y x.length k) →
    rep y.cps.toList v 0 (x.cps.toList.drop a) = (x.cps.toList.drop a).take n ++ rep y.cps.toList v 0 (x.cps.toList.drop (a + n))
  | 0, a, _, _ => by simp
  | n + 1, a, h, hn => by
    have hlt : a < x.cps.toList.length := by omega
    have ih := rep_free hy v n (a + 1) (by omega) fun k h1 h2 => hn k (by omega) (by omega)
    have h0 : ¬ (y.cps.toList.isPrefixOf (x.cps.toList[a] :: x.cps.toList.drop (a + 1)) = true) := by
      rw [← List.drop_eq_getElem_cons hlt]
      exact fun q => hn a (Nat.le_refl _) (by omega) ((at_iff hy a).mpr q)
    rw [List.drop_eq_getElem_cons hlt, rep, if_neg h0, ih, List.take_succ_cons, show a + (n + 1) = a + 1 + n from by omega]
    rfl

theorem rep_chain {x y : Str} (hy : 1 ≤ y.length) (z : Str) : ∀ (cuts : List Nat) (a f : Nat), a ≤ x.length → ChainG x y x.length a cuts f → (∀ k, f ≤ k → ¬ At x y x.length k) →
    (Str.join z (partsFrom x y.length a cuts)).cps.toList = rep y.cps.toList z.cps.toList 0 (x.cps.toList.drop a)
  | [], a, f, ha, h, hn => by
    have e : f = a := h
    subst e
    have hx := len_cps x
    show (strSub x f x.length).cps.toList = _
    rw [strSub_toList, rep_free hy _ (x.length - f) f (by omega) fun k h1 _ => hn k h1]
    rw [show f + (x.length - f) = x.cps.toList.length from by omega, List.drop_length]
    simp [rep]
  | c :: r, a, f, ha, h, hn => by
    obtain ⟨p, q, e⟩ := partsFrom_ne x y.length (c + y.length) r
    have hx := len_cps x
    have hl := len_cps y
    have hc := h.2.1.1
    have ih := rep_chain hy z r (c + y.length) f (by omega) h.2.2.2 hn
    show (Str.join z (strSub x a c :: partsFrom x y.length (c + y.length) r)).cps.toList = _
    rw [e] at ih ⊢
    show (strSub x a c ++ z ++ Str.join z (p :: q)).cps.toList = _
    simp only [Str.cps_append, Array.toList_append]
    rw [ih, strSub_toList, rep_free hy _ (c - a) a (by have := h.1; omega) fun k h1 h2 => h.2.2.1 k h1 (by omega)]
    have e2 : a + (c - a) = c := by have := h.1; omega
    have hlt : c < x.cps.toList.length := by omega
    have hp := (at_iff hy c).mp h.2.1
    rw [e2, List.append_assoc]
    congr 1
    rw [List.drop_eq_getElem_cons hlt] at hp ⊢
    rw [rep, if_pos hp, rep_skip _ _ (y.cps.toList.length - 1), List.drop_drop, show c + 1 + (y.cps.toList.length - 1) = c + y.length from by omega]

theorem replace_rep (x y z : Str) (hy : 1 ≤ y.length) : (Txt.replace x y z).cps.toList = rep y.cps.toList z.cps.toList 0 x.cps.toList := by
  obtain ⟨f, hG, hn⟩ := occ_tight x y hy
  have h := rep_chain hy z _ 0 f (Nat.zero_le _) hG hn
  rw [List.drop_zero] at h
  rw [← h, ← partsBetween_eq, ← glued_eq_join]
  unfold Txt.replace
  cases ho : occurrences x y 0 x.length (x.length + 1) with
  | nil =>
    rw [show (([] : List Nat).isEmpty || (y.length == 0 && z.length == 0)) = true from rfl, if_pos rfl, partsBetween_eq, glued_eq_join]
    show _ = (strSub x 0 x.length).cps.toList
    rw [sub_whole]
  | cons i r =>
    have h0 : (y.length == 0) = false := by simp; omega
    rw [h0]
    rfl

theorem rep_len_le {k v : List Nat} (h : v.length ≤ k.length) (hk : 1 ≤ k.length) : ∀ (l : List Nat) (n : Nat), n ≤ l.length → (rep k v n l).length + n ≤ l.length
  | [], n, hn => by cases n <;> simp_all [rep]
  | c :: l, n + 1, hn => by
    rw [List.length_cons] at hn ⊢
    have := rep_len_le h hk l n (by omega)
    rw [rep]; omega
  | c :: l, 0, _ => by
    rw [rep]
    split
    · rename_i hp
      have h1 := (List.isPrefixOf_iff_prefix.mp hp).length_le
      rw [List.length_cons] at h1
      have := rep_len_le h hk l (k.length - 1) (by omega)
      rw [List.length_append, List.length_cons]; omega
    · have := rep_len_le h hk l 0 (Nat.zero_le _)
      rw [List.length_cons, List.length_cons]; omega
theorem replace_shrinks (x y z : Str) (hy : 1 ≤ y.length) (h : z.length ≤ y.length) : (Txt.replace x y z).length ≤ x.length := by
  rw [← len_cps, ← len_cps x, replace_rep x y z hy]
  exact rep_len_le (by rw [len_cps, len_cps]; exact h) (by rw [len_cps]; exact hy) _ 0 (Nat.zero_le _)
/-- each sign becomes at most B signs -/
theorem rep_len_mul {k v : List Nat} {B : Nat} (h : v.length ≤ B) (hB : 1 ≤ B) : ∀ (l : List Nat) (n : Nat), (rep k v n l).length ≤ l.length * B
  | [], n => by cases n <;> simp [rep]
  | c :: l, n + 1 => by
    rw [rep, List.length_cons, Nat.succ_mul]
    exact Nat.le_trans (rep_len_mul h hB l n) (Nat.le_add_right _ _)
  | c :: l, 0 => by
    rw [rep, List.length_cons, Nat.succ_mul]
    split
    · rw [List.length_append]
      have := rep_len_mul (k := k) h hB l (k.length - 1)
      omega
    · rw [List.length_cons]
      have := rep_len_mul (k := k) h hB l 0
      omega
theorem replace_mul (x y z : Str) (hy : 1 ≤ y.length) {B : Nat} (h : z.length ≤ B) (hB : 1 ≤ B) : (Txt.replace x y z).length ≤ x.length * B := by
  rw [← len_cps, ← len_cps x, replace_rep x y z hy]
  exact rep_len_mul (by rw [len_cps]; exact h) hB _ 0

theorem rep_one (c : Nat) (v : List Nat) : ∀ l : List Nat, rep [c] v 0 l = l.flatMap fun d => if d = c then v else [d]
  | [] => rfl
  | d :: l => by
    have ih := rep_one c v l
    rw [rep, List.flatMap_cons]
    by_cases h : d = c
    · subst h
      rw [if_pos (by simp [List.isPrefixOf]), if_pos rfl]
      show v ++ rep [d] v 0 l = _
      rw [ih]
    · rw [if_neg (by simp [List.isPrefixOf]; exact fun q => h q.symm), if_neg h, ih]
      rfl
theorem rep_pass {k : List Nat} {a : Nat} {k' : List Nat} (hk : k = a :: k') (v m : List Nat) : ∀ l : List Nat, (∀ d ∈ l, d ≠ a) → rep k v 0 (l ++ m) = l ++ rep k v 0 m
  | [], _ => rfl
  | d :: l, h => by
    have hd : d ≠ a := h d (List.mem_cons_self ..)
    rw [List.cons_append, rep, if_neg (by subst hk; simp [List.isPrefixOf]; exact fun q => absurd q.symm hd), rep_pass hk v m l fun e he => h e (List.mem_cons_of_mem _ he)]
    rfl
end Mine

open PySem PySem.W PyProof.Rows PySem.Calls
set_option Elab.async false
set_option maxRecDepth 100000
namespace Mine
open PySem.StrLaws PySem.Builtin.Str

theorem absent_free {x y : Str} (h : (occurrences x y 0 x.length 1).isEmpty = true) : ∀ i, ¬ At x y x.length i := by
  rcases occ_head x y 1 (Nat.le_refl _) with ⟨_, a⟩ | ⟨i, r, e, _, _⟩
  · exact a
  · rw [e] at h; cases h
theorem replace_absent {x y : Str} (z : Str) (h : (occurrences x y 0 x.length 1).isEmpty = true) : Txt.replace x y z = x := by
  have hn := absent_free h
  rcases occ_head x y (x.length + 1) (Nat.le_add_left _ _) with ⟨e, _⟩ | ⟨i, r, _, a, _⟩
  · unfold Txt.replace
    rw [e]; rfl
  · exact absurd a (hn i)

theorem occ_all (x : Str) : ∀ (n a free : Nat) (arr : Array Nat), free ≤ a → a + n ≤ x.length + 1 → arr.size + n ≤ x.length + 1 →
    (forIn (List.range' a n) (arr, free) (occBody x ⟨#[]⟩ x.length (x.length + 1))).run.fst = arr ++ (List.range' a n).toArray
  | 0, a, free, arr, _, _, _ => by simp
  | n + 1, a, free, arr, hf, ha, hs => by
    rw [List.range'_succ, List.forIn_cons]
    unfold occBody
    have e : subAt x ⟨#[]⟩ a = true := by
      rw [subAt_eq]
      show ((List.take 0 _) == []) = true
      rw [List.take_zero]; rfl
    have hc : (((arr, free).fst.size < x.length + 1 ∧ (arr, free).snd ≤ a) ∧ a + (⟨#[]⟩ : Str).length ≤ x.length) ∧ subAt x ⟨#[]⟩ a = true := ⟨⟨⟨by show arr.size < _; omega, hf⟩, by show a + 0 ≤ _; omega⟩, e⟩
    rw [if_pos hc]
    refine (occ_all x n (a + 1) (a + (⟨#[]⟩ : Str).length) (arr.push a) (Nat.le_succ _) (by omega) (by rw [Array.size_push]; omega)).trans ?_
    apply Array.ext'
    simp
theorem occ_empty (x : Str) : occurrences x ⟨#[]⟩ 0 x.length (x.length + 1) = List.range' 0 (x.length + 1) := by
  rw [occ_eq, Nat.sub_zero, occ_all x (x.length + 1) 0 0 #[] (Nat.le_refl _) (by omega) (by simp)]
  simp

theorem parts_each (x z : Str) : ∀ (n a : Nat), a + n = x.length → (Str.join z (partsFrom x 0 a (List.range' (a + 1) n))).cps.toList = (x.cps.toList.drop a).flatMap fun c => c :: z.cps.toList
  | 0, a, h => by
    show (strSub x a x.length).cps.toList = _
    rw [strSub_toList, show a = x.cps.toList.length from by rw [len_cps]; omega, List.drop_length]
    simp
  | n + 1, a, h => by
    have ih := parts_each x z n (a + 1) (by omega)
    obtain ⟨p, q, e⟩ := partsFrom_ne x 0 (a + 1) (List.range' (a + 1 + 1) n)
    rw [List.range'_succ]
    show (Str.join z (strSub x a (a + 1) :: partsFrom x 0 (a + 1 + 0) (List.range' (a + 1 + 1) n))).cps.toList = _
    rw [Nat.add_zero]
    rw [e] at ih ⊢
    show (strSub x a (a + 1) ++ z ++ Str.join z (p :: q)).cps.toList = _
    simp only [Str.cps_append, Array.toList_append]
    have hlt : a < x.cps.toList.length := by rw [len_cps]; omega
    rw [ih, strSub_toList, List.drop_eq_getElem_cons hlt, show a + 1 - a = 1 from by omega, List.take_succ_cons, List.take_zero, List.flatMap_cons]
    rfl
theorem replace_empty (x z : Str) : (Txt.replace x ⟨#[]⟩ z).cps.toList = z.cps.toList ++ x.cps.toList.flatMap fun c => c :: z.cps.toList := by
  unfold Txt.replace
  rw [occ_empty]
  have hne : (List.range' 0 (x.length + 1)).isEmpty = false := by rw [List.range'_succ]; rfl
  rw [hne]
  show (if (decide (z.length = 0)) = true then x else _).cps.toList = _
  by_cases hz : z.length = 0
  · rw [if_pos (decide_eq_true hz)]
    have e : z.cps.toList = [] := List.length_eq_zero_iff.mp (by rw [len_cps]; exact hz)
    rw [e]
    simp
  · rw [if_neg (fun q => hz (of_decide_eq_true q)), glued_eq_join, partsBetween_eq]
    rw [List.range'_succ]
    show (Str.join z (strSub x 0 0 :: partsFrom x 0 (0 + 0) (List.range' (0 + 1) x.length))).cps.toList = _
    have h := parts_each x z x.length 0 (Nat.zero_add _)
    obtain ⟨p, q, e⟩ := partsFrom_ne x 0 0 (List.range' (0 + 1) x.length)
    rw [Nat.add_zero]
    rw [e] at h ⊢
    show (strSub x 0 0 ++ z ++ Str.join z (p :: q)).cps.toList = _
    simp only [Str.cps_append, Array.toList_append]
    rw [h, strSub_toList, List.drop_zero, Nat.sub_zero, List.take_zero]
    rfl

/-! the two references in either order -/
theorem rep_pre {k : List Nat} {b : Nat} : ∀ (w l : List Nat), (∀ d ∈ w, d ≠ b) → w <+: rep k [b] 0 l → w <+: l
  | [], l, _, _ => List.nil_prefix
  | d :: w, [], _, h => by
    have := h.length_le
    simp [rep] at this
  | d :: w, c :: l, hw, h => by
    rw [rep] at h
    split at h
    · rw [List.singleton_append, List.cons_prefix_cons] at h
      exact absurd h.1 (hw d (List.mem_cons_self ..))
    · rw [List.cons_prefix_cons] at h
      rw [List.cons_prefix_cons]
      exact ⟨h.1, rep_pre w l (fun e he => hw e (List.mem_cons_of_mem _ he)) h.2⟩
theorem rep_head {k : List Nat} {a b : Nat} {k' : List Nat} (hk : k = a :: k') (l : List Nat) (v : List Nat) : rep k v 0 (k ++ l) = v ++ rep k v 0 l := by
  have hp : k.isPrefixOf (k ++ l) = true := List.isPrefixOf_iff_prefix.mpr (List.prefix_append _ _)
  subst hk
  rw [List.cons_append] at hp ⊢
  rw [rep, if_pos hp, rep_skip _ _ ((a :: k').length - 1)]
  show _ ++ rep _ _ 0 ((k' ++ l).drop k'.length) = _
  rw [List.drop_left]
/-- a text that begins as k stands untouched by the other's scan -/
theorem rep_over {j k : List Nat} {a b : Nat} {j' k' : List Nat} (hj : j = a :: j') (hk : k = a :: k') (hk' : ∀ d ∈ k', d ≠ a) (hno : ∀ l, j.isPrefixOf (k ++ l) = false) (v l : List Nat) : rep j v 0 (k ++ l) = k ++ rep j v 0 l := by
  have h := hno l
  subst hk
  rw [List.cons_append] at h ⊢
  rw [rep, if_neg (by rw [h]; exact Bool.false_ne_true), rep_pass hj v l k' hk']
  rfl
theorem rep_swap {j k : List Nat} {a b c : Nat} {j' k' : List Nat} (hj : j = a :: j') (hk : k = a :: k') (hj' : ∀ d ∈ j', d ≠ a ∧ d ≠ b ∧ d ≠ c) (hk' : ∀ d ∈ k', d ≠ a ∧ d ≠ b ∧ d ≠ c) (hb : b ≠ a) (hc : c ≠ a)
    (n1 : ∀ l, j.isPrefixOf (k ++ l) = false) (n2 : ∀ l, k.isPrefixOf (j ++ l) = false) : ∀ (n : Nat) (l : List Nat), l.length ≤ n → rep j [b] 0 (rep k [c] 0 l) = rep k [c] 0 (rep j [b] 0 l)
  | _, [], _ => rfl
  | n + 1, d :: l, hn => by
    rw [List.length_cons] at hn
    by_cases hp : j.isPrefixOf (d :: l) = true
    · obtain ⟨r, hr⟩ := List.isPrefixOf_iff_prefix.mp hp
      have hlen : r.length ≤ n := by
        have := congrArg List.length hr
        rw [List.length_append, hj, List.length_cons, List.length_cons] at this
        omega
      rw [← hr, rep_over (b := b) hk hj (fun e he => (hj' e he).1) n2, rep_head (b := b) hj, rep_head (b := b) hj, List.singleton_append, List.singleton_append, rep_swap hj hk hj' hk' hb hc n1 n2 n r hlen]
      rw [show (b :: rep j [b] 0 r) = [b] ++ rep j [b] 0 r from rfl, rep_pass hk _ _ [b] (fun e he => by rw [List.mem_singleton.mp he]; exact hb)]
      rfl
    by_cases hq : k.isPrefixOf (d :: l) = true
    · obtain ⟨r, hr⟩ := List.isPrefixOf_iff_prefix.mp hq
      have hlen : r.length ≤ n := by
        have := congrArg List.length hr
        rw [List.length_append, hk, List.length_cons, List.length_cons] at this
        omega
      rw [← hr, rep_over (b := b) hj hk (fun e he => (hk' e he).1) n1, rep_head (b := b) hk, rep_head (b := b) hk, List.singleton_append, List.singleton_append, ← rep_swap hj hk hj' hk' hb hc n1 n2 n r hlen]
      rw [show (c :: rep k [c] 0 r) = [c] ++ rep k [c] 0 r from rfl, rep_pass hj _ _ [c] (fun e he => by rw [List.mem_singleton.mp he]; exact hc)]
      rfl
    have e1 : rep k [c] 0 (d :: l) = d :: rep k [c] 0 l := by rw [rep, if_neg hq]
    have e2 : rep j [b] 0 (d :: l) = d :: rep j [b] 0 l := by rw [rep, if_neg hp]
    have f1 : ¬ j.isPrefixOf (d :: rep k [c] 0 l) = true := fun q => hp (by
      rw [List.isPrefixOf_iff_prefix] at q ⊢
      subst hj
      rw [List.cons_prefix_cons] at q ⊢
      exact ⟨q.1, rep_pre _ _ (fun e he => (hj' e he).2.2) q.2⟩)
    have f2 : ¬ k.isPrefixOf (d :: rep j [b] 0 l) = true := fun q => hq (by
      rw [List.isPrefixOf_iff_prefix] at q ⊢
      subst hk
      rw [List.cons_prefix_cons] at q ⊢
      exact ⟨q.1, rep_pre _ _ (fun e he => (hk' e he).2.1) q.2⟩)
    rw [e1, e2, rep, if_neg f1, rep, if_neg f2, rep_swap hj hk hj' hk' hb hc n1 n2 n l (by omega)]
theorem une2_swap (x : Str) : une2 x = Txt.replace (Txt.replace x (Str.ofString "&gt;") (Str.ofString ">")) (Str.ofString "&lt;") (Str.ofString "<") := by
  refine str_ext ?_
  unfold une2
  have a1 : (Str.ofString "&lt;").cps.toList = [38, 108, 116, 59] := by decide +kernel
  have a2 : (Str.ofString "&gt;").cps.toList = [38, 103, 116, 59] := by decide +kernel
  have a3 : (Str.ofString "<").cps.toList = [60] := by decide +kernel
  have a4 : (Str.ofString ">").cps.toList = [62] := by decide +kernel
  rw [replace_rep _ _ _ (by decide +kernel), replace_rep _ _ _ (by decide +kernel), replace_rep _ _ _ (by decide +kernel), replace_rep _ _ _ (by decide +kernel), a1, a2, a3, a4]
  exact rep_swap rfl rfl (by decide) (by decide) (by decide) (by decide) (fun l => by simp [List.isPrefixOf]) (fun l => by simp [List.isPrefixOf]) _ _ (Nat.le_refl _)
end Mine

open PySem PySem.W PyProof.Rows PySem.Calls
set_option Elab.async false
set_option maxRecDepth 100000
namespace Mine
open PySem.StrLaws PySem.Builtin.Str

/-- a sign that is no mark, or one of the seven references -/
abbrev TK := Nat ⊕ (Str × Str)
def tkOk : TK → Prop
  | .inl c => c ≠ 38
  | .inr p => p ∈ namesT
def tkCodes : TK → List Nat
  | .inl c => [c]
  | .inr p => p.1.cps.toList
def tkVal : TK → Str
  | .inl c => ⟨#[c]⟩
  | .inr p => p.2
def tkBare : TK → Option Str
  | .inl c => some ⟨#[c]⟩
  | .inr _ => none
def tkRef : TK → Option Str
  | .inl _ => none
  | .inr p => some p.1
def tkFlat (T : List TK) : List Nat := T.flatMap tkCodes

theorem nm_head : ∀ p ∈ namesT, p.1.cps.toList = 38 :: p.1.cps.toList.tail ∧ ∀ d ∈ p.1.cps.toList.tail, d ≠ 38 := by decide +kernel
theorem nm_cmp : ∀ p ∈ namesT, ∀ q ∈ namesT, p.1.cps.toList.isPrefixOf q.1.cps.toList = true → p = q := by decide +kernel
theorem nm_prefix {p q : Str × Str} (hp : p ∈ namesT) (hq : q ∈ namesT) {rest : List Nat} (h : p.1.cps.toList.isPrefixOf (q.1.cps.toList ++ rest) = true) : p = q := by
  rcases List.prefix_or_prefix_of_prefix (List.isPrefixOf_iff_prefix.mp h) (List.prefix_append q.1.cps.toList rest) with a | a
  · exact nm_cmp p hp q hq (List.isPrefixOf_iff_prefix.mpr a)
  · exact (nm_cmp q hq p hp (List.isPrefixOf_iff_prefix.mpr a)).symm
theorem nameAt_tok {p : Str × Str} (hp : p ∈ namesT) (rest : List Nat) : nameAt (p.1.cps.toList ++ rest) = some p := by
  cases h : nameAt (p.1.cps.toList ++ rest) with
  | none =>
    unfold nameAt at h
    have := List.find?_eq_none.mp h p hp
    exact absurd (List.isPrefixOf_iff_prefix.mpr (List.prefix_append _ _)) this
  | some q =>
    have h1 := nameAt_mem h
    unfold nameAt at h
    have h2 := List.find?_some h
    rw [nm_prefix h1 hp h2]

theorem readS_tok : ∀ T : List TK, (∀ t ∈ T, tkOk t) → readS 0 (tkFlat T) = some (T.filterMap tkBare, T.filterMap tkRef, T.map tkVal)
  | [], _ => rfl
  | .inl c :: T, h => by
    have ih := readS_tok T fun t ht => h t (List.mem_cons_of_mem _ ht)
    have hc : c ≠ 38 := h _ (List.mem_cons_self ..)
    show readS 0 (c :: tkFlat T) = _
    rw [readS, if_neg hc, ih]
    rfl
  | .inr p :: T, h => by
    have ih := readS_tok T fun t ht => h t (List.mem_cons_of_mem _ ht)
    have hp : p ∈ namesT := h (.inr p) (List.mem_cons_self ..)
    have e := nm_head p hp
    have hn := nameAt_tok hp (tkFlat T)
    show readS 0 (p.1.cps.toList ++ tkFlat T) = _
    rw [e.1, List.cons_append] at hn ⊢
    rw [readS, if_pos rfl, hn]
    dsimp only
    rw [readS_skip]
    have hl : p.1.length - 1 = p.1.cps.toList.tail.length := by rw [List.length_tail, len_cps]
    rw [hl, List.drop_left, ih]
    rfl

theorem readS_inv : ∀ (n : Nat) (l : List Nat), l.length ≤ n → ∀ q, readS 0 l = some q → ∃ T : List TK, (∀ t ∈ T, tkOk t) ∧ l = tkFlat T
  | _, [], _, _, _ => ⟨[], (fun _ h => nomatch h), rfl⟩
  | n + 1, c :: l, hn, q, h => by
    rw [List.length_cons] at hn
    rw [readS] at h
    split at h
    · rename_i hc
      split at h
      · cases h
      · rename_i p hp
        obtain ⟨q', hq', _⟩ := Option.map_eq_some_iff.mp h
        rw [readS_skip] at hq'
        obtain ⟨T, hT, e⟩ := readS_inv n (l.drop (p.1.length - 1)) (by rw [List.length_drop]; omega) q' hq'
        have hm := nameAt_mem hp
        unfold nameAt at hp
        have hpre := List.isPrefixOf_iff_prefix.mp (List.find?_some (p := fun p : Str × Str => p.1.cps.toList.isPrefixOf (c :: l)) hp)
        refine ⟨.inr p :: T, fun t ht => ?_, ?_⟩
        · rcases List.mem_cons.mp ht with rfl | ht
          · exact hm
          · exact hT t ht
        · obtain ⟨r, hr⟩ := hpre
          show _ = p.1.cps.toList ++ tkFlat T
          rw [← e, ← hr]
          congr 1
          have e2 := (nm_head p hm).1
          rw [e2, List.cons_append] at hr
          have hl : p.1.length - 1 = p.1.cps.toList.tail.length := by rw [List.length_tail, len_cps]
          rw [hl, ← (List.cons.inj hr).2, List.drop_left]
    · rename_i hc
      obtain ⟨q', hq', _⟩ := Option.map_eq_some_iff.mp h
      obtain ⟨T, hT, e⟩ := readS_inv n l (by omega) q' hq'
      refine ⟨.inl c :: T, fun t ht => ?_, ?_⟩
      · rcases List.mem_cons.mp ht with rfl | ht
        · exact hc
        · exact hT t ht
      · show _ = c :: tkFlat T
        rw [← e]

theorem rep_tok {p : Str × Str} (hp : p ∈ namesT) (v : List Nat) : ∀ T : List TK, (∀ t ∈ T, tkOk t) → rep p.1.cps.toList v 0 (tkFlat T) = T.flatMap fun t => if t = .inr p then v else tkCodes t
  | [], _ => rfl
  | .inl c :: T, h => by
    have ih := rep_tok hp v T fun t ht => h t (List.mem_cons_of_mem _ ht)
    have hc : c ≠ 38 := h _ (List.mem_cons_self ..)
    show rep _ v 0 ([c] ++ tkFlat T) = _
    rw [rep_pass (nm_head p hp).1 v _ [c] (fun d hd => by rw [List.mem_singleton.mp hd]; exact hc), ih, List.flatMap_cons, if_neg (fun e => nomatch e)]
    rfl
  | .inr q :: T, h => by
    have ih := rep_tok hp v T fun t ht => h t (List.mem_cons_of_mem _ ht)
    have hq : q ∈ namesT := h (.inr q) (List.mem_cons_self ..)
    have e := nm_head q hq
    show rep _ v 0 (q.1.cps.toList ++ tkFlat T) = _
    rw [List.flatMap_cons]
    by_cases hpq : q = p
    · subst hpq
      have hpre : q.1.cps.toList.isPrefixOf (q.1.cps.toList ++ tkFlat T) = true := List.isPrefixOf_iff_prefix.mpr (List.prefix_append _ _)
      rw [if_pos rfl, ← ih]
      have hl : q.1.cps.toList.length - 1 = q.1.cps.toList.tail.length := by rw [List.length_tail]
      generalize q.1.cps.toList = k at *
      obtain ⟨e1, _⟩ := e
      cases k with
      | nil => cases e1
      | cons a k' =>
        rw [List.cons_append] at hpre ⊢
        rw [rep, if_pos hpre, rep_skip _ _ ((a :: k').length - 1), hl, List.tail_cons, List.drop_left]
    · rw [if_neg (fun h => hpq (Sum.inr.inj h)), ← ih]
      have hno : ¬ p.1.cps.toList.isPrefixOf (q.1.cps.toList ++ tkFlat T) = true := fun h => hpq (nm_prefix hp hq h).symm
      show _ = q.1.cps.toList ++ _
      have e1 := e.1
      rw [e1, List.cons_append] at hno ⊢
      rw [rep, if_neg hno, rep_pass (nm_head p hp).1 v _ _ e.2]
      rfl

def tkSub (p : Str × Str) (d : Nat) (t : TK) : TK := if t = .inr p then .inl d else t
theorem rep_sub {p : Str × Str} (hp : p ∈ namesT) (d : Nat) {T : List TK} (hT : ∀ t ∈ T, tkOk t) : rep p.1.cps.toList [d] 0 (tkFlat T) = tkFlat (T.map (tkSub p d)) := by
  rw [rep_tok hp _ T hT, tkFlat, List.flatMap_map]
  refine congrArg (fun f => List.flatMap f T) (funext fun t => ?_)
  unfold tkSub
  split <;> rfl
theorem sub_ok {p : Str × Str} {d : Nat} (hd : d ≠ 38) {T : List TK} (hT : ∀ t ∈ T, tkOk t) : ∀ t ∈ T.map (tkSub p d), tkOk t := fun t ht => by
  obtain ⟨u, hu, rfl⟩ := List.mem_map.mp ht
  unfold tkSub
  split
  · exact hd
  · exact hT u hu

theorem join_codes : ∀ xs : List Str, (Txt.join (Str.ofString "") xs).cps.toList = xs.flatMap fun x => x.cps.toList
  | [] => by
    show (glued _ []).cps.toList = _
    rw [glued_eq_join]; rfl
  | [x] => by
    show (glued _ [x]).cps.toList = _
    rw [glued_eq_join, List.flatMap_cons, List.flatMap_nil, List.append_nil]; rfl
  | x :: y :: r => by
    have ih := join_codes (y :: r)
    show (glued _ (x :: y :: r)).cps.toList = _
    change (glued _ (y :: r)).cps.toList = _ at ih
    rw [glued_eq_join] at ih ⊢
    show (x ++ Str.ofString "" ++ Str.join _ (y :: r)).cps.toList = _
    simp only [Str.cps_append, Array.toList_append]
    rw [ih, show (Str.ofString "").cps.toList = [] from by decide +kernel, List.append_nil]
    rfl

abbrev pAmp : Str × Str := (Str.ofString "&amp;", Str.ofString "&")
abbrev pLt : Str × Str := (Str.ofString "&lt;", Str.ofString "<")
abbrev pGt : Str × Str := (Str.ofString "&gt;", Str.ofString ">")
abbrev pQuot : Str × Str := (Str.ofString "&quot;", Str.ofString "\"")
abbrev pNl : Str × Str := (Str.ofString "&#10;", Str.ofString "\n")
abbrev pCr : Str × Str := (Str.ofString "&#13;", Str.ofString "\r")
abbrev pTab : Str × Str := (Str.ofString "&#9;", Str.ofString "\t")
theorem mAmp : pAmp ∈ namesT := by decide +kernel
theorem mLt : pLt ∈ namesT := by decide +kernel
theorem mGt : pGt ∈ namesT := by decide +kernel
theorem mQuot : pQuot ∈ namesT := by decide +kernel
theorem mNl : pNl ∈ namesT := by decide +kernel
theorem mCr : pCr ∈ namesT := by decide +kernel
theorem mTab : pTab ∈ namesT := by decide +kernel
theorem cAmp : (Str.ofString "&").cps.toList = [38] := by decide +kernel
theorem cLt : (Str.ofString "<").cps.toList = [60] := by decide +kernel
theorem cGt : (Str.ofString ">").cps.toList = [62] := by decide +kernel
theorem cQuot : (Str.ofString "\"").cps.toList = [34] := by decide +kernel
theorem cNl : (Str.ofString "\n").cps.toList = [10] := by decide +kernel
theorem cCr : (Str.ofString "\r").cps.toList = [13] := by decide +kernel
theorem cTab : (Str.ofString "\t").cps.toList = [9] := by decide +kernel

def backT : List (Str × Str) := [(Str.ofString "&quot;", Str.ofString "\""), (Str.ofString "&#10;", Str.ofString "\n"), (Str.ofString "&#13;", Str.ofString "\r"), (Str.ofString "&#9;", Str.ofString "\t")]
def readT (y : Str) : Str := Txt.replace (repl (une2 y) backT) (Str.ofString "&amp;") (Str.ofString "&")
def openT (x : Str) : Str := Txt.replace (repl (une2 x) []) (Str.ofString "&amp;") (Str.ofString "&")
def wrT (r : Str) : Str := quoted (repl (esc3 r) whites)

theorem une2_tok {y : Str} {T : List TK} (hT : ∀ t ∈ T, tkOk t) (hy : y.cps.toList = tkFlat T) : (une2 y).cps.toList = tkFlat ((T.map (tkSub pLt 60)).map (tkSub pGt 62)) := by
  unfold une2
  rw [replace_rep _ _ _ (by decide +kernel), replace_rep _ _ _ (by decide +kernel), hy, cLt, cGt, rep_sub mLt 60 hT, rep_sub mGt 62 (sub_ok (by decide) hT)]

def tkRead (t : TK) : List Nat := (fun t => if t = .inr pAmp then [38] else tkCodes t) (tkSub pTab 9 (tkSub pCr 13 (tkSub pNl 10 (tkSub pQuot 34 (tkSub pGt 62 (tkSub pLt 60 t))))))
def tkOpen (t : TK) : List Nat := (fun t => if t = .inr pAmp then [38] else tkCodes t) (tkSub pGt 62 (tkSub pLt 60 t))
theorem read_val {t : TK} (h : tkOk t) : tkRead t = (tkVal t).cps.toList := by
  cases t with
  | inl c => rfl
  | inr p =>
    have h2 : ∀ p ∈ namesT, tkRead (.inr p) = (tkVal (.inr p)).cps.toList := by decide +kernel
    exact h2 p h
theorem readT_tok {y : Str} {T : List TK} (hT : ∀ t ∈ T, tkOk t) (hy : y.cps.toList = tkFlat T) : readT y = Txt.join (Str.ofString "") (T.map tkVal) := by
  refine str_ext ?_
  rw [join_codes]
  unfold readT repl backT
  simp only [List.foldl_cons, List.foldl_nil]
  have h1 := sub_ok (p := pLt) (d := 60) (by decide) hT
  have h2 := sub_ok (p := pGt) (d := 62) (by decide) h1
  have h3 := sub_ok (p := pQuot) (d := 34) (by decide) h2
  have h4 := sub_ok (p := pNl) (d := 10) (by decide) h3
  have h5 := sub_ok (p := pCr) (d := 13) (by decide) h4
  have h6 := sub_ok (p := pTab) (d := 9) (by decide) h5
  rw [replace_rep _ _ _ (by decide +kernel), replace_rep _ _ _ (by decide +kernel), replace_rep _ _ _ (by decide +kernel), replace_rep _ _ _ (by decide +kernel), replace_rep _ _ _ (by decide +kernel), une2_tok hT hy,
    cAmp, cQuot, cNl, cCr, cTab, rep_sub mQuot 34 h2, rep_sub mNl 10 h3, rep_sub mCr 13 h4, rep_sub mTab 9 h5, rep_tok mAmp _ _ h6]
  simp only [List.flatMap_map]
  clear h1 h2 h3 h4 h5 h6 hy
  induction T with
  | nil => rfl
  | cons t T ih =>
    rw [List.flatMap_cons, List.flatMap_cons, ih fun u hu => hT u (List.mem_cons_of_mem _ hu)]
    congr 1
    exact read_val (hT t (List.mem_cons_self ..))
theorem open_val {t : TK} (h : tkOk t) (h' : ∀ p, t = .inr p → p ∈ [pAmp, pLt, pGt]) : tkOpen t = (tkVal t).cps.toList := by
  cases t with
  | inl c => rfl
  | inr p =>
    have h2 : ∀ p ∈ [pAmp, pLt, pGt], tkOpen (.inr p) = (tkVal (.inr p)).cps.toList := by decide +kernel
    exact h2 p (h' p rfl)
theorem openT_tok {y : Str} {T : List TK} (hT : ∀ t ∈ T, tkOk t) (hR : ∀ p, .inr p ∈ T → p ∈ [pAmp, pLt, pGt]) (hy : y.cps.toList = tkFlat T) : openT y = Txt.join (Str.ofString "") (T.map tkVal) := by
  refine str_ext ?_
  rw [join_codes]
  unfold openT repl
  simp only [List.foldl_nil]
  have h1 := sub_ok (p := pLt) (d := 60) (by decide) hT
  have h2 := sub_ok (p := pGt) (d := 62) (by decide) h1
  rw [replace_rep _ _ _ (by decide +kernel), une2_tok hT hy, cAmp, rep_tok mAmp _ _ h2]
  simp only [List.flatMap_map]
  clear h1 h2 hy
  induction T with
  | nil => rfl
  | cons t T ih =>
    rw [List.flatMap_cons, List.flatMap_cons, ih (fun u hu => hT u (List.mem_cons_of_mem _ hu)) fun p hp => hR p (List.mem_cons_of_mem _ hp)]
    congr 1
    exact open_val (hT t (List.mem_cons_self ..)) fun p e => hR p (e ▸ List.mem_cons_self ..)
end Mine

open PySem PySem.W PyProof.Rows PySem.Calls
set_option Elab.async false
set_option maxRecDepth 100000
namespace Mine

/-- at l lies a list of pairs of texts -/
def PairsAt (h : Heap) (l : Addr) (es : List (Str × Str)) : Prop :=
  ∃ items : Array Value, h.IsList l items ∧ items.size = es.length ∧ ∀ (i : Nat) (k v : Str), es[i]? = some (k, v) → ∃ (T : Addr) (kt vt : Tok), items[i]? = some (Value.ref T) ∧ h.IsTuple T #[Value.str k kt, Value.str v vt]
theorem PairsAt.keeps {h h' : Heap} {l : Addr} {es : List (Str × Str)} (x : PairsAt h l es) (hk : ∀ b o, h.get? b = some o → h'.get? b = some o) : PairsAt h' l es := by
  obtain ⟨items, hl, hs, hp⟩ := x
  refine ⟨items, hl.at fun o e => hk _ o e, hs, fun i k v e => ?_⟩
  obtain ⟨T, kt, vt, e1, e2⟩ := hp i k v e
  obtain ⟨o, ho, r⟩ := e2
  exact ⟨T, kt, vt, e1, o, hk _ _ ho, r⟩

section
variable {prog : Program} {w : World} {A : Around} {E : Value → Shared → Prop} {s : Shared} {env : Env} {h₀ : Heap}

theorem for_pairs_E {R : Result → Shared → Prop} {xk xv : Str} {pk pv pt : Pos} {x1} {body : List Stmt} {l : Addr} {es : List (Str × Str)} {m : Str → Option Value} {news : List (Addr × Obj)}
    (hh : A.handled = none) (hxk : env.kindOf xk = some .local) (hxv : env.kindOf xv = some .local)
    (hp : (env.scope.kind == .class || (env.scope.kind == .module && env.locals != env.globals)) = false)
    (hP : PairsAt h₀ l es) (F : Fr h₀ env.locals s.heap m) (N : News h₀ env.locals s.heap news) (htk : 1 ≤ s.toks)
    (J : Nat → (Str → Option Value) → Prop) (h0 : J 0 m)
    (step : ∀ (i : Nat) (k v : Str) m₁ h tk own kt vt, es[i]? = some (k, v) → J i m₁ → 1 ≤ tk → Fr h₀ env.locals h (fun y => if y = xv then some (.str v vt) else if y = xk then some (.str k kt) else m₁ y) →
      News h₀ env.locals h (own :: news) →
      wpAny (model prog w) A (execs body env) (fun f s₂ => f = .next ∧ TurnEnd h₀ env.locals own news (J (i + 1)) { s with heap := h, toks := tk } s₂) (fun _ _ => False) { s with heap := h, toks := tk })
    (hR : ∀ h' tk m', 1 ≤ tk → Fr h₀ env.locals h' m' → News h₀ env.locals h' news → J es.length m' → R (.ok .next) { s with heap := h', toks := tk }) :
    wpAny (model prog w) A (pyIter (.ref l)) (fun it s₂ => codeAny (model prog w) A (.forLoop (.Tuple [.Name xk pk, .Name xv pv] x1 pt) it body [] env) R s₂) E s := by
  obtain ⟨items, hl0, hsz, hP⟩ := hP
  refine wpAny_pyIter_list (hl0.at fun o e => F.keep _ o e) ?_
  have hIL : s.heap.objs.size ≠ env.locals := Nat.ne_of_gt F.ns.lt
  have hI0 : h₀.get? s.heap.objs.size = none := by
    cases e : h₀.get? s.heap.objs.size with
    | none => rfl
    | some o' => exact absurd (Heap.lt_size (F.keep _ _ e)) (Nat.lt_irrefl _)
  have hnI : ∀ p ∈ news, p.1 ≠ s.heap.objs.size := fun p hp => Nat.ne_of_lt (Heap.lt_size (N p hp).1)
  generalize hI : s.heap.objs.size = I at hIL hI0 hnI
  refine codeAny_forLoop_any
    (fun n s' => ∃ h' tk m' i, s' = { s with heap := h', toks := tk } ∧ h'.IsListIter I l i ∧ Fr h₀ env.locals h' m' ∧ News h₀ env.locals h' news ∧ J i m' ∧ i ≤ es.length ∧
      n = es.length + 1 - i ∧ 1 ≤ tk) ?_ (es.length + 1)
    ⟨s.heap.push _, s.toks, m, 0, rfl, ⟨_, hI ▸ Heap.get?_push_size _ rfl, rfl, rfl⟩, F.push _, fun p hp => ⟨Heap.get?_push_of_some _ (N p hp).1, (N p hp).2⟩, h0, Nat.zero_le _, rfl, htk⟩
  rintro n s' ⟨H, tk, m', i, rfl, hit, F', N', hJ, hi, rfl, htk'⟩
  have hl' : H.IsList l items := hl0.at fun o e => F'.keep _ o e
  by_cases hlt : i < es.length
  · obtain ⟨T, kt, vt, e1, e2⟩ := hP i es[i].1 es[i].2 (by rw [List.getElem?_eq_getElem hlt])
    refine wpAny_pyNext_list_item hit hl' e1 fun h₁ hit₁ hs₁ => ?_
    have k1 : ∀ b o, b ≠ I → H.get? b = some o → h₁.get? b = some o := fun b o hb e => hs₁.extBut b o hb e
    have up0 : ∀ b o, h₀.get? b = some o → h₁.get? b = some o := fun b o e => k1 b o (fun q => by rw [q, hI0] at e; cases e) (F'.keep b o e)
    obtain ⟨oT, hoT, rT⟩ := e2
    have hT : h₁.IsTuple T #[.str es[i].1 kt, .str es[i].2 vt] := ⟨oT, up0 _ _ hoT, rT⟩
    refine wpAny_letOwnedTupleGo_listiter hit₁ ?_
    refine wpAny_assign_Tuple hh hT rfl rfl fun h₃ x₃ => ?_
    have k3 : ∀ b o, h₁.get? b = some o → h₃.get? b = some o := fun b o e => x₃ b o (Nat.ne_of_lt (Heap.lt_size e)) e
    have F3 : Fr h₀ env.locals h₃ m' := ⟨F'.ns.at' fun o e => k3 _ _ (k1 _ o (Ne.symm hIL) e), fun b o e => k3 _ _ (up0 b o e), F'.above⟩
    have N3 : News h₀ env.locals h₃ news := fun p hp => ⟨k3 _ _ (k1 _ _ (hnI p hp) (N' p hp).1), (N' p hp).2⟩
    obtain ⟨oI, hoI, hc, hd⟩ := hit₁
    have hI3 : h₃.get? I = some oI := k3 _ _ hoI
    show wpAny _ _ (do holding [.str es[i].2 vt] (assign (.Name xk pk) env (.str es[i].1 kt)); do holding [] (assign (.Name xv pv) env (.str es[i].2 vt)); pure ()) _ _ _
    refine wpAny_bind (wpAny_holding (wpAny_assign_Name (wpAny_storeName_local hxk F3.ns (fun h4 n4 s4 => ?_) hp)))
    refine wpAny_bind (wpAny_holding (wpAny_assign_Name (wpAny_storeName_local hxv n4 (fun h5 n5 s5 => wpAny_pure ?_) hp)))
    have F5 := (F3.set n4 s4).set n5 s5
    have N5 : News h₀ env.locals h5 ((I, oI) :: news) := fun p hp => by
      rcases List.mem_cons.mp hp with rfl | hp
      · exact ⟨((s5.2 I hIL).trans (s4.2 I hIL)).trans hI3, hIL, hI0⟩
      · exact (N3.set s4).set s5 p hp
    have htk5 : 1 ≤ tk + 1 + 1 := by omega
    refine wpAny_with_toks (n := 1) htk5 (wpAny_mono (step i _ _ m' h5 _ _ _ _ (List.getElem?_eq_getElem hlt) hJ htk5 F5 N5) (fun f s₃ q htk6 => ?_) fun _ _ q => q.elim)
    obtain ⟨rfl, h6, tk6, m6, rfl, F6, N6, J6⟩ := q
    exact ⟨es.length + 1 - (i + 1), by omega, h6, tk6, m6, i + 1, rfl, ⟨oI, (N6 _ (List.mem_cons_self ..)).1, hc, hd⟩, F6, fun p hp => N6 p (List.mem_cons_of_mem _ hp), J6, hlt, rfl, htk6⟩
  · have hin : i = es.length := by omega
    subst hin
    refine wpAny_pyNext_list_end hh hit hl' (by rw [← hsz]; simp) fun h₁ he₁ => wpAny_execs_nil ?_
    have k1 : ∀ b o, b ≠ I → H.get? b = some o → h₁.get? b = some o := fun b o hb e => he₁ b o hb e
    exact hR h₁ tk m' htk' ⟨F'.ns.at' fun o e => k1 _ o (Ne.symm hIL) e, fun b o e => k1 b o (fun q => by rw [q, hI0] at e; cases e) (F'.keep b o e), F'.above⟩
      (fun p hp => ⟨k1 _ _ (hnI p hp) (N' p hp).1, (N' p hp).2⟩) hJ
end
end Mine

open PySem PySem.W PyProof.Rows PySem.Calls
set_option Elab.async false
set_option maxRecDepth 100000
set_option maxHeartbeats 8000000
namespace Mine
open PySem.Challenge

section
variable {w : World} {p : Program} {loose : List Str} {mg mb : Str → Option Value} {dp un : Nat} {fr : Option (List Env)} {gd : Option (List Code)}
  {h₀ : Heap} {g : Array GenState} {dr : Drawn} {tk : Nat} {os : OsState} {Q E : Value → Shared → Prop}

/-- the scan's state at place i -/
def SI (X Y Z : List Nat) (i : Nat) (sd : List Str) : Prop := i ≤ X.length ∧ rep Y Z 0 X = (sd.flatMap fun s => s.cps.toList) ++ rep Y Z 0 (X.drop i)
theorem flat_const (f : List Nat) : ∀ l : List Nat, (l.flatMap fun c => c :: f).length = l.length * (1 + f.length)
  | [] => by simp
  | c :: l => by rw [List.flatMap_cons, List.length_append, flat_const f l, List.length_cons, List.length_cons, Nat.add_mul]; omega
theorem filter_true (l : List Value) : l.filter (fun _ => true) = l := List.filter_eq_self.mpr fun _ _ => rfl
theorem txt_of_signs {X : List Nat} {G : Nat → Str} : ∀ {vs : List Value} {ys : List Value}, Paired (fun v r => ∃ c t t', v = Value.str ⟨#[c]⟩ t ∧ r = Value.str (G c) t') vs ys → vs.length = X.length →
    (∀ (j : Nat) v, vs[j]? = some v → ∃ (c : Nat) (u : Tok), X[j]? = some c ∧ v = .str ⟨#[c]⟩ u) → Txts ys (X.map G) := by
  intro vs ys h
  induction h generalizing X with
  | nil => intro hl _; cases X with
    | nil => exact Txts.nil
    | cons _ _ => simp at hl
  | cons hd _ ih =>
    intro hl hP
    cases X with
    | nil => simp at hl
    | cons c X =>
      obtain ⟨c', t, t', rfl, rfl⟩ := hd
      obtain ⟨c2, u, hc, e⟩ := hP 0 _ rfl
      have e1 : c = c2 := by simpa using hc
      have e2 : c' = c2 := (by simpa using e : c' = c2 ∧ _).1
      subst e1; subst e2
      exact Txts.cons (ih (by simpa using hl) fun j v hv => by simpa using hP (j + 1) v (by simpa using hv))
theorem SI.start (X Y Z : List Nat) : SI X Y Z 0 [] := ⟨Nat.zero_le _, rfl⟩
theorem SI.hit {X Y Z : List Nat} {i : Nat} {sd : List Str} {z : Str} (h : SI X Y Z i sd) (hy : 1 ≤ Y.length) (hz : z.cps.toList = Z) (hp : Y.isPrefixOf (X.drop i) = true) : SI X Y Z (i + Y.length) (sd ++ [z]) := by
  have hle := (List.isPrefixOf_iff_prefix.mp hp).length_le
  rw [List.length_drop] at hle
  refine ⟨by omega, ?_⟩
  have hlt : i < X.length := by omega
  rw [h.2, List.drop_eq_getElem_cons hlt]
  rw [List.drop_eq_getElem_cons hlt] at hp
  rw [rep, if_pos hp, rep_skip _ _ (Y.length - 1), List.drop_drop, show i + 1 + (Y.length - 1) = i + Y.length from by omega, List.flatMap_append, List.flatMap_cons, List.flatMap_nil, List.append_nil, hz, List.append_assoc]
theorem SI.miss {X Y Z : List Nat} {i c : Nat} {sd : List Str} (h : SI X Y Z i sd) (hc : X[i]? = some c) (hp : Y.isPrefixOf (X.drop i) = false) : SI X Y Z (i + 1) (sd ++ [⟨#[c]⟩]) := by
  have hlt : i < X.length := (List.getElem?_eq_some_iff.mp hc).1
  refine ⟨by omega, ?_⟩
  rw [List.getElem?_eq_getElem hlt] at hc
  rw [h.2, List.drop_eq_getElem_cons hlt, Option.some.inj hc]
  rw [List.drop_eq_getElem_cons hlt, Option.some.inj hc] at hp
  rw [rep, if_neg (by rw [hp]; exact Bool.false_ne_true), List.flatMap_append, List.flatMap_cons, List.flatMap_nil, List.append_nil, List.append_assoc]
  rfl
theorem sum_flat : ∀ sd : List Str, (sd.flatMap fun s => s.cps.toList).length = (sd.map (·.length)).sum
  | [] => rfl
  | s :: r => by rw [List.flatMap_cons, List.length_append, List.map_cons, List.sum_cons, sum_flat r, len_cps]

theorem sign_plus {prog : Program} {w : World} {A : Around} {E : Value → Shared → Prop} {h3 : Heap} {g : Array GenState} {dr : Drawn} {tk : Nat} {os : OsState} {scope : Scope} {cl : List (Str × Addr)} {C c : Addr} {o : Obj} {env : Env} {m : Str → Option Value} {p1 p2 p3 : Pos} {ch : Nat} {t tz : Tok} {z : Str}
    (hn : h3.Ns C m) (hm : m (Str.ofString "sign") = some (.str ⟨#[ch]⟩ t)) (hc : cl.lookup (Str.ofString "value") = some c) (gV : h3.get? c = some o) (dV : o.data = .cell (some (.str z tz))) (hz : z.length ≤ 6)
    (k1 : (compEnvC scope cl C env).scope.kind = .function) (k2 : (compEnvC scope cl C env).kindOf (Str.ofString "sign") = some .local) (k3 : (compEnvC scope cl C env).kindOf (Str.ofString "value") = some .cell) :
    wpAny (model prog w) A (eval (.BinOp (.Name (Str.ofString "sign") p1) .Add (.Name (Str.ofString "value") p2) p3) (compEnvC scope cl C env))
      (fun y s₄ => (∃ c t0 u, Value.str ⟨#[ch]⟩ t = .str ⟨#[c]⟩ t0 ∧ y = .str (⟨#[c]⟩ ++ z) u) ∧ Keeps ⟨h3, g, dr, tk, os⟩ s₄) E ⟨h3, g, dr, tk, os⟩ := by
  k_steps
  refine cname_L hn hm ?_ k1 k2
  k_steps
  refine cname_C hc gV dV ?_ k1 k3
  have hl1 : (⟨#[ch]⟩ : Str).length = 1 := rfl
  repeat' ((fail_if_success (with_reducible show _ ∧ _)); walk1)
  exact ⟨⟨_, _, _, rfl, rfl⟩, _, _, rfl, fun _ _ e => e⟩

local macro_rules | `(tactic| k_call_by "enterC" $b) => `(tactic| (refine' enter_cells (binds := $b) ?X ?T ?k6 ?k7 ?k8 ?k9 ?kB ?kD ?_ ?c2 ?c3 ?c4; (case X => assumption); (case T => assumption); (case k6 => k_is); (case k7 => k_is); (case k8 => (show dp < recursionLimit; omega)); (case k9 => exact BindsTo.of_eq rfl); (case kB => exact rfl); (case kD => decide +kernel); (case c2 => exact rfl); (case c3 => exact rfl); (case c4 => exact rfl)))
local macro_rules | `(tactic| walk_at "eval Name") => `(tactic| (k_here; k_dflt (refine' nameX_L ?F ?v ?_ ?a ?b; (case a => rfl); (case b => rfl); (case F => k_asm); (case v => assumption); k_whole)))
local macro_rules | `(tactic| walk_at "call builtin:list.append") => `(tactic| (k_here; (with_reducible show wpAny _ _ (call (Value.builtin _) [Value.ref _, _]) _ _ _); k_dflt (refine' append_K ?k1 ?k2 ?k3 ?_ ?z; (case k1 => k_asm); (case k2 => k_asm); (case k3 => k_upd); (case z => (rw [sizeLine_eq]; omega)); k_whole); intro h' F' N'; (try k_sweep)))
local macro_rules | `(tactic| walk_at "subscriptTail Name Slice str ref") => `(tactic| (k_here; (with_reducible show wpAny _ _ (subscriptTail _ _ (Value.str _ _) (Value.ref _)) _ _ _); (first | (refine' sliceT_ss (s := ⟨_, _, _, _, _⟩) ?z ?h ?hsz; case' hsz => (rw [sizeLine_eq]; omega)) | (refine' sliceT_ns (s := ⟨_, _, _, _, _⟩) ?z ?h ?hsz; case' hsz => (rw [sizeLine_eq]; omega)) | (refine' sliceT_sn (s := ⟨_, _, _, _, _⟩) ?z ?h ?hsz; case' hsz => (rw [sizeLine_eq]; omega))); (case z => first | (dsimp only; omega) | omega); intro h' t' k' htk' hk'; (try dsimp only at hk'); (rename Fr _ _ _ _ => kF'); (rename News _ _ _ _ => kN'); (have kF9 := fr_up kF' hk'); (have kN9 := news_up kN' hk'); clear kF' kN' hk'))
local macro_rules | `(tactic| walk_at "execs nil") => `(tactic| (k_here; (try dsimp only); refine' gen_toks ?k1 ?_; (case k1 => omega); intro tk' htk'; refine wpAny_execs_nil ?_))
local macro_rules | `(tactic| walk_at "execs cons") => `(tactic| (k_here; (try dsimp only); refine' gen_toks ?k1 ?_; (case k1 => omega); intro tk' htk'; refine wpAny_execs_cons ?_))

theorem turn_spec (X : (hd.heap_39 w.params).In h₀) (T : TopRead p loose mg mb h₀) (hdp : dp + 1 < recursionLimit) (hun : un + 90 < cLine) (htk : 1 ≤ tk) {x y z : Str} {t u v : Tok} (hx : x.length ≤ 2300000) (hyl : y.length ≤ 1000) (hz : z.length ≤ 6) (hr : (Txt.replace x y z).length ≤ 16000000)
    (hQ : ∀ t' h' tk', (∀ b o, h₀.get? b = some o → h'.get? b = some o) → Q (.str (Txt.replace x y z) t') ⟨h', g, dr, tk', os⟩) :
    wpAny (model rw_in0094_01.row.prog w) (ar dp un fr gd) (call (.ref 60) [.str x t, .str y u, .str z v]) Q E ⟨h₀, g, dr, tk, os⟩ := by
  revert X
  k_fill
  intro X
  refine wpAny_call ?_
  k_call_by "enterC" [(Str.ofString "text", Value.str x t), (Str.ofString "key", Value.str y u), (Str.ofString "value", Value.str z v)]
  intro L h₁ tk₁ cells F N htk1 Y
  obtain ⟨o1, hE, d1⟩ := CellsAre.one Y
  subst hE
  clear Y
  replace d1 : o1.data = .cell (some (.str z v)) := d1
  repeat' ((fail_if_success (first | (with_reducible show wpAny _ _ (eval (Expr.ListComp _ _ _ _) _) _ _ _) | (with_reducible show wpAny _ _ (exec (Stmt.While _ _ _ _) _) _ _ _))); walk1)
  · rename (y == Str.ofString "") = true => hy
    have hy0 : y = ⟨#[]⟩ := by rw [beq_iff_eq] at hy; rw [hy]; decide +kernel
    subst hy0
    have hE := replace_empty x z
    have hEl : (Txt.replace x ⟨#[]⟩ z).length = z.length + x.length * (1 + z.length) := by
      rw [← len_cps, hE, List.length_append, len_cps, flat_const]
      rw [len_cps, len_cps]
    rename Fr _ _ _ _ => F
    have hCg : h₁.get? (L + 1) = some o1 := (N _ (List.mem_cons_self ..)).1
    refine wpAny_with_toks (n := 1) (by dsimp only; omega) (wpAny_ListComp_free (fun _ => true) (fun v r => ∃ c t t', v = .str ⟨#[c]⟩ t ∧ r = .str (⟨#[c]⟩ ++ z) t') rfl (by decide) rfl (by decide) rfl ?_)
    refine nameX_L F rfl ?_ rfl rfl
    refine wpAny_pyIter_str fun o St hW hS => ?_
    refine ⟨_, _, _, _, _, _, rfl, hW _ rfl, ?_, hS, ?_, ⟨?_, ?_⟩, ?_⟩
    · show x.length ≤ _
      rw [sizeLine_eq]; omega
    · intro b hb
      rw [List.mem_singleton.mp hb]
      dsimp only
      rw [Heap.size_push]
      exact Nat.lt_succ_self _
    · rintro C j v s₃ m₃ E' hC hv hn hm hk htk
      exact forIn_none ⟨rfl, _, _, rfl, fun _ _ e => e⟩
    · rintro C j v s₃ m₃ E' hC ⟨c, u', hc, rfl⟩ _ hn hm hk htk
      obtain ⟨h3, g3, dr3, tk3, os3⟩ := s₃
      dsimp only at hk hn htk ⊢
      have gV : h3.get? (L + 1) = some o1 := hk _ _ (by rw [List.mem_singleton]; exact Nat.ne_of_lt (Heap.lt_size hCg)) (Heap.get?_push_of_some _ hCg)
      refine sign_plus hn hm ?_ gV d1 hz ?_ ?_ ?_ <;> rfl
    · intro Dh h' tk' ys vs hDh' hys hpl hlen hP hF hk htk9
      dsimp only at hDh' hk htk9
      have hns := F.ns.at' (h' := h') fun o e => hk _ o (by rw [List.mem_singleton]; exact Nat.ne_of_lt F.ns.lt) (Heap.get?_push_of_some _ e)
      obtain ⟨nH, hg⟩ := hpl
      obtain ⟨F', N', hne, hneL⟩ := after_comp F N hns hDh' hg (fun b o _ => hk b o)
      have tH : TxtA ys (x.cps.toList.map fun c => (⟨#[c]⟩ : Str) ++ z) := by
        rw [filter_true] at hF
        refine txt_of_signs (G := fun c => (⟨#[c]⟩ : Str) ++ z) hF (by rw [hlen, Array.length_toList]) fun j v hv => ?_
        obtain ⟨c, u', hc, e⟩ := hP j v hv
        exact ⟨c, u', by rw [Array.getElem?_toList]; exact hc, e⟩
      clear hk hg hDh' hF hP hlen hys hns
      have n1 := neN (hne (L + 1, _) (by k_mem))
      clear hne F N hCg
      dsimp only at n1 htk9 ⊢
      rename Fr _ _ _ _ => F
      rename News _ _ _ _ => N
      repeat' ((fail_if_success (with_reducible show wpAny _ _ (call _ _) _ _ _)); walk1)
      have hj : ((x.cps.toList.map fun c => (⟨#[c]⟩ : Str) ++ z).flatMap fun s => s.cps.toList) = x.cps.toList.flatMap fun c => c :: z.cps.toList := by
        rw [List.flatMap_map]
        refine congrArg (fun f => List.flatMap f x.cps.toList) (funext fun c => ?_)
        rw [Str.cps_append, Array.toList_append]
        rfl
      have hs := sum_flat (x.cps.toList.map fun c => (⟨#[c]⟩ : Str) ++ z)
      have hjc := join_codes (x.cps.toList.map fun c => (⟨#[c]⟩ : Str) ++ z)
      rw [hj, flat_const, len_cps, len_cps] at hs
      rw [hj] at hjc
      refine wpAny_with_toks (n := 1) (by first | omega | (dsimp only; omega)) (join_E (News.get (by assumption) (by k_mem)) tH ?_ fun t' k htk' => ?_)
      · rw [← hs]
        show _ + _ * 0 ≤ _
        omega
      generalize Txt.join (Str.ofString "") _ = J at hjc ⊢
      have e : z ++ J = Txt.replace x ⟨#[]⟩ z := by
        refine str_ext ?_
        simp only [Str.cps_append, Array.toList_append]
        rw [hjc, hE]
      have hzJ : z.length + J.length ≤ 16000000 := by
        rw [← len_cps, ← len_cps J, ← List.length_append, ← Array.toList_append, ← Str.cps_append, e, len_cps]
        exact hr
      clear hs hEl hjc hj hE
      k_steps
      rw [← e] at hQ
      exact hQ _ _ _ (Fr.keep (by assumption))
  · rename (Builtin.Str.occurrences x y 0 x.length 1).isEmpty = true => hy
    rw [replace_absent z hy] at hQ
    rename Fr _ _ _ _ => F
    exact hQ _ _ _ F.keep
  · rename (y == Str.ofString "") = false => hy
    have hy1 : 1 ≤ y.length := by
      rcases Nat.eq_zero_or_pos y.length with q | q
      · have : y = Str.ofString "" := str_ext (by rw [show (Str.ofString "").cps.toList = [] from by decide +kernel]; exact List.length_eq_zero_iff.mp (by rw [len_cps]; exact q))
        rw [this] at hy
        exact absurd hy (by decide +kernel)
      · exact q
    rename_i lS _ l1 _ _ _ hh F N tk₃ htk₃
    generalize hm : (fun y_1 => if y_1 = Str.ofString "at" then some (Value.int 0 _) else _) = m at F
    have mS : m (Str.ofString "told") = some (Value.ref lS) := by rw [← hm]; rfl
    have mA : ∃ ti, m (Str.ofString "at") = some (Value.int ((0 : Nat) : Int) ti) := ⟨_, by rw [← hm]; rfl⟩
    have mT : m (Str.ofString "text") = some (Value.str x t) := by rw [← hm]; rfl
    have mK : m (Str.ofString "key") = some (Value.str y u) := by rw [← hm]; rfl
    clear hm
    obtain ⟨ti, mA⟩ := mA
    have hXl := len_cps x
    have hYl := len_cps y
    refine while_E (fun n s' => ∃ h tk m vs ns sd i ti, s' = ⟨h, g, dr, tk, os⟩ ∧ 1 ≤ tk ∧ Fr h₀ L h m ∧ News h₀ L h [(lS, W.listOf vs ns), (L + 1, o1)] ∧
      m (Str.ofString "at") = some (Value.int (i : Nat) ti) ∧ m (Str.ofString "told") = some (Value.ref lS) ∧ m (Str.ofString "text") = some (Value.str x t) ∧ m (Str.ofString "key") = some (Value.str y u) ∧
      TxtA vs sd ∧ SI x.cps.toList y.cps.toList z.cps.toList i sd ∧ vs.size ≤ i ∧ n = x.cps.toList.length - i) ?_ _
      ⟨hh, _, m, #[], 0, [], 0, ti, rfl, by first | assumption | omega, F, N, mA, mS, mT, mK, .nil, .start _ _ _, Nat.le_refl _, rfl⟩
    clear N mS mA mT mK F hh htk₃ tk₃ ti m
    rintro n s' ⟨h, tk, m, vs, ns, sd, i, ti, rfl, htk, F, N, mA, mS, mT, mK, tS, hSI, hvl, rfl⟩
    have hiX := hSI.1
    have hi1 : i ≤ 2300000 := by omega
    k_steps
    · rename (Txt.slice x _ _ == y) = true => hq
      rename (_ : Int) < _ => hlt
      rename Fr _ _ _ _ => F'
      rename News _ _ _ _ => N'
      rw [slice_is] at hq
      have hlen := (List.isPrefixOf_iff_prefix.mp hq).length_le
      rw [List.length_drop] at hlen
      have h1 := hSI.hit (z := z) (by omega) rfl hq
      rw [hYl] at h1
      exact ⟨x.cps.toList.length - (i + y.length), by omega, _, _, _, _, _, _, i + y.length, _, rfl, by assumption, F', N', rfl, mS, mT, mK, tS.push, h1, by rw [Array.size_push]; omega, rfl⟩
    · rename (Txt.slice x _ _ == y) = false => hq
      rename (_ : Int) < _ => hlt
      rename Fr _ _ _ _ => F'
      rename News _ _ _ _ => N'
      rw [slice_is] at hq
      have hlt' : i < x.cps.toList.length := by omega
      have hc : x.cps.toList[i]? = some x.cps.toList[i] := List.getElem?_eq_getElem hlt'
      have hit : Txt.item x (i : Int) = ⟨#[x.cps.toList[i]]⟩ := PyProof.Rows.item_meets (by omega) (by rw [Int.toNat_natCast]; simpa using hc)
      rw [hit] at N'
      exact ⟨x.cps.toList.length - (i + 1), by omega, _, _, _, _, _, _, i + 1, _, rfl, by assumption, F', N', rfl, mS, mT, mK, tS.push, hSI.miss hc hq, by rw [Array.size_push]; omega, rfl⟩
    · rename ¬ (_ : Int) < _ => hge
      have hend : x.cps.toList.drop i = [] := List.drop_eq_nil_of_le (by omega)
      have hR := hSI.2
      rw [hend] at hR
      have hrn : rep y.cps.toList z.cps.toList 0 [] = [] := rfl
      rw [hrn, List.append_nil, ← replace_rep x y z hy1] at hR
      have hs := sum_flat sd
      rw [← hR, len_cps] at hs
      have e : Txt.join (Str.ofString "") sd = Txt.replace x y z := str_ext (by rw [join_codes, hR])
      refine join_E (News.get (by assumption) (by k_mem)) tS ?_ fun t' k => ?_
      · rw [← hs]
        show _ + _ * 0 ≤ _
        omega
      rw [e]
      clear hs hR hSI e
      k_steps
      exact hQ _ _ _ (Fr.keep (by assumption))
theorem turn_t (X : (hd.heap_39 w.params).In h₀) (T : TopRead p loose mg mb h₀) (hdp : dp + 1 < recursionLimit) (hun : un + 90 < cLine) (htk : 1 ≤ tk) {x y z : Str} {t u v : Tok} (hx : x.length ≤ 2300000) (hyl : y.length ≤ 1000) (hz : z.length ≤ 6) (hr : (Txt.replace x y z).length ≤ 16000000)
    (hQ : ∀ t' h' tk', 1 ≤ tk' → (∀ b o, h₀.get? b = some o → h'.get? b = some o) → Q (.str (Txt.replace x y z) t') ⟨h', g, dr, tk', os⟩) :
    wpAny (model rw_in0094_01.row.prog w) (ar dp un fr gd) (call (.ref 60) [.str x t, .str y u, .str z v]) Q E ⟨h₀, g, dr, tk, os⟩ :=
  wpAny_with_toks (n := 1) htk (turn_spec X T hdp hun htk hx hyl hz hr fun t' h' tk' hk q => hQ t' h' tk' q hk)
end
end Mine

open PySem PySem.W PyProof.Rows PySem.Calls
set_option Elab.async false
set_option maxRecDepth 100000
namespace Mine
open PySem.StrLaws PySem.Builtin.Str

theorem rep_flatMap (c : Nat) (v : List Nat) (f : Nat → List Nat) (l : List Nat) : rep [c] v 0 (l.flatMap f) = l.flatMap fun d => rep [c] v 0 (f d) := by
  rw [rep_one, List.flatMap_assoc]
  refine congrArg (fun g => List.flatMap g l) (funext fun d => ?_)
  rw [rep_one]
theorem rep_single {c d : Nat} (v : List Nat) (h : ¬ d = c) : rep [c] v 0 [d] = [d] := by
  rw [rep_one, List.flatMap_cons, if_neg h]; rfl
theorem flat_single (l : List Nat) : l = l.flatMap fun d => [d] := by simp
theorem esc3_flat (x : Str) : (esc3 x).cps.toList = x.cps.toList.flatMap fun d => rep [60] (Str.ofString "&lt;").cps.toList 0 (rep [62] (Str.ofString "&gt;").cps.toList 0 (rep [38] (Str.ofString "&amp;").cps.toList 0 [d])) := by
  unfold esc3
  rw [replace_rep _ _ _ (by decide +kernel), replace_rep _ _ _ (by decide +kernel), replace_rep _ _ _ (by decide +kernel), cAmp, cLt, cGt]
  conv => lhs; rw [flat_single x.cps.toList]
  rw [rep_flatMap, rep_flatMap, rep_flatMap]

/-- what a written table says of x, else y -/
def getT (l : List (Str × Str)) (x y : Str) : Str := match l.find? fun p => decide (p.1 = x) with
  | some p => p.2
  | none => y
def marksT : List (Str × Str) := [(Str.ofString "&", Str.ofString "&amp;"), (Str.ofString "<", Str.ofString "&lt;"), (Str.ofString ">", Str.ofString "&gt;")]
def markOf (c : Nat) : Str := getT marksT ⟨#[c]⟩ ⟨#[c]⟩
theorem mark_codes (d : Nat) : (markOf d).cps.toList = rep [60] (Str.ofString "&lt;").cps.toList 0 (rep [62] (Str.ofString "&gt;").cps.toList 0 (rep [38] (Str.ofString "&amp;").cps.toList 0 [d])) := by
  by_cases h : d = 38
  · rw [h]; decide +kernel
  by_cases h2 : d = 62
  · rw [h2]; decide +kernel
  by_cases h3 : d = 60
  · rw [h3]; decide +kernel
  rw [rep_single _ h, rep_single _ h2, rep_single _ h3]
  have e1 : Str.ofString "&" = ⟨#[38]⟩ := by decide +kernel
  have e2 : Str.ofString "<" = ⟨#[60]⟩ := by decide +kernel
  have e3 : Str.ofString ">" = ⟨#[62]⟩ := by decide +kernel
  have n : ∀ c, ¬ d = c → decide ((⟨#[c]⟩ : Str) = ⟨#[d]⟩) = false := fun c hc => decide_eq_false fun q => hc (by simpa using q.symm)
  unfold markOf getT marksT
  rw [e1, e2, e3, List.find?_cons, n _ h, List.find?_cons, n _ h3, List.find?_cons, n _ h2]
  rfl
theorem mark_len (d : Nat) : (markOf d).length ≤ 5 := by
  by_cases h : d = 38
  · rw [h]; decide +kernel
  by_cases h2 : d = 62
  · rw [h2]; decide +kernel
  by_cases h3 : d = 60
  · rw [h3]; decide +kernel
  rw [← len_cps, mark_codes, rep_single _ h, rep_single _ h2, rep_single _ h3]
  show 1 ≤ 5
  decide
theorem marks_join (x : Str) : Txt.join (Str.ofString "") (x.cps.toList.map markOf) = esc3 x := by
  refine str_ext ?_
  rw [join_codes, esc3_flat, List.flatMap_map]
  exact congrArg (fun f => List.flatMap f x.cps.toList) (funext fun d => mark_codes d)
theorem flat_len_le {B : Nat} {f : Nat → List Nat} (h : ∀ d, (f d).length ≤ B) : ∀ l : List Nat, (l.flatMap f).length ≤ l.length * B
  | [] => by simp
  | d :: l => by
    have := flat_len_le h l
    have := h d
    rw [List.flatMap_cons, List.length_append, List.length_cons, Nat.succ_mul]
    omega
theorem esc3_len5 (x : Str) : (esc3 x).length ≤ x.length * 5 := by
  rw [← len_cps, ← len_cps x, esc3_flat]
  exact flat_len_le (fun d => by rw [← mark_codes, len_cps]; exact mark_len d) _

section
open PySem.Spec PyProof.V
variable {prog : Program} {w : World} {A : Around} {E : Value → Shared → Prop} {s : Shared}
theorem get_E {d : Addr} {l : List (Str × Str)} {tk ep : Nat} {x y : Str} {t u : Tok} {Q : Value → Shared → Prop} (hd : s.heap.get? d = some (dictO w (constEnts tk l) ep)) (hn : (l.map (·.1)).Nodup) (hds : (d == sysModules) = false)
    (h : ∀ t', Q (.str (getT l x y) t') { s with toks := s.toks + 1 }) : wpAny (model prog w) A (call (.builtin "dict.get") [.ref d, .str x t, .str y u]) Q E s := by
  have hn' : ((constEnts tk l).map Ent.k).Nodup := by rw [const_keys]; exact hn
  refine call_get2_strTab (tab_E hd hn' hds) (Flat.str y u) fun v hv => ?_
  rw [lookup_E, find_const] at hv
  unfold getT at h
  cases hf : l.find? fun p => decide (p.1 = x) with
  | none =>
    rw [hf] at hv h
    obtain ⟨t', e⟩ := hv.str_inv
    subst e
    exact h t'
  | some p =>
    rw [hf] at hv h
    obtain ⟨t', e⟩ := hv.str_inv
    subst e
    exact h t'
end

theorem mark_get {prog : Program} {w : World} {A : Around} {E : Value → Shared → Prop} {h3 : Heap} {g : Array GenState} {dr : Drawn} {tk : Nat} {os : OsState} {scope : Scope} {cl : List (Str × Addr)} {C c D : Addr} {o : Obj} {env : Env} {m : Str → Option Value} {p1 p2 p3 p4 p5 : Pos} {ch : Nat} {t : Tok} {tkD ep : Nat}
    (hn : h3.Ns C m) (hm : m (Str.ofString "sign") = some (.str ⟨#[ch]⟩ t)) (hc : cl.lookup (Str.ofString "marks") = some c) (gV : h3.get? c = some o) (dV : o.data = .cell (some (.ref D))) (gD : h3.get? D = some (dictO w (constEnts tkD marksT) ep)) (hDs : (D == sysModules) = false)
    (k1 : (compEnvC scope cl C env).scope.kind = .function) (k2 : (compEnvC scope cl C env).kindOf (Str.ofString "sign") = some .local) (k3 : (compEnvC scope cl C env).kindOf (Str.ofString "marks") = some .cell)
    (hb : attributeBase (.Name (Str.ofString "marks") p1) (Str.ofString "get") (compEnvC scope cl C env) (eval (.Name (Str.ofString "marks") p1) (compEnvC scope cl C env)) = eval (.Name (Str.ofString "marks") p1) (compEnvC scope cl C env)) (hl : (p2.endLine == p5.line) = true) :
    wpAny (model prog w) A (eval (.Call (.Attribute (.Name (Str.ofString "marks") p1) (Str.ofString "get") p2) [.Name (Str.ofString "sign") p3, .Name (Str.ofString "sign") p4] [] p5) (compEnvC scope cl C env))
      (fun y s₄ => (∃ c t0 u, Value.str ⟨#[ch]⟩ t = .str ⟨#[c]⟩ t0 ∧ y = .str (markOf c) u) ∧ Keeps ⟨h3, g, dr, tk, os⟩ s₄) E ⟨h3, g, dr, tk, os⟩ := by
  k_steps
  have hD := (dictAt_E (prog := prog) gD (by rw [const_keys]; decide +kernel)).dictOf
  refine wpAny_Call_method (T := "dict") (id := "dict.get") hb rfl hl PySem.F.plainAttrs_dict PySem.F.slot_dict_get PySem.F.type_dict_get ?_
  refine cname_C hc gV dV ⟨hD.typeIs, hD.mapOf.noDict, ?_⟩ k1 k3
  refine callWith_method1 ?_
  k_steps
  refine cname_L hn hm ?_ k1 k2
  k_steps
  refine cname_L hn hm ?_ k1 k2
  k_steps
  refine get_E gD (by decide +kernel) hDs fun t' => ?_
  exact ⟨⟨_, _, _, rfl, rfl⟩, _, _, rfl, fun _ _ e => e⟩
end Mine

open PySem PySem.W PyProof.Rows PySem.Calls
set_option Elab.async false
set_option maxRecDepth 100000
set_option maxHeartbeats 8000000
namespace Mine
open PySem.Challenge

/-- the turns' texts stay within the model's sizes -/
def TFits : Str → List (Str × Str) → Prop
  | _, [] => True
  | x, e :: r => x.length ≤ 2300000 ∧ e.1.length ≤ 1000 ∧ e.2.length ≤ 6 ∧ (Txt.replace x e.1 e.2).length ≤ 16000000 ∧ TFits (Txt.replace x e.1 e.2) r
theorem repl_snoc {x : Str} {es : List (Str × Str)} {i : Nat} {k v : Str} (h : es[i]? = some (k, v)) : repl x (es.take (i + 1)) = Txt.replace (repl x (es.take i)) k v := by
  rw [List.take_add_one, h, repl, repl, List.foldl_append]
  rfl
theorem TFits.at : ∀ {es : List (Str × Str)} {x : Str} (_ : TFits x es) {i : Nat} {k v : Str} (_ : es[i]? = some (k, v)), (repl x (es.take i)).length ≤ 2300000 ∧ k.length ≤ 1000 ∧ v.length ≤ 6 ∧ (Txt.replace (repl x (es.take i)) k v).length ≤ 16000000
  | [], _, _, i, _, _, h => by simp at h
  | e :: r, x, hf, 0, k, v, h => by
    have h' : e = (k, v) := by simpa using h
    subst h'
    exact ⟨hf.1, hf.2.1, hf.2.2.1, hf.2.2.2.1⟩
  | e :: r, x, hf, i + 1, k, v, h => by
    have := TFits.at hf.2.2.2.2 (i := i) (k := k) (v := v) (by simpa using h)
    simpa [repl] using this

section
variable {w : World} {p : Program} {loose : List Str} {mg mb : Str → Option Value} {dp un : Nat} {fr : Option (List Env)} {gd : Option (List Code)}
  {h₀ : Heap} {g : Array GenState} {dr : Drawn} {tk : Nat} {os : OsState} {Q E : Value → Shared → Prop}

local macro_rules | `(tactic| k_call_by "enter" $b) => `(tactic| (refine' enter_plain (binds := $b) ?X ?T ?k6 ?k7 ?k8 ?k9 ?kB ?_ ?c2 ?c3 ?c4 ?c5; (case X => assumption); (case T => assumption); (case k6 => k_is); (case k7 => k_is); (case k8 => (show dp < recursionLimit; omega)); (case k9 => exact BindsTo.of_eq rfl); (case kB => exact locs rfl); (case c2 => exact rfl); (case c3 => exact rfl); (case c4 => exact rfl); (case c5 => decide)))
local macro_rules | `(tactic| k_call_by "enterC" $b) => `(tactic| (refine' enter_cells (binds := $b) ?X ?T ?k6 ?k7 ?k8 ?k9 ?kB ?kD ?_ ?c2 ?c3 ?c4; (case X => assumption); (case T => assumption); (case k6 => k_is); (case k7 => k_is); (case k8 => (show dp < recursionLimit; omega)); (case k9 => exact BindsTo.of_eq rfl); (case kB => exact rfl); (case kD => decide +kernel); (case c2 => exact rfl); (case c3 => exact rfl); (case c4 => exact rfl)))
local macro_rules | `(tactic| walk_at "eval Name") => `(tactic| (k_here; k_dflt (refine' nameX_L ?F ?v ?_ ?a ?b; (case a => rfl); (case b => rfl); (case F => k_asm); (case v => assumption); k_whole)))
local macro_rules | `(tactic| walk_at "execs nil") => `(tactic| (k_here; (try dsimp only); refine' gen_toks ?k1 ?_; (case k1 => omega); intro tk' htk'; refine wpAny_execs_nil ?_))
local macro_rules | `(tactic| walk_at "execs cons") => `(tactic| (k_here; (try dsimp only); refine' gen_toks ?k1 ?_; (case k1 => omega); intro tk' htk'; refine wpAny_execs_cons ?_))

theorem escaped_spec (X : (hd.heap_39 w.params).In h₀) (T : TopRead p loose mg mb h₀) (hdp : dp + 2 < recursionLimit) (hun : un + 120 < cLine) (htk : 1 ≤ tk) {x : Str} {t : Tok} {l : Addr} {es : List (Str × Str)} (hP : PairsAt h₀ l es) (hx : x.length ≤ 100) (hf : TFits (esc3 x) es)
    (hQ : ∀ t' h' tk', (∀ b o, h₀.get? b = some o → h'.get? b = some o) → Q (.str (repl (esc3 x) es) t') ⟨h', g, dr, tk', os⟩) :
    wpAny (model rw_in0094_01.row.prog w) (ar dp un fr gd) (call (.ref 65) [.str x t, .ref l]) Q E ⟨h₀, g, dr, tk, os⟩ := by
  revert X
  k_fill
  intro X
  refine wpAny_call ?_
  k_call_by "enterC" [(Str.ofString "text", Value.str x t), (Str.ofString "turns", Value.ref l)]
  intro L h₁ tk₁ cells F N htk1 Y
  obtain ⟨o1, hE, d1⟩ := CellsAre.one Y
  subst hE
  clear Y
  replace d1 : o1.data = .cell none := d1
  repeat' ((fail_if_success (with_reducible show wpAny _ _ (eval (Expr.Dict _ _ _) _) _ _ _)); walk1)
  refine' Dict_E (kvs := marksT) ?ka ?kb ?kc ?kd ?_
  case ka => simp only [arm_evalEachOpt_cons, arm_evalEachOpt_nil, arm_evalOpt_some, arm_eval_Constant, constValue, marksT, List.map]
  case kb => simp only [arm_evalEach_cons, arm_evalEach_nil, arm_eval_Constant, constValue, marksT, List.map]
  case kc => exact List.cons_ne_nil _ _
  case kd => exact Nat.le_of_ble_eq_true rfl
  rename_i tkD _
  intro h₂ ep₂ tk₂ hD ht2 hk
  rw [merge_nil (by rw [const_keys]; decide +kernel)] at hD
  have l1 := news_lt N
  k_lt l1
  have N2 := news_new F N hk hD
  have F2 := fr_up F hk
  dsimp only at N2 F2 hk hD ht2 l1 ⊢
  have htk2 : 1 ≤ tk₂ := by omega
  generalize h₁.objs.size = D at N2 hD l1 ⊢
  clear hk hD N F h₁
  repeat' ((fail_if_success (with_reducible show wpAny _ _ (eval (Expr.ListComp _ _ _ _) _) _ _ _)); walk1)
  rename Fr _ _ _ _ => F
  rename News _ _ _ _ => N
  rename _ = Data.cell (some _) => dM
  rename Obj => oM
  have hDs : (D == sysModules) = false := beq_false_of_ne (Nat.ne_of_gt (Nat.lt_of_le_of_lt (Nat.succ_le_succ (Nat.zero_le L)) l1))
  have hCg := (N (L + 1, oM) (by k_mem)).1
  have hDg := (N (D, _) (List.mem_cons_self ..)).1
  dsimp only at hCg hDg
  refine wpAny_with_toks (n := 1) (by first | omega | (dsimp only; omega)) (wpAny_ListComp_free (fun _ => true) (fun v r => ∃ c t t', v = .str ⟨#[c]⟩ t ∧ r = .str (markOf c) t') rfl (by decide) rfl (by decide) rfl ?_)
  refine nameX_L F rfl ?_ rfl rfl
  refine wpAny_pyIter_str fun o St hW hS => ?_
  refine ⟨_, _, _, _, _, _, rfl, hW _ rfl, ?_, hS, ?_, ⟨?_, ?_⟩, ?_⟩
  · show x.length ≤ _
    rw [sizeLine_eq]; omega
  · intro b hb
    rw [List.mem_singleton.mp hb]
    dsimp only
    rw [Heap.size_push]
    exact Nat.lt_succ_self _
  · rintro C j v s₃ m₃ E' hC hv hn hm hk htk
    exact forIn_none ⟨rfl, _, _, rfl, fun _ _ e => e⟩
  · rintro C j v s₃ m₃ E' hC ⟨c, u', hc, rfl⟩ _ hn hm hk htk
    obtain ⟨h3, g3, dr3, tk3, os3⟩ := s₃
    dsimp only at hk hn htk ⊢
    have gV : h3.get? (L + 1) = some oM := hk _ _ (by rw [List.mem_singleton]; exact Nat.ne_of_lt (Heap.lt_size hCg)) (Heap.get?_push_of_some _ hCg)
    have gD : h3.get? D = some _ := hk _ _ (by rw [List.mem_singleton]; exact Nat.ne_of_lt (Heap.lt_size hDg)) (Heap.get?_push_of_some _ hDg)
    refine mark_get hn hm ?_ gV dM gD hDs ?_ ?_ ?_ ?_ ?_ <;> rfl
  · intro Dh h' tk' ys vs hDh' hys hpl hlen hP' hF hk htk9
    dsimp only at hDh' hk htk9
    have hns := F.ns.at' (h' := h') fun o e => hk _ o (by rw [List.mem_singleton]; exact Nat.ne_of_lt F.ns.lt) (Heap.get?_push_of_some _ e)
    obtain ⟨nH, hg⟩ := hpl
    obtain ⟨F', N', hne, hneL⟩ := after_comp F N hns hDh' hg (fun b o _ => hk b o)
    have tH : TxtA ys (x.cps.toList.map markOf) := by
      rw [filter_true] at hF
      refine txt_of_signs (G := markOf) hF (by rw [hlen, Array.length_toList]) fun j v hv => ?_
      obtain ⟨c, u', hc, e⟩ := hP' j v hv
      exact ⟨c, u', by rw [Array.getElem?_toList]; exact hc, e⟩
    have n1 := neN (hne (L + 1, _) (by k_mem))
    have n2 := neN (hne (D, _) (by k_mem))
    clear hk hg hDh' hF hP' hlen hys hns hS hW hne F N hCg hDg
    dsimp only at n1 n2 htk9 ⊢
    rename Fr _ _ _ _ => F
    rename News _ _ _ _ => N
    repeat' ((fail_if_success (with_reducible show wpAny _ _ (call _ _) _ _ _)); walk1)
    have hs := sum_flat (x.cps.toList.map markOf)
    have hjc := join_codes (x.cps.toList.map markOf)
    rw [← hjc, marks_join, len_cps] at hs
    have he5 := esc3_len5 x
    refine wpAny_with_toks (n := 1) (by first | omega | (dsimp only; omega)) (join_E (News.get (by assumption) (by k_mem)) tH ?_ fun t' k htk' => ?_)
    · rw [← hs]
      show _ + _ * 0 ≤ _
      omega
    rw [marks_join]
    clear hs hjc tH
    repeat' ((fail_if_success (with_reducible show wpAny _ _ (exec (Stmt.For _ _ _ _ _) _) _ _ _)); walk1)
    refine wpAny_For ?_ (by intro _; rfl)
    repeat' ((fail_if_success (with_reducible show wpAny _ _ (pyIter _) _ _ _)); walk1)
    rename Fr _ _ _ _ => F
    rename News _ _ _ _ => N
    refine for_pairs_E rfl rfl rfl rfl hP F N (by first | assumption | omega | (dsimp only; omega)) (fun i m => ∃ t, m (Str.ofString "told") = some (.str (repl (esc3 x) (es.take i)) t)) ⟨_, rfl⟩ ?_ ?_
    · rintro i k v m₁ h tk own kt vt he ⟨t1, hs⟩ htk F N
      obtain ⟨a1, a2, a3, a4⟩ := hf.at he
      have htk : 1 ≤ tk := htk
      dsimp only at F N ⊢
      repeat' ((fail_if_success (with_reducible show wpAny _ _ (call _ _) _ _ _)); walk1)
      rename Fr _ _ _ _ => F
      rename News _ _ _ _ => N
      refine turn_t (X.keeps F.keep) (T.keeps F.keep) (by show dp + 1 + 1 < recursionLimit; omega) (by show un + 3 + 90 < cLine; omega) (by first | omega | (dsimp only; omega)) a1 a2 a3 a4 fun t' h' tk' htk' hk' => ?_
      have F9 := fr_up F hk'
      have N9 := news_up N hk'
      clear hk' F N
      rw [← repl_snoc he]
      k_steps
      rename Fr _ _ _ _ => F'
      rename News _ _ _ _ => N'
      exact ⟨_, _, _, rfl, F', N', ⟨t', rfl⟩⟩
    · rintro h' tk m' htk F N ⟨t1, hs⟩
      rw [List.take_length] at hs
      have htk : 1 ≤ tk := htk
      k_steps
      exact hQ _ _ _ F.keep
end
end Mine

open PySem PySem.W PyProof.Rows PySem.Calls
set_option Elab.async false
set_option maxRecDepth 100000
set_option maxHeartbeats 8000000
namespace Mine
open PySem.Challenge

section
variable {w : World} {p : Program} {loose : List Str} {mg mb : Str → Option Value} {dp un : Nat} {fr : Option (List Env)} {gd : Option (List Code)}
  {h₀ : Heap} {g : Array GenState} {dr : Drawn} {tk : Nat} {os : OsState} {Q E : Value → Shared → Prop}

local macro_rules | `(tactic| k_call_by "enter" $b) => `(tactic| (refine' enter_plain (binds := $b) ?X ?T ?k6 ?k7 ?k8 ?k9 ?kB ?_ ?c2 ?c3 ?c4 ?c5; (case X => assumption); (case T => assumption); (case k6 => k_is); (case k7 => k_is); (case k8 => (show dp < recursionLimit; omega)); (case k9 => exact BindsTo.of_eq rfl); (case kB => exact locs rfl); (case c2 => exact rfl); (case c3 => exact rfl); (case c4 => exact rfl); (case c5 => decide)))
local macro_rules | `(tactic| k_call_by "enterC" $b) => `(tactic| (refine' enter_cells (binds := $b) ?X ?T ?k6 ?k7 ?k8 ?k9 ?kB ?kD ?_ ?c2 ?c3 ?c4; (case X => assumption); (case T => assumption); (case k6 => k_is); (case k7 => k_is); (case k8 => (show dp < recursionLimit; omega)); (case k9 => exact BindsTo.of_eq rfl); (case kB => exact rfl); (case kD => decide +kernel); (case c2 => exact rfl); (case c3 => exact rfl); (case c4 => exact rfl)))
local macro_rules | `(tactic| walk_at "eval Name") => `(tactic| (k_here; k_dflt (refine' nameX_L ?F ?v ?_ ?a ?b; (case a => rfl); (case b => rfl); (case F => k_asm); (case v => assumption); k_whole)))
local macro_rules | `(tactic| walk_at "execs nil") => `(tactic| (k_here; (try dsimp only); refine' gen_toks ?k1 ?_; (case k1 => omega); intro tk' htk'; refine wpAny_execs_nil ?_))
local macro_rules | `(tactic| walk_at "execs cons") => `(tactic| (k_here; (try dsimp only); refine' gen_toks ?k1 ?_; (case k1 => omega); intro tk' htk'; refine wpAny_execs_cons ?_))

theorem read1_spec (X : (hd.heap_39 w.params).In h₀) (T : TopRead p loose mg mb h₀) (hdp : dp + 2 < recursionLimit) (hun : un + 120 < cLine) (htk : 1 ≤ tk) {x : Str} {t : Tok} {l : Addr} {es : List (Str × Str)} (hP : PairsAt h₀ l es) (hx : x.length ≤ 100) (hf : TFits (une2 x) es) (hf2 : (repl (une2 x) es).length ≤ 2300000)
    (hQ : ∀ t' h' tk', (∀ b o, h₀.get? b = some o → h'.get? b = some o) → Q (.str (Txt.replace (repl (une2 x) es) (Str.ofString "&amp;") (Str.ofString "&")) t') ⟨h', g, dr, tk', os⟩) :
    wpAny (model rw_in0094_01.row.prog w) (ar dp un fr gd) (call (.ref 72) [.str x t, .ref l]) Q E ⟨h₀, g, dr, tk, os⟩ := by
  revert X
  k_fill
  intro X
  refine wpAny_call ?_
  k_call_by "enter" [(Str.ofString "text", Value.str x t), (Str.ofString "turns", Value.ref l)]
  intro L h₁ F N
  dsimp only [List.length_cons, List.length_nil]
  have s1 := replace_shrinks x (Str.ofString "&gt;") (Str.ofString ">") (by decide +kernel) (by decide +kernel)
  have s2 := replace_shrinks (Txt.replace x (Str.ofString "&gt;") (Str.ofString ">")) (Str.ofString "&lt;") (Str.ofString "<") (by decide +kernel) (by decide +kernel)
  repeat' ((fail_if_success (with_reducible show wpAny _ _ (call _ _) _ _ _)); walk1)
  rename Fr _ _ _ _ => F
  rename News _ _ _ _ => N
  refine turn_t (X.keeps F.keep) (T.keeps F.keep) (by show dp + 1 + 1 < recursionLimit; omega) (by show un + 3 + 90 < cLine; omega) (by first | omega | (dsimp only; omega)) (by omega) (by decide +kernel) (by decide +kernel) (by omega) fun t' h' tk' htk' hk' => ?_
  have F9 := fr_up F hk'
  have N9 := news_up N hk'
  clear hk' F N
  repeat' ((fail_if_success (with_reducible show wpAny _ _ (call _ _) _ _ _)); walk1)
  rename Fr _ _ _ _ => F
  rename News _ _ _ _ => N
  refine turn_t (X.keeps F.keep) (T.keeps F.keep) (by show dp + 1 + 1 < recursionLimit; omega) (by show un + 3 + 90 < cLine; omega) (by first | omega | (dsimp only; omega)) (by omega) (by decide +kernel) (by decide +kernel) (by omega) fun t' h' tk' htk' hk' => ?_
  have F9 := fr_up F hk'
  have N9 := news_up N hk'
  clear hk' F N
  rw [← une2_swap]
  repeat' ((fail_if_success (with_reducible show wpAny _ _ (exec (Stmt.For _ _ _ _ _) _) _ _ _)); walk1)
  refine wpAny_For ?_ (by intro _; rfl)
  repeat' ((fail_if_success (with_reducible show wpAny _ _ (pyIter _) _ _ _)); walk1)
  rename Fr _ _ _ _ => F
  rename News _ _ _ _ => N
  refine for_pairs_E rfl rfl rfl rfl hP F N (by first | assumption | omega | (dsimp only; omega)) (fun i m => ∃ t, m (Str.ofString "told") = some (.str (repl (une2 x) (es.take i)) t)) ⟨_, rfl⟩ ?_ ?_
  · rintro i k v m₁ h tk own kt vt he ⟨t1, hs⟩ htk F N
    obtain ⟨a1, a2, a3, a4⟩ := hf.at he
    have htk : 1 ≤ tk := htk
    dsimp only at F N ⊢
    repeat' ((fail_if_success (with_reducible show wpAny _ _ (call _ _) _ _ _)); walk1)
    rename Fr _ _ _ _ => F
    rename News _ _ _ _ => N
    refine turn_t (X.keeps F.keep) (T.keeps F.keep) (by show dp + 1 + 1 < recursionLimit; omega) (by show un + 3 + 90 < cLine; omega) (by first | omega | (dsimp only; omega)) a1 a2 a3 a4 fun t' h' tk' htk' hk' => ?_
    have F9 := fr_up F hk'
    have N9 := news_up N hk'
    clear hk' F N
    rw [← repl_snoc he]
    k_steps
    rename Fr _ _ _ _ => F'
    rename News _ _ _ _ => N'
    exact ⟨_, _, _, rfl, F', N', ⟨t', rfl⟩⟩
  · rintro h' tk m' htk F N ⟨t1, hs⟩
    rw [List.take_length] at hs
    have htk : 1 ≤ tk := htk
    have s3 := replace_shrinks (repl (une2 x) es) (Str.ofString "&amp;") (Str.ofString "&") (by decide +kernel) (by decide +kernel)
    repeat' ((fail_if_success (with_reducible show wpAny _ _ (call _ _) _ _ _)); walk1)
    rename Fr _ _ _ _ => F
    rename News _ _ _ _ => N
    refine turn_t (X.keeps F.keep) (T.keeps F.keep) (by show dp + 1 + 1 < recursionLimit; omega) (by show un + 3 + 90 < cLine; omega) (by first | omega | (dsimp only; omega)) hf2 (by decide +kernel) (by decide +kernel) (by omega) fun t' h' tk' htk' hk' => ?_
    have F9 := fr_up F hk'
    clear hk' F N
    k_steps
    exact hQ _ _ _ F9.keep
end
end Mine

open PySem PySem.W PyProof.Rows PySem.Calls
set_option Elab.async false
set_option maxRecDepth 100000
set_option maxHeartbeats 2000000
namespace Mine

/-- all that lay still lies, but for the bad places -/
def Off (bad : List Addr) (h h' : Heap) : Prop := ∀ b o, b ∉ bad → h.get? b = some o → h'.get? b = some o
theorem Off.refl (bad : List Addr) (h : Heap) : Off bad h h := fun _ _ _ e => e
theorem Off.trans {bad : List Addr} {a b c : Heap} (x : Off bad a b) (y : Off bad b c) : Off bad a c := fun p o hp e => y p o hp (x p o hp e)
theorem Off.of_all {bad : List Addr} {h h' : Heap} (k : ∀ b o, h.get? b = some o → h'.get? b = some o) : Off bad h h' := fun b o _ e => k b o e
theorem Off.of_but {bad : List Addr} {a : Addr} {h h' : Heap} (k : Heap.SameBut a h h') (ha : a ∈ bad) : Off bad h h' := fun b o hb e => k.extBut b o (fun q => hb (q ▸ ha)) e
theorem Off.of_ne {bad : List Addr} {a : Addr} {h h' : Heap} (k : ∀ c o, c ≠ a → h.get? c = some o → h'.get? c = some o) (ha : a ∈ bad) : Off bad h h' := fun b o hb e => k b o (fun q => hb (q ▸ ha)) e
theorem Off.wider {bad bad' : List Addr} {h h' : Heap} (x : Off bad h h') (hs : ∀ b ∈ bad, b ∈ bad') : Off bad' h h' := fun b o hb e => x b o (fun q => hb (hs b q)) e

section
variable {prog : Program} {w : World} {A : Around} {R : Result → Shared → Prop}

theorem loop_pairs {s₂ : Shared} {elt iter : Expr} {xa xb : Str} {pa pb tp : Pos} {kk : Nat} {scope : Scope} {pos : Pos} {cenv : Env} {I l D L : Addr} {es : List (Str × Str)} {m0 : Str → Option Value} {h₁ : Heap} {tk₁ : Nat}
    (hh : A.handled = none) (ha : cenv.kindOf xa = some .local) (hb : cenv.kindOf xb = some .local) (hab : xa ≠ xb) (hp : (cenv.scope.kind == .class || (cenv.scope.kind == .module && cenv.locals != cenv.globals)) = false)
    (hP : PairsAt s₂.heap l es) (hit : s₂.heap.IsListIter I l 0) (hIl : l ≠ I) (hD : s₂.heap.objs.size ≤ D) (hDC : D < cenv.locals) (hL : L < s₂.heap.objs.size)
    (hk₁ : ∀ b o, s₂.heap.get? b = some o → h₁.get? b = some o) (hD₁ : h₁.get? D = some (LCg.lst [])) (hn₁ : h₁.Ns cenv.locals m0) (htk : s₂.toks ≤ tk₁) (hsz : es.length ≤ 1000)
    (J : Nat → List Value → Heap → Prop) (hJ : ∀ i ys h h', J i ys h → Off [I, cenv.locals, D, L] h h' → J i ys h') (J0 : J 0 [] h₁)
    (helt : ∀ (i : Nat) k v kt vt ys h tk mc E', es[i]? = some (k, v) → J i ys h → h.Ns cenv.locals mc → mc xa = some (.str k kt) → mc xb = some (.str v vt) → Off [I, cenv.locals, D] s₂.heap h → (∀ b ∈ [I, cenv.locals, D, L], b < h.objs.size) → s₂.toks ≤ tk →
      wpAny (model prog w) A (eval elt cenv) (fun z s₄ => J (i + 1) (ys ++ [z]) s₄.heap ∧ Keeps { s₂ with heap := h, toks := tk } s₄) E' { s₂ with heap := h, toks := tk })
    (hR : ∀ h' tk ys mc, J es.length ys h' → h'.get? D = some (LCg.lst ys) → h'.Ns cenv.locals mc → Off [I, cenv.locals, D] s₂.heap h' → s₂.toks ≤ tk → R (.ok .next) { s₂ with heap := h', toks := tk }) :
    codeAny (model prog w) A (.compLoop (.ListComp elt [⟨.Tuple [.Name xa pa, .Name xb pb] kk tp, iter, [], 0⟩] scope pos) 0 (.ref I) (.ref D) cenv) R { s₂ with heap := h₁, toks := tk₁ } := by
  obtain ⟨items, hl, hisz, hPp⟩ := hP
  have hIlt : I < s₂.heap.objs.size := by obtain ⟨o, ho, _⟩ := hit; exact Heap.lt_size ho
  have hllt : l < s₂.heap.objs.size := by obtain ⟨o, ho, _⟩ := hl; exact Heap.lt_size ho
  have hDI : I ≠ D := Nat.ne_of_lt (Nat.lt_of_lt_of_le hIlt hD)
  have hCI : I ≠ cenv.locals := Nat.ne_of_lt (Nat.lt_trans (Nat.lt_of_lt_of_le hIlt hD) hDC)
  have hlt_bad : ∀ b, b < s₂.heap.objs.size → b ≠ I → b ∉ [I, cenv.locals, D] := fun b hb hI => by
    simp only [List.mem_cons, List.not_mem_nil, or_false, not_or]
    exact ⟨hI, Nat.ne_of_lt (Nat.lt_trans (Nat.lt_of_lt_of_le hb hD) hDC), Nat.ne_of_lt (Nat.lt_of_lt_of_le hb hD)⟩
  refine LCp.codeAny_compLoop_pair (fun n s' => ∃ h' tk i ys mc, s' = { s₂ with heap := h', toks := tk } ∧ i ≤ es.length ∧ n = es.length + 1 - i ∧ ys.length = i ∧ h'.IsListIter I l i ∧ h'.Ns cenv.locals mc ∧ h'.get? D = some (LCg.lst ys) ∧ Off [I, cenv.locals, D] s₂.heap h' ∧ s₂.toks ≤ tk ∧ J i ys h') ?_ (es.length + 1)
    ⟨h₁, tk₁, 0, [], m0, rfl, Nat.zero_le _, rfl, rfl, by obtain ⟨o, ho, r⟩ := hit; exact ⟨o, hk₁ _ _ ho, r⟩, hn₁, hD₁, Off.of_all hk₁, htk, J0⟩
  rintro n s' ⟨H, tk, i, ys, mc, rfl, hi, rfl, hyl, hit', hn', hD', hoff, htk', hJ'⟩
  have hl' : H.IsList l items := hl.at fun o e => hoff l o (hlt_bad l hllt hIl) e
  by_cases hlt : i < es.length
  · obtain ⟨T, kt, vt, e1, oT, hoT, hcT, rT⟩ := hPp i es[i].1 es[i].2 (by rw [List.getElem?_eq_getElem hlt])
    have hTI : T ≠ I := fun q => by
      obtain ⟨o, ho, hc, _⟩ := hit
      rw [← q, hoT] at ho
      rw [← Option.some.inj ho, hcT] at hc
      exact absurd hc (by decide)
    refine wpAny_pyNext_list_item hit' hl' e1 fun h₂ hit₂ hs₂ => ?_
    have off₂ : Off [I, cenv.locals, D] H h₂ := Off.of_but hs₂ (List.mem_cons_self ..)
    have hT : h₂.IsTuple T #[.str es[i].1 kt, .str es[i].2 vt] := ⟨oT, (hoff.trans off₂) T oT (hlt_bad T (Heap.lt_size hoT) hTI) hoT, hcT, rT⟩
    refine wpAny_letOwnedTupleGo_listiter hit₂ ?_
    refine wpAny_with_toks (n := s₂.toks) htk' (kcp_assign (env := cenv) hh hT ha hb hp (hn'.at' fun o e => hs₂.extBut _ o (Ne.symm hCI) e) fun h₄ tk₄ hn₄ hk₄ htk₄ => ?_)
    have off₄ : Off [I, cenv.locals, D] h₂ h₄ := Off.of_ne hk₄ (List.mem_cons_of_mem _ (List.mem_cons_self ..))
    have hit₄ : h₄.IsListIter I l (i + 1) := by obtain ⟨o, ho, r⟩ := hit₂; exact ⟨o, hk₄ _ _ hCI ho, r⟩
    have hD₄ : h₄.get? D = some (LCg.lst ys) := hk₄ _ _ (Nat.ne_of_lt hDC) (hs₂.extBut _ _ (Ne.symm hDI) hD')
    have hlts : ∀ b ∈ [I, cenv.locals, D, L], b < h₄.objs.size := fun b hb => by
      simp only [List.mem_cons, List.not_mem_nil, or_false] at hb
      rcases hb with rfl | rfl | rfl | rfl
      · obtain ⟨o, ho, _⟩ := hit₄; exact Heap.lt_size ho
      · exact hn₄.lt
      · exact Heap.lt_size hD₄
      · exact Nat.lt_trans (Nat.lt_of_lt_of_le hL hD) (Heap.lt_size hD₄)
    have w4 : ∀ b ∈ [I, cenv.locals, D], b ∈ [I, cenv.locals, D, L] := fun b hb => by
      simp only [List.mem_cons, List.not_mem_nil, or_false] at hb ⊢
      rcases hb with h | h | h <;> simp [h]
    refine wpAny_with_toks (n := s₂.toks) htk₄ (wpAny_mono (helt i _ _ kt vt ys h₄ tk₄ _ _ (List.getElem?_eq_getElem hlt) (hJ _ _ _ _ hJ' ((off₂.trans off₄).wider w4)) hn₄ (by simp [hab]) (by simp) ((hoff.trans off₂).trans off₄) hlts htk₄) (fun z s₅ q htk5 => ?_) fun _ _ e => e)
    obtain ⟨q, h₅, tk₅, rfl, hk₅⟩ := q
    refine append_at (hsz := by show ys.toArray.size ≤ sizeLine; rw [List.size_toArray, hyl, sizeLine_eq]; omega) (hk₅ _ _ hD₄) fun h₆ hs₆ hD₆ => ?_
    have off₆ : Off [I, cenv.locals, D] h₅ h₆ := Off.of_but hs₆ (List.mem_cons_of_mem _ (List.mem_cons_of_mem _ (List.mem_cons_self ..)))
    refine ⟨es.length + 1 - (i + 1), by omega, h₆, tk₅, i + 1, ys ++ [z], _, rfl, hlt, rfl, by rw [List.length_append, List.length_singleton, hyl], ?_, (hn₄.keeps hk₅).sameBut hs₆ (Nat.ne_of_gt hDC), hD₆.trans (congrArg some (LCg.lst_snoc ys z)),
      (((hoff.trans off₂).trans off₄).trans (Off.of_all hk₅)).trans off₆, htk5, hJ _ _ _ _ q (off₆.wider w4)⟩
    obtain ⟨o, ho, r⟩ := hit₄
    exact ⟨o, hs₆.extBut _ _ hDI (hk₅ _ _ ho), r⟩
  · have hin : i = es.length := by omega
    subst hin
    refine wpAny_pyNext_list_end hh hit' hl' (by rw [← hisz]; simp) fun h₂ hk₂ => ?_
    have off₂ : Off [I, cenv.locals, D] H h₂ := fun b o hb e => hk₂ b o (fun q => hb (q ▸ List.mem_cons_self ..)) e
    exact hR h₂ tk ys mc (hJ _ _ _ _ hJ' (fun b o hb e => hk₂ b o (fun q => hb (q ▸ List.mem_cons_self ..)) e)) (hk₂ _ _ (Ne.symm hDI) hD') (hn'.at' fun o e => hk₂ _ o (Ne.symm hCI) e) (hoff.trans off₂) htk'

theorem loop_signs {s₂ : Shared} {elt iter : Expr} {ifs : List Expr} {xa : Str} {pa : Pos} {scope : Scope} {pos : Pos} {cenv : Env} {I D L : Addr} {x : Str} {tx : Tok} {m0 : Str → Option Value} {h₁ : Heap} {tk₁ : Nat}
    (hh : A.handled = none) (ha : cenv.kindOf xa = some .local) (hp : (cenv.scope.kind == .class || (cenv.scope.kind == .module && cenv.locals != cenv.globals)) = false)
    (hit : s₂.heap.IsStrIter I "str_ascii_iterator" x tx 0) (hD : s₂.heap.objs.size ≤ D) (hDC : D < cenv.locals) (hL : L < s₂.heap.objs.size)
    (hk₁ : ∀ b o, s₂.heap.get? b = some o → h₁.get? b = some o) (hD₁ : h₁.get? D = some (LCg.lst [])) (hn₁ : h₁.Ns cenv.locals m0) (htk : s₂.toks ≤ tk₁) (hsz : x.cps.size ≤ 1000)
    (J : Nat → List Value → Heap → Prop) (hJ : ∀ i ys h h', J i ys h → Off [I, cenv.locals, D, L] h h' → J i ys h') (hJl : ∀ i ys h, J i ys h → ys.length ≤ i) (J0 : J 0 [] h₁)
    (hturn : ∀ (i : Nat) c u ys h tk mc E', x.cps[i]? = some c → J i ys h → h.Ns cenv.locals mc → mc xa = some (.str ⟨#[c]⟩ u) → Off [I, cenv.locals, D] s₂.heap h → (∀ b ∈ [I, cenv.locals, D, L], b < h.objs.size) → s₂.toks ≤ tk →
      wpAny (model prog w) A (forIn ifs true fun c r => if r = true then do let ok ← isTrue c cenv (eval c cenv); pure (ForInStep.yield ok) else pure (ForInStep.yield r)) (fun ok s₃ =>
        if ok = true then wpAny (model prog w) A (eval elt cenv) (fun z s₄ => J (i + 1) (ys ++ [z]) s₄.heap ∧ Keeps { s₂ with heap := h, toks := tk } s₄) E' s₃
        else J (i + 1) ys s₃.heap ∧ Keeps { s₂ with heap := h, toks := tk } s₃) E' { s₂ with heap := h, toks := tk })
    (hR : ∀ h' tk ys mc, J x.cps.size ys h' → h'.get? D = some (LCg.lst ys) → h'.Ns cenv.locals mc → Off [I, cenv.locals, D] s₂.heap h' → s₂.toks ≤ tk → R (.ok .next) { s₂ with heap := h', toks := tk }) :
    codeAny (model prog w) A (.compLoop (.ListComp elt [⟨.Name xa pa, iter, ifs, 0⟩] scope pos) 0 (.ref I) (.ref D) cenv) R { s₂ with heap := h₁, toks := tk₁ } := by
  have hIlt : I < s₂.heap.objs.size := by obtain ⟨o, ho, _⟩ := hit; exact Heap.lt_size ho
  have hDI : I ≠ D := Nat.ne_of_lt (Nat.lt_of_lt_of_le hIlt hD)
  have hCI : I ≠ cenv.locals := Nat.ne_of_lt (Nat.lt_trans (Nat.lt_of_lt_of_le hIlt hD) hDC)
  refine codeAny_compLoop_tests (fun n s' => ∃ h' tk i ys mc, s' = { s₂ with heap := h', toks := tk } ∧ i ≤ x.cps.size ∧ n = x.cps.size + 1 - i ∧ h'.IsStrIter I "str_ascii_iterator" x tx i ∧ h'.Ns cenv.locals mc ∧ h'.get? D = some (LCg.lst ys) ∧ Off [I, cenv.locals, D] s₂.heap h' ∧ s₂.toks ≤ tk ∧ J i ys h') ?_ (x.cps.size + 1)
    ⟨h₁, tk₁, 0, [], m0, rfl, Nat.zero_le _, rfl, by obtain ⟨o, ho, r⟩ := hit; exact ⟨o, hk₁ _ _ ho, r⟩, hn₁, hD₁, Off.of_all hk₁, htk, J0⟩
  rintro n s' ⟨H, tk, i, ys, mc, rfl, hi, rfl, hit', hn', hD', hoff, htk', hJ'⟩
  by_cases hlt : i < x.cps.size
  · refine wpAny_pyNext_ascii_item hit' (c := x.cps[i]) (by simp [hlt]) fun h₂ hit₂ hs₂ => ?_
    have off₂ : Off [I, cenv.locals, D] H h₂ := Off.of_but hs₂ (List.mem_cons_self ..)
    refine wpAny_with_toks (n := s₂.toks) (Nat.le_succ_of_le htk') (wpAny_assign_Name (wpAny_storeName_local ha (hn'.at' fun o e => hs₂.extBut _ o (Ne.symm hCI) e) (fun h₄ hn₄ hs₄ htk₄ => ?_) hp))
    have off₄ : Off [I, cenv.locals, D] h₂ h₄ := Off.of_but hs₄ (List.mem_cons_of_mem _ (List.mem_cons_self ..))
    have hit₄ : h₄.IsStrIter I "str_ascii_iterator" x tx (i + 1) := by obtain ⟨o, ho, r⟩ := hit₂; exact ⟨o, hs₄.extBut _ _ hCI ho, r⟩
    have hD₄ : h₄.get? D = some (LCg.lst ys) := hs₄.extBut _ _ (Nat.ne_of_lt hDC) (hs₂.extBut _ _ (Ne.symm hDI) hD')
    have hlts : ∀ b ∈ [I, cenv.locals, D, L], b < h₄.objs.size := fun b hb => by
      simp only [List.mem_cons, List.not_mem_nil, or_false] at hb
      rcases hb with rfl | rfl | rfl | rfl
      · obtain ⟨o, ho, _⟩ := hit₄; exact Heap.lt_size ho
      · exact hn₄.lt
      · exact Heap.lt_size hD₄
      · exact Nat.lt_trans (Nat.lt_of_lt_of_le hL hD) (Heap.lt_size hD₄)
    have w4 : ∀ b ∈ [I, cenv.locals, D], b ∈ [I, cenv.locals, D, L] := fun b hb => by
      simp only [List.mem_cons, List.not_mem_nil, or_false] at hb ⊢
      rcases hb with h | h | h <;> simp [h]
    have offs := (hoff.trans off₂).trans off₄
    refine wpAny_with_toks (n := s₂.toks) htk₄ (wpAny_mono (hturn i x.cps[i] _ ys h₄ _ _ _ (by simp [hlt]) (hJ _ _ _ _ hJ' ((off₂.trans off₄).wider w4)) hn₄ (if_pos rfl) offs hlts htk₄) (fun ok s₅ q htk₅ => ?_) fun _ _ e => e)
    cases ok with
    | false =>
      simp only [Bool.false_eq_true, if_false] at q ⊢
      obtain ⟨q, h₅, tk₅, rfl, hk₅⟩ := q
      refine ⟨x.cps.size + 1 - (i + 1), by omega, h₅, tk₅, i + 1, ys, _, rfl, hlt, rfl, ?_, hn₄.keeps hk₅, hk₅ _ _ hD₄, offs.trans (Off.of_all hk₅), htk₅, q⟩
      obtain ⟨o, ho, r⟩ := hit₄
      exact ⟨o, hk₅ _ _ ho, r⟩
    | true =>
      simp only [if_true] at q ⊢
      refine wpAny_with_toks (n := s₂.toks) htk₅ (wpAny_mono q (fun z s₆ q htk₆ => ?_) fun _ _ e => e)
      obtain ⟨q, h₅, tk₅, rfl, hk₅⟩ := q
      have hyl := hJl _ _ _ hJ'
      refine append_at (hsz := by show ys.toArray.size ≤ sizeLine; rw [List.size_toArray, sizeLine_eq]; omega) (hk₅ _ _ hD₄) fun h₆ hs₆ hD₆ => ?_
      have off₆ : Off [I, cenv.locals, D] h₅ h₆ := Off.of_but hs₆ (List.mem_cons_of_mem _ (List.mem_cons_of_mem _ (List.mem_cons_self ..)))
      refine ⟨x.cps.size + 1 - (i + 1), by omega, h₆, tk₅, i + 1, ys ++ [z], _, rfl, hlt, rfl, ?_, (hn₄.keeps hk₅).sameBut hs₆ (Nat.ne_of_gt hDC), hD₆.trans (congrArg some (LCg.lst_snoc ys z)), (offs.trans (Off.of_all hk₅)).trans off₆, htk₆, hJ _ _ _ _ q (off₆.wider w4)⟩
      obtain ⟨o, ho, r⟩ := hit₄
      exact ⟨o, hs₆.extBut _ _ hDI (hk₅ _ _ ho), r⟩
  · have hin : i = x.cps.size := by omega
    subst hin
    refine wpAny_pyNext_ascii_end hh hit' (by simp) fun h₂ hk₂ => ?_
    have off₂ : Off [I, cenv.locals, D] H h₂ := fun b o hb e => hk₂ b o (fun q => hb (q ▸ List.mem_cons_self ..)) e
    exact hR h₂ tk ys mc (hJ _ _ _ _ hJ' (fun b o hb e => hk₂ b o (fun q => hb (q ▸ List.mem_cons_self ..)) e)) (hk₂ _ _ (Ne.symm hDI) hD') (hn'.at' fun o e => hk₂ _ o (Ne.symm hCI) e) (hoff.trans off₂) htk'
end
section
variable {prog : Program} {w : World} {A : Around} {E : Value → Shared → Prop} {env : Env}

theorem block_own {s₂ : Shared} {elt target iter : Expr} {ifs : List Expr} {scope : Scope} {cl : List (Str × Addr)} {pos : Pos} {I : Addr} {RR : Value → Addr → Result → Shared → Prop}
    (hcell : ∀ y ∈ scope.names, y.2 ≠ .cell) (hkind : scope.kind = .function) (hI : I < s₂.heap.objs.size)
    (hself : ∀ (s : Shared) (Q E : Value → Shared → Prop), (∀ o, s₂.heap.get? I = some o → s.heap.get? I = some o) → Q (.ref I) s → wpAny (model prog w) A (pyIter (.ref I)) Q E s)
    (hloop : ∀ h₁ m0, (∀ b o, s₂.heap.get? b = some o → h₁.get? b = some o) → h₁.get? s₂.heap.objs.size = some (LCg.lst []) → h₁.Ns (s₂.heap.objs.size + 1) m0 →
      codeAny (model prog w) A (.compLoop (.ListComp elt [⟨target, iter, ifs, 0⟩] scope pos) 0 (.ref I) (.ref s₂.heap.objs.size) (compEnvC scope cl (s₂.heap.objs.size + 1) env)) (RR (.ref s₂.heap.objs.size) (s₂.heap.objs.size + 1)) { s₂ with heap := h₁, toks := s₂.toks }) :
    wpAny (model prog w) A (newList []) (fun acc s₃ => wpAny (model prog w) A (newFunctionEnv scope env.globals cl [] env.qual none .none (some env)) (fun cenv s₄ =>
      codeAny (model prog w) A (.compStart (.ListComp elt [⟨target, iter, ifs, 0⟩] scope pos) 0 (.ref I) acc { cenv with scope := relabel scope env }) (RR acc cenv.locals) s₄) E s₃) E s₂ := by
  refine wpAny_newObj_type (wpAny_newFunctionEnv hcell (fun y hy => nomatch hy) (fun h₁ hns₁ hsb₁ => ?_) hkind)
  dsimp only at hns₁ hsb₁ ⊢
  have hC : (s₂.heap.push { cls := .type "list", dict := none, data := .seq ([] : List Value).toArray }).objs.size = s₂.heap.objs.size + 1 := Heap.size_push ..
  rw [hC] at hns₁ hsb₁
  have old : ∀ b o, s₂.heap.get? b = some o → h₁.get? b = some o := fun b o e => hsb₁.extBut b o (Nat.ne_of_lt (Nat.lt_succ_of_lt (Heap.lt_size e))) (Heap.get?_push_of_some _ (Heap.get?_push_of_some _ e))
  have hacc : h₁.get? s₂.heap.objs.size = some (LCg.lst []) := hsb₁.extBut _ _ (Nat.ne_of_lt (Nat.lt_succ_self _)) (Heap.get?_push_of_some _ (Heap.get?_push_size _ rfl))
  have L := hloop h₁ _ old hacc hns₁
  rw [hC]
  exact codeAny_compStart_list L (hself _ _ _ (fun o e => old I o e) L)

/-- a table's pairs, made to a list under a local name -/
theorem Assign_pairs {s : Shared} {elt iter : Expr} {xa xb y : Str} {pa pb tp py : Pos} {kk : Nat} {scope : Scope} {cl : List (Str × Addr)} {pos spos : Pos} {Q : Flow → Shared → Prop} {l : Addr} {es : List (Str × Str)} {m : Str → Option Value}
    (hsw : swapsWith (.ListComp elt [⟨.Tuple [.Name xa pa, .Name xb pb] kk tp, iter, [], 0⟩] scope pos) (some (.Name y py)) spos.line env = pure true)
    (hclos : closureFor scope env = pure cl) (hcell : ∀ z ∈ scope.names, z.2 ≠ .cell) (hkind : scope.kind = .function)
    (hnames : ∀ z ∈ scope.names, z.2 = .local → scope.names.lookup z.1 = some .local) (hxa : scope.names.lookup xa = some .local) (hxb : scope.names.lookup xb = some .local) (hab : xa ≠ xb)
    (hy : env.kindOf y = some .local) (hp : (env.scope.kind == .class || (env.scope.kind == .module && env.locals != env.globals)) = false) (hh : A.handled = none) (hn : s.heap.Ns env.locals m)
    (hev : ∀ Q' : Value → Shared → Prop, Q' (.ref l) s → wpAny (model prog w) A (eval iter env) Q' E s)
    (hP : PairsAt s.heap l es) (hsz : es.length ≤ 1000)
    (J : List Addr → Nat → List Value → Heap → Prop) (hJ : ∀ bad i ys h h', J bad i ys h → Off bad h h' → J bad i ys h') (J0 : ∀ bad h, J bad 0 [] h)
    (helt : ∀ C bad (i : Nat) k v kt vt ys h tk mc E', es[i]? = some (k, v) → J bad i ys h → h.Ns C mc → mc xa = some (.str k kt) → mc xb = some (.str v vt) → (∀ b o, s.heap.get? b = some o → h.get? b = some o) → (∀ b ∈ bad, b < h.objs.size) → s.toks ≤ tk →
      wpAny (model prog w) A (eval elt (compEnvC scope cl C env)) (fun z s₄ => J bad (i + 1) (ys ++ [z]) s₄.heap ∧ Keeps { s with heap := h, toks := tk } s₄) E' { s with heap := h, toks := tk })
    (hQ : ∀ D bad h' tk ys, s.heap.objs.size < D → h'.get? D = some (LCg.lst ys) → D ∈ bad → env.locals ∈ bad → J bad es.length ys h' → h'.Ns env.locals (fun z => if z = y then some (.ref D) else m z) → (∀ b o, b ≠ env.locals → s.heap.get? b = some o → h'.get? b = some o) → s.toks ≤ tk →
      Q .next { s with heap := h', toks := tk })
    (hs : ∀ x, foldedSetIterable iter env x = pure x := by intro _; rfl) :
    wpAny (model prog w) A (exec (.Assign [.Name y py] (.ListComp elt [⟨.Tuple [.Name xa pa, .Name xb pb] kk tp, iter, [], 0⟩] scope pos) spos) env) Q E s := by
  rw [exec_Assign_Name_used _ _ _ _ hsw]
  refine wpAny_bind (wpAny_standAt (wpAny_bind ?_))
  show wpAny _ A (do let _ ← comprehension (.ListComp elt [⟨.Tuple [.Name xa pa, .Name xb pb] kk tp, iter, [], 0⟩] scope pos) scope env _ (newList []) false (eval iter env) (some (assign (.Name y py) env))) _ _ s
  refine wpAny_bind (wpAny_mono (wpAny_comprehension_free (use := some (assign (.Name y py) env)) (Q := fun _ s' => Q .next s') rfl hs hclos hkind hnames
    (hev _ ?_)) (fun _ s' hq => wpAny_pure (wpAny_pure hq)) fun _ _ e => e)
  have hl : ∃ items, s.heap.IsList l items := by obtain ⟨items, hl, _⟩ := hP; exact ⟨items, hl⟩
  obtain ⟨items, hl⟩ := hl
  have hllt : l < s.heap.objs.size := by obtain ⟨o, ho, _⟩ := hl; exact Heap.lt_size ho
  refine wpAny_pyIter_list hl ?_
  have up : ∀ b o, s.heap.get? b = some o → (s.heap.push { cls := .type "list_iterator", data := .fields #[.ref l, .int 0 0] }).get? b = some o := fun b o e => Heap.get?_push_of_some _ e
  have hsz2 : (s.heap.push { cls := .type "list_iterator", data := .fields #[.ref l, .int 0 0] }).objs.size = s.heap.objs.size + 1 := Heap.size_push ..
  have hLlt : env.locals < s.heap.objs.size := hn.lt
  have hit : (s.heap.push { cls := .type "list_iterator", data := .fields #[.ref l, .int 0 0] }).IsListIter s.heap.objs.size l 0 := ⟨_, Heap.get?_push_size _ rfl, rfl, rfl⟩
  generalize s.heap.push { cls := .type "list_iterator", data := .fields #[.ref l, .int 0 0] } = H2 at up hsz2 hit ⊢
  have down : ∀ bad h, (∀ b, b < s.heap.objs.size → b ∉ bad) → Off bad H2 h → ∀ b o, s.heap.get? b = some o → h.get? b = some o := fun bad h hb ho b o e => ho b o (hb b (Heap.lt_size e)) (up b o e)
  have nbad : ∀ C D, s.heap.objs.size < D → D < C → ∀ b, b < s.heap.objs.size → b ∉ [s.heap.objs.size, C, D] := fun C D h1 h2 b hb => by
    simp only [List.mem_cons, List.not_mem_nil, or_false, not_or]
    exact ⟨Nat.ne_of_lt hb, Nat.ne_of_lt (Nat.lt_trans hb (Nat.lt_trans h1 h2)), Nat.ne_of_lt (Nat.lt_trans hb h1)⟩
  have hD : s.heap.objs.size < H2.objs.size := by rw [hsz2]; exact Nat.lt_succ_self _
  refine block_own (s₂ := { s with heap := H2 }) (RR := fun acc C => compPost (model prog w) A E (some (assign (.Name y py) env)) (fun _ s' => Q .next s') acc C) hcell hkind hD (fun s' Q' E' hk hq => ?_) fun h₁ m0 hk₁ hD₁ hn₁ => ?_
  · obtain ⟨o, ho, r⟩ := hit
    exact wpAny_pyIter_listiter ⟨o, hk o ho, r⟩ hq
  refine loop_pairs (s₂ := { s with heap := H2 }) (L := env.locals) (J := J [s.heap.objs.size, H2.objs.size + 1, H2.objs.size, env.locals]) hh (lookup_relabel_local hxa) (lookup_relabel_local hxb) hab (by simp [compEnvC, relabel, hkind]) (hP.keeps up) hit (Nat.ne_of_lt hllt) (Nat.le_refl _) (Nat.lt_succ_self _) (Nat.lt_trans hLlt hD) hk₁ hD₁ hn₁ (Nat.le_refl _) hsz (hJ _) (J0 _ _)
    (fun i k v kt vt ys h tk mc E' he hJ' hnc ha hb hoff hlts htk => ?_) fun h' tk ys mc hJ' hDg hnc hoff htk => ?_
  · exact helt _ _ i k v kt vt ys h tk mc E' he hJ' hnc ha hb (down _ _ (nbad _ _ hD (Nat.lt_succ_self _)) hoff) hlts htk
  · show wpAny _ A (assign (.Name y py) env (.ref H2.objs.size)) _ _ _
    have k1 : ∀ b o, s.heap.get? b = some o → h'.get? b = some o := down _ _ (nbad _ _ hD (Nat.lt_succ_self _)) hoff
    have hLC : env.locals ≠ H2.objs.size + 1 := Nat.ne_of_lt (Nat.lt_trans hLlt (Nat.lt_trans hD (Nat.lt_succ_self _)))
    have hLD : env.locals ≠ H2.objs.size := Nat.ne_of_lt (Nat.lt_trans hLlt hD)
    refine wpAny_with_toks (n := s.toks) htk (wpAny_assign_Name (wpAny_storeName_local hy (hn.at' fun o e => k1 _ o e) (fun h₂ hn₂ hs₂ htk₂ => ?_) hp))
    refine ⟨mc, hnc.sameBut hs₂ (Ne.symm hLC), fun h₃ hs₃ => ?_⟩
    have mem : ∀ b, b ∈ [s.heap.objs.size, H2.objs.size + 1, H2.objs.size, env.locals] ↔ (b = s.heap.objs.size ∨ b = H2.objs.size + 1 ∨ b = H2.objs.size ∨ b = env.locals) := fun b => by simp
    refine hQ H2.objs.size [s.heap.objs.size, H2.objs.size + 1, H2.objs.size, env.locals] h₃ _ ys hD (hs₃.extBut _ _ (Nat.ne_of_lt (Nat.lt_succ_self _)) (hs₂.extBut _ _ (Ne.symm hLD) hDg)) ((mem _).mpr (.inr (.inr (.inl rfl)))) ((mem _).mpr (.inr (.inr (.inr rfl))))
      (hJ _ _ _ _ _ (hJ _ _ _ _ _ hJ' (Off.of_but hs₂ ((mem _).mpr (.inr (.inr (.inr rfl)))))) (Off.of_but hs₃ ((mem _).mpr (.inr (.inl rfl))))) (hn₂.sameBut hs₃ hLC) (fun b o hb e => hs₃.extBut b o (Nat.ne_of_lt (Nat.lt_trans (Heap.lt_size e) (Nat.lt_trans hD (Nat.lt_succ_self _)))) (hs₂.extBut b o hb (k1 b o e))) htk₂
/-- a table's pairs, made to a list -/
theorem ListComp_pairs {s : Shared} {elt iter : Expr} {xa xb : Str} {pa pb tp : Pos} {kk : Nat} {scope : Scope} {cl : List (Str × Addr)} {pos : Pos} {Q : Value → Shared → Prop} {l : Addr} {es : List (Str × Str)} {m : Str → Option Value}
    (hclos : closureFor scope env = pure cl) (hcell : ∀ z ∈ scope.names, z.2 ≠ .cell) (hkind : scope.kind = .function)
    (hnames : ∀ z ∈ scope.names, z.2 = .local → scope.names.lookup z.1 = some .local) (hxa : scope.names.lookup xa = some .local) (hxb : scope.names.lookup xb = some .local) (hab : xa ≠ xb)
    (hh : A.handled = none) (hn : s.heap.Ns env.locals m)
    (hev : ∀ Q' : Value → Shared → Prop, Q' (.ref l) s → wpAny (model prog w) A (eval iter env) Q' E s)
    (hP : PairsAt s.heap l es) (hsz : es.length ≤ 1000)
    (J : List Addr → Nat → List Value → Heap → Prop) (hJ : ∀ bad i ys h h', J bad i ys h → Off bad h h' → J bad i ys h') (J0 : ∀ bad h, J bad 0 [] h)
    (helt : ∀ C bad (i : Nat) k v kt vt ys h tk mc E', es[i]? = some (k, v) → J bad i ys h → h.Ns C mc → mc xa = some (.str k kt) → mc xb = some (.str v vt) → (∀ b o, s.heap.get? b = some o → h.get? b = some o) → (∀ b ∈ bad, b < h.objs.size) → s.toks ≤ tk →
      wpAny (model prog w) A (eval elt (compEnvC scope cl C env)) (fun z s₄ => J bad (i + 1) (ys ++ [z]) s₄.heap ∧ Keeps { s with heap := h, toks := tk } s₄) E' { s with heap := h, toks := tk })
    (hQ : ∀ D bad h' tk ys, s.heap.objs.size < D → h'.get? D = some (LCg.lst ys) → D ∈ bad → J bad es.length ys h' → (∀ b o, s.heap.get? b = some o → h'.get? b = some o) → s.toks ≤ tk →
      Q (.ref D) { s with heap := h', toks := tk })
    (hs : ∀ x, foldedSetIterable iter env x = pure x := by intro _; rfl) :
    wpAny (model prog w) A (eval (.ListComp elt [⟨.Tuple [.Name xa pa, .Name xb pb] kk tp, iter, [], 0⟩] scope pos) env) Q E s := by
  rw [eval_ListComp]
  refine wpAny_comprehension_free (use := none) rfl hs hclos hkind hnames (hev _ ?_)
  have hl : ∃ items, s.heap.IsList l items := by obtain ⟨items, hl, _⟩ := hP; exact ⟨items, hl⟩
  obtain ⟨items, hl⟩ := hl
  have hllt : l < s.heap.objs.size := by obtain ⟨o, ho, _⟩ := hl; exact Heap.lt_size ho
  refine wpAny_pyIter_list hl ?_
  have up : ∀ b o, s.heap.get? b = some o → (s.heap.push { cls := .type "list_iterator", data := .fields #[.ref l, .int 0 0] }).get? b = some o := fun b o e => Heap.get?_push_of_some _ e
  have hsz2 : (s.heap.push { cls := .type "list_iterator", data := .fields #[.ref l, .int 0 0] }).objs.size = s.heap.objs.size + 1 := Heap.size_push ..
  have hLlt : env.locals < s.heap.objs.size := hn.lt
  have hit : (s.heap.push { cls := .type "list_iterator", data := .fields #[.ref l, .int 0 0] }).IsListIter s.heap.objs.size l 0 := ⟨_, Heap.get?_push_size _ rfl, rfl, rfl⟩
  generalize s.heap.push { cls := .type "list_iterator", data := .fields #[.ref l, .int 0 0] } = H2 at up hsz2 hit ⊢
  have down : ∀ bad h, (∀ b, b < s.heap.objs.size → b ∉ bad) → Off bad H2 h → ∀ b o, s.heap.get? b = some o → h.get? b = some o := fun bad h hb ho b o e => ho b o (hb b (Heap.lt_size e)) (up b o e)
  have nbad : ∀ C D, s.heap.objs.size < D → D < C → ∀ b, b < s.heap.objs.size → b ∉ [s.heap.objs.size, C, D] := fun C D h1 h2 b hb => by
    simp only [List.mem_cons, List.not_mem_nil, or_false, not_or]
    exact ⟨Nat.ne_of_lt hb, Nat.ne_of_lt (Nat.lt_trans hb (Nat.lt_trans h1 h2)), Nat.ne_of_lt (Nat.lt_trans hb h1)⟩
  have hD : s.heap.objs.size < H2.objs.size := by rw [hsz2]; exact Nat.lt_succ_self _
  refine block_own (s₂ := { s with heap := H2 }) (RR := fun acc C => compPost (model prog w) A E none Q acc C) hcell hkind hD (fun s' Q' E' hk hq => ?_) fun h₁ m0 hk₁ hD₁ hn₁ => ?_
  · obtain ⟨o, ho, r⟩ := hit
    exact wpAny_pyIter_listiter ⟨o, hk o ho, r⟩ hq
  refine loop_pairs (s₂ := { s with heap := H2 }) (L := env.locals) (J := J [s.heap.objs.size, H2.objs.size + 1, H2.objs.size, env.locals]) hh (lookup_relabel_local hxa) (lookup_relabel_local hxb) hab (by simp [compEnvC, relabel, hkind]) (hP.keeps up) hit (Nat.ne_of_lt hllt) (Nat.le_refl _) (Nat.lt_succ_self _) (Nat.lt_trans hLlt hD) hk₁ hD₁ hn₁ (Nat.le_refl _) hsz (hJ _) (J0 _ _)
    (fun i k v kt vt ys h tk mc E' he hJ' hnc ha hb hoff hlts htk => ?_) fun h' tk ys mc hJ' hDg hnc hoff htk => ?_
  · exact helt _ _ i k v kt vt ys h tk mc E' he hJ' hnc ha hb (down _ _ (nbad _ _ hD (Nat.lt_succ_self _)) hoff) hlts htk
  · have k1 : ∀ b o, s.heap.get? b = some o → h'.get? b = some o := down _ _ (nbad _ _ hD (Nat.lt_succ_self _)) hoff
    refine ⟨mc, hnc, fun h₃ hs₃ => ?_⟩
    have mem : ∀ b, b ∈ [s.heap.objs.size, H2.objs.size + 1, H2.objs.size, env.locals] ↔ (b = s.heap.objs.size ∨ b = H2.objs.size + 1 ∨ b = H2.objs.size ∨ b = env.locals) := fun b => by simp
    refine hQ H2.objs.size [s.heap.objs.size, H2.objs.size + 1, H2.objs.size, env.locals] h₃ _ ys hD (hs₃.extBut _ _ (Nat.ne_of_lt (Nat.lt_succ_self _)) hDg) ((mem _).mpr (.inr (.inr (.inl rfl))))
      (hJ _ _ _ _ _ hJ' (Off.of_but hs₃ ((mem _).mpr (.inr (.inl rfl))))) (fun b o e => hs₃.extBut b o (Nat.ne_of_lt (Nat.lt_trans (Heap.lt_size e) (Nat.lt_trans hD (Nat.lt_succ_self _)))) (k1 b o e)) htk

/-- a written text's signs that pass a test, made to a list under a local name -/
theorem Assign_signs {s : Shared} {elt iter : Expr} {ifs : List Expr} {xa y : Str} {pa py : Pos} {scope : Scope} {cl : List (Str × Addr)} {pos spos : Pos} {Q : Flow → Shared → Prop} {x : Str} {m : Str → Option Value}
    (hsw : swapsWith (.ListComp elt [⟨.Name xa pa, iter, ifs, 0⟩] scope pos) (some (.Name y py)) spos.line env = pure true)
    (hclos : closureFor scope env = pure cl) (hcell : ∀ z ∈ scope.names, z.2 ≠ .cell) (hkind : scope.kind = .function)
    (hnames : ∀ z ∈ scope.names, z.2 = .local → scope.names.lookup z.1 = some .local) (hxa : scope.names.lookup xa = some .local)
    (hy : env.kindOf y = some .local) (hp : (env.scope.kind == .class || (env.scope.kind == .module && env.locals != env.globals)) = false) (hh : A.handled = none) (hn : s.heap.Ns env.locals m)
    (hev : ∀ Q' : Value → Shared → Prop, (∀ tx tk, s.toks ≤ tk → Q' (.str x tx) { s with toks := tk }) → wpAny (model prog w) A (eval iter env) Q' E s)
    (hasc : x.cps.all (· < 128) = true) (hsz : x.cps.size ≤ 1000)
    (J : List Addr → Nat → List Value → Heap → Prop) (hJ : ∀ bad i ys h h', J bad i ys h → Off bad h h' → J bad i ys h') (hJl : ∀ bad i ys h, J bad i ys h → ys.length ≤ i) (J0 : ∀ bad h, J bad 0 [] h)
    (hturn : ∀ C bad (i : Nat) c u ys h tk mc E', x.cps[i]? = some c → J bad i ys h → h.Ns C mc → mc xa = some (.str ⟨#[c]⟩ u) → (∀ b o, s.heap.get? b = some o → h.get? b = some o) → (∀ b ∈ bad, b < h.objs.size) → s.toks ≤ tk →
      wpAny (model prog w) A (forIn ifs true fun c r => if r = true then do let ok ← isTrue c (compEnvC scope cl C env) (eval c (compEnvC scope cl C env)); pure (ForInStep.yield ok) else pure (ForInStep.yield r)) (fun ok s₃ =>
        if ok = true then wpAny (model prog w) A (eval elt (compEnvC scope cl C env)) (fun z s₄ => J bad (i + 1) (ys ++ [z]) s₄.heap ∧ Keeps { s with heap := h, toks := tk } s₄) E' s₃
        else J bad (i + 1) ys s₃.heap ∧ Keeps { s with heap := h, toks := tk } s₃) E' { s with heap := h, toks := tk })
    (hQ : ∀ D bad h' tk ys, s.heap.objs.size < D → h'.get? D = some (LCg.lst ys) → D ∈ bad → env.locals ∈ bad → J bad x.cps.size ys h' → h'.Ns env.locals (fun z => if z = y then some (.ref D) else m z) → (∀ b o, b ≠ env.locals → s.heap.get? b = some o → h'.get? b = some o) → s.toks ≤ tk →
      Q .next { s with heap := h', toks := tk })
    (hs : ∀ x, foldedSetIterable iter env x = pure x := by intro _; rfl) :
    wpAny (model prog w) A (exec (.Assign [.Name y py] (.ListComp elt [⟨.Name xa pa, iter, ifs, 0⟩] scope pos) spos) env) Q E s := by
  rw [exec_Assign_Name_used _ _ _ _ hsw]
  refine wpAny_bind (wpAny_standAt (wpAny_bind ?_))
  show wpAny _ A (do let _ ← comprehension (.ListComp elt [⟨.Name xa pa, iter, ifs, 0⟩] scope pos) scope env _ (newList []) false (eval iter env) (some (assign (.Name y py) env))) _ _ s
  refine wpAny_bind (wpAny_mono (wpAny_comprehension_free (use := some (assign (.Name y py) env)) (Q := fun _ s' => Q .next s') rfl hs hclos hkind hnames
    (hev _ fun tx tk0 htk0 => ?_)) (fun _ s' hq => wpAny_pure (wpAny_pure hq)) fun _ _ e => e)
  refine wpAny_pyIter_ascii hasc ?_
  dsimp only
  have up : ∀ b o, s.heap.get? b = some o → (s.heap.push { cls := .type "str_ascii_iterator", data := .fields #[.str x tx, .int 0 0] }).get? b = some o := fun b o e => Heap.get?_push_of_some _ e
  have hsz2 : (s.heap.push { cls := .type "str_ascii_iterator", data := .fields #[.str x tx, .int 0 0] }).objs.size = s.heap.objs.size + 1 := Heap.size_push ..
  have hLlt : env.locals < s.heap.objs.size := hn.lt
  have hit : (s.heap.push { cls := .type "str_ascii_iterator", data := .fields #[.str x tx, .int 0 0] }).IsStrIter s.heap.objs.size "str_ascii_iterator" x tx 0 := ⟨_, Heap.get?_push_size _ rfl, rfl, rfl⟩
  generalize s.heap.push { cls := .type "str_ascii_iterator", data := .fields #[.str x tx, .int 0 0] } = H2 at up hsz2 hit ⊢
  have down : ∀ bad h, (∀ b, b < s.heap.objs.size → b ∉ bad) → Off bad H2 h → ∀ b o, s.heap.get? b = some o → h.get? b = some o := fun bad h hb ho b o e => ho b o (hb b (Heap.lt_size e)) (up b o e)
  have nbad : ∀ C D, s.heap.objs.size < D → D < C → ∀ b, b < s.heap.objs.size → b ∉ [s.heap.objs.size, C, D] := fun C D h1 h2 b hb => by
    simp only [List.mem_cons, List.not_mem_nil, or_false, not_or]
    exact ⟨Nat.ne_of_lt hb, Nat.ne_of_lt (Nat.lt_trans hb (Nat.lt_trans h1 h2)), Nat.ne_of_lt (Nat.lt_trans hb h1)⟩
  have hD : s.heap.objs.size < H2.objs.size := by rw [hsz2]; exact Nat.lt_succ_self _
  refine block_own (s₂ := { s with heap := H2, toks := tk0 }) (RR := fun acc C => compPost (model prog w) A E (some (assign (.Name y py) env)) (fun _ s' => Q .next s') acc C) hcell hkind hD (fun s' Q' E' hk hq => ?_) fun h₁ m0 hk₁ hD₁ hn₁ => ?_
  · obtain ⟨o, ho, r⟩ := hit
    exact wpAny_pyIter_striter_ascii ⟨o, hk o ho, r⟩ hq
  refine loop_signs (s₂ := { s with heap := H2, toks := tk0 }) (L := env.locals) (J := J [s.heap.objs.size, H2.objs.size + 1, H2.objs.size, env.locals]) hh (lookup_relabel_local hxa) (by simp [compEnvC, relabel, hkind]) hit (Nat.le_refl _) (Nat.lt_succ_self _) (Nat.lt_trans hLlt hD) hk₁ hD₁ hn₁ (Nat.le_refl _) hsz (hJ _) (hJl _) (J0 _ _)
    (fun i c u ys h tk mc E' he hJ' hnc ha hoff hlts htk => ?_) fun h' tk ys mc hJ' hDg hnc hoff htk => ?_
  · exact hturn _ _ i c u ys h tk mc E' he hJ' hnc ha (down _ _ (nbad _ _ hD (Nat.lt_succ_self _)) hoff) hlts (Nat.le_trans htk0 htk)
  · show wpAny _ A (assign (.Name y py) env (.ref H2.objs.size)) _ _ _
    have k1 : ∀ b o, s.heap.get? b = some o → h'.get? b = some o := down _ _ (nbad _ _ hD (Nat.lt_succ_self _)) hoff
    have hLC : env.locals ≠ H2.objs.size + 1 := Nat.ne_of_lt (Nat.lt_trans hLlt (Nat.lt_trans hD (Nat.lt_succ_self _)))
    have hLD : env.locals ≠ H2.objs.size := Nat.ne_of_lt (Nat.lt_trans hLlt hD)
    refine wpAny_with_toks (n := s.toks) (Nat.le_trans htk0 htk) (wpAny_assign_Name (wpAny_storeName_local hy (hn.at' fun o e => k1 _ o e) (fun h₂ hn₂ hs₂ htk₂ => ?_) hp))
    refine ⟨mc, hnc.sameBut hs₂ (Ne.symm hLC), fun h₃ hs₃ => ?_⟩
    have mem : ∀ b, b ∈ [s.heap.objs.size, H2.objs.size + 1, H2.objs.size, env.locals] ↔ (b = s.heap.objs.size ∨ b = H2.objs.size + 1 ∨ b = H2.objs.size ∨ b = env.locals) := fun b => by simp
    refine hQ H2.objs.size [s.heap.objs.size, H2.objs.size + 1, H2.objs.size, env.locals] h₃ _ ys hD (hs₃.extBut _ _ (Nat.ne_of_lt (Nat.lt_succ_self _)) (hs₂.extBut _ _ (Ne.symm hLD) hDg)) ((mem _).mpr (.inr (.inr (.inl rfl)))) ((mem _).mpr (.inr (.inr (.inr rfl))))
      (hJ _ _ _ _ _ (hJ _ _ _ _ _ hJ' (Off.of_but hs₂ ((mem _).mpr (.inr (.inr (.inr rfl)))))) (Off.of_but hs₃ ((mem _).mpr (.inr (.inl rfl))))) (hn₂.sameBut hs₃ hLC) (fun b o hb e => hs₃.extBut b o (Nat.ne_of_lt (Nat.lt_trans (Heap.lt_size e) (Nat.lt_trans hD (Nat.lt_succ_self _)))) (hs₂.extBut b o hb (k1 b o e))) htk₂
end
end Mine

open PySem PySem.W PyProof.Rows PySem.Calls
set_option Elab.async false
set_option maxRecDepth 100000
set_option maxHeartbeats 2000000
namespace Mine

/-- these values are pairs of these texts, each at a place that ok allows -/
def Tups (ok : Addr → Prop) (h : Heap) (ys : List Value) (fs : List (Str × Str)) : Prop :=
  ys.length = fs.length ∧ ∀ (i : Nat) (k v : Str), fs[i]? = some (k, v) → ∃ (T : Addr) (kt vt : Tok), ys[i]? = some (Value.ref T) ∧ ok T ∧ h.IsTuple T #[Value.str k kt, Value.str v vt]
theorem Tups.nil {ok : Addr → Prop} {h : Heap} : Tups ok h [] [] := ⟨rfl, fun i k v e => by simp at e⟩
theorem Tups.keep {ok : Addr → Prop} {h h' : Heap} {ys : List Value} {fs : List (Str × Str)} (x : Tups ok h ys fs) (hk : ∀ T o, ok T → h.get? T = some o → h'.get? T = some o) : Tups ok h' ys fs := by
  refine ⟨x.1, fun i k v e => ?_⟩
  obtain ⟨T, kt, vt, e1, hT, o, ho, r⟩ := x.2 i k v e
  exact ⟨T, kt, vt, e1, hT, o, hk T o hT ho, r⟩
theorem Tups.snoc {ok : Addr → Prop} {h : Heap} {ys : List Value} {fs : List (Str × Str)} {T : Addr} {k v : Str} {kt vt : Tok} (x : Tups ok h ys fs) (hT : ok T) (ht : h.IsTuple T #[Value.str k kt, Value.str v vt]) : Tups ok h (ys ++ [Value.ref T]) (fs ++ [(k, v)]) := by
  refine ⟨by rw [List.length_append, List.length_append, x.1]; rfl, fun i k' v' e => ?_⟩
  rcases Nat.lt_trichotomy i fs.length with q | q | q
  · rw [List.getElem?_append_left q] at e
    obtain ⟨T', kt', vt', e1, r⟩ := x.2 i k' v' e
    exact ⟨T', kt', vt', by rw [List.getElem?_append_left (by rw [x.1]; exact q)]; exact e1, r⟩
  · subst q
    rw [List.getElem?_append_right (Nat.le_refl _), Nat.sub_self] at e
    obtain ⟨rfl, rfl⟩ := Prod.mk.inj (Option.some.inj e)
    exact ⟨T, kt, vt, by rw [List.getElem?_append_right (by rw [x.1]; exact Nat.le_refl _), x.1, Nat.sub_self]; rfl, hT, ht⟩
  · rw [List.getElem?_eq_none (by rw [List.length_append, List.length_singleton]; omega)] at e
    cases e
theorem Tups.append {ok ok' : Addr → Prop} {h : Heap} {ys zs : List Value} {fs gs : List (Str × Str)} (x : Tups ok h ys fs) (y : Tups ok' h zs gs) : Tups (fun _ => True) h (ys ++ zs) (fs ++ gs) := by
  refine ⟨by rw [List.length_append, List.length_append, x.1, y.1], fun i k v e => ?_⟩
  by_cases q : i < fs.length
  · rw [List.getElem?_append_left q] at e
    obtain ⟨T, kt, vt, e1, _, r⟩ := x.2 i k v e
    exact ⟨T, kt, vt, by rw [List.getElem?_append_left (by rw [x.1]; exact q)]; exact e1, trivial, r⟩
  · rw [List.getElem?_append_right (Nat.not_lt.mp q)] at e
    obtain ⟨T, kt, vt, e1, _, r⟩ := y.2 _ k v e
    exact ⟨T, kt, vt, by rw [List.getElem?_append_right (by rw [x.1]; exact Nat.not_lt.mp q), x.1]; exact e1, trivial, r⟩
theorem Tups.at {ok : Addr → Prop} {h : Heap} {ys : List Value} {fs : List (Str × Str)} {l : Addr} (x : Tups ok h ys fs) (hl : h.IsList l ys.toArray) : PairsAt h l fs := by
  refine ⟨ys.toArray, hl, by rw [List.size_toArray, x.1], fun i k v e => ?_⟩
  obtain ⟨T, kt, vt, e1, _, r⟩ := x.2 i k v e
  exact ⟨T, kt, vt, by simpa using e1, r⟩

theorem line_elt {prog : Program} {w : World} {A : Around} {E : Value → Shared → Prop} {h3 : Heap} {g : Array GenState} {dr : Drawn} {tk : Nat} {os : OsState} {scope : Scope} {cl : List (Str × Addr)} {C c D : Addr} {o : Obj} {env : Env} {m : Str → Option Value} {p0 p1 p2 p3 p4 p5 p6 : Pos} {q : Nat} {k v : Str} {kt vt : Tok} {tkD ep : Nat}
    (hn : h3.Ns C m) (hk : m (Str.ofString "key") = some (.str k kt)) (hv : m (Str.ofString "value") = some (.str v vt)) (hc : cl.lookup (Str.ofString "whites") = some c) (gV : h3.get? c = some o) (dV : o.data = .cell (some (.ref D))) (gD : h3.get? D = some (dictO w (constEnts tkD whites) ep)) (hDs : (D == sysModules) = false)
    (k1 : (compEnvC scope cl C env).scope.kind = .function) (k2 : (compEnvC scope cl C env).kindOf (Str.ofString "key") = some .local) (k2' : (compEnvC scope cl C env).kindOf (Str.ofString "value") = some .local) (k3 : (compEnvC scope cl C env).kindOf (Str.ofString "whites") = some .cell)
    (hb : attributeBase (.Name (Str.ofString "whites") p1) (Str.ofString "get") (compEnvC scope cl C env) (eval (.Name (Str.ofString "whites") p1) (compEnvC scope cl C env)) = eval (.Name (Str.ofString "whites") p1) (compEnvC scope cl C env)) (hl : (p2.endLine == p5.line) = true) :
    wpAny (model prog w) A (eval (.Tuple [.Name (Str.ofString "key") p0, .Call (.Attribute (.Name (Str.ofString "whites") p1) (Str.ofString "get") p2) [.Name (Str.ofString "key") p3, .Name (Str.ofString "value") p4] [] p5] q p6) (compEnvC scope cl C env))
      (fun z s₄ => (∃ T kt vt, z = .ref T ∧ h3.objs.size ≤ T ∧ s₄.heap.IsTuple T #[Value.str k kt, Value.str (getT whites k v) vt]) ∧ Keeps ⟨h3, g, dr, tk, os⟩ s₄) E ⟨h3, g, dr, tk, os⟩ := by
  k_steps
  refine cname_L hn hk ?_ k1 k2
  have hD := (dictAt_E (prog := prog) gD (by rw [const_keys]; decide +kernel)).dictOf
  k_steps
  refine wpAny_Call_method (T := "dict") (id := "dict.get") hb rfl hl PySem.F.plainAttrs_dict PySem.F.slot_dict_get PySem.F.type_dict_get ?_
  refine cname_C hc gV dV ⟨hD.typeIs, hD.mapOf.noDict, ?_⟩ k1 k3
  refine callWith_method1 ?_
  k_steps
  refine cname_L hn hk ?_ k1 k2
  k_steps
  refine cname_L hn hv ?_ k1 k2'
  k_steps
  refine get_E gD (by decide +kernel) hDs fun t' => ?_
  k_steps
  refine wpAny_newTuple ?_ (by size_fits)
  exact ⟨⟨_, _, _, rfl, Nat.le_refl _, ⟨_, Heap.get?_push_size _ rfl, rfl, _, rfl⟩⟩, _, _, rfl, fun b o e => Heap.get?_push_of_some _ e⟩

theorem behind_elt {prog : Program} {w : World} {A : Around} {E : Value → Shared → Prop} {h3 : Heap} {g : Array GenState} {dr : Drawn} {tk : Nat} {os : OsState} {scope : Scope} {cl : List (Str × Addr)} {C c D : Addr} {o : Obj} {env : Env} {m : Str → Option Value} {p0 p1 p3 p5 p6 : Pos} {q : Nat} {k v : Str} {kt : Tok} {tkD ep : Nat}
    (hn : h3.Ns C m) (hk : m (Str.ofString "sign") = some (.str k kt)) (hc : cl.lookup (Str.ofString "whites") = some c) (gV : h3.get? c = some o) (dV : o.data = .cell (some (.ref D))) (gD : h3.get? D = some (dictO w (constEnts tkD whites) ep)) (hDs : (D == sysModules) = false)
    (hw : PySem.Spec.lookup (.str k) ((constEnts tkD whites).map fun e => (PyData.str e.k, PyData.str e.v)) = some (.str v))
    (k1 : (compEnvC scope cl C env).scope.kind = .function) (k2 : (compEnvC scope cl C env).kindOf (Str.ofString "sign") = some .local) (k3 : (compEnvC scope cl C env).kindOf (Str.ofString "whites") = some .cell) :
    wpAny (model prog w) A (eval (.Tuple [.Name (Str.ofString "sign") p0, .Subscript (.Name (Str.ofString "whites") p1) (.Name (Str.ofString "sign") p3) p5] q p6) (compEnvC scope cl C env))
      (fun z s₄ => (∃ T kt vt, z = .ref T ∧ h3.objs.size ≤ T ∧ s₄.heap.IsTuple T #[Value.str k kt, Value.str v vt]) ∧ Keeps ⟨h3, g, dr, tk, os⟩ s₄) E ⟨h3, g, dr, tk, os⟩ := by
  k_steps
  refine cname_L hn hk ?_ k1 k2
  k_steps
  refine cname_C hc gV dV ?_ k1 k3
  k_steps
  refine cname_L hn hk ?_ k1 k2
  k_steps
  refine item_D gD (by rw [const_keys]; decide +kernel) hDs hw (fun t' => ?_)
  k_steps
  refine wpAny_newTuple ?_ (by size_fits)
  exact ⟨⟨_, _, _, rfl, Nat.le_refl _, ⟨_, Heap.get?_push_size _ rfl, rfl, _, rfl⟩⟩, _, _, rfl, fun b o e => Heap.get?_push_of_some _ e⟩

theorem behind_test {prog : Program} {w : World} {A : Around} {E : Value → Shared → Prop} {h3 : Heap} {g : Array GenState} {dr : Drawn} {tk : Nat} {os : OsState} {scope : Scope} {cl : List (Str × Addr)} {C c D : Addr} {o : Obj} {env : Env} {m : Str → Option Value} {p0 p1 p3 : Pos} {k : Str} {kt : Tok} {ys : Array Value} {n : Nat} {xs : List Str} {Q : Bool → Shared → Prop}
    (hn : h3.Ns C m) (hk : m (Str.ofString "sign") = some (.str k kt)) (hc : cl.lookup (Str.ofString "named") = some c) (gV : h3.get? c = some o) (dV : o.data = .cell (some (.ref D))) (gD : h3.get? D = some (W.listOf ys n)) (hi : TxtA ys xs)
    (k1 : (compEnvC scope cl C env).scope.kind = .function) (k2 : (compEnvC scope cl C env).kindOf (Str.ofString "sign") = some .local) (k3 : (compEnvC scope cl C env).kindOf (Str.ofString "named") = some .cell)
    (h : Q (!(xs.any (· == k))) ⟨h3, g, dr, tk, os⟩) :
    wpAny (model prog w) A (isTrue (.Compare (.Name (Str.ofString "sign") p0) [.NotIn] [.Name (Str.ofString "named") p1] p3) (compEnvC scope cl C env) (eval (.Compare (.Name (Str.ofString "sign") p0) [.NotIn] [.Name (Str.ofString "named") p1] p3) (compEnvC scope cl C env))) Q E ⟨h3, g, dr, tk, os⟩ := by
  k_steps
  refine cname_L hn hk ?_ k1 k2
  k_steps
  refine cname_C hc gV dV ?_ k1 k3
  k_steps
  refine notin_E gD hi ?_
  k_steps
  exact h
end Mine

open PySem PySem.W PyProof.Rows PySem.Calls
set_option Elab.async false
set_option maxRecDepth 100000
set_option maxHeartbeats 8000000
namespace Mine
open PySem.Challenge

section
variable {w : World} {p : Program} {loose : List Str} {mg mb : Str → Option Value} {dp un : Nat} {fr : Option (List Env)} {gd : Option (List Code)}
  {h₀ : Heap} {g : Array GenState} {dr : Drawn} {tk : Nat} {os : OsState} {Q E : Value → Shared → Prop}

local macro_rules | `(tactic| k_call_by "enter" $b) => `(tactic| (refine' enter_plain (binds := $b) ?X ?T ?k6 ?k7 ?k8 ?k9 ?kB ?_ ?c2 ?c3 ?c4 ?c5; (case X => assumption); (case T => assumption); (case k6 => k_is); (case k7 => k_is); (case k8 => (show dp < recursionLimit; omega)); (case k9 => exact BindsTo.of_eq rfl); (case kB => exact locs rfl); (case c2 => exact rfl); (case c3 => exact rfl); (case c4 => exact rfl); (case c5 => decide)))
local macro_rules | `(tactic| k_call_by "enterC" $b) => `(tactic| (refine' enter_cells (binds := $b) ?X ?T ?k6 ?k7 ?k8 ?k9 ?kB ?kD ?_ ?c2 ?c3 ?c4; (case X => assumption); (case T => assumption); (case k6 => k_is); (case k7 => k_is); (case k8 => (show dp < recursionLimit; omega)); (case k9 => exact BindsTo.of_eq rfl); (case kB => exact rfl); (case kD => decide +kernel); (case c2 => exact rfl); (case c3 => exact rfl); (case c4 => exact rfl)))
local macro_rules | `(tactic| walk_at "eval Name") => `(tactic| (k_here; k_dflt (refine' nameX_L ?F ?v ?_ ?a ?b; (case a => rfl); (case b => rfl); (case F => k_asm); (case v => assumption); k_whole)))
local macro_rules | `(tactic| walk_at "execs nil") => `(tactic| (k_here; (try dsimp only); refine' gen_toks ?k1 ?_; (case k1 => omega); intro tk' htk'; refine wpAny_execs_nil ?_))
local macro_rules | `(tactic| walk_at "execs cons") => `(tactic| (k_here; (try dsimp only); refine' gen_toks ?k1 ?_; (case k1 => omega); intro tk' htk'; refine wpAny_execs_cons ?_))

/-- the turns that quoteattr makes of a table's -/
def lineT (es : List (Str × Str)) : List (Str × Str) := es.map fun p => (p.1, getT whites p.1 p.2)
def behindT (xs : List Str) (n : Nat) : List (Str × Str) := (whites.take n).filter fun p => !(xs.any (· == p.1))
def keysT (es : List (Str × Str)) : List Str := es.map fun p => p.1
def quoT (es : List (Str × Str)) : List (Str × Str) := lineT es ++ behindT (keysT es) 3

theorem behind_succ {xs : List Str} {i : Nat} {p : Str × Str} (h : whites[i]? = some p) : behindT xs (i + 1) = behindT xs i ++ (if (!(xs.any (· == p.1))) = true then [p] else []) := by
  unfold behindT
  rw [List.take_add_one, h, List.filter_append]
  congr 1
  show List.filter _ [p] = _
  rw [List.filter_cons]
  rfl
theorem white_at {i c : Nat} (h : (Str.ofString "\n\r\t").cps[i]? = some c) : ∃ v, whites[i]? = some (⟨#[c]⟩, v) ∧ ∀ tk, PySem.Spec.lookup (.str ⟨#[c]⟩) ((constEnts tk whites).map fun e => (PyData.str e.k, PyData.str e.v)) = some (.str v) := by
  have e : (Str.ofString "\n\r\t").cps = #[10, 13, 9] := by decide +kernel
  rw [e] at h
  have key : ∀ c v, (whites.find? fun p => decide (p.1 = (⟨#[c]⟩ : Str))) = some (⟨#[c]⟩, v) → ∀ tk, PySem.Spec.lookup (.str ⟨#[c]⟩) ((constEnts tk whites).map fun e => (PyData.str e.k, PyData.str e.v)) = some (.str v) := fun c v h tk => by
    rw [lookup_E, find_const, h]; rfl
  match i, h with
  | 0, h =>
    have : c = 10 := by simpa using h.symm
    subst this
    exact ⟨Str.ofString "&#10;", by decide +kernel, key _ _ (by decide +kernel)⟩
  | 1, h =>
    have : c = 13 := by simpa using h.symm
    subst this
    exact ⟨Str.ofString "&#13;", by decide +kernel, key _ _ (by decide +kernel)⟩
  | 2, h =>
    have : c = 9 := by simpa using h.symm
    subst this
    exact ⟨Str.ofString "&#9;", by decide +kernel, key _ _ (by decide +kernel)⟩
  | n + 3, h => simp at h
theorem add_two {prog : Program} {w : World} {A : Around} {E : Value → Shared → Prop} {s : Shared} {l b : Addr} {vs ws : List Value} {n m : Nat} {Q : Value → Shared → Prop} (hl : s.heap.get? l = some { cls := .type "list", data := .seq vs.toArray n }) (hb : s.heap.get? b = some { cls := .type "list", data := .seq ws.toArray m })
    (hsz : vs.length + ws.length ≤ sizeLine) (h : Q (.ref s.heap.objs.size) { s with heap := s.heap.push { cls := .type "list", data := .seq (vs ++ ws).toArray } }) : wpAny (model prog w) A (binaryOp .Add (.ref l) (.ref b)) Q E s := by
  refine concat_meets ⟨_, hl, rfl⟩ ⟨_, hb, rfl⟩ noFill_list_add seq_list_add PySem.F.slot_list_add PySem.F.entry_list_add (PySem.F.args_list_add_2 _ _) (list_addW l b vs.toArray ws.toArray n m none none #[] #[] (by simpa using hsz)) ⟨hl, hb, ?_⟩
  rw [show vs.toArray ++ ws.toArray = (vs ++ ws).toArray from by simp]
  exact h

theorem quoted1_spec (X : (hd.heap_39 w.params).In h₀) (T : TopRead p loose mg mb h₀) (hdp : dp + 3 < recursionLimit) (hun : un + 160 < cLine) (htk : 1 ≤ tk) {x : Str} {t : Tok} {l : Addr} {es : List (Str × Str)} (hP : PairsAt h₀ l es) (hes : es.length ≤ 100) (hx : x.length ≤ 100) (hf : TFits (esc3 x) (quoT es)) (hf2 : (repl (esc3 x) (quoT es)).length ≤ 2295000)
    (hQ : ∀ t' h' tk', (∀ b o, h₀.get? b = some o → h'.get? b = some o) → Q (.str (quoted (repl (esc3 x) (quoT es))) t') ⟨h', g, dr, tk', os⟩) :
    wpAny (model rw_in0094_01.row.prog w) (ar dp un fr gd) (call (.ref 77) [.str x t, .ref l]) Q E ⟨h₀, g, dr, tk, os⟩ := by
  revert X
  k_fill
  intro X
  refine wpAny_call ?_
  k_call_by "enterC" [(Str.ofString "text", Value.str x t), (Str.ofString "turns", Value.ref l)]
  intro L h₁ tk₁ cells F N htk1 Y
  obtain ⟨o1, o2, hE, d1, d2⟩ := CellsAre.two Y
  subst hE
  clear Y
  replace d1 : o1.data = .cell none := d1
  replace d2 : o2.data = .cell none := d2
  repeat' ((fail_if_success (with_reducible show wpAny _ _ (eval (Expr.Dict _ _ _) _) _ _ _)); walk1)
  refine' Dict_E (kvs := whites) ?ka ?kb ?kc ?kd ?_
  case ka => simp only [arm_evalEachOpt_cons, arm_evalEachOpt_nil, arm_evalOpt_some, arm_eval_Constant, constValue, whites, List.map]
  case kb => simp only [arm_evalEach_cons, arm_evalEach_nil, arm_eval_Constant, constValue, whites, List.map]
  case kc => exact List.cons_ne_nil _ _
  case kd => exact Nat.le_of_ble_eq_true rfl
  rename_i tkD _
  intro h₂ ep₂ tk₂ hD ht2 hk
  rw [merge_nil (by rw [const_keys]; decide +kernel)] at hD
  have l1 := news_lt N
  k_lt l1
  have N2 := news_new F N hk hD
  have F2 := fr_up F hk
  dsimp only at N2 F2 hk hD ht2 l1 ⊢
  have htk2 : 1 ≤ tk₂ := by omega
  generalize h₁.objs.size = D at N2 hD l1 ⊢
  clear hk hD N F h₁
  repeat' ((fail_if_success (with_reducible show wpAny _ _ (exec (Stmt.Assign _ (Expr.ListComp _ _ _ _) _) _) _ _ _)); walk1)
  rename_i hA oW F N dW tkA htkA
  have hDs : (D == sysModules) = false := beq_false_of_ne (Nat.ne_of_gt (Nat.lt_of_le_of_lt (Nat.succ_le_succ (Nat.zero_le L)) l1.2))
  have gW := (N (L + 1, oW) (by k_mem)).1
  have gN := (N (L + 1 + 1, o1) (by k_mem)).1
  have gD := (N (D, _) (List.mem_cons_self ..)).1
  dsimp only at gW gN gD
  refine Assign_pairs (l := l) (es := es) (J := fun bad i ys h => Tups (fun T => T ∉ bad ∧ T ≠ L + 1 + 1) h ys ((lineT es).take i)) rfl rfl (by decide) rfl (by decide) rfl rfl (by decide) rfl rfl rfl F.ns (fun Q' hq => nameX_L F rfl hq rfl rfl) (hP.keeps F.keep) (by omega) (fun bad i ys h h' q hk => q.keep fun T o hT e => hk T o hT.1 e) (fun _ _ => Tups.nil) ?_ ?_
  · intro C bad i k v kt vt ys h tk mc E' he hJ' hnc ha hb hk hlts htk
    dsimp only at hk ⊢
    have gW1 := hk _ _ gW
    have gN1 := hk _ _ gN
    have gD1 := hk _ _ gD
    refine wpAny_mono (line_elt hnc ha hb (by rfl) gW1 dW gD1 hDs (by rfl) (by rfl) (by rfl) (by rfl) (by rfl) (by rfl)) (fun z s₄ q => ?_) fun _ _ e => e
    obtain ⟨⟨T, kt', vt', rfl, hT, ht⟩, h4, tk4, rfl, hk4⟩ := q
    refine ⟨?_, h4, tk4, rfl, hk4⟩
    have e : (lineT es).take (i + 1) = (lineT es).take i ++ [(k, getT whites k v)] := by rw [List.take_add_one, lineT, List.getElem?_map, he]; rfl
    rw [e]
    exact (hJ'.keep fun T o _ e => hk4 _ _ e).snoc ⟨fun hm => absurd (hlts T hm) (Nat.not_lt.mpr hT), fun q => absurd (Heap.lt_size gN1) (Nat.not_lt.mpr (q ▸ hT))⟩ ht
  intro D1 bad1 hB tkB ys1 hD1 hg1 hD1b hLb hJ1 hns1 hk1 htkB
  dsimp only at hD1 hk1 htkB ⊢
  rw [List.take_of_length_le (by rw [lineT, List.length_map]; exact Nat.le_refl _)] at hJ1
  change hB.Ns L _ at hns1
  change ∀ b o, b ≠ L → _ at hk1
  change L ∈ bad1 at hLb
  have hL0 : h₀.get? L = none := Heap.get?_none_of_le F.above
  have F1 : Fr h₀ L hB _ := ⟨hns1, fun b o e => hk1 b o (fun q => by rw [q, hL0] at e; cases e) (F.keep b o e), F.above⟩
  have nL1 : L + 1 ≠ L := Nat.succ_ne_self L
  have nL2 : L + 1 + 1 ≠ L := Nat.ne_of_gt (Nat.lt_succ_of_lt (Nat.lt_succ_self L))
  have nDL : D ≠ L := Nat.ne_of_gt (Nat.lt_trans (Nat.lt_succ_self L) l1.2)
  have gW1 := hk1 _ _ nL1 gW
  have gN1 := hk1 _ _ nL2 gN
  have gD1 := hk1 _ _ nDL gD
  have hN0 := (N (L + 1 + 1, o1) (by k_mem)).2.2
  have hW0 := (N (L + 1, oW) (by k_mem)).2.2
  have hD0 := (N (D, _) (List.mem_cons_self ..)).2.2
  dsimp only at hN0 hW0 hD0
  have lA := Heap.lt_size gN
  have hD1L : L + 1 + 1 < D1 := Nat.lt_trans lA hD1
  clear hns1 hk1 gW gN gD F N
  repeat' ((fail_if_success (with_reducible show wpAny _ _ (exec (Stmt.Assign _ (Expr.ListComp _ _ _ _) _) _) _ _ _)); walk1)
  refine wpAny_Assign_Name ?_ rfl
  refine ListComp_pairs (l := l) (es := es) (J := fun (_ : List Addr) (i : Nat) (ys : List Value) (_ : Heap) => Txts ys ((keysT es).take i)) rfl (by decide) rfl (by decide) rfl rfl (by decide) rfl F1.ns (fun Q' hq => nameX_L F1 rfl hq rfl rfl) (hP.keeps F1.keep) (by omega) (fun bad i ys h h' q hk => q) (fun _ _ => Txts.nil) ?_ ?_
  · intro C bad i k v kt vt ys h tk mc E' he hJ' hnc ha hb hk hlts htk
    dsimp only at hk ⊢
    refine cname_L hnc ha ⟨?_, _, _, rfl, fun _ _ e => e⟩
    have e : (keysT es).take (i + 1) = (keysT es).take i ++ [k] := by rw [List.take_add_one, keysT, List.getElem?_map, he]; rfl
    rw [e]
    exact hJ'.snoc
  intro D2 bad2 hC tkC ys2 hD2 hg2 hD2b hJ2 hk2 htkC
  dsimp only at hD2 hk2 htkC ⊢
  rw [List.take_of_length_le (by rw [keysT, List.length_map]; exact Nat.le_refl _)] at hJ2
  refine wpAny_storeName_cell rfl rfl rfl ⟨_, hk2 _ _ gN1, d1⟩ fun hC2 hcell hs2 => ?_
  obtain ⟨oN, gN2, dN⟩ := hcell
  dsimp only at hs2
  have gN1' := Heap.lt_size gN1
  have gW2 := hs2.extBut _ _ (Nat.ne_of_lt (Nat.lt_succ_self _)) (hk2 _ _ gW1)
  have gD2 := hs2.extBut _ _ (Nat.ne_of_gt l1.1) (hk2 _ _ gD1)
  have g21 := hs2.extBut _ _ (Nat.ne_of_gt hD1L) (hk2 _ _ hg1)
  have hD2L : L + 1 + 1 < D2 := Nat.lt_trans gN1' hD2
  have g22 := hs2.extBut _ _ (Nat.ne_of_gt hD2L) hg2
  have F2 : Fr h₀ L hC2 _ := ⟨(F1.ns.keeps hk2).sameBut hs2 (Ne.symm nL2), fun b o e => hs2.extBut b o (fun q => by rw [q, hN0] at e; cases e) (hk2 _ _ (F1.keep b o e)), F1.above⟩
  have hJ12 := hJ1.keep fun T o hT e => hs2.extBut T o hT.2 (hk2 T o e)
  have htk1' : 1 ≤ tkC := by omega
  clear hs2 hk2 hg2 hg1 gW1 gD1 gN1 hJ1 F1 htkC htkB
  repeat' ((fail_if_success (with_reducible show wpAny _ _ (exec (Stmt.Assign _ (Expr.ListComp _ _ _ _) _) _) _ _ _)); walk1)
  refine Assign_signs (x := Str.ofString "\n\r\t") (J := fun (bad : List Addr) (i : Nat) (ys : List Value) (h : Heap) => Tups (fun T => T ∉ bad) h ys (behindT (keysT es) i)) rfl rfl (by decide) rfl (by decide) rfl rfl rfl rfl F2.ns ?_ (by decide +kernel) (by decide +kernel) (fun bad i ys h h' q hk => q.keep fun T o hT e => hk T o hT e) ?_ (fun _ _ => Tups.nil) ?_ ?_
  · intro Q' hq
    k_steps
    exact hq _ _ (Nat.le_succ _)
  · intro bad i ys h q
    rw [q.1]
    exact Nat.le_trans (List.length_filter_le _ _) (by rw [List.length_take]; omega)
  · intro C bad i c u ys h tk mc E' hc hJ' hnc hs hk hlts htk
    dsimp only at hk ⊢
    obtain ⟨v, hw1, hw2⟩ := white_at hc
    have gW3 := hk _ _ gW2
    have gN3 := hk _ _ gN2
    have gD3 := hk _ _ gD2
    have g23 := hk _ _ g22
    refine forIn_one (behind_test hnc hs (by rfl) gN3 dN g23 (show TxtA ys2.toArray (keysT es) from by unfold TxtA; simpa using hJ2) (by rfl) (by rfl) (by rfl) ?_)
    have e := behind_succ (xs := keysT es) hw1
    cases hb : (!((keysT es).any (· == (⟨#[c]⟩ : Str)))) with
    | false =>
      rw [hb, if_neg Bool.false_ne_true, List.append_nil] at e
      rw [if_neg Bool.false_ne_true, e]
      exact ⟨hJ', _, _, rfl, fun _ _ e => e⟩
    | true =>
      rw [hb, if_pos rfl] at e
      rw [if_pos rfl]
      refine wpAny_mono (behind_elt hnc hs (by rfl) gW3 dW gD3 hDs (hw2 _) (by rfl) (by rfl) (by rfl)) (fun z s₄ q => ?_) fun _ _ e => e
      obtain ⟨⟨T, kt', vt', rfl, hT, ht⟩, h4, tk4, rfl, hk4⟩ := q
      refine ⟨?_, h4, tk4, rfl, hk4⟩
      rw [e]
      exact (hJ'.keep fun T o _ e => hk4 _ _ e).snoc (fun hm => absurd (hlts T hm) (Nat.not_lt.mpr hT)) ht
  intro D3 bad3 hE tkE ys3 hD3 hg3 hD3b hLb3 hJ3 hns3 hk3 htkE
  dsimp only at hD3 hk3 htkE ⊢
  change hE.Ns L _ at hns3
  change ∀ b o, b ≠ L → _ at hk3
  rw [show (Str.ofString "\n\r\t").cps.size = 3 from by decide +kernel] at hJ3
  have F3 : Fr h₀ L hE _ := ⟨hns3, fun b o e => hk3 b o (fun q => by rw [q, hL0] at e; cases e) (F2.keep b o e), F2.above⟩
  have hD1ne : D1 ≠ L := Nat.ne_of_gt (Nat.lt_trans (Nat.lt_succ_of_lt (Nat.lt_succ_self L)) hD1L)
  have g31 := hk3 _ _ hD1ne g21
  have hJ13 := hJ12.keep fun T o hT e => hk3 T o (fun q => hT.1 (q ▸ hLb)) e
  have htkE' : 1 ≤ tkE := by omega
  have N3 : News h₀ L hE [] := News.nil
  have hl1 : ys1.length ≤ 100 := by rw [hJ13.1, lineT, List.length_map]; exact hes
  have hl3 : ys3.length ≤ 3 := by rw [hJ3.1]; exact Nat.le_trans (List.length_filter_le _ _) (by rw [List.length_take]; omega)
  clear hns3 hk3 g21 g22 gW2 gD2 gN2 F2 hJ12 hJ2 htkE
  repeat' ((fail_if_success (with_reducible show wpAny _ _ (binaryOp _ _ _) _ _ _)); walk1)
  refine add_two g31 hg3 (by rw [sizeLine_eq]; omega) ?_
  have hP4 : PairsAt (hE.push { cls := .type "list", data := .seq (ys1 ++ ys3).toArray }) hE.objs.size (quoT es) := (Tups.append (hJ13.keep fun T o _ e => Heap.get?_push_of_some _ e) (hJ3.keep fun T o _ e => Heap.get?_push_of_some _ e)).at ⟨_, Heap.get?_push_size _ rfl, rfl, _, rfl⟩
  have F4 := F3.push { cls := .type "list", data := .seq (ys1 ++ ys3).toArray }
  have N4 : News h₀ L (hE.push { cls := .type "list", data := .seq (ys1 ++ ys3).toArray }) [] := News.nil
  dsimp only
  generalize hE.objs.size = D4 at hP4 ⊢
  generalize hE.push { cls := .type "list", data := .seq (ys1 ++ ys3).toArray } = hG at hP4 F4 N4 ⊢
  clear hJ13 hJ3 g31 hg3 N3 F3
  repeat' ((fail_if_success (with_reducible show wpAny _ _ (call _ _) _ _ _)); walk1)
  rename Fr _ _ _ _ => F5
  rename News _ _ _ _ => N5
  refine wpAny_with_toks (n := 1) (by first | omega | (dsimp only; omega)) (escaped_spec (X.keeps F5.keep) (T.keeps F5.keep) (by show dp + 1 + 2 < recursionLimit; omega) (by show un + 3 + 120 < cLine; omega) (by first | omega | (dsimp only; omega)) hP4 hx hf fun t' h' tk' hk htk' => ?_)
  have F6 := fr_up F5 hk
  have N6 := news_up N5 hk
  clear hk F5 N5 hP4 hf
  have hB6 := replace_mul (repl (esc3 x) (quoT es)) dq (Str.ofString "&quot;") (by decide +kernel) (B := 6) (by decide +kernel) (by decide)
  generalize repl (esc3 x) (quoT es) = B at hf2 hQ hB6 ⊢
  have hR : (Txt.replace B (Str.ofString "\"") (Str.ofString "&quot;")).length ≤ B.length * 6 := hB6
  clear hB6
  repeat' ((fail_if_success (with_reducible show wpAny _ _ (call _ _) _ _ _)); walk1)
  · rename (Builtin.Str.occurrences B (Str.ofString "\"") 0 B.length 1).isEmpty = true => q1
    rename Fr _ _ _ _ => F5
    rename News _ _ _ _ => N5
    refine turn_t (X.keeps F5.keep) (T.keeps F5.keep) (by show dp + 1 + 1 < recursionLimit; omega) (by show un + 3 + 90 < cLine; omega) (by first | omega | (dsimp only; omega)) (by omega) (by decide +kernel) (by decide +kernel) (by omega) fun t' h' tk' htk' hk => ?_
    have F6 := fr_up F5 hk
    have N6 := news_up N5 hk
    clear hk F5 N5
    rw [replace_absent _ q1]
    rw [quoted_1 q1] at hQ
    k_steps
    exact hQ _ _ _ (Fr.keep (by assumption))
  · rename (Builtin.Str.occurrences B (Str.ofString "\"") 0 B.length 1).isEmpty = false => q1
    rename (Builtin.Str.occurrences B (Str.ofString "'") 0 B.length 1).isEmpty = true => q2
    rw [quoted_2 q1 q2] at hQ
    exact hQ _ _ _ (Fr.keep (by assumption))
  · rename (Builtin.Str.occurrences B (Str.ofString "\"") 0 B.length 1).isEmpty = false => q1
    rename (Builtin.Str.occurrences B (Str.ofString "'") 0 B.length 1).isEmpty = false => q2
    rename Fr _ _ _ _ => F5
    rename News _ _ _ _ => N5
    refine turn_t (X.keeps F5.keep) (T.keeps F5.keep) (by show dp + 1 + 1 < recursionLimit; omega) (by show un + 3 + 90 < cLine; omega) (by first | omega | (dsimp only; omega)) (by omega) (by decide +kernel) (by decide +kernel) (by omega) fun t' h' tk' htk' hk => ?_
    have F6 := fr_up F5 hk
    have N6 := news_up N5 hk
    clear hk F5 N5
    rw [quoted_3 q1 q2] at hQ
    k_steps
    exact hQ _ _ _ (Fr.keep (by assumption))
end
end Mine

open PySem PySem.W PyProof.Rows PySem.Calls
set_option Elab.async false
set_option maxRecDepth 100000
set_option maxHeartbeats 2000000
namespace Mine

def piecesL : List Str := [Str.ofString "&", Str.ofString "<", Str.ofString "\"", Str.ofString "'", Str.ofString "\n", Str.ofString "a", Str.ofString ">", Str.ofString "\t", Str.ofString ";", Str.ofString "\r", Str.ofString "&lt;", Str.ofString "&amp;", Str.ofString "&gt;", Str.ofString "&quot;", Str.ofString "&#10;", Str.ofString "amp;"]
def pcVals (a : Nat) : List Value := [.str (Str.ofString "&") a, .str (Str.ofString "<") (a + 1), .str (Str.ofString "\"") (a + 2), .str (Str.ofString "'") (a + 3), .str (Str.ofString "\n") (a + 4), .str (Str.ofString "a") (a + 5), .str (Str.ofString ">") (a + 6), .str (Str.ofString "\t") (a + 7), .str (Str.ofString ";") (a + 8), .str (Str.ofString "\r") (a + 9), .str (Str.ofString "&lt;") (a + 10), .str (Str.ofString "&amp;") (a + 11), .str (Str.ofString "&gt;") (a + 12), .str (Str.ofString "&quot;") (a + 13), .str (Str.ofString "&#10;") (a + 14), .str (Str.ofString "amp;") (a + 15)]
def pc (k : Int) : Str := piecesL.getD k.toNat (Str.ofString "a")
theorem pc_all : ∀ j, j < 16 → 1 ≤ (piecesL.getD j (Str.ofString "a")).length ∧ (piecesL.getD j (Str.ofString "a")).length ≤ 6 ∧ (j < 10 → (piecesL.getD j (Str.ofString "a")).length = 1) := by decide +kernel
theorem pc_oks : ∀ j, j < 16 → PyData.strOk (piecesL.getD j (Str.ofString "a")) = true := by decide +kernel
theorem pc_ok {k : Int} (_ : 0 ≤ k) (h : k < 16) : PyData.strOk (pc k) = true := pc_oks k.toNat (by omega)
theorem strOk_iff (x : Str) : PyData.strOk x = true ↔ ∀ c ∈ x.cps.toList, c < 0x110000 := by
  unfold PyData.strOk
  rw [← Array.all_toList, List.all_eq_true]
  exact ⟨fun h c hc => of_decide_eq_true (h c hc), fun h c hc => decide_eq_true (h c hc)⟩
theorem app_ok {x y : Str} (hx : PyData.strOk x = true) (hy : PyData.strOk y = true) : PyData.strOk (x ++ y) = true := by
  rw [strOk_iff] at hx hy ⊢
  intro c hc
  rw [Str.cps_append, Array.toList_append, List.mem_append] at hc
  exact hc.elim (hx c) (hy c)
theorem chr_ok {y : Str} {k : Int} (hy : PyData.strOk y = true) (h0 : 0 ≤ k) (h1 : k < 55296) : PyData.strOk (y ++ ⟨#[k.toNat]⟩) = true := by
  refine app_ok hy ((strOk_iff _).mpr fun c hc => ?_)
  have : c = k.toNat := by simpa using hc
  omega
theorem pc_pos {k : Int} (_ : 0 ≤ k) (h : k < 16) : 1 ≤ (pc k).length := (pc_all k.toNat (by omega)).1
theorem pc_le {k : Int} (_ : 0 ≤ k) (h : k < 16) : (pc k).length ≤ 6 := (pc_all k.toNat (by omega)).2.1
theorem pc_one {k : Int} (_ : 0 ≤ k) (h : k < 10) : (pc k).length = 1 := (pc_all k.toNat (by omega)).2.2 (by omega)
theorem pcVals_get (a : Nat) : ∀ j, j < 16 → (pcVals a)[j]? = some (.str (piecesL.getD j (Str.ofString "a")) (a + j)) := by
  intro j hj
  match j, hj with
  | 0, _ => rfl
  | 1, _ => rfl
  | 2, _ => rfl
  | 3, _ => rfl
  | 4, _ => rfl
  | 5, _ => rfl
  | 6, _ => rfl
  | 7, _ => rfl
  | 8, _ => rfl
  | 9, _ => rfl
  | 10, _ => rfl
  | 11, _ => rfl
  | 12, _ => rfl
  | 13, _ => rfl
  | 14, _ => rfl
  | 15, _ => rfl
  | n + 16, h => exact absurd h (by omega)
theorem item_P {prog : Program} {w : World} {A : Around} {E : Value → Shared → Prop} {s : Shared} {l : Addr} {a n : Nat} {k : Int} {u : Tok} {value slice : Expr} {Q : Value → Shared → Prop} (hl : s.heap.get? l = some (W.listOf (pcVals a).toArray n)) (h0 : 0 ≤ k) (h1 : k < 16)
    (h : Q (.str (pc k) (a + k.toNat)) s)
    (hs : subscripted slice false (.ref l) (.int k u) = operate [.ref l, .int k u] (getItem (.ref l) (.int k u)) := by with_unfolding_all rfl) :
    wpAny (model prog w) A (subscriptTail value slice (.ref l) (.int k u)) Q E s :=
  item_L hl h0 (by omega) (by rw [List.getElem?_toArray]; exact pcVals_get a k.toNat (by omega)) h hs

def AllP (P : Str → Nat → Prop) : List Value → Prop
  | [] => True
  | v :: r => (∃ y t, v = .str y t ∧ P y t) ∧ AllP P r
theorem AllP.at {P : Str → Nat → Prop} : ∀ {l : List Value} (_ : AllP P l) {i : Nat} (_ : i < l.length), ∃ y t, l[i]? = some (.str y t) ∧ P y t
  | [], _, i, hi => by simp at hi
  | v :: r, h, 0, _ => by
    obtain ⟨⟨y, t, rfl, hy⟩, _⟩ := h
    exact ⟨y, t, rfl, hy⟩
  | v :: r, h, i + 1, hi => by
    obtain ⟨y, t, e, hy⟩ := AllP.at h.2 (i := i) (by simpa using hi)
    exact ⟨y, t, by simpa using e, hy⟩
theorem item_A {prog : Program} {w : World} {A : Around} {E : Value → Shared → Prop} {s : Shared} {a : Addr} {ys : List Value} {n : Nat} {k : Int} {u : Tok} {value slice : Expr} {Q : Value → Shared → Prop} (P : Str → Nat → Prop) (hl : s.heap.get? a = some (W.listOf ys.toArray n)) (hi : AllP P ys) (h0 : 0 ≤ k) (h1 : k < ys.length) (h2 : ys.length < 1000)
    (h : ∀ y t, P y t → Q (.str y t) s)
    (hs : subscripted slice false (.ref a) (.int k u) = operate [.ref a, .int k u] (getItem (.ref a) (.int k u)) := by with_unfolding_all rfl) :
    wpAny (model prog w) A (subscriptTail value slice (.ref a) (.int k u)) Q E s := by
  obtain ⟨y, t, e, hy⟩ := hi.at (i := k.toNat) (by omega)
  exact item_L hl h0 (by omega) (by simpa using e) (h y t hy) hs

theorem item_At {prog : Program} {w : World} {A : Around} {E : Value → Shared → Prop} {s : Shared} {a : Addr} {ys : List Value} {n : Nat} {k : Int} {u : Tok} {value slice : Expr} {Q : Value → Shared → Prop} (P : Nat → Str → Nat → Prop) (hl : s.heap.get? a = some (W.listOf ys.toArray n)) (hi : AllP (P s.toks) ys) (h0 : 0 ≤ k) (h1 : k < ys.length) (h2 : ys.length < 1000)
    (h : ∀ y t, P s.toks y t → Q (.str y t) s)
    (hs : subscripted slice false (.ref a) (.int k u) = operate [.ref a, .int k u] (getItem (.ref a) (.int k u)) := by with_unfolding_all rfl) :
    wpAny (model prog w) A (subscriptTail value slice (.ref a) (.int k u)) Q E s := item_A (P s.toks) hl hi h0 h1 h2 h hs
theorem gen_pred {α : Type} {M : Model} {A : Around} {t : Sem α} {Q : α → Shared → Prop} {E : Value → Shared → Prop} {h : Heap} {g : Array GenState} {dr : Drawn} {os : OsState} {tk : Nat} (P : Nat → Prop) (hp : P tk)
    (k : ∀ tk', P tk' → wpAny M A t Q E ⟨h, g, dr, tk', os⟩) : wpAny M A t Q E ⟨h, g, dr, tk, os⟩ := k tk hp
theorem len_zero {x : Str} (h : x.length = 0) : x = Str.ofString "" := str_ext (by rw [show (Str.ofString "").cps.toList = [] from by decide +kernel]; exact List.length_eq_zero_iff.mp (by rw [len_cps]; exact h))
theorem pc_lt {a : Nat} {k : Int} (_ : 0 ≤ k) (h : k < 16) : a + k.toNat < a + 16 := by omega
theorem addT {prog : Program} {w : World} {A : Around} {E : Value → Shared → Prop} {s : Shared} {x y : Str} {t u : Tok} {Q : Value → Shared → Prop} (hx : 1 ≤ x.length) (hy : 1 ≤ y.length) (hsz : x.length + y.length ≤ 1000)
    (h : Q (.str (x ++ y) s.toks) { s with toks := s.toks + 1 }) : wpAny (model prog w) A (binaryOp .Add (.str x t) (.str y u)) Q E s := by
  have e1 : (x.length == 0) = false := by simp; omega
  have e2 : (y.length == 0) = false := by simp; omega
  refine P.add_str ?_
  rw [e1, e2]
  have hl : (x ++ y).length = x.length + y.length := by rw [← len_cps, Str.cps_append, Array.toList_append, List.length_append, len_cps, len_cps]
  simp only [Bool.false_eq_true, if_false]
  exact ⟨by rw [hl, sizeLine_eq]; omega, h⟩

theorem app_len (x y : Str) : (x ++ y).length = x.length + y.length := by rw [← len_cps, Str.cps_append, Array.toList_append, List.length_append, len_cps, len_cps]
theorem app_chr {y : Str} {c : Nat} (hy : (y.length : Int) < 12) : (y ++ ⟨#[c]⟩).length ≤ 17 := by
  have e : (⟨#[c]⟩ : Str).length = 1 := rfl
  rw [app_len]; omega
theorem add_pc {prog : Program} {w : World} {A : Around} {E : Value → Shared → Prop} {s : Shared} {x : Str} {k : Int} {t u : Tok} {Q : Value → Shared → Prop} (h0 : 0 ≤ k) (h1 : k < 16) (hx : x.length ≤ 100)
    (h : ∀ t' n, (x ++ pc k).length ≤ x.length + 6 → Q (.str (x ++ pc k) t') { s with toks := n }) : wpAny (model prog w) A (binaryOp .Add (.str x t) (.str (pc k) u)) Q E s := by
  have hp := pc_le h0 h1
  have hl : (x ++ pc k).length = x.length + (pc k).length := by rw [← len_cps, Str.cps_append, Array.toList_append, List.length_append, len_cps, len_cps]
  exact SBL.add (hsz := by rw [sizeLine_eq]; omega) fun t' n _ => h t' n (by omega)
def TurnB (n : Nat) (Q : Flow → Shared → Prop) (f : Flow) (s : Shared) : Prop := n ≤ s.toks → Q f s
theorem turn_b {M : Model} {A : Around} {t : Sem Flow} {Q : Flow → Shared → Prop} {E : Value → Shared → Prop} {s : Shared} (n : Nat) (hn : n ≤ s.toks) (h : wpAny M A t (TurnB n Q) E s) : wpAny M A t Q E s := wpAny_mono (wpAny_toks_of hn h) (fun _ _ x => x.2 x.1) (fun _ _ x => x.2)
theorem setItem_E {prog : Program} {w : World} {A : Around} {E : Value → Shared → Prop} {s : Shared} {d : Addr} {es : List Ent} {ep : Nat} (n : Ent) {Q : Unit → Shared → Prop} (ho : s.heap.get? d = some (dictO w es ep)) (hz : es.length ≤ 1000)
    (h : ∀ h' ep', h'.get? d = some (dictO w (putE n es) ep') → Heap.SameBut d s.heap h' → Q () { s with heap := h', toks := s.toks + 1 }) :
    wpAny (model prog w) A (setItem (.ref d) (.str n.k n.kt) (.str n.v n.vt)) Q E s := by
  have hT : s.TypeIs (.ref d) "dict" := ⟨_, ho, rfl⟩
  unfold setItem
  try with_reducible refine wpAny_holding ?_
  refine wpAny_bind (wpAny_sequenceKey hT (by decide) ?_)
  refine wpAny_bind (wpAny_callSpecial?_slot (name := Str.ofString "__setitem__") hT slot_dict_setitem (wpAny_call_entry slot_dict_setitem hT entry_dict_setitem ?_ (args_dict_setitem _ _ _)))
  show wpAny _ _ (Builtin.Dict.notOrdered "__setitem__" ⟨[.ref d, .str n.k n.kt, .str n.v n.vt], []⟩ >>= _) _ _ s
  refine wpAny_bind (wpAny_notOrdered_dict hT ?_)
  show wpAny _ _ (dictSet d (.str n.k n.kt) (.str n.v n.vt) >>= _) _ _ s
  exact wpAny_bind (dictSet_E n ho hz fun h' ep' hd' hs' => wpAny_pure ⟨.none, rfl, wpAny_pure (h h' ep' hd' hs')⟩)

theorem len_E {prog : Program} {w : World} {A : Around} {E : Value → Shared → Prop} {s : Shared} {d : Addr} {es : List Ent} {ep : Nat} {Q : Value → Shared → Prop} (hd : s.heap.get? d = some (dictO w es ep)) (hdn : (es.map Ent.k).Nodup) (hds : (d == sysModules) = false) (hl : es.length ≤ 1000)
    (h : Q (.int es.length (s.toks + 1)) { s with toks := s.toks + 1 + 1 }) : wpAny (model prog w) A (call (.builtin "len") [.ref d]) Q E s := by
  refine call_len_dict (knd := strKind prog w) hds (dictAt_E (prog := prog) hd hdn).dictOf (by rw [List.length_map]; omega) ?_
  rw [List.length_map]
  exact h

def Mark (_ : Nat) : Prop := True
theorem gen_mark {α : Type} {M : Model} {A : Around} {t : Sem α} {Q : α → Shared → Prop} {E : Value → Shared → Prop} {h : Heap} {g : Array GenState} {dr : Drawn} {os : OsState} {n tk : Nat} (_ : Mark n) (hn : n ≤ tk)
    (k : ∀ tk', n ≤ tk' → wpAny M A t Q E ⟨h, g, dr, tk', os⟩) : wpAny M A t Q E ⟨h, g, dr, tk, os⟩ := k tk hn

/-! the table's tokens -/
def PcP (a : Nat) (y : Str) (t : Nat) : Prop := ∃ j, j < 16 ∧ t = a + j ∧ piecesL.getD j (Str.ofString "a") = y
theorem pc_tok {a : Nat} {k : Int} (_ : 0 ≤ k) (h : k < 16) : PcP a (pc k) (a + k.toNat) := ⟨k.toNat, by omega, rfl, rfl⟩
def TOk (a : Nat) (y : Str) (t : Nat) : Prop := PcP a y t ∨ ∀ j, j < 16 → t ≠ a + j
structure EOk (a n : Nat) (e : Ent) : Prop where
  kt : 1 ≤ e.kt ∧ e.kt < n
  vt : 1 ≤ e.vt ∧ e.vt < n
  kOk : TOk a e.k e.kt
  same : e.kt = e.vt → e.k = e.v
  lk : e.k.length ≤ 12
  lv : e.v.length ≤ 6
  l0 : e.k.length = 0 → e.v.length ≤ 1
  ok : PyData.strOk e.k = true ∧ PyData.strOk e.v = true
def TabOk (a n : Nat) (es : List Ent) : Prop := (es.map Ent.k).Nodup ∧ ∀ e ∈ es, EOk a n e
theorem TabOk.mono {a n n' : Nat} {es : List Ent} (h : TabOk a n es) (hn : n ≤ n') : TabOk a n' es := ⟨h.1, fun e he => by
  have q := h.2 e he
  exact ⟨⟨q.kt.1, Nat.lt_of_lt_of_le q.kt.2 hn⟩, ⟨q.vt.1, Nat.lt_of_lt_of_le q.vt.2 hn⟩, q.kOk, q.same, q.lk, q.lv, q.l0, q.ok⟩⟩
theorem mem_put2 {n e : Ent} : ∀ {es : List Ent}, e ∈ putE n es → e ∈ es ∨ (e.k = n.k ∧ e.v = n.v ∧ e.vt = n.vt ∧ (e.kt = n.kt ∨ ∃ e1 ∈ es, e1.k = e.k ∧ e1.kt = e.kt))
  | [], h => by
    rw [putE, List.mem_singleton] at h
    subst h
    exact .inr ⟨rfl, rfl, rfl, .inl rfl⟩
  | a :: r, h => by
    unfold putE at h
    split at h
    · rename_i hk
      rcases List.mem_cons.mp h with rfl | h
      · exact .inr ⟨hk, rfl, rfl, .inr ⟨a, List.mem_cons_self .., rfl, rfl⟩⟩
      · exact .inl (List.mem_cons_of_mem _ h)
    · rcases List.mem_cons.mp h with rfl | h
      · exact .inl (List.mem_cons_self ..)
      · rcases mem_put2 h with q | ⟨q1, q2, q3, q4⟩
        · exact .inl (List.mem_cons_of_mem _ q)
        · exact .inr ⟨q1, q2, q3, q4.imp id fun ⟨e1, he, q⟩ => ⟨e1, List.mem_cons_of_mem _ he, q⟩⟩
theorem put_ok {a n n2 n3 : Nat} {es : List Ent} {k v : Str} {kt vt : Nat} (h : TabOk a n es) (ha : 1 ≤ a) (han : a + 16 ≤ n) (hk : PcP a k kt ∨ n ≤ kt) (hk2 : kt < n2) (h12 : n ≤ n2) (hv : PcP a v vt ∨ n2 ≤ vt) (hv3 : vt < n3) (h23 : n2 ≤ n3)
    (lk : k.length ≤ 12) (lv : v.length ≤ 6) (l0 : k.length = 0 → v.length ≤ 1) (ok : PyData.strOk k = true ∧ PyData.strOk v = true) : TabOk a n3 (putE ⟨k, kt, v, vt⟩ es) := by
  refine ⟨put_nodup h.1, fun e he => ?_⟩
  rcases mem_put2 he with q | ⟨q1, q2, q3, q4⟩
  · exact (h.mono (Nat.le_trans h12 h23)).2 e q
  dsimp only at q1 q2 q3 q4
  have hv1 : 1 ≤ vt := by
    rcases hv with ⟨j, _, e, _⟩ | e <;> omega
  have keyOk : (1 ≤ e.kt ∧ e.kt < n2) ∧ TOk a e.k e.kt := by
    rcases q4 with q4 | ⟨e1, he1, q5, q6⟩
    · refine ⟨⟨?_, by omega⟩, ?_⟩
      · rcases hk with ⟨j, _, e, _⟩ | e <;> omega
      · rw [q1, q4]
        rcases hk with hk | hk
        · exact .inl hk
        · exact .inr fun j hj => by omega
    · have z := h.2 e1 he1
      rw [← q5, ← q6]
      exact ⟨⟨z.kt.1, Nat.lt_of_lt_of_le z.kt.2 h12⟩, z.kOk⟩
  refine ⟨⟨keyOk.1.1, Nat.lt_of_lt_of_le keyOk.1.2 h23⟩, ⟨by omega, by omega⟩, keyOk.2, fun heq => ?_, by rw [q1]; exact lk, by rw [q2]; exact lv, by rw [q1, q2]; exact l0, by rw [q1, q2]; exact ok⟩
  rw [q3] at heq
  rcases hv with ⟨j, hj, e1, e2⟩ | hv
  · rcases keyOk.2 with ⟨j', hj', f1, f2⟩ | hno
    · have : j = j' := by omega
      subst this
      rw [← f2, e2, q2]
    · exact absurd (heq.trans e1) (hno j hj)
  · omega
end Mine

open PySem PySem.W PyProof.Rows PySem.Calls
set_option Elab.async false
set_option maxRecDepth 100000
set_option maxHeartbeats 8000000
namespace Mine
open PySem.Challenge

section
variable {w : World} {p : Program} {loose : List Str} {mg mb : Str → Option Value} {dp un : Nat} {fr : Option (List Env)} {gd : Option (List Code)}
  {h₀ : Heap} {g : Array GenState} {dr : Drawn} {tk : Nat} {os : OsState} {Q E : Value → Shared → Prop}

local macro_rules | `(tactic| k_call_by "enter" $b) => `(tactic| (refine' enter_plain (binds := $b) ?X ?T ?k6 ?k7 ?k8 ?k9 ?kB ?_ ?c2 ?c3 ?c4 ?c5; (case X => assumption); (case T => assumption); (case k6 => k_is); (case k7 => k_is); (case k8 => (show dp < recursionLimit; omega)); (case k9 => exact BindsTo.of_eq rfl); (case kB => exact locs rfl); (case c2 => exact rfl); (case c3 => exact rfl); (case c4 => exact rfl); (case c5 => decide)))
local macro_rules | `(tactic| walk_at "eval Name") => `(tactic| (k_here; k_dflt (refine' nameX_L ?F ?v ?_ ?a ?b; (case a => rfl); (case b => rfl); (case F => k_asm); (case v => assumption); k_whole)))
local macro_rules | `(tactic| walk_at "execs nil") => `(tactic| (k_here; (try dsimp only); refine' gen_mark ?m ?k1 ?_; (case m => assumption); (case k1 => omega); intro tk' htk'; refine wpAny_execs_nil ?_))
local macro_rules | `(tactic| walk_at "execs cons") => `(tactic| (k_here; (try dsimp only); refine' gen_mark ?m ?k1 ?_; (case m => assumption); (case k1 => omega); intro tk' htk'; refine wpAny_execs_cons ?_))

local macro_rules | `(tactic| walk_at "subscriptTail") => `(tactic| (k_here; (with_reducible show wpAny _ _ (subscriptTail _ _ (Value.ref _) (Value.int _ _)) _ _ _); k_dflt (refine' item_P ?l ?h0 ?h1 ?_; (case l => exact News.get (by k_asm) (by k_mem)); (case h0 => first | omega | exact Int.fmod_nonneg_of_pos _ (by decide)); (case h1 => first | omega | exact Int.fmod_lt_of_pos _ (by decide) | exact Int.lt_trans (Int.fmod_lt_of_pos _ (by decide)) (by decide)))))
local macro_rules | `(tactic| walk_at "call builtin:len") => `(tactic| (k_here; (with_reducible show wpAny _ _ (call (Value.builtin "len") [Value.ref _]) _ _ _); k_dflt (refine' len_E ?l ?h0 ?h1 ?h2 ?_; (case l => exact News.get (by k_asm) (by k_mem)); (case h0 => assumption); (case h1 => assumption); (case h2 => omega))))
local macro_rules | `(tactic| walk_at "binaryOp Add str str") => `(tactic| (k_here; (with_reducible show wpAny _ _ (binaryOp Operator.Add (Value.str _ _) (Value.str (pc _) _)) _ _ _); k_dflt (refine' add_pc ?h0 ?h1 ?hx ?_; (case h0 => first | omega | exact Int.fmod_nonneg_of_pos _ (by decide)); (case h1 => first | omega | exact Int.fmod_lt_of_pos _ (by decide)); (case hx => omega)); intro t' n' hl'))
local macro_rules | `(tactic| walk_at "binaryOp Add str str") => `(tactic| (k_here; (with_reducible show wpAny _ _ (binaryOp Operator.Add (Value.str (pc _) _) (Value.str (pc _) _)) _ _ _); k_dflt (refine' addT ?h0 ?h1 ?hx ?_; (case h0 => (apply pc_pos <;> first | omega | exact Int.fmod_nonneg_of_pos _ (by decide) | exact Int.fmod_lt_of_pos _ (by decide) | exact Int.lt_trans (Int.fmod_lt_of_pos _ (by decide)) (by decide))); (case h1 => (apply pc_pos <;> first | omega | exact Int.fmod_nonneg_of_pos _ (by decide) | exact Int.fmod_lt_of_pos _ (by decide) | exact Int.lt_trans (Int.fmod_lt_of_pos _ (by decide)) (by decide))); (case hx => (refine Nat.le_trans (Nat.add_le_add (pc_le ?_ ?_) (pc_le ?_ ?_)) (by decide) <;> first | omega | exact Int.fmod_nonneg_of_pos _ (by decide) | exact Int.fmod_lt_of_pos _ (by decide) | exact Int.lt_trans (Int.fmod_lt_of_pos _ (by decide)) (by decide))))))
theorem draw1_spec (X : (hd.heap_39 w.params).In h₀) (T : TopRead p loose mg mb h₀) (hdp : dp + 2 < recursionLimit) (hun : un + 120 < cLine) (htk : 1 ≤ tk) {l : Addr} {vs : List Value} {ns : List Int} (hl : h₀.IsList l vs.toArray) (hi : IntsAre vs ns) (hns : ns.length ≤ 63)
    (hQ : ∀ (y : Str) (es : List Ent) (ta : Nat), y.length ≤ 17 → PyData.strOk y = true → es.length ≤ 3 → ∀ a d t ep h' tk', (d == sysModules) = false → TabOk ta tk' es → h'.get? a = some { cls := .type "tuple", data := .seq #[.str y t, .ref d] } → h'.get? d = some (dictO w es ep) → h₀.get? a = none → h₀.get? d = none → (∀ b o, h₀.get? b = some o → h'.get? b = some o) → Q (.ref a) ⟨h', g, dr, tk', os⟩) :
    wpAny (model rw_in0094_01.row.prog w) (ar dp un fr gd) (call (.ref 55) [.ref l]) Q E ⟨h₀, g, dr, tk, os⟩ := by
  revert X
  k_fill
  intro X
  refine wpAny_call ?_
  k_call_by "enter" [(Str.ofString "script", Value.ref l)]
  intro L h₁ F N
  dsimp only [List.length_cons, List.length_nil]
  have hM : Mark 1 := trivial
  repeat' ((fail_if_success (with_reducible show wpAny _ _ (execs (Stmt.Assign [Expr.Name (Str.ofString "text") _] _ _ :: _) _) _ _ _)); walk1)
  rename_i ta hta lP _ _ hA F N
  change News h₀ L hA [(lP, W.listOf (pcVals ta).toArray 0)] at N
  have hM2 : Mark (ta + 16) := trivial
  clear hM
  repeat' ((fail_if_success (with_reducible show wpAny _ _ (subscriptTail _ _ _ _) _ _ _)); walk1)
  refine' item_A (fun y _ => y.length ≤ 6 ∧ PyData.strOk y = true) ?l ?b ?h0 ?h1 ?h2 ?_
  case l => exact News.get (by assumption) (by k_mem)
  case b => repeat' (first | exact trivial | refine ⟨⟨_, _, rfl, by show Str.length _ ≤ 6 ∧ PyData.strOk _ = true; decide +kernel⟩, ?_⟩)
  case h0 => first | omega | exact Int.fmod_nonneg_of_pos _ (by decide)
  case h1 => (show _ < ((_ : Nat) : Int); simp only [List.length_cons, List.length_nil]; first | omega | exact Int.fmod_lt_of_pos _ (by decide))
  case h2 => (simp only [List.length_cons, List.length_nil]; decide)
  rintro y0 t0 ⟨hy0, hy0k⟩
  repeat' ((fail_if_success (with_reducible show wpAny _ _ (eval (Expr.Dict _ _ _) _) _ _ _)); walk1)
  refine wpAny_Dict_empty ?_
  rename Fr _ _ _ _ => F
  rename News _ _ _ _ => N
  have hgl := Heap.lt_size (X 2 _ rfl)
  have hbig : sysModules < (Heap.objs h₀).size := Nat.lt_trans (by decide : sysModules < 2) hgl
  rename Heap => hA
  have F2 := F.push { cls := .type "dict", data := .dict #[] }
  have N2 : News h₀ L (hA.push { cls := .type "dict", data := .dict #[] }) [(hA.objs.size, dictO w [] 0), (lP, W.listOf (pcVals ta).toArray 0)] := news_sub (News.push F N { cls := .type "dict", data := .dict #[] }) (fun p hp => by
    rcases List.mem_cons.mp hp with rfl | hp
    · exact List.mem_cons_self ..
    · exact List.mem_cons_of_mem _ (List.mem_cons_of_mem _ hp))
  have hdP : lP < hA.objs.size := Heap.lt_size (N (lP, _) (by k_mem)).1
  have hdS : (hA.objs.size == sysModules) = false := beq_false_of_ne (Nat.ne_of_gt (Nat.lt_of_lt_of_le hbig (Nat.le_trans F.above (Nat.le_of_lt F.ns.lt))))
  dsimp only
  generalize hA.objs.size = dT at N2 hdP hdS ⊢
  generalize hA.push { cls := .type "dict", data := .dict #[] } = hB at F2 N2 ⊢
  clear F N
  repeat' ((fail_if_success (with_reducible show wpAny _ _ (exec (Stmt.For _ _ _ _ _) _) _ _ _)); walk1)
  refine wpAny_For ?_ (by intro _; rfl)
  repeat' ((fail_if_success (with_reducible show wpAny _ _ (pyIter _) _ _ _)); walk1)
  rename IntsAre _ (List.take 63 ns) => hI
  rename Fr _ _ _ _ => F
  rename News _ _ _ _ => N
  rename_i tkZ htkZ lS ws hZ hC2 hL2 l1
  generalize hm : (fun y => if y = Str.ofString "table" then some (Value.ref dT) else _) = m at F
  have mT : m (Str.ofString "table") = some (Value.ref dT) := by rw [← hm]; rfl
  have mP : m (Str.ofString "pieces") = some (Value.ref lP) := by rw [← hm]; rfl
  have mX : m (Str.ofString "text") = some (Value.str y0 t0) := by rw [← hm]; rfl
  clear hm hM2
  refine for_list_E rfl rfl rfl F N (by dsimp only; omega) (List.mem_cons_self ..) (fun _ m' news' tk => ∃ y t es ep, news' = [(lS, W.listOf ws.toArray 0), (dT, dictO w es ep), (lP, W.listOf (pcVals ta).toArray 0)] ∧ m' (Str.ofString "text") = some (Value.str y t) ∧ y.length ≤ 17 ∧ PyData.strOk y = true ∧
    m' (Str.ofString "table") = some (Value.ref dT) ∧ m' (Str.ofString "pieces") = some (Value.ref lP) ∧ TabOk ta tk es ∧ es.length ≤ 3 ∧ ta + 16 ≤ tk) ⟨y0, t0, [], 0, rfl, mX, by omega, hy0k, mT, mP, ⟨List.nodup_nil, fun _ h => nomatch h⟩, Nat.zero_le _, by dsimp only; omega⟩ (fun _ _ _ _ q => by obtain ⟨_, _, _, _, q, _⟩ := q; rw [q]; exact List.mem_cons_self ..) ?_ ?_
  · rintro i v m₁ h tk news' own hv ⟨y, t, es, ep, rfl, mX, hy, hyk, mT, mP, hes, hel, htk2⟩ htk _ hown F N
    obtain ⟨n, tn, rfl⟩ := ints_at hI (by simpa using hv)
    have o1 := neN (hown (dT, _) (by k_mem))
    have o2 := neN (hown (lP, _) (by k_mem))
    have o3 := neN (hown (lS, _) (by k_mem))
    dsimp only at o1 o2 o3 F N ⊢
    clear hown
    have hM3 : Mark (tk + 1) := trivial
    replace hes := hes.mono (Nat.le_succ tk)
    have hdn := hes.1
    refine turn_b (tk + 1) (Nat.le_refl _) ?_
    repeat' ((fail_if_success (first | (with_reducible show wpAny _ _ (execs (Stmt.Assign [Expr.Name (Str.ofString "key") _] _ _ :: _) _) _ _ _) | (with_reducible show TurnB _ _ _ _))); walk1)
    all_goals try dsimp only
    · refine fun htkF => ?_
      rename Fr _ _ _ _ => F'
      rename News _ _ _ _ => N'
      dsimp only at htkF
      exact turn_next (news' := [(lS, W.listOf ws.toArray 0), (dT, dictO w es ep), (lP, W.listOf (pcVals ta).toArray 0)]) F' N' (fun p hp => by first | exact List.mem_cons_of_mem _ hp | exact List.mem_cons_of_mem _ (List.mem_cons_of_mem _ hp) | exact List.mem_cons_of_mem _ (List.mem_cons_of_mem _ (List.mem_cons_of_mem _ hp))) rfl ⟨_, _, es, ep, rfl, rfl, by omega, app_ok hyk (pc_ok (Int.fmod_nonneg_of_pos _ (by decide)) (by assumption)), mT, mP, hes.mono htkF, hel, by omega⟩
    · refine fun htkF => ?_
      rename Fr _ _ _ _ => F'
      rename News _ _ _ _ => N'
      dsimp only at htkF
      exact turn_next (news' := [(lS, W.listOf ws.toArray 0), (dT, dictO w es ep), (lP, W.listOf (pcVals ta).toArray 0)]) F' N' (fun p hp => by first | exact List.mem_cons_of_mem _ hp | exact List.mem_cons_of_mem _ (List.mem_cons_of_mem _ hp) | exact List.mem_cons_of_mem _ (List.mem_cons_of_mem _ (List.mem_cons_of_mem _ hp))) rfl ⟨_, _, es, ep, rfl, rfl, app_chr (by assumption), chr_ok hyk (Int.fmod_nonneg_of_pos _ (by decide)) (Int.fmod_lt_of_pos _ (by decide)), mT, mP, hes.mono htkF, hel, by omega⟩
    · refine fun htkF => ?_
      rename Fr _ _ _ _ => F'
      rename News _ _ _ _ => N'
      dsimp only at htkF
      exact turn_next (news' := [(lS, W.listOf ws.toArray 0), (dT, dictO w es ep), (lP, W.listOf (pcVals ta).toArray 0)]) F' N' (fun p hp => by first | exact List.mem_cons_of_mem _ hp | exact List.mem_cons_of_mem _ (List.mem_cons_of_mem _ hp) | exact List.mem_cons_of_mem _ (List.mem_cons_of_mem _ (List.mem_cons_of_mem _ hp))) rfl ⟨_, _, es, ep, rfl, mX, hy, hyk, mT, mP, hes.mono htkF, hel, by omega⟩
    · rename (es.length : Int) < 3 => hlt3
      refine gen_mark hM3 (by omega) fun n1 hn1 => ?_
      have hM4 : Mark n1 := trivial
      clear hM3
      repeat' ((fail_if_success (with_reducible show wpAny _ _ (subscriptTail (Expr.List _ _) _ _ _) _ _ _)); walk1)
      have f0 : ∀ a b : Int, 0 < b → 0 ≤ a.fmod b := fun a b hb => Int.fmod_nonneg_of_pos _ hb
      have f1 : ∀ a b : Int, 0 < b → a.fmod b < b := fun a b hb => Int.fmod_lt_of_pos _ hb
      have f10 : ∀ a : Int, a.fmod 10 < 16 := fun a => Int.lt_trans (f1 a 10 (by decide)) (by decide)
      refine' item_At (fun n y t => (y.length ≤ 12 ∧ PyData.strOk y = true) ∧ (PcP ta y t ∨ n1 ≤ t) ∧ t < n) ?l ?b ?h0 ?h1 ?h2 ?_
      case l => exact News.get (by assumption) (by k_mem)
      case b =>
        refine ⟨⟨_, _, rfl, ?_, Or.inl (pc_tok ?_ ?_), ?_⟩, ⟨_, _, rfl, ?_, Or.inr ?_, ?_⟩, ⟨_, _, rfl, ?_, Or.inr ?_, ?_⟩, ⟨_, _, rfl, ?_, Or.inr ?_, ?_⟩, trivial⟩
        · exact ⟨Nat.le_trans (pc_le (f0 _ _ (by decide)) (f1 _ _ (by decide))) (by decide), pc_ok (f0 _ _ (by decide)) (f1 _ _ (by decide))⟩
        · exact f0 _ _ (by decide)
        · exact f1 _ _ (by decide)
        · exact Nat.lt_of_lt_of_le (pc_lt (f0 _ _ (by decide)) (f1 _ _ (by decide))) (by first | omega | (dsimp only; omega))
        · rw [app_len]
          exact ⟨Nat.le_trans (Nat.add_le_add (pc_le (f0 _ _ (by decide)) (f1 _ _ (by decide))) (pc_le (f0 _ _ (by decide)) (f10 _))) (by decide), app_ok (pc_ok (f0 _ _ (by decide)) (f1 _ _ (by decide))) (pc_ok (f0 _ _ (by decide)) (f10 _))⟩
        · first | omega | (dsimp only; omega)
        · first | omega | (dsimp only; omega)
        · rw [app_len]
          exact ⟨Nat.le_trans (Nat.add_le_add (pc_le (f0 _ _ (by decide)) (f10 _)) (pc_le (f0 _ _ (by decide)) (f1 _ _ (by decide)))) (by decide), app_ok (pc_ok (f0 _ _ (by decide)) (f10 _)) (pc_ok (f0 _ _ (by decide)) (f1 _ _ (by decide)))⟩
        · first | omega | (dsimp only; omega)
        · first | omega | (dsimp only; omega)
        · decide +kernel
        · first | omega | (dsimp only; omega)
        · first | omega | (dsimp only; omega)
      case h0 => exact f0 _ _ (by decide)
      case h1 => exact f1 _ _ (by decide)
      case h2 => (simp only [List.length_cons, List.length_nil]; decide)
      rintro ky kt ⟨⟨hkl, hkk⟩, hkt, hkn⟩
      dsimp only at hkn ⊢
      refine gen_pred (fun n => kt < n ∧ n1 ≤ n) ⟨hkn, by omega⟩ fun n2 ⟨hkn, h12⟩ => ?_
      have hM5 : Mark n2 := trivial
      clear hM4
      repeat' ((fail_if_success (with_reducible show wpAny _ _ (subscriptTail (Expr.List _ _) _ _ _) _ _ _)); walk1)
      · rename (ky == Str.ofString "") = true => hky
        refine' item_At (fun n y t => (y.length ≤ 1 ∧ PyData.strOk y = true) ∧ (PcP ta y t ∨ n2 ≤ t) ∧ t < n) ?l ?b ?h0 ?h1 ?h2 ?_
        case l => exact News.get (by assumption) (by k_mem)
        case b =>
          refine ⟨⟨_, _, rfl, ⟨Nat.le_of_eq (pc_one (f0 _ _ (by decide)) (f1 _ _ (by decide))), pc_ok (f0 _ _ (by decide)) (f10 _)⟩, Or.inl (pc_tok (f0 _ _ (by decide)) (f10 _)), ?_⟩, ⟨_, _, rfl, ⟨Nat.le_of_eq (pc_one (f0 _ _ (by decide)) (f1 _ _ (by decide))), pc_ok (f0 _ _ (by decide)) (f10 _)⟩, Or.inl (pc_tok (f0 _ _ (by decide)) (f10 _)), ?_⟩, ⟨_, _, rfl, ?_, Or.inr ?_, ?_⟩, trivial⟩
          · exact Nat.lt_of_lt_of_le (pc_lt (f0 _ _ (by decide)) (f10 _)) (by first | omega | (dsimp only; omega))
          · exact Nat.lt_of_lt_of_le (pc_lt (f0 _ _ (by decide)) (f10 _)) (by first | omega | (dsimp only; omega))
          · decide +kernel
          · first | omega | (dsimp only; omega)
          · first | omega | (dsimp only; omega)
        case h0 => exact f0 _ _ (by decide)
        case h1 => exact f1 _ _ (by decide)
        case h2 => (simp only [List.length_cons, List.length_nil]; decide)
        rintro vy vt ⟨⟨hvl, hvk⟩, hvt, hvn⟩
        try dsimp only at hvn
        try dsimp only
        refine gen_pred (fun n => vt < n ∧ n2 ≤ n) ⟨hvn, by omega⟩ fun n3 ⟨hvn, h23⟩ => ?_
        have hM6 : Mark n3 := trivial
        clear hM5
        have hput : TabOk ta n3 (putE ⟨ky, kt, vy, vt⟩ es) := put_ok (hes.mono hn1) hta (by omega) hkt hkn h12 hvt hvn h23 hkl (Nat.le_trans hvl (by decide)) (fun _ => hvl) ⟨hkk, hvk⟩
        have hpl := putE_length ⟨ky, kt, vy, vt⟩ es
        repeat' ((fail_if_success (with_reducible show wpAny _ _ (setItem _ _ _) _ _ _)); walk1)
        rename Fr _ _ _ _ => F
        rename News _ _ _ _ => N
        refine setItem_E ⟨ky, kt, vy, vt⟩ (News.get N (by k_mem : (dT, dictO w es ep) ∈ _)) (by omega) fun hS epS gS sS => ?_
        have hT0 := (N (dT, dictO w es ep) (by k_mem)).2
        dsimp only at gS sS hT0
        have F' : Fr h₀ L hS _ := ⟨F.ns.sameBut sS (Ne.symm hT0.1), fun b o e => sS.extBut b o (fun q => by rw [q, hT0.2] at e; cases e) (F.keep b o e), F.above⟩
        have N' : News h₀ L hS [own, (lS, W.listOf ws.toArray 0), (dT, dictO w (putE ⟨ky, kt, vy, vt⟩ es) epS), (lP, W.listOf (pcVals ta).toArray 0)] := by
          intro q hq
          rcases List.mem_cons.mp hq with rfl | hq
          · have z := N _ (by k_mem : q ∈ _)
            exact ⟨sS.extBut _ _ (Ne.symm o1) z.1, z.2⟩
          rcases List.mem_cons.mp hq with rfl | hq
          · have z := N (lS, W.listOf ws.toArray 0) (by k_mem)
            exact ⟨sS.extBut _ _ (Nat.ne_of_gt l1.1) z.1, z.2⟩
          rcases List.mem_cons.mp hq with rfl | hq
          · exact ⟨gS, hT0⟩
          · have e := List.mem_singleton.mp hq
            subst e
            have z := N (lP, W.listOf (pcVals ta).toArray 0) (by k_mem)
            exact ⟨sS.extBut _ _ (Nat.ne_of_lt hdP) z.1, z.2⟩
        clear F N sS gS
        try dsimp only
        repeat' ((fail_if_success (with_reducible show TurnB _ _ _ _)); walk1)
        refine fun htkF => ?_
        rename Fr _ _ _ _ => F'
        rename News _ _ _ _ => N'
        try dsimp only at htkF
        try dsimp only
        exact turn_next (news' := [(lS, W.listOf ws.toArray 0), (dT, dictO w (putE ⟨ky, kt, vy, vt⟩ es) epS), (lP, W.listOf (pcVals ta).toArray 0)]) F' N' (fun _ hp => hp) rfl ⟨_, _, _, epS, rfl, mX, hy, hyk, mT, mP, hput.mono (by assumption), by omega, by omega⟩
      · rename (ky == Str.ofString "") = false => hky
        refine' item_At (fun n y t => (y.length ≤ 6 ∧ PyData.strOk y = true) ∧ (PcP ta y t ∨ n2 ≤ t) ∧ t < n) ?l ?b ?h0 ?h1 ?h2 ?_
        case l => exact News.get (by assumption) (by k_mem)
        case b =>
          refine ⟨⟨_, _, rfl, ⟨pc_le (f0 _ _ (by decide)) (f1 _ _ (by decide)), pc_ok (f0 _ _ (by decide)) (f1 _ _ (by decide))⟩, Or.inl (pc_tok (f0 _ _ (by decide)) (f1 _ _ (by decide))), ?_⟩, ⟨_, _, rfl, ?_, Or.inr ?_, ?_⟩, ⟨_, _, rfl, ?_, Or.inr ?_, ?_⟩, trivial⟩
          · exact Nat.lt_of_lt_of_le (pc_lt (f0 _ _ (by decide)) (f1 _ _ (by decide))) (by first | omega | (dsimp only; omega))
          · rw [app_len]
            exact ⟨Nat.le_trans (Nat.add_le_add (Nat.le_of_eq (pc_one (f0 _ _ (by decide)) (f1 _ _ (by decide)))) (Nat.le_of_eq (pc_one (f0 _ _ (by decide)) (f1 _ _ (by decide))))) (by decide), app_ok (pc_ok (f0 _ _ (by decide)) (f10 _)) (pc_ok (f0 _ _ (by decide)) (f10 _))⟩
          · first | omega | (dsimp only; omega)
          · first | omega | (dsimp only; omega)
          · decide +kernel
          · first | omega | (dsimp only; omega)
          · first | omega | (dsimp only; omega)
        case h0 => exact f0 _ _ (by decide)
        case h1 => exact f1 _ _ (by decide)
        case h2 => (simp only [List.length_cons, List.length_nil]; decide)
        rintro vy vt ⟨⟨hvl, hvk⟩, hvt, hvn⟩
        try dsimp only at hvn
        try dsimp only
        refine gen_pred (fun n => vt < n ∧ n2 ≤ n) ⟨hvn, by omega⟩ fun n3 ⟨hvn, h23⟩ => ?_
        have hM6 : Mark n3 := trivial
        clear hM5
        have hput : TabOk ta n3 (putE ⟨ky, kt, vy, vt⟩ es) := put_ok (hes.mono hn1) hta (by omega) hkt hkn h12 hvt hvn h23 hkl hvl (fun q => by rw [len_zero q] at hky; exact absurd hky (by decide +kernel)) ⟨hkk, hvk⟩
        have hpl := putE_length ⟨ky, kt, vy, vt⟩ es
        repeat' ((fail_if_success (with_reducible show wpAny _ _ (setItem _ _ _) _ _ _)); walk1)
        rename Fr _ _ _ _ => F
        rename News _ _ _ _ => N
        refine setItem_E ⟨ky, kt, vy, vt⟩ (News.get N (by k_mem : (dT, dictO w es ep) ∈ _)) (by omega) fun hS epS gS sS => ?_
        have hT0 := (N (dT, dictO w es ep) (by k_mem)).2
        dsimp only at gS sS hT0
        have F' : Fr h₀ L hS _ := ⟨F.ns.sameBut sS (Ne.symm hT0.1), fun b o e => sS.extBut b o (fun q => by rw [q, hT0.2] at e; cases e) (F.keep b o e), F.above⟩
        have N' : News h₀ L hS [own, (lS, W.listOf ws.toArray 0), (dT, dictO w (putE ⟨ky, kt, vy, vt⟩ es) epS), (lP, W.listOf (pcVals ta).toArray 0)] := by
          intro q hq
          rcases List.mem_cons.mp hq with rfl | hq
          · have z := N _ (by k_mem : q ∈ _)
            exact ⟨sS.extBut _ _ (Ne.symm o1) z.1, z.2⟩
          rcases List.mem_cons.mp hq with rfl | hq
          · have z := N (lS, W.listOf ws.toArray 0) (by k_mem)
            exact ⟨sS.extBut _ _ (Nat.ne_of_gt l1.1) z.1, z.2⟩
          rcases List.mem_cons.mp hq with rfl | hq
          · exact ⟨gS, hT0⟩
          · have e := List.mem_singleton.mp hq
            subst e
            have z := N (lP, W.listOf (pcVals ta).toArray 0) (by k_mem)
            exact ⟨sS.extBut _ _ (Nat.ne_of_lt hdP) z.1, z.2⟩
        clear F N sS gS
        try dsimp only
        repeat' ((fail_if_success (with_reducible show TurnB _ _ _ _)); walk1)
        refine fun htkF => ?_
        rename Fr _ _ _ _ => F'
        rename News _ _ _ _ => N'
        try dsimp only at htkF
        try dsimp only
        exact turn_next (news' := [(lS, W.listOf ws.toArray 0), (dT, dictO w (putE ⟨ky, kt, vy, vt⟩ es) epS), (lP, W.listOf (pcVals ta).toArray 0)]) F' N' (fun _ hp => hp) rfl ⟨_, _, _, epS, rfl, mX, hy, hyk, mT, mP, hput.mono (by assumption), by omega, by omega⟩
    · refine fun htkF => ?_
      rename Fr _ _ _ _ => F'
      rename News _ _ _ _ => N'
      dsimp only at htkF
      exact turn_next (news' := [(lS, W.listOf ws.toArray 0), (dT, dictO w es ep), (lP, W.listOf (pcVals ta).toArray 0)]) F' N' (fun p hp => by first | exact List.mem_cons_of_mem _ hp | exact List.mem_cons_of_mem _ (List.mem_cons_of_mem _ hp) | exact List.mem_cons_of_mem _ (List.mem_cons_of_mem _ (List.mem_cons_of_mem _ hp))) rfl ⟨_, _, es, ep, rfl, mX, hy, hyk, mT, mP, hes.mono htkF, hel, by omega⟩
  · rintro h' tk m' news' ⟨y, t, es, ep, rfl, mX, hy, hyk, mT, mP, hes, hel, htk2⟩ htk _ F N
    have hM9 : Mark tk := trivial
    k_steps
    rename Fr _ _ _ _ => F'
    rename News _ _ _ _ => N'
    exact hQ y es ta hy hyk hel _ _ _ ep _ _ hdS (hes.mono (by assumption)) (N'.get (List.mem_cons_self ..)) (N'.get (by k_mem)) (N'.fresh (List.mem_cons_self ..)) (N'.fresh (by k_mem : (dT, dictO w es ep) ∈ _)) F'.keep
end
end Mine

open PySem PySem.W PyProof.Rows PySem.Calls
set_option Elab.async false
set_option maxRecDepth 100000
set_option maxHeartbeats 2000000
namespace Mine
open PySem.StrLaws PySem.Builtin.Str

/-! the signs of what is replaced -/
theorem rep_mem {k v : List Nat} {c : Nat} : ∀ (l : List Nat) (n : Nat), c ∈ rep k v n l → c ∈ v ∨ c ∈ l
  | [], n, h => by cases n <;> simp [rep] at h
  | d :: l, n + 1, h => by
    rw [rep] at h
    exact (rep_mem l n h).imp id (List.mem_cons_of_mem _)
  | d :: l, 0, h => by
    rw [rep] at h
    split at h
    · rcases List.mem_append.mp h with h | h
      · exact .inl h
      · exact (rep_mem l _ h).imp id (List.mem_cons_of_mem _)
    · rcases List.mem_cons.mp h with rfl | h
      · exact .inr (List.mem_cons_self ..)
      · exact (rep_mem l _ h).imp id (List.mem_cons_of_mem _)
theorem empty_of {y : Str} (h : y.length = 0) : y = ⟨#[]⟩ := by rw [len_zero h]; decide +kernel
theorem ok_replace {x z : Str} (y : Str) (hx : PyData.strOk x = true) (hz : PyData.strOk z = true) : PyData.strOk (Txt.replace x y z) = true := by
  rw [strOk_iff] at hx hz ⊢
  intro c hc
  rcases Nat.eq_zero_or_pos y.length with q | q
  · rw [empty_of q, replace_empty, List.mem_append, List.mem_flatMap] at hc
    rcases hc with hc | ⟨a, ha, hc⟩
    · exact hz c hc
    · rcases List.mem_cons.mp hc with rfl | hc
      · exact hx _ ha
      · exact hz c hc
  · rw [replace_rep _ _ _ q] at hc
    exact (rep_mem _ _ hc).elim (hz c) (hx c)
theorem ok_repl : ∀ (T : List (Str × Str)), (∀ p ∈ T, PyData.strOk p.2 = true) → ∀ x : Str, PyData.strOk x = true → PyData.strOk (repl x T) = true
  | [], _, x, hx => hx
  | p :: T, h, x, hx => ok_repl T (fun q hq => h q (List.mem_cons_of_mem _ hq)) _ (ok_replace p.1 hx (h p (List.mem_cons_self ..)))
theorem ok_esc3 {x : Str} (h : PyData.strOk x = true) : PyData.strOk (esc3 x) = true := ok_replace _ (ok_replace _ (ok_replace _ h (by decide +kernel)) (by decide +kernel)) (by decide +kernel)
theorem ok_une2 {x : Str} (h : PyData.strOk x = true) : PyData.strOk (une2 x) = true := ok_replace _ (ok_replace _ h (by decide +kernel)) (by decide +kernel)
theorem ok_quoted {b : Str} (h : PyData.strOk b = true) : PyData.strOk (quoted b) = true := by
  unfold quoted
  split
  · split
    · exact app_ok (app_ok (by decide +kernel) (ok_replace _ h (by decide +kernel))) (by decide +kernel)
    · exact app_ok (app_ok (by decide +kernel) h) (by decide +kernel)
  · exact app_ok (app_ok (by decide +kernel) h) (by decide +kernel)

/-! sizes -/
def GoodB (B : Nat) (T : List (Str × Str)) : Prop := ∀ p ∈ T, p.1.length ≤ 12 ∧ p.2.length ≤ B ∧ (p.1.length = 0 → p.2.length ≤ 1)
theorem replace_B {x y z : Str} {M B : Nat} (hB : 3 ≤ B) (hM : 1 ≤ M) (hx : x.length ≤ M) (hz : z.length ≤ B) (h0 : y.length = 0 → z.length ≤ 1) : (Txt.replace x y z).length ≤ M * B := by
  rcases Nat.eq_zero_or_pos y.length with q | q
  · have hz1 := h0 q
    have h3 : M * 3 ≤ M * B := Nat.mul_le_mul_left _ hB
    have e := replace_len x y z
    have h4 : (x.length + 1) * z.length ≤ (M + 1) * 1 := Nat.mul_le_mul (by omega) hz1
    omega
  · exact Nat.le_trans (replace_mul x y z q hz (by omega)) (Nat.mul_le_mul_right _ hx)
theorem grow {B : Nat} (hB : 3 ≤ B) (hB6 : B ≤ 6) : ∀ (T : List (Str × Str)), GoodB B T → ∀ (x : Str) (M : Nat), x.length ≤ M → 1 ≤ M → M * B ^ T.length ≤ 2300000 → Fits x T ∧ TFits x T ∧ (repl x T).length ≤ M * B ^ T.length
  | [], _, x, M, hx, _, _ => ⟨trivial, trivial, by simpa [repl] using hx⟩
  | p :: T, h, x, M, hx, hM, hN => by
    obtain ⟨a1, a2, a3⟩ := h p (List.mem_cons_self ..)
    have h1 := replace_B (x := x) (y := p.1) hB hM hx a2 a3
    have e : M * B * B ^ T.length = M * B ^ (p :: T).length := by rw [List.length_cons, Nat.pow_succ', Nat.mul_assoc]
    have hMB : 1 ≤ M * B := Nat.mul_pos hM (by omega)
    have h3 := grow hB hB6 T (fun q hq => h q (List.mem_cons_of_mem _ hq)) (Txt.replace x p.1 p.2) (M * B) h1 hMB (by rw [e]; exact hN)
    rw [e] at h3
    have hpos : 1 ≤ B ^ (p :: T).length := Nat.one_le_pow _ _ (by omega)
    have h4 : M ≤ M * B ^ (p :: T).length := Nat.le_mul_of_pos_right _ hpos
    have h5 : M * B ≤ M * B ^ (p :: T).length := by
      rw [List.length_cons, Nat.pow_succ', ← Nat.mul_assoc]
      exact Nat.le_mul_of_pos_right _ (Nat.one_le_pow _ _ (by omega))
    exact ⟨⟨size_ok (by omega) (by omega), h3.1⟩, ⟨by omega, by omega, by omega, by omega, h3.2.1⟩, h3.2.2⟩
theorem fits_app : ∀ {T S : List (Str × Str)} {x : Str}, Fits x T → Fits (repl x T) S → Fits x (T ++ S)
  | [], _, _, _, h => h
  | p :: T, S, x, h, h2 => ⟨h.1, fits_app (T := T) h.2 h2⟩
theorem tfits_app : ∀ {T S : List (Str × Str)} {x : Str}, TFits x T → TFits (repl x T) S → TFits x (T ++ S)
  | [], _, _, _, h => h
  | p :: T, S, x, h, h2 => ⟨h.1, h.2.1, h.2.2.1, h.2.2.2.1, tfits_app (T := T) h.2.2.2.2 h2⟩
theorem repl_app (x : Str) (T S : List (Str × Str)) : repl x (T ++ S) = repl (repl x T) S := by unfold repl; rw [List.foldl_append]

theorem getT_le {k v : Str} (hv : v.length ≤ 6) : (getT whites k v).length ≤ 6 := by
  unfold getT
  split
  · rename_i p hp
    have h2 : ∀ p ∈ whites, p.2.length ≤ 6 := by decide +kernel
    exact h2 p (List.mem_of_find?_eq_some hp)
  · exact hv
theorem getT_none {k v : Str} (hk : k.length = 0) : getT whites k v = v := by
  rw [len_zero hk]
  unfold getT
  rw [show (whites.find? fun p => decide (p.1 = Str.ofString "")) = none from by decide +kernel]
theorem getT_ok {k v : Str} (hv : PyData.strOk v = true) : PyData.strOk (getT whites k v) = true := by
  unfold getT
  split
  · rename_i p hp
    have h2 : ∀ p ∈ whites, PyData.strOk p.2 = true := by decide +kernel
    exact h2 p (List.mem_of_find?_eq_some hp)
  · exact hv
theorem line_good {T : List (Str × Str)} (h : GoodB 6 T) : GoodB 6 (lineT T) := fun p hp => by
  obtain ⟨q, hq, rfl⟩ := List.mem_map.mp hp
  obtain ⟨a, b, c⟩ := h q hq
  exact ⟨a, getT_le b, fun e => by dsimp only at e ⊢; rw [getT_none e]; exact c e⟩
theorem behind_good (xs : List Str) : GoodB 5 (behindT xs 3) := fun p hp => by
  have h2 : ∀ p ∈ whites, p.1.length ≤ 12 ∧ p.2.length ≤ 5 ∧ (p.1.length = 0 → p.2.length ≤ 1) := by decide +kernel
  exact h2 p (List.mem_of_mem_take (List.mem_filter.mp hp).1)
theorem behind_length (xs : List Str) : (behindT xs 3).length ≤ 3 := Nat.le_trans (List.length_filter_le _ _) (by rw [List.length_take]; exact Nat.min_le_left _ _)
theorem pow_le {B a b : Nat} (hB : 1 ≤ B) (h : a ≤ b) : B ^ a ≤ B ^ b := Nat.pow_le_pow_right hB h
/-- all the sizes that the law's calls want -/
theorem sizes {x : Str} {T : List (Str × Str)} (hx : x.length ≤ 17) (hT : GoodB 6 T) (hl : T.length ≤ 3) :
    (Fits (esc3 x) T ∧ TFits (esc3 x) T) ∧ (Fits (une2 x) T ∧ TFits (une2 x) T ∧ (repl (une2 x) T).length ≤ 1000000) ∧ (Fits (esc3 x) (quoT T) ∧ TFits (esc3 x) (quoT T) ∧ (repl (esc3 x) (quoT T)).length ≤ 2295000) := by
  have he : (esc3 x).length ≤ 85 := Nat.le_trans (esc3_len5 x) (by omega)
  have hu : (une2 x).length ≤ 17 := by
    unfold une2
    exact Nat.le_trans (Nat.le_trans (replace_shrinks _ _ _ (by decide +kernel) (by decide +kernel)) (replace_shrinks _ _ _ (by decide +kernel) (by decide +kernel))) hx
  have p6 : 6 ^ T.length ≤ 6 ^ 3 := pow_le (by decide) hl
  have pL : 6 ^ (lineT T).length ≤ 6 ^ 3 := pow_le (by decide) (by rw [lineT, List.length_map]; exact hl)
  have p5 : 5 ^ (behindT (keysT T) 3).length ≤ 5 ^ 3 := pow_le (by decide) (behind_length _)
  have e6 : (6 : Nat) ^ 3 = 216 := by decide
  have e5 : (5 : Nat) ^ 3 = 125 := by decide
  rw [e6] at p6 pL
  rw [e5] at p5
  have g1 := grow (by decide) (by decide) T hT (esc3 x) 85 he (by decide) (by omega)
  have g2 := grow (by decide) (by decide) T hT (une2 x) 17 hu (by decide) (by omega)
  have g3 := grow (by decide) (by decide) (lineT T) (line_good hT) (esc3 x) 85 he (by decide) (by omega)
  have m3 : (repl (esc3 x) (lineT T)).length ≤ 18360 := by omega
  have b4 : 18360 * 5 ^ (behindT (keysT T) 3).length ≤ 18360 * 125 := Nat.mul_le_mul_left _ p5
  have g4 := grow (by decide) (by decide) (behindT (keysT T) 3) (behind_good _) (repl (esc3 x) (lineT T)) 18360 m3 (by decide) (by omega)
  refine ⟨⟨g1.1, g1.2.1⟩, ⟨g2.1, g2.2.1, by omega⟩, fits_app g3.1 g4.1, tfits_app g3.2.1 g4.2.1, ?_⟩
  unfold quoT
  rw [repl_app]
  omega

/-! the table merged with the whites -/
theorem putT_in {w : Str × Str} : ∀ {T : List (Str × Str)}, (T.map fun p => p.1).Nodup → w.1 ∈ (T.map fun p => p.1) → putT w T = T.map fun p => (p.1, if p.1 = w.1 then w.2 else p.2)
  | [], _, h => nomatch h
  | e :: r, hn, h => by
    rw [List.map_cons, List.nodup_cons] at hn
    unfold putT
    by_cases q : e.1 = w.1
    · rw [if_pos q, List.map_cons, if_pos q]
      congr 1
      refine (List.map_id' r).symm.trans (List.map_congr_left fun p hp => ?_)
      rw [if_neg]
      rintro q2
      exact hn.1 (q ▸ q2 ▸ List.mem_map.mpr ⟨p, hp, rfl⟩)
    · rw [if_neg q, List.map_cons, if_neg q]
      congr 1
      exact putT_in hn.2 ((List.mem_cons.mp h).resolve_left fun e => q e.symm)
theorem putT_out {w : Str × Str} : ∀ {T : List (Str × Str)}, w.1 ∉ (T.map fun p => p.1) → putT w T = T ++ [w]
  | [], _ => rfl
  | e :: r, h => by
    rw [List.map_cons, List.mem_cons, not_or] at h
    unfold putT
    rw [if_neg fun q => h.1 q.symm, putT_out h.2]
    rfl
theorem getT_cons (w : Str × Str) (W : List (Str × Str)) (k v : Str) : getT (w :: W) k v = if w.1 = k then w.2 else getT W k v := by
  unfold getT
  rw [List.find?_cons]
  by_cases h : w.1 = k
  · rw [if_pos h, decide_eq_true h]
  · rw [if_neg h, decide_eq_false h]
theorem getT_out {W : List (Str × Str)} {k v : Str} (h : k ∉ (W.map fun p => p.1)) : getT W k v = v := by
  unfold getT
  rw [List.find?_eq_none.mpr]
  intro p hp q
  exact h (List.mem_map.mpr ⟨p, hp, of_decide_eq_true q⟩)
theorem any_mem {T : List (Str × Str)} {k : Str} : ((T.map fun p => p.1).any (· == k)) = true ↔ k ∈ (T.map fun p => p.1) := by
  rw [List.any_eq_true]
  exact ⟨fun ⟨a, ha, e⟩ => by rw [beq_iff_eq] at e; exact e ▸ ha, fun h => ⟨k, h, beq_self_eq_true _⟩⟩
theorem merge_is : ∀ (W T : List (Str × Str)), (W.map fun p => p.1).Nodup → (T.map fun p => p.1).Nodup →
    mergeT T W = (T.map fun p => (p.1, getT W p.1 p.2)) ++ W.filter fun q => !((T.map fun p => p.1).any (· == q.1))
  | [], T, _, _ => by
    show T = _
    simp [getT]
  | w :: W, T, hW, hT => by
    rw [List.map_cons, List.nodup_cons] at hW
    show mergeT (putT w T) W = _
    by_cases h : w.1 ∈ (T.map fun p => p.1)
    · have e := putT_in hT h
      have ek : ((putT w T).map fun p => p.1) = T.map fun p => p.1 := by rw [e, List.map_map]; rfl
      rw [merge_is W (putT w T) hW.2 (by rw [ek]; exact hT), ek, List.filter_cons, any_mem.mpr h, Bool.not_true, if_neg Bool.false_ne_true, e, List.map_map]
      congr 1
      refine List.map_congr_left fun p hp => ?_
      show (p.1, getT W p.1 (if p.1 = w.1 then w.2 else p.2)) = (p.1, getT (w :: W) p.1 p.2)
      rw [getT_cons]
      by_cases q : p.1 = w.1
      · rw [if_pos q, if_pos q.symm, q, getT_out hW.1]
      · rw [if_neg q, if_neg fun e => q e.symm]
    · have e := putT_out h
      have hb : ((T.map fun p => p.1).any (· == w.1)) = false := by
        rw [← Bool.not_eq_true, any_mem]; exact h
      have ek : ((putT w T).map fun p => p.1) = (T.map fun p => p.1) ++ [w.1] := by rw [e, List.map_append]; rfl
      have hn : ((T.map fun p => p.1) ++ [w.1]).Nodup := by
        rw [List.nodup_append]
        refine ⟨hT, by simp, fun a ha b hb e => h ?_⟩
        rw [List.mem_singleton] at hb
        exact hb ▸ e ▸ ha
      rw [merge_is W (putT w T) hW.2 (by rw [ek]; exact hn), ek, List.filter_cons, hb, Bool.not_false, if_pos rfl, e, List.map_append, List.append_assoc]
      congr 1
      · refine List.map_congr_left fun p hp => ?_
        rw [getT_cons, if_neg]
        exact fun q => h (q ▸ List.mem_map.mpr ⟨p, hp, rfl⟩)
      · show (w.1, getT W w.1 w.2) :: _ = w :: _
        rw [getT_out hW.1]
        congr 1
        refine List.filter_congr fun q hq => ?_
        rw [List.any_append]
        have : (w.1 == q.1) = false := by
          rw [beq_eq_false_iff_ne]
          exact fun e => hW.1 (e ▸ List.mem_map.mpr ⟨q, hq, rfl⟩)
        simp [this]
theorem qtab_is {T : List (Str × Str)} (hT : (T.map fun p => p.1).Nodup) : qtab T = quoT T := by
  have h1 : mergeT [] T = T := by
    rw [merge_is T [] hT List.nodup_nil]
    simp
  have h2 : mergeT [] whites = whites := by decide +kernel
  show mergeT (mergeT [] T) (mergeT [] whites) = _
  rw [h1, h2, merge_is whites T (by decide +kernel) hT]
  rfl
theorem tab_good {a n : Nat} {es : List Ent} (h : TabOk a n es) : GoodB 6 (txt es) := fun p hp => by
  obtain ⟨e, he, rfl⟩ := List.mem_map.mp hp
  have z := h.2 e he
  exact ⟨z.lk, z.lv, z.l0⟩
theorem tab_sound {a n : Nat} {es : List Ent} (h : TabOk a n es) : Sound es := fun e he => by
  have z := h.2 e he
  have h1 := z.kt.1
  have h2 := z.vt.1
  exact ⟨by omega, by omega, z.same⟩
theorem tab_keys {es : List Ent} : ((txt es).map fun p => p.1) = es.map Ent.k := by rw [txt, List.map_map]; rfl
end Mine

open PySem PySem.W PyProof.Rows PySem.Calls
set_option Elab.async false
set_option maxRecDepth 100000
set_option maxHeartbeats 2000000
namespace Mine
open PySem.Spec PySem.SeqAt

/-- the ledger's part that bears a list of pairs' tuples -/
def TupL (tl : List (Addr × Obj)) (items : List Value) (fs : List (Str × Str)) : Prop :=
  items.length = fs.length ∧ ∀ (i : Nat) (k v : Str), fs[i]? = some (k, v) → ∃ (T : Addr) (kt vt : Tok) (o : Obj), items[i]? = some (Value.ref T) ∧ (T, o) ∈ tl ∧ o.cls = .type "tuple" ∧ ∃ n, o.data = .seq #[Value.str k kt, Value.str v vt] n
theorem pairs_of {h₀ h : Heap} {L l : Addr} {all tl : List (Addr × Obj)} {items : List Value} {fs : List (Str × Str)} {c : Nat} (N : News h₀ L h all) (hl : (l, W.listOf items.toArray c) ∈ all) (ht : ∀ p ∈ tl, p ∈ all) (x : TupL tl items fs) : PairsAt h l fs := by
  refine ⟨items.toArray, ⟨_, (N _ hl).1, rfl, _, rfl⟩, by rw [List.size_toArray, x.1], fun i k v e => ?_⟩
  obtain ⟨T, kt, vt, o, e1, hT, hc, n, hd⟩ := x.2 i k v e
  exact ⟨T, kt, vt, by simpa using e1, o, (N _ (ht _ hT)).1, hc, n, hd⟩

section
variable {prog : Program} {w : World} {A : Around} {E : Value → Shared → Prop} {s : Shared} {h₀ : Heap} {L : Addr} {m : Str → Option Value} {news : List (Addr × Obj)}
theorem list_items_N {v d : Addr} {es : List Ent} {ep : Nat} {Q : Value → Shared → Prop} (hh : A.handled = none) (F : Fr h₀ L s.heap m) (N : News h₀ L s.heap news) (hv : s.heap.IsItemsView v d) (hd : s.heap.get? d = some (dictO w es ep)) (hdn : (es.map Ent.k).Nodup) (hl : es.length ≤ 1000)
    (h : ∀ (B : Addr) items tl c h' tk, Fr h₀ L h' m → News h₀ L h' ((B, W.listOf items.toArray c) :: (news ++ tl)) → (∀ p ∈ news, p.1 < B) → TupL tl items (txt es) → Q (.ref B) { s with heap := h', toks := tk }) :
    wpAny (model prog w) A (call (.type "list") [.ref v]) Q E s := by
  refine kdx_call (knd := strKind prog w) (kvs := es.map fun e => (e.k, Value.str e.v e.vt)) (ep := ep) hh hv (dictAt_E hd hdn) (by rw [List.length_map, sizeLine_eq]; omega) fun h' tk acc c as hk hS hlen hG hacc => ?_
  rw [List.length_map] at hlen
  have ea : acc = (as.map Value.ref).toArray := by rw [← hacc, Array.toArray_toList]
  have key : ∀ (i : Nat) (k v : Str), (txt es)[i]? = some (k, v) → ∃ (T : Addr) (kt vt : Tok), as[i]? = some T ∧ h'.get? T = some { cls := .type "tuple", data := .seq #[Value.str k kt, Value.str v vt] } := fun i k v e => by
    have hi : i < es.length := by
      have := (List.getElem?_eq_some_iff.mp e).1
      rwa [txt, List.length_map] at this
    obtain ⟨key, k', x', e1, e2, e3⟩ := hG.pairs i as[i] (List.getElem?_eq_getElem (by omega))
    rw [List.getElem?_map, List.getElem?_eq_getElem hi] at e1
    obtain ⟨e4, e5⟩ := Prod.mk.inj (Option.some.inj e1)
    rw [txt, List.getElem?_map, List.getElem?_eq_getElem hi] at e
    obtain ⟨e6, e7⟩ := Prod.mk.inj (Option.some.inj e)
    obtain ⟨t, rfl⟩ := Value.isStrOf_shape e2
    refine ⟨as[i], t, es[i].vt, List.getElem?_eq_getElem (by omega), ?_⟩
    rw [e3, ← e5, ← e4, e6, e7]
  let obj : Addr → Obj := fun a => (h'.get? a).getD { cls := .none, data := .dict #[] }
  have hnone : ∀ a, s.heap.objs.size < a → h₀.get? a = none ∧ a ≠ L := fun a ha => by
    refine ⟨?_, Nat.ne_of_gt (Nat.lt_trans F.ns.lt ha)⟩
    cases e : h₀.get? a with
    | none => rfl
    | some o => exact absurd (Heap.lt_size (F.keep _ _ e)) (Nat.not_lt.mpr (Nat.le_of_lt ha))
  refine h s.heap.objs.size (as.map Value.ref) (as.map fun a => (a, obj a)) c h' tk ⟨F.ns.keeps hk, fun b o e => hk b o (F.keep b o e), F.above⟩ ?_ (fun p hp => Heap.lt_size (N p hp).1) ⟨by rw [List.length_map, hlen, txt, List.length_map], fun i k v e => ?_⟩
  · intro p hp
    rcases List.mem_cons.mp hp with rfl | hp
    · refine ⟨by rw [← ea]; exact hS, Nat.ne_of_gt F.ns.lt, ?_⟩
      cases e : h₀.get? s.heap.objs.size with
      | none => rfl
      | some o => exact absurd (Heap.lt_size (F.keep _ _ e)) (Nat.lt_irrefl _)
    rcases List.mem_append.mp hp with hp | hp
    · exact ⟨hk _ _ (N p hp).1, (N p hp).2⟩
    · obtain ⟨a, ha, rfl⟩ := List.mem_map.mp hp
      obtain ⟨j, hj⟩ := List.mem_iff_getElem?.mp ha
      obtain ⟨_, _, _, _, _, e3⟩ := hG.pairs j a hj
      have z := hnone a (hG.above a ha)
      exact ⟨by show h'.get? a = some (obj a); rw [show obj a = _ from by show (h'.get? a).getD _ = _; rw [e3]]; exact e3, z.2, z.1⟩
  · obtain ⟨T, kt, vt, e1, e2⟩ := key i k v e
    refine ⟨T, kt, vt, obj T, by rw [List.getElem?_map, e1]; rfl, List.mem_map.mpr ⟨T, List.mem_of_getElem? e1, rfl⟩, ?_⟩
    have eo : obj T = { cls := .type "tuple", data := .seq #[Value.str k kt, Value.str v vt] } := by show (h'.get? T).getD _ = _; rw [e2]; try rfl
    rw [eo]
    exact ⟨rfl, _, rfl⟩

theorem view_N {d : Addr} {es : List Ent} {ep : Nat} {Q : Value → Shared → Prop} (F : Fr h₀ L s.heap m) (N : News h₀ L s.heap news) (hd : (d, dictO w es ep) ∈ news) (hdn : (es.map Ent.k).Nodup) (hds : (d == sysModules) = false)
    (h : ∀ v h', Fr h₀ L h' m → News h₀ L h' ((v, { cls := .type "dict_items", data := .fields #[.ref d] }) :: news) → Q (.ref v) { s with heap := h' }) : wpAny (model prog w) A (call (.builtin "dict.items") [.ref d]) Q E s :=
  view_E (N _ hd).1 hdn hds (h _ _ (F.push _) (News.push F N _))

def pairD (fs : List (Str × Str)) : List PyData := fs.map fun p => PyData.tuple [.str p.1, .str p.2]
theorem readsAll_pairs {h : Heap} : ∀ (fs : List (Str × Str)) (items : List Value), items.length = fs.length →
    (∀ (i : Nat) (k v : Str), fs[i]? = some (k, v) → ∃ (T : Addr) (kt vt : Tok), items[i]? = some (Value.ref T) ∧ h.IsTuple T #[Value.str k kt, Value.str v vt]) → ReadsAll h items (pairD fs) []
  | [], [], _, _ => .nil
  | [], _ :: _, q, _ => by simp at q
  | _ :: _, [], q, _ => by simp at q
  | p :: fs, z :: items, q, hp => by
    obtain ⟨T, kt, vt, e, o, ho, hc, n, hd⟩ := hp 0 p.1 p.2 rfl
    have e' : z = .ref T := by simpa using e
    subst e'
    have ih := readsAll_pairs fs items (by simpa using q) fun i k v e => by simpa using hp (i + 1) k v (by simpa using e)
    exact ReadsAll.cons (Reads.tuple ho hc hd (ReadsAll.cons (Reads.str _ _) (ReadsAll.cons (Reads.str _ _) .nil))) ih
theorem reads_pairs {h : Heap} {l : Addr} {fs : List (Str × Str)} (x : PairsAt h l fs) : Reads h (.ref l) (.list (pairD fs)) [l] := by
  obtain ⟨items, ⟨o, ho, hc, n, hd⟩, hs, hp⟩ := x
  exact Reads.list ho hc hd (readsAll_pairs fs items.toList (by rw [Array.length_toList, hs]) fun i k v e => by
    obtain ⟨T, kt, vt, e1, e2⟩ := hp i k v e
    exact ⟨T, kt, vt, by rw [Array.getElem?_toList]; exact e1, e2⟩)
theorem canLay_pairs : ∀ fs : List (Str × Str), (∀ p ∈ fs, PyData.strOk p.1 = true ∧ PyData.strOk p.2 = true) → PyData.canLayAll0 (pairD fs) = true
  | [], _ => by simp [pairD, PyData.canLayAll0]
  | p :: r, h => by
    have ih := canLay_pairs r fun q hq => h q (List.mem_cons_of_mem _ hq)
    have z := h p (List.mem_cons_self ..)
    unfold pairD at ih ⊢
    simp [PyData.canLayAll0, PyData.canLay0, ih, z.1, z.2]
theorem depth_pairs : ∀ fs : List (Str × Str), PyData.depthAll (pairD fs) ≤ 1
  | [] => by simp [pairD, PyData.depthAll]
  | p :: r => by
    have := depth_pairs r
    unfold pairD at this ⊢
    simp only [List.map_cons, PyData.depthAll, PyData.depth]
    omega
theorem shaped_pairs {fs : List (Str × Str)} (h : ∀ p ∈ fs, PyData.strOk p.1 = true ∧ PyData.strOk p.2 = true) : shaped (.list (pairD fs)) = true := by
  have h1 := depth_pairs fs
  have h2 : PyData.depth (.list (pairD fs)) ≤ 64 := by simp only [PyData.depth]; omega
  show (PyData.canLay0 (.list (pairD fs)) && decide (PyData.depth (.list (pairD fs)) ≤ 64)) = true
  rw [Bool.and_eq_true]
  exact ⟨by simp only [PyData.canLay0]; exact canLay_pairs fs h, decide_eq_true h2⟩
theorem eqv_pairs : ∀ fs : List (Str × Str), PyData.eqvAll (pairD fs) (pairD fs) = true
  | [] => by simp [pairD, PyData.eqvAll]
  | p :: r => by
    have ih := eqv_pairs r
    unfold pairD at ih ⊢
    simp [PyData.eqvAll, PyData.eqv, ih]
theorem ne_pairs {a b : Addr} {fs : List (Str × Str)} {Q : Value → Shared → Prop} (ha : PairsAt s.heap a fs) (hb : PairsAt s.heap b fs) (ok : ∀ p ∈ fs, PyData.strOk p.1 = true ∧ PyData.strOk p.2 = true) (hu : A.units + 64 < cLine) (h : Q (.bool false) s) :
    wpAny (model prog w) A (compareOp .NotEq (.ref a) (.ref b)) Q E s :=
  ne_dataH (reads_pairs ha) (reads_pairs hb) (shaped_pairs ok) (shaped_pairs ok) hu (by simp only [PyData.eqv]; rw [eqv_pairs]; exact h)
theorem nil_pairs {h : Heap} {l : Addr} {n : Nat} (e : h.get? l = some (W.listOf #[] n)) : PairsAt h l [] := ⟨#[], ⟨_, e, rfl, _, rfl⟩, rfl, fun i k v e => by simp at e⟩
theorem quo_ok {fs : List (Str × Str)} (h : ∀ p ∈ fs, PyData.strOk p.2 = true) : ∀ p ∈ quoT fs, PyData.strOk p.2 = true := fun p hp => by
  rcases List.mem_append.mp hp with hp | hp
  · obtain ⟨q, hq, rfl⟩ := List.mem_map.mp hp
    exact getT_ok (h q hq)
  · have h2 : ∀ p ∈ whites, PyData.strOk p.2 = true := by decide +kernel
    exact h2 p (List.mem_of_mem_take (List.mem_filter.mp hp).1)
theorem txta3 {x y z : Str} {t u v : Tok} : TxtA #[Value.str x t, Value.str y u, Value.str z v] [x, y, z] := Txts.cons (Txts.cons (Txts.cons Txts.nil))
end
end Mine

open PySem PySem.W PyProof.Rows PySem.Calls
set_option Elab.async false
set_option maxRecDepth 100000
set_option maxHeartbeats 8000000
namespace Mine
open PySem.Challenge

theorem qtab_nil : qtab [] = whites := by decide +kernel
theorem mul_le {a b B : Nat} (h : a ≤ b) : a * B ≤ b * B := Nat.mul_le_mul_right _ h
theorem une2_len (y : Str) : (une2 y).length ≤ y.length := by
  unfold une2
  exact Nat.le_trans (replace_shrinks _ _ _ (by decide +kernel) (by decide +kernel)) (replace_shrinks _ _ _ (by decide +kernel) (by decide +kernel))
theorem repl_len : ∀ (T : List (Str × Str)), (∀ p ∈ T, 1 ≤ p.1.length ∧ p.2.length ≤ p.1.length) → ∀ x : Str, (repl x T).length ≤ x.length
  | [], _, x => Nat.le_refl _
  | p :: T, h, x => by
    have hp := h p (List.mem_cons_self ..)
    exact Nat.le_trans (repl_len T (fun q hq => h q (List.mem_cons_of_mem _ hq)) _) (replace_shrinks _ _ _ hp.1 hp.2)
theorem back_ok : ∀ p ∈ backT, 1 ≤ p.1.length ∧ p.2.length ≤ p.1.length := by decide +kernel
theorem back_len (y : Str) : (repl (une2 y) backT).length ≤ y.length := Nat.le_trans (repl_len _ back_ok _) (une2_len y)
theorem readT_len (y : Str) : (readT y).length ≤ y.length := Nat.le_trans (replace_shrinks _ _ _ (by decide +kernel) (by decide +kernel)) (back_len y)
theorem openT_len (y : Str) : (openT y).length ≤ y.length := Nat.le_trans (replace_shrinks _ _ _ (by decide +kernel) (by decide +kernel)) (une2_len y)
theorem fits_mul {B : Nat} (hB : 1 ≤ B) (hB6 : B ≤ 6) : ∀ (T : List (Str × Str)), (∀ p ∈ T, 1 ≤ p.1.length ∧ p.2.length ≤ B) → ∀ (x : Str) (N : Nat), x.length ≤ N → N * B ^ T.length ≤ 2300000 → Fits x T ∧ (repl x T).length ≤ N * B ^ T.length
  | [], _, x, N, hx, hN => ⟨trivial, by simpa [repl] using hx⟩
  | p :: T, h, x, N, hx, hN => by
    have hp := h p (List.mem_cons_self ..)
    have h1 := replace_mul x p.1 p.2 hp.1 hp.2 hB
    have h2 : x.length * B ≤ N * B := mul_le hx
    have e : N * B * B ^ T.length = N * B ^ (p :: T).length := by rw [List.length_cons, Nat.pow_succ', Nat.mul_assoc]
    have h3 := fits_mul hB hB6 T (fun q hq => h q (List.mem_cons_of_mem _ hq)) (Txt.replace x p.1 p.2) (N * B) (Nat.le_trans h1 h2) (by rw [e]; exact hN)
    rw [e] at h3
    have hpos : 1 ≤ B ^ (p :: T).length := Nat.one_le_pow _ _ hB
    have h4 : N ≤ N * B ^ (p :: T).length := Nat.le_mul_of_pos_right _ hpos
    exact ⟨⟨size_ok (by omega) (by omega), h3.1⟩, h3.2⟩
theorem esc3_len {x : Str} {N : Nat} (h : x.length ≤ N) : (esc3 x).length ≤ N * 5 * 4 * 4 := by
  unfold esc3
  have h1 := replace_mul x (Str.ofString "&") (Str.ofString "&amp;") (by decide +kernel) (B := 5) (by decide +kernel) (by decide)
  have h2 := replace_mul (Txt.replace x (Str.ofString "&") (Str.ofString "&amp;")) (Str.ofString ">") (Str.ofString "&gt;") (by decide +kernel) (B := 4) (by decide +kernel) (by decide)
  have h3 := replace_mul (Txt.replace (Txt.replace x (Str.ofString "&") (Str.ofString "&amp;")) (Str.ofString ">") (Str.ofString "&gt;")) (Str.ofString "<") (Str.ofString "&lt;") (by decide +kernel) (B := 4) (by decide +kernel) (by decide)
  omega
theorem fits_back {y : Str} (h : y.length ≤ 100) : Fits (une2 y) backT :=
  (fits_mul (B := 1) (by decide) (by decide) backT (by decide +kernel) (une2 y) 100 (Nat.le_trans (une2_len y) h) (by decide)).1
theorem fits_wr {x : Str} (h : x.length ≤ 100) : Fits (esc3 x) whites ∧ (repl (esc3 x) whites).length ≤ 2295000 := by
  have := fits_mul (B := 5) (by decide) (by decide) whites (by decide +kernel) (esc3 x) 8000 (esc3_len (N := 100) h) (by decide)
  exact ⟨this.1, Nat.le_trans this.2 (by decide)⟩

section
variable {w : World} {p : Program} {loose : List Str} {mg mb : Str → Option Value} {dp un : Nat} {fr : Option (List Env)} {gd : Option (List Code)}
  {h₀ : Heap} {g : Array GenState} {dr : Drawn} {tk : Nat} {os : OsState} {Q E : Value → Shared → Prop}

theorem read_call (X : (hd.heap_39 w.params).In h₀) (T : TopRead p loose mg mb h₀) (hdp : dp + 2 < recursionLimit) (hun : un + 50 < cLine) (htk : 1 ≤ tk) {x : Str} {t : Tok} {d : Addr} {tkD ep : Nat}
    (hd : h₀.get? d = some (dictO w (constEnts tkD backT) ep)) (hds : (d == sysModules) = false) (htD : 1 ≤ tkD) (hx : x.length ≤ 100)
    (hQ : ∀ t' h' tk', 1 ≤ tk' → (∀ b o, h₀.get? b = some o → h'.get? b = some o) → Q (.str (readT x) t') ⟨h', g, dr, tk', os⟩) :
    wpAny (model rw_in0094_01.row.prog w) (ar dp un fr gd) (call (.ref 39) [.str x t, .ref d]) Q E ⟨h₀, g, dr, tk, os⟩ := by
  have e : txt (constEnts tkD backT) = backT := txt_const _ _
  refine unescape_t X T hdp hun htk (es := constEnts tkD backT) (Or.inl rfl) hd (by rw [const_keys]; decide +kernel) (by rw [constEnts_length]; decide) hds (const_sound htD) (by omega) (by rw [e]; exact fits_back hx) (by rw [e]; have := back_len x; omega) fun t' h' tk' hk q => ?_
  rw [e]
  exact hQ _ _ _ (Nat.le_trans htk hk) q
theorem open_call (X : (hd.heap_39 w.params).In h₀) (T : TopRead p loose mg mb h₀) (hdp : dp + 2 < recursionLimit) (hun : un + 50 < cLine) (htk : 1 ≤ tk) {x : Str} {t : Tok} (hx : x.length ≤ 100)
    (hQ : ∀ t' h' tk', 1 ≤ tk' → (∀ b o, h₀.get? b = some o → h'.get? b = some o) → Q (.str (openT x) t') ⟨h', g, dr, tk', os⟩) :
    wpAny (model rw_in0094_01.row.prog w) (ar dp un fr gd) (call (.ref 39) [.str x t]) Q E ⟨h₀, g, dr, tk, os⟩ := by
  refine unescape_t X T hdp hun htk (es := []) (d := 31) (Or.inr ⟨rfl, rfl⟩) (X 31 _ rfl) List.nodup_nil (Nat.zero_le _) rfl (fun _ q => nomatch q) (by omega) trivial (by show (une2 x).length ≤ _; have := une2_len x; omega) fun t' h' tk' hk q => ?_
  exact hQ _ _ _ (Nat.le_trans htk hk) q
theorem wr_call (X : (hd.heap_39 w.params).In h₀) (T : TopRead p loose mg mb h₀) (hdp : dp + 3 < recursionLimit) (hun : un + 60 < cLine) (htk : 1 ≤ tk) {x : Str} {t : Tok} (hx : x.length ≤ 100)
    (hQ : ∀ t' h' tk', 1 ≤ tk' → (∀ b o, h₀.get? b = some o → h'.get? b = some o) → Q (.str (wrT x) t') ⟨h', g, dr, tk', os⟩) :
    wpAny (model rw_in0094_01.row.prog w) (ar dp un fr gd) (call (.ref 48) [.str x t]) Q E ⟨h₀, g, dr, tk, os⟩ := by
  have e : qtab (txt []) = whites := qtab_nil
  refine quoteattr_t X T hdp hun htk (es := []) (d := 40) (Or.inr ⟨rfl, rfl⟩) (X 40 _ rfl) List.nodup_nil (Nat.zero_le _) rfl (fun _ q => nomatch q) (fun _ q => nomatch q) (by omega) (by rw [e]; exact (fits_wr hx).1) (by rw [e]; exact (fits_wr hx).2) fun t' h' tk' hk q => ?_
  rw [e]
  exact hQ _ _ _ (Nat.le_trans htk hk) q
theorem esc_call (X : (hd.heap_39 w.params).In h₀) (T : TopRead p loose mg mb h₀) (hdp : dp + 2 < recursionLimit) (hun : un + 50 < cLine) (htk : 1 ≤ tk) {x : Str} {t : Tok} (hx : x.length ≤ 100)
    (hQ : ∀ t' h' tk', 1 ≤ tk' → (∀ b o, h₀.get? b = some o → h'.get? b = some o) → Q (.str (esc3 x) t') ⟨h', g, dr, tk', os⟩) :
    wpAny (model rw_in0094_01.row.prog w) (ar dp un fr gd) (call (.ref 30) [.str x t]) Q E ⟨h₀, g, dr, tk, os⟩ :=
  escape_t X T hdp hun htk (es := []) (d := 22) (Or.inr ⟨rfl, rfl⟩) (X 22 _ rfl) List.nodup_nil (Nat.zero_le _) rfl (fun _ q => nomatch q) (by omega) trivial hQ
end
end Mine

open PySem PySem.W PyProof.Rows PySem.Calls
set_option Elab.async false
set_option maxRecDepth 100000
set_option maxHeartbeats 16000000
namespace Mine
open PySem.Challenge
section
local macro_rules | `(tactic| walk_at "eval Name") => `(tactic| (k_here; k_dflt (refine' nameX_L ?F ?v ?_ ?a ?b; (case a => rfl); (case b => rfl); (case F => k_asm); (case v => assumption); k_whole)))
local macro_rules | `(tactic| walk_at "execs nil") => `(tactic| (k_here; (try dsimp only); refine' gen_mark ?m ?k1 ?_; (case m => assumption); (case k1 => omega); intro tk' htk'; refine wpAny_execs_nil ?_))
local macro_rules | `(tactic| walk_at "execs cons") => `(tactic| (k_here; (try dsimp only); refine' gen_mark ?m ?k1 ?_; (case m => assumption); (case k1 => omega); intro tk' htk'; refine wpAny_execs_cons ?_))
local macro_rules | `(tactic| walk_at "getMethod ref") => `(tactic| (k_here; (with_reducible show wpAny _ _ (getMethod (Value.ref _) (Str.ofString "items") _) _ _ _); refine' method_E ?k1 ?k2 PySem.F.slot_dict_items PySem.F.type_dict_items ?_; (case k1 => exact News.get (by assumption) (by k_mem)); (case k2 => assumption)))

theorem law1 : rw_in0094_01.Holds := hd (by
  k_go0
  rename Shared => s₁
  rename Heap.IsList _ _ _ => hL
  rename IntsAre _ _ => hI
  rename Frag.In _ _ => KX
  rename Top _ _ _ _ _ _ => T0
  have T := topRead_of T0
  rename Fr _ _ _ _ => F
  rename News _ _ _ _ => N
  rename ¬ (_ : Int) < _ => hlen
  rename Below _ _ _ _ => K0
  rename Dflts _ _ _ _ _ _ => hD
  clear K0 hD T0
  have hM : Mark 1 := trivial
  repeat' ((fail_if_success (with_reducible show wpAny _ _ (call _ _) _ _ _)); walk1)
  refine wpAny_with_toks (n := 1) (by first | omega | exact Nat.le_add_left _ _) (draw1_spec (KX.keeps F.keep) (T.keeps F.keep) (by decide) (by decide) (by first | omega | exact Nat.le_add_left _ _) (hL.at fun o e => F.keep _ o e) hI (by omega) fun x es ta hx hxk hel dA dT tx ep h n hdS hes ga gd fa fd hk htn => ?_)
  dsimp only at htn
  have N2 := news_fresh F fa ga (news_fresh F fd gd (news_up N hk))
  have F2 := fr_up F hk
  have hM2 : Mark n := trivial
  have hdn := hes.1
  clear hk hM F N ga gd fa fd
  dsimp only at F2 N2 ⊢
  repeat' ((fail_if_success (with_reducible show wpAny _ _ (call _ _) _ _ _)); walk1)
  rename Fr _ _ _ _ => F
  rename News _ _ _ _ => N
  refine view_N F N (by k_mem : (dT, dictO _ es ep) ∈ _) hdn hdS fun lV hV F2 N2 => ?_
  clear F N
  try dsimp only
  repeat' ((fail_if_success (with_reducible show wpAny _ _ (call _ _) _ _ _)); walk1)
  rename Fr _ _ _ _ => F
  rename News _ _ _ _ => N
  refine wpAny_with_toks (n := n) (by first | assumption | omega | (dsimp only; omega)) (list_items_N rfl F N ⟨_, News.get N (List.mem_cons_self ..), rfl, rfl⟩ (News.get N (by k_mem : (dT, dictO _ es ep) ∈ _)) hdn (by omega) fun lB items tl c h' tk' F2 N2 hlt hTL htk' => ?_)
  have N3 : News s₁.heap s₁.heap.objs.size h' ((lB, W.listOf items.toArray c) :: (dT, dictO _ es ep) :: tl) := news_sub N2 (fun p hp => by
    rcases List.mem_cons.mp hp with rfl | hp
    · exact List.mem_cons_self ..
    rcases List.mem_cons.mp hp with rfl | hp
    · exact List.mem_cons_of_mem _ (List.mem_cons_of_mem _ (List.mem_cons_of_mem _ (List.mem_cons_self ..)))
    · exact List.mem_cons_of_mem _ (List.mem_cons_of_mem _ (List.mem_cons_of_mem _ (List.mem_cons_of_mem _ hp))))
  clear N2 F N
  try dsimp only at htk'
  try dsimp only
  repeat' ((fail_if_success (with_reducible show wpAny _ _ (call _ _) _ _ _)); walk1)
  -- CALLS
  have S1 := sizes hx (tab_good hes) (by rw [txt, List.length_map]; exact hel)
  have hq : qtab (txt es) = quoT (txt es) := qtab_is (by rw [tab_keys]; exact hdn)
  have hSd := tab_sound hes
  repeat' ((fail_if_success (with_reducible show wpAny _ _ (call _ _) _ _ _)); walk1)
  rename Fr _ _ _ _ => F
  rename News _ _ _ _ => N
  refine wpAny_with_toks (n := n) (by first | assumption | omega | (dsimp only; omega)) (escape_t (KX.keeps F.keep) (T.keeps F.keep) (by decide) (by decide) (by first | assumption | omega | (dsimp only; omega)) (Or.inl rfl) (News.get N (by k_mem : (dT, dictO _ es ep) ∈ _)) hdn (by omega) hdS hSd (by omega) S1.1.1 fun t' h' tk' _ hk htk' => ?_)
  have F2 := fr_up F hk
  have N2 := news_up N hk
  clear hk F N
  try dsimp only at htk'
  try dsimp only
  repeat' ((fail_if_success (with_reducible show wpAny _ _ (call _ _) _ _ _)); walk1)
  rename Fr _ _ _ _ => F
  rename News _ _ _ _ => N
  refine wpAny_with_toks (n := n) (by first | assumption | omega | (dsimp only; omega)) (unescape_t (KX.keeps F.keep) (T.keeps F.keep) (by decide) (by decide) (by first | assumption | omega | (dsimp only; omega)) (Or.inl rfl) (News.get N (by k_mem : (dT, dictO _ es ep) ∈ _)) hdn (by omega) hdS hSd (by omega) S1.2.1.1 S1.2.1.2.2 fun t' h' tk' _ hk htk' => ?_)
  have F2 := fr_up F hk
  have N2 := news_up N hk
  clear hk F N
  try dsimp only at htk'
  try dsimp only
  repeat' ((fail_if_success (with_reducible show wpAny _ _ (call _ _) _ _ _)); walk1)
  rename Fr _ _ _ _ => F
  rename News _ _ _ _ => N
  refine wpAny_with_toks (n := n) (by first | assumption | omega | (dsimp only; omega)) (quoteattr_t (KX.keeps F.keep) (T.keeps F.keep) (by decide) (by decide) (by first | assumption | omega | (dsimp only; omega)) (Or.inl rfl) (News.get N (by k_mem : (dT, dictO _ es ep) ∈ _)) hdn (by omega) hdS hSd (fun e he => by have z := hes.2 e he; exact ⟨Nat.lt_of_lt_of_le z.kt.2 (by first | assumption | omega | (dsimp only; omega)), Nat.lt_of_lt_of_le z.vt.2 (by first | assumption | omega | (dsimp only; omega))⟩) (by omega) (by rw [hq]; exact S1.2.2.1) (by rw [hq]; exact S1.2.2.2.2) fun t' h' tk' _ hk htk' => ?_)
  have F2 := fr_up F hk
  have N2 := news_up N hk
  clear hk F N
  try dsimp only at htk'
  try dsimp only
  rw [hq]
  repeat' ((fail_if_success (with_reducible show wpAny _ _ (call _ _) _ _ _)); walk1)
  rename_i lW1 _ l11 _ F N tkN htkN
  refine wpAny_with_toks (n := n) (by first | assumption | omega | (dsimp only; omega)) (esc_call (KX.keeps F.keep) (T.keeps F.keep) (by decide) (by decide) (by first | assumption | omega | (dsimp only; omega)) (by omega) fun t' h' tk' _ hk htk' => ?_)
  have F2 := fr_up F hk
  have N2 := news_up N hk
  clear hk F N
  try dsimp only at htk'
  try dsimp only
  repeat' ((fail_if_success (with_reducible show wpAny _ _ (call _ _) _ _ _)); walk1)
  rename Fr _ _ _ _ => F
  rename News _ _ _ _ => N
  refine wpAny_with_toks (n := n) (by first | assumption | omega | (dsimp only; omega)) (open_call (KX.keeps F.keep) (T.keeps F.keep) (by decide) (by decide) (by first | assumption | omega | (dsimp only; omega)) (by omega) fun t' h' tk' _ hk htk' => ?_)
  have F2 := fr_up F hk
  have N2 := news_up N hk
  clear hk F N
  try dsimp only at htk'
  try dsimp only
  repeat' ((fail_if_success (with_reducible show wpAny _ _ (call _ _) _ _ _)); walk1)
  rename Fr _ _ _ _ => F
  rename News _ _ _ _ => N
  refine wpAny_with_toks (n := n) (by first | assumption | omega | (dsimp only; omega)) (wr_call (KX.keeps F.keep) (T.keeps F.keep) (by decide) (by decide) (by first | assumption | omega | (dsimp only; omega)) (by omega) fun t' h' tk' _ hk htk' => ?_)
  have F2 := fr_up F hk
  have N2 := news_up N hk
  clear hk F N
  try dsimp only at htk'
  try dsimp only
  repeat' ((fail_if_success (with_reducible show wpAny _ _ (call _ _) _ _ _)); walk1)
  rename_i lW2 _ l12 _ F N tkM htkM
  refine view_N F N (by k_mem : (dT, dictO _ es ep) ∈ _) hdn hdS fun lV2 hV2 F2 N2 => ?_
  clear F N
  try dsimp only
  repeat' ((fail_if_success (with_reducible show wpAny _ _ (call _ _) _ _ _)); walk1)
  rename Fr _ _ _ _ => F
  rename News _ _ _ _ => N
  refine wpAny_with_toks (n := n) (by first | assumption | omega | (dsimp only; omega)) (list_items_N rfl F N ⟨_, News.get N (List.mem_cons_self ..), rfl, rfl⟩ (News.get N (by k_mem : (dT, dictO _ es ep) ∈ _)) hdn (by omega) fun lB2 items2 tl2 c2 h' tk' F2 N2 hlt2 hTL2 htk' => ?_)
  have PB2 := pairs_of N2 (List.mem_cons_self ..) (fun p hp => List.mem_cons_of_mem _ (List.mem_append_right _ hp)) hTL2
  have N3 : News s₁.heap s₁.heap.objs.size h' ((lW2, _) :: (lW1, _) :: (lB, W.listOf items.toArray c) :: (dT, dictO _ es ep) :: tl) := news_sub N2 (fun p hp => List.mem_cons_of_mem _ (List.mem_append_left _ (List.mem_cons_of_mem _ hp)))
  have PB := pairs_of N3 (by k_mem : (lB, W.listOf items.toArray c) ∈ _) (fun p hp => by repeat' (first | exact hp | refine List.mem_cons_of_mem _ ?_)) hTL
  clear N2 F N hlt2 hTL2
  try dsimp only at htk'
  try dsimp only
  have okT : ∀ p ∈ txt es, PyData.strOk p.1 = true ∧ PyData.strOk p.2 = true := fun p hp => by
    obtain ⟨e, he, rfl⟩ := List.mem_map.mp hp
    exact (hes.2 e he).ok
  repeat' ((fail_if_success (with_reducible show wpAny _ _ (compareOp _ _ _) _ _ _)); walk1)
  refine ne_pairs PB2 PB okT (show (7 : Nat) + 64 < cLine from by decide) ?_
  clear PB2 PB
  repeat' ((fail_if_success (with_reducible show wpAny _ _ (call _ _) _ _ _)); walk1)
  rename Fr _ _ _ _ => F
  rename News _ _ _ _ => N
  refine wpAny_with_toks (n := n) (by first | assumption | omega | (dsimp only; omega)) (escaped_spec (KX.keeps F.keep) (T.keeps F.keep) (by decide) (by decide) (by first | assumption | omega | (dsimp only; omega)) (pairs_of N (by k_mem : (lB, W.listOf items.toArray c) ∈ _) (fun p hp => by repeat' (first | exact hp | refine List.mem_cons_of_mem _ ?_)) hTL) (by omega) S1.1.2 fun t' h' tk' hk htk' => ?_)
  have F2 := fr_up F hk
  have N2 := news_up N hk
  clear hk F N
  try dsimp only at htk'
  try dsimp only
  repeat' ((fail_if_success (with_reducible show wpAny _ _ (call _ _) _ _ _)); walk1)
  rename Fr _ _ _ _ => F
  rename News _ _ _ _ => N
  refine wpAny_with_toks (n := n) (by first | assumption | omega | (dsimp only; omega)) (read1_spec (KX.keeps F.keep) (T.keeps F.keep) (by decide) (by decide) (by first | assumption | omega | (dsimp only; omega)) (pairs_of N (by k_mem : (lB, W.listOf items.toArray c) ∈ _) (fun p hp => by repeat' (first | exact hp | refine List.mem_cons_of_mem _ ?_)) hTL) (by omega) S1.2.1.2.1 (by have := S1.2.1.2.2; omega) fun t' h' tk' hk htk' => ?_)
  have F2 := fr_up F hk
  have N2 := news_up N hk
  clear hk F N
  try dsimp only at htk'
  try dsimp only
  repeat' ((fail_if_success (with_reducible show wpAny _ _ (call _ _) _ _ _)); walk1)
  rename Fr _ _ _ _ => F
  rename News _ _ _ _ => N
  refine wpAny_with_toks (n := n) (by first | assumption | omega | (dsimp only; omega)) (quoted1_spec (KX.keeps F.keep) (T.keeps F.keep) (by decide) (by decide) (by first | assumption | omega | (dsimp only; omega)) (pairs_of N (by k_mem : (lB, W.listOf items.toArray c) ∈ _) (fun p hp => by repeat' (first | exact hp | refine List.mem_cons_of_mem _ ?_)) hTL) (by rw [txt, List.length_map]; omega) (by omega) S1.2.2.2.1 S1.2.2.2.2 fun t' h' tk' hk htk' => ?_)
  have F2 := fr_up F hk
  have N2 := news_up N hk
  clear hk F N
  try dsimp only at htk'
  try dsimp only
  repeat' ((fail_if_success (with_reducible show wpAny _ _ (compareOp _ _ _) _ _ _)); walk1)
  rename Fr _ _ _ _ => F
  rename News _ _ _ _ => N
  have okV : ∀ p ∈ txt es, PyData.strOk p.2 = true := fun p hp => (okT p hp).2
  have okL : ∀ p ∈ quoT (txt es), PyData.strOk p.2 = true := quo_ok okV
  have okA : ∀ y ∈ [repl (esc3 x) (txt es), Txt.replace (repl (une2 x) (txt es)) (Str.ofString "&amp;") (Str.ofString "&"), quoted (repl (esc3 x) (quoT (txt es)))], PyData.strOk y = true := by
    intro y hy
    simp only [List.mem_cons, List.not_mem_nil, or_false] at hy
    rcases hy with rfl | rfl | rfl
    · exact ok_repl _ okV _ (ok_esc3 hxk)
    · exact ok_replace _ (ok_repl _ okV _ (ok_une2 hxk)) (by decide +kernel)
    · exact ok_quoted (ok_repl _ okL _ (ok_esc3 hxk))
  refine ne_txts (News.get N (by k_mem : (lW1, _) ∈ _)) txta3 (News.get N (List.mem_cons_self ..)) txta3 okA okA (show (7 : Nat) + 64 < cLine from by decide) ?_
  rw [decide_eq_true rfl]
  have N2 : News s₁.heap s₁.heap.objs.size _ [(lW2, _)] := fun p hp => N p (by rw [List.mem_singleton.mp hp]; k_mem)
  clear N okA okL okV okT hTL
  have S2 := sizes (T := []) hx (fun _ h => nomatch h) (Nat.zero_le _)
  repeat' ((fail_if_success (with_reducible show wpAny _ _ (call _ _) _ _ _)); walk1)
  rename Fr _ _ _ _ => F
  rename News _ _ _ _ => N
  refine wpAny_with_toks (n := n) (by first | assumption | omega | (dsimp only; omega)) (escaped_spec (KX.keeps F.keep) (T.keeps F.keep) (by decide) (by decide) (by first | assumption | omega | (dsimp only; omega)) (nil_pairs (N _ (List.mem_cons_self ..)).1) (by omega) S2.1.2 fun t' h' tk' hk htk' => ?_)
  have F2 := fr_up F hk
  have N2 := news_up N hk
  clear hk F N
  try dsimp only at htk'
  try dsimp only
  repeat' ((fail_if_success (with_reducible show wpAny _ _ (call _ _) _ _ _)); walk1)
  rename Fr _ _ _ _ => F
  rename News _ _ _ _ => N
  refine wpAny_with_toks (n := n) (by first | assumption | omega | (dsimp only; omega)) (read1_spec (KX.keeps F.keep) (T.keeps F.keep) (by decide) (by decide) (by first | assumption | omega | (dsimp only; omega)) (nil_pairs (N _ (List.mem_cons_self ..)).1) (by omega) S2.2.1.2.1 (by have := S2.2.1.2.2; omega) fun t' h' tk' hk htk' => ?_)
  have F2 := fr_up F hk
  have N2 := news_up N hk
  clear hk F N
  try dsimp only at htk'
  try dsimp only
  repeat' ((fail_if_success (with_reducible show wpAny _ _ (call _ _) _ _ _)); walk1)
  rename Fr _ _ _ _ => F
  rename News _ _ _ _ => N
  refine wpAny_with_toks (n := n) (by first | assumption | omega | (dsimp only; omega)) (quoted1_spec (KX.keeps F.keep) (T.keeps F.keep) (by decide) (by decide) (by first | assumption | omega | (dsimp only; omega)) (nil_pairs (N _ (List.mem_cons_self ..)).1) (Nat.zero_le _) (by omega) S2.2.2.2.1 S2.2.2.2.2 fun t' h' tk' hk htk' => ?_)
  have F2 := fr_up F hk
  have N2 := news_up N hk
  clear hk F N
  try dsimp only at htk'
  try dsimp only
  repeat' ((fail_if_success (with_reducible show wpAny _ _ (compareOp _ _ _) _ _ _)); walk1)
  rename Fr _ _ _ _ => F
  rename News _ _ _ _ => N
  have e1 : quoT [] = whites := by decide +kernel
  have okA : ∀ y ∈ [esc3 x, openT x, wrT x], PyData.strOk y = true := by
    intro y hy
    simp only [List.mem_cons, List.not_mem_nil, or_false] at hy
    rcases hy with rfl | rfl | rfl
    · exact ok_esc3 hxk
    · exact ok_replace _ (ok_une2 hxk) (by decide +kernel)
    · exact ok_quoted (ok_repl _ (by decide +kernel) _ (ok_esc3 hxk))
  refine eq_txts (ns := [esc3 x, openT x, wrT x]) (ms := [esc3 x, openT x, wrT x]) (News.get N (by k_mem : (lW2, _) ∈ _)) txta3 (News.get N (List.mem_cons_self ..)) (by rw [e1]; exact txta3) okA okA (show (7 : Nat) + 64 < cLine from by decide) ?_
  rw [decide_eq_true rfl]
  k_steps)
end
end Mine

theorem PySem.Challenge.cw_in0094_01_holds : PySem.Challenge.rw_in0094_01.Holds :=
  Mine.law1
