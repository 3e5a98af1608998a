import PyProof.Rows.All
import Wide.All
import OpenK.AllK
import Wide.FinOn
import PySem.Challenge.RW_mr0005_01
set_option Elab.async false
set_option linter.unusedVariables false
set_option linter.unusedSimpArgs false
set_option linter.deprecated false
section
open PySem PySem.W PyProof.Rows
set_option maxRecDepth 100000
set_option maxHeartbeats 8000000
namespace Mine
open_top hd for PySem.Challenge.rw_mr0005_01
end Mine
end
section
open PySem PySem.W PySem.Calls PyProof.Rows PySem.Spec
set_option maxRecDepth 100000
set_option maxHeartbeats 4000000
namespace Mine

inductive EntsL : List DictEntry → List (Str × Value) → Prop
  | nil : EntsL [] []
  | cons {h : Int} {k : Str} {t : Tok} {v : Value} {es : List DictEntry} {kvs : List (Str × Value)} : EntsL es kvs → EntsL (⟨h, .str k t, v⟩ :: es) ((k, v) :: kvs)

theorem isStr_str (k : Str) (t : Tok) (n : Str) : (Value.str k t).isStr n = (n == k) := by
  show (k == n) = (n == k)
  by_cases h : k = n
  · subst h; rfl
  · rw [beq_eq_false_iff_ne.mpr h, beq_eq_false_iff_ne.mpr (Ne.symm h)]

theorem fidx (es : Array DictEntry) (p : DictEntry → Bool) : es.findIdx? p = es.toList.findIdx? p := by
  cases es; simp
theorem any_false {α : Type} {p : α → Bool} {l : List α} : l.any p = false ↔ ∀ x ∈ l, p x = false := by
  simp

theorem EntsL.append {es es' : List DictEntry} {k k' : List (Str × Value)} (a : EntsL es k) (b : EntsL es' k') : EntsL (es ++ es') (k ++ k') := by
  induction a with
  | nil => exact b
  | cons _ ih => exact .cons ih

theorem EntsL.find {es : List DictEntry} {kvs : List (Str × Value)} (x : EntsL es kvs) (n : Str) : (es.find? (·.key.isStr n)).map (·.val) = kvs.lookup n := by
  induction x with
  | nil => rfl
  | @cons h k t v es kvs _ ih =>
    rw [List.find?_cons, List.lookup_cons]
    simp only [isStr_str]
    cases n == k with
    | true => rfl
    | false => exact ih

theorem EntsL.any {es : List DictEntry} {kvs : List (Str × Value)} (x : EntsL es kvs) (n : Str) : es.any (·.key.isStr n) = (kvs.lookup n).isSome := by
  induction x with
  | nil => rfl
  | @cons h k t v es kvs _ ih =>
    rw [List.any_cons, List.lookup_cons]
    simp only [isStr_str]
    cases n == k with
    | true => rfl
    | false => exact ih

theorem EntsL.ref {es : List DictEntry} {kvs : List (Str × Value)} (x : EntsL es kvs) : es.any (·.refKey) = false := by
  induction x with
  | nil => rfl
  | @cons h k t v es kvs _ ih => rw [List.any_cons, ih]; rfl

theorem EntsL.strKeys {es : List DictEntry} {kvs : List (Str × Value)} (x : EntsL es kvs) : ∀ e ∈ es, ∃ n t, e.key = .str n t := by
  induction x with
  | nil => intro e h; cases h
  | cons _ ih =>
    intro e h
    rcases List.mem_cons.mp h with rfl | h
    · exact ⟨_, _, rfl⟩
    · exact ih e h

def setKv (n : Str) (v : Value) : List (Str × Value) → List (Str × Value)
  | [] => []
  | (k, u) :: r => if n == k then (k, v) :: r else (k, u) :: setKv n v r
def delKv (n : Str) : List (Str × Value) → List (Str × Value)
  | [] => []
  | (k, u) :: r => if n == k then r else (k, u) :: delKv n r

def DictAt (h : Heap) (a : Addr) (kvs : List (Str × Value)) : Prop := ∃ es n, h.get? a = some { cls := .type "dict", data := .dict es n } ∧ EntsL es.toList kvs

theorem DictAt.same {h h' : Heap} {a b : Addr} {kvs} (x : DictAt h a kvs) (s : Heap.SameBut b h h') (e : a ≠ b) : DictAt h' a kvs := let ⟨es, n, g, r⟩ := x; ⟨es, n, (s.2 a e).trans g, r⟩
theorem DictAt.ext {h h' : Heap} {a b : Addr} {kvs} (x : DictAt h a kvs) (s : Heap.ExtBut b h h') (e : a ≠ b) : DictAt h' a kvs := let ⟨es, n, g, r⟩ := x; ⟨es, n, s _ _ e g, r⟩
theorem DictAt.keeps {h h' : Heap} {a : Addr} {kvs} (x : DictAt h a kvs) (k : ∀ b o, h.get? b = some o → h'.get? b = some o) : DictAt h' a kvs := let ⟨es, n, g, r⟩ := x; ⟨es, n, k _ _ g, r⟩
theorem DictAt.lt {h : Heap} {a : Addr} {kvs} (x : DictAt h a kvs) : a < h.objs.size := let ⟨_, _, g, _⟩ := x; Heap.lt_size g
theorem DictAt.ns {h : Heap} {a : Addr} {kvs} (x : DictAt h a kvs) : h.Ns a (fun n => kvs.lookup n) := by
  obtain ⟨es, n, g, r⟩ := x
  refine ⟨_, es, n, g, rfl, ?_, fun name => ?_⟩
  · intro e he; exact r.strKeys e (Array.mem_toList_iff.mpr he)
  · show nsFind es name = kvs.lookup name
    rw [← r.find name]
    simp only [nsFind, findBy]
    rw [← Array.find?_toList]

section
variable {M : Model} {A : Around} {E : Value → Shared → Prop} {s : Shared}
theorem dget {a : Addr} {kvs} {name : Str} {Q : Option Value → Shared → Prop} (x : DictAt s.heap a kvs) (h : Q (kvs.lookup name) s) : wpAny M A (nsGet a name) Q E s := wpAny_nsGet x.ns h

theorem findIdx_none {es : List DictEntry} {kvs : List (Str × Value)} (x : EntsL es kvs) {n : Str} (h : kvs.lookup n = none) : es.findIdx? (·.key.isStr n) = none := by
  rw [List.findIdx?_eq_none_iff]
  intro e he
  have := x.any n
  rw [h] at this
  exact any_false.mp this e he

theorem EntsL.modify {es : List DictEntry} {kvs : List (Str × Value)} (x : EntsL es kvs) {n : Str} {v : Value} : ∀ {i : Nat}, es.findIdx? (·.key.isStr n) = some i → EntsL (es.modify i fun e => { e with val := v }) (setKv n v kvs) := by
  induction x with
  | nil => intro i h; cases h
  | @cons h k t u es kvs x ih =>
    intro i hi
    rw [List.findIdx?_cons] at hi
    simp only [isStr_str] at hi
    unfold setKv
    cases q : n == k with
    | true =>
      simp only [q, if_true] at hi
      cases hi
      exact .cons x
    | false =>
      simp only [q, Bool.false_eq_true, if_false] at hi
      cases hj : es.findIdx? (·.key.isStr n) with
      | none => rw [hj] at hi; cases hi
      | some j =>
        rw [hj] at hi
        cases hi
        simp only [Bool.false_eq_true, if_false]
        exact .cons (ih hj)

theorem EntsL.erase {es : List DictEntry} {kvs : List (Str × Value)} (x : EntsL es kvs) {n : Str} : ∀ {i : Nat}, es.findIdx? (·.key.isStr n) = some i → EntsL (es.eraseIdx i) (delKv n kvs) := by
  induction x with
  | nil => intro i h; cases h
  | @cons h k t u es kvs x ih =>
    intro i hi
    rw [List.findIdx?_cons] at hi
    simp only [isStr_str] at hi
    unfold delKv
    cases q : n == k with
    | true =>
      simp only [q, if_true] at hi
      cases hi
      exact x
    | false =>
      simp only [q, Bool.false_eq_true, if_false] at hi
      cases hj : es.findIdx? (·.key.isStr n) with
      | none => rw [hj] at hi; cases hi
      | some j =>
        rw [hj] at hi
        cases hi
        simp only [Bool.false_eq_true, if_false]
        exact .cons (ih hj)

theorem putName_new {es : Array DictEntry} {m : Nat} {kvs} (x : EntsL es.toList kvs) {n : Str} (hh : Int) (t : Tok) (v : Value) (h : kvs.lookup n = none) :
    ∃ es' m', Obj.putName n hh (.str n t) v { cls := .type "dict", data := .dict es m } = { cls := .type "dict", data := .dict es' m' } ∧ EntsL es'.toList (kvs ++ [(n, v)]) := by
  refine ⟨es.push ⟨hh, .str n t, v⟩, m + 1, ?_, ?_⟩
  · rw [Obj.putName_eq]
    unfold Obj.putNameByArray
    have e : es.findIdx? (·.key.isStr n) = none := by rw [fidx]; exact findIdx_none x h
    simp only [e]
  · rw [Array.toList_push]; exact x.append (.cons .nil)
theorem putName_old {es : Array DictEntry} {m : Nat} {kvs} (x : EntsL es.toList kvs) {n : Str} (hh : Int) (t : Tok) (v : Value) {u : Value} (h : kvs.lookup n = some u) :
    ∃ es' m', Obj.putName n hh (.str n t) v { cls := .type "dict", data := .dict es m } = { cls := .type "dict", data := .dict es' m' } ∧ EntsL es'.toList (setKv n v kvs) := by
  cases q : es.findIdx? (·.key.isStr n) with
  | none =>
    exfalso
    rw [fidx, List.findIdx?_eq_none_iff] at q
    have h2 := x.any n
    rw [h, show es.toList.any (·.key.isStr n) = false from any_false.mpr q] at h2
    cases h2
  | some i =>
    refine ⟨es.modify i fun e => { e with val := v }, m, ?_, ?_⟩
    · rw [Obj.putName_eq]
      unfold Obj.putNameByArray
      simp only [q]
    · rw [fidx] at q
      rw [Array.toList_modify]
      exact x.modify q

theorem dset {a : Addr} {kvs kvs'} {name : Str} {v : Value} {Q : Unit → Shared → Prop} (x : DictAt s.heap a kvs)
    (hk : (match kvs.lookup name with | none => kvs ++ [(name, v)] | some _ => setKv name v kvs) = kvs')
    (h : ∀ h', Heap.SameBut a s.heap h' → DictAt h' a kvs' → Q () { s with heap := h', toks := s.toks + 1 }) : wpAny M A (nsSet a name v) Q E s := by
  obtain ⟨es, n, g, r⟩ := x
  unfold nsSet strHash
  refine wpAny_bind (wpAny_bind (wpAny_askSetting (wpAny_pure ?_)))
  refine wpAny_bind (wpAny_mkText ?_)
  refine wpAny_bind (wpAny_loadPart (o := { cls := .type "dict", data := .dict es n }) g ?_)
  dsimp only
  have e1 : aRefKeyMayBeTheName name es = false := by
    rw [aRefKeyMayBeTheName_at, ← Array.any_toList (p := fun e : DictEntry => e.refKey), r.ref, Bool.and_false]
  rw [e1]
  simp only [Bool.false_eq_true, if_false]
  refine wpAny_updatePart (o := { cls := .type "dict", data := .dict es n }) g ?_
  refine h _ (Heap.SameBut.update ..) ?_
  cases q : kvs.lookup name with
  | none =>
    rw [q] at hk
    obtain ⟨es', m', e2, r'⟩ := putName_new (m := n) r (if name.cps.isEmpty then 0 else reduceHash (M.w.params.strHash name.cps)) s.toks v q
    exact ⟨es', m', by rw [← e2]; exact Heap.get?_update_self _ g (by rw [e2]; rfl), hk ▸ r'⟩
  | some u =>
    rw [q] at hk
    obtain ⟨es', m', e2, r'⟩ := putName_old (m := n) r (if name.cps.isEmpty then 0 else reduceHash (M.w.params.strHash name.cps)) s.toks v q
    exact ⟨es', m', by rw [← e2]; exact Heap.get?_update_self _ g (by rw [e2]; rfl), hk ▸ r'⟩

theorem dsetV {a : Addr} {kvs kvs'} {name : Str} {v : Value} {Q : Unit → Shared → Prop} (x : DictAt s.heap a kvs) (hs : kvs.length ≤ 1000)
    (hk : (match kvs.lookup name with | none => kvs ++ [(name, v)] | some _ => setKv name v kvs) = kvs')
    (h : ∀ h', Heap.SameBut a s.heap h' → DictAt h' a kvs' → Q () { s with heap := h', toks := s.toks + 1 }) : wpAny M A (nsSetByValue a name v) Q E s := by
  have x' := x
  obtain ⟨es, n, g, r⟩ := x
  unfold nsSetByValue
  refine wpAny_bind (wpAny_loadPart (o := { cls := .type "dict", data := .dict es n }) g ?_)
  dsimp only
  have hl : ∀ {es : List DictEntry} {kvs : List (Str × Value)}, EntsL es kvs → es.length = kvs.length := by
    intro es kvs x
    induction x with
    | nil => rfl
    | cons _ ih => simp [ih]
  have e1 : (decide (es.size > sizeLine) && noSuchName name es) = false := by
    have := hl r
    rw [Array.length_toList] at this
    rw [decide_eq_false (by rw [sizeLine_eq]; omega)]
    rfl
  rw [e1]
  simp only [Bool.false_eq_true, if_false]
  first
    | exact dset x' hk h
    | exact wpAny_bind (wpAny_pure (dset x' hk h))

theorem ddel {a : Addr} {kvs kvs'} {name : Str} {u : Value} {Q : Bool → Shared → Prop} (x : DictAt s.heap a kvs) (hu : kvs.lookup name = some u) (hk : delKv name kvs = kvs')
    (h : ∀ h', Heap.SameBut a s.heap h' → DictAt h' a kvs' → Q true { s with heap := h' }) : wpAny M A (nsDel a name) Q E s := by
  obtain ⟨es, n, g, r⟩ := x
  have ha := r.any name
  rw [hu] at ha
  unfold nsDel
  refine wpAny_bind (wpAny_loadPart (o := { cls := .type "dict", data := .dict es n }) g ?_)
  rw [nsHas_eq]
  unfold nsHasByArray
  dsimp only
  rw [show es.any (·.key.isStr name) = true from by rw [← Array.any_toList]; exact ha]
  simp only [if_true]
  refine wpAny_bind (wpAny_pure ?_)
  simp only [if_true]
  refine wpAny_bind (wpAny_updatePart (o := { cls := .type "dict", data := .dict es n }) g (wpAny_pure ?_))
  refine h _ (Heap.SameBut.update ..) ?_
  cases q : es.findIdx? (·.key.isStr name) with
  | none =>
    exfalso
    rw [fidx, List.findIdx?_eq_none_iff] at q
    rw [show es.toList.any (·.key.isStr name) = false from any_false.mpr q] at ha
    cases ha
  | some i =>
    have e2 : Obj.dropName name { cls := .type "dict", data := .dict es n } = { cls := .type "dict", data := .dict (es.eraseIdxIfInBounds i) (n + 1) } := by
      rw [Obj.dropName_eq]
      unfold Obj.dropNameByArray
      simp only [q]
    refine ⟨es.eraseIdxIfInBounds i, n + 1, by rw [← e2]; exact Heap.get?_update_self _ g (by rw [e2]; rfl), ?_⟩
    rw [fidx] at q
    have := r.erase q
    rw [hk] at this
    rw [Array.toList_eraseIdxIfInBounds]
    exact this
theorem dentries {a : Addr} {kvs} {Q : Array DictEntry → Shared → Prop} (x : DictAt s.heap a kvs) (h : ∀ es, EntsL es.toList kvs → Q es s) : wpAny M A (dictEntries a) Q E s := by
  obtain ⟨es, n, g, r⟩ := x
  unfold dictEntries
  refine wpAny_bind (wpAny_loadPart (o := { cls := .type "dict", data := .dict es n }) g ?_)
  exact wpAny_pure (h es r)
end
end Mine
end
section
open PySem PySem.W PySem.Calls PyProof.Rows PySem.Spec
set_option maxRecDepth 100000
set_option maxHeartbeats 4000000
namespace Mine

theorem codeAmong_other {pos : Pos} {a b : Int} {c : Value} (hne : ¬ (a = pos.line ∧ b = pos.col)) : ∀ (l : List Value), TriplesOk l → codeAmong pos (l ++ [rawInt a, rawInt b, c]) = codeAmong pos l := by
  intro l h
  fun_induction TriplesOk l with
  | case1 =>
    show codeAmong pos [rawInt a, rawInt b, c] = none
    unfold rawInt codeAmong
    rw [if_neg (by simpa using fun h1 h2 => hne ⟨h1, h2⟩)]
    rfl
  | case2 i t j u x rest ih =>
    show codeAmong pos (.int i t :: .int j u :: x :: (rest ++ _)) = _
    unfold codeAmong
    split
    · rfl
    · exact ih h
  | case3 => exact h.elim

theorem codeAmong_keep {pos : Pos} {a b c v : Value} : ∀ (l : List Value), codeAmong pos l = some v → codeAmong pos (l ++ [a, b, c]) = some v := by
  intro l h
  fun_induction codeAmong pos l with
  | case1 i t j u x rest hc => 
    show codeAmong pos (.int i t :: .int j u :: x :: (rest ++ _)) = _
    unfold codeAmong
    rw [if_pos hc]
    exact h
  | case2 i t j u x rest hc ih =>
    show codeAmong pos (.int i t :: .int j u :: x :: (rest ++ _)) = _
    unfold codeAmong
    rw [if_neg hc]
    exact ih h
  | case3 => cases h

theorem codeRec_keeps {h h' : Heap} {cv : Value} {q : Str} (x : h.CodeRec cv q) (k : ∀ b o, h.get? b = some o → h'.get? b = some o) : h'.CodeRec cv q :=
  let ⟨c, o, vs, t, e, g, r⟩ := x; ⟨c, o, vs, t, e, k _ _ g, r⟩

structure CB (g h : Heap) (ns t : Addr) (kvs : List (Str × Value)) (ps : Array Value) : Prop where
  keep : ∀ b o, g.get? b = some o → h.get? b = some o
  nns : g.get? ns = none
  nt : g.get? t = none
  ne : ns ≠ t
  dict : DictAt h ns kvs
  tab : h.get? t = some (tabObj ps)
  trip : TriplesOk ps.toList

theorem hid3 {h : Heap} {ns t P b : Addr} {o : Obj} (e : h.get? b = some o) (x : b ≠ ns) (y : b ≠ t) (z : b ≠ P) : (hideAll h [ns, t, P]).get? b = some o := hideAll_get _ e (by
    intro hm
    rcases List.mem_cons.mp hm with q | hm
    · exact x q
    · rcases List.mem_cons.mp hm with q | hm
      · exact y q
      · rcases List.mem_cons.mp hm with q | hm
        · exact z q
        · cases hm)
theorem CB.rebase {g h ns t kvs ps} {P : Addr} (x : CB g h ns t kvs ps) (hP : g.get? P = none) : CB (hideAll h [ns, t, P]) h ns t kvs ps ∧ g.StaysIn (hideAll h [ns, t, P]) :=
  ⟨⟨fun _ _ e => of_hideAll _ e, hideAll_none _ (.head _), hideAll_none _ (.tail _ (.head _)), x.ne, x.dict, x.tab, x.trip⟩, fun b o e => hid3 (x.keep b o e)
    (fun q => by rw [q, x.nns] at e; cases e) (fun q => by rw [q, x.nt] at e; cases e) (fun q => by rw [q, hP] at e; cases e)⟩

section
variable {M : Model} {A : Around} {E : Value → Shared → Prop} {s : Shared} {env : Env}

theorem cstore {name : Str} {v : Value} {kvs kvs'} {Q : Unit → Shared → Prop} (hk : env.scope.kind = .class)
    (hl : env.kindOf name = some .local ∨ (env.kindOf name = none ∧ compilersOwnNames.contains name = true)) (x : DictAt s.heap env.locals kvs)
    (hkv : (match kvs.lookup name with | none => kvs ++ [(name, v)] | some _ => setKv name v kvs) = kvs')
    (h : ∀ h', Heap.SameBut env.locals s.heap h' → DictAt h' env.locals kvs' → Q () { s with heap := h', toks := s.toks + 1 }) : wpAny M A (storeName env name v) Q E s := by
  have key : wpAny M A (localSet env name v) Q E s := by
    unfold localSet
    obtain ⟨es, n, g, r⟩ := id x
    refine wpAny_bind (wpAny_load (o := { cls := .type "dict", data := .dict es n }) g ?_)
    rw [if_pos (by rfl)]
    exact dset x hkv h
  unfold storeName
  rcases hl with hl | ⟨hl, hc⟩
  · rw [hl]
    rw [if_neg (by intro q; cases q)]
    dsimp only
    rw [hk, if_pos (by rfl)]
    exact key
  · rw [hl]
    rw [if_neg (by intro q; cases q)]
    dsimp only
    have hb : env.blockKind = .class := by unfold Env.blockKind; rw [hk]; rfl
    rw [hb, hk, hc]
    rw [if_neg (by intro q; cases q)]
    rw [if_pos (by rfl)]
    exact key

theorem cdef {name qual : Str} {params : Arguments} {body : List Stmt} {scope : Scope} {pos : Pos} {g : Heap} {ns t cc : Addr} {kvs : List (Str × Value)} {ps : Array Value} {mg : Str → Option Value} {clos : List (Str × Addr)} {Q : Flow → Shared → Prop}
    (hk : env.scope.kind = .class) (hl : env.kindOf name = some .local) (hns : env.locals = ns) (hgl : env.globals = mainGlobals) (hcd : env.code = .ref cc)
    (hq : qualnameIn env name name = qual) (hd : params.defaults = []) (hkd : params.kw_defaults = []) (hann : annTrees params none env = []) (hcl : closureFor scope env = pure clos)
    (C : CB g s.heap ns t kvs ps) (hc : CodeHd g cc t) (hg : g.Ns mainGlobals mg) (hb : g.BuiltinsAt mg t)
    (hcase : codeAmong pos ps.toList = none ∨ ∃ cv, codeAmong pos ps.toList = some cv ∧ g.CodeRec cv qual)
    (hkv : kvs.lookup name = none) {P : Addr} {oP : Obj} (hP : g.get? P = none) (hPh : s.heap.get? P = some oP) (nsP : ns ≠ P) (tP : t ≠ P)
    (h : ∀ f cdv ctv doc g' h' ps' tk, g.StaysIn g' → g'.get? P = none → h'.get? P = some oP → CB g' h' ns t (kvs ++ [(name, .ref f)]) ps' → codeAmong pos ps'.toList = some cdv → g'.CodeRec cdv qual →
      (∀ pos' : Pos, ¬ ((pos.line : Int) = pos'.line ∧ (pos.col : Int) = pos'.col) → codeAmong pos' ps'.toList = codeAmong pos' ps.toList) →
      g'.get? f = some { cls := .type "function", data := .func (fnX name qual params body scope clos .none .none doc ((mg "__name__").getD .none) none cdv ctv) } →
      Q .next { s with heap := h', toks := tk }) :
    wpAny M A (exec (.FunctionDef name params body [] none [] scope none name pos) env) Q E s := by
  have hmP : mainGlobals ≠ t := fun q => by
    obtain ⟨o, es, ep, e, _⟩ := hg
    rw [q, C.nt] at e; cases e
  have hmN : mainGlobals ≠ ns := fun q => by
    obtain ⟨o, es, ep, e, _⟩ := hg
    rw [q, C.nns] at e; cases e
  have fin : ∀ (h₂ : Heap) (tk₂ : Nat) (cdv ctv doc : Value) (ps' : Array Value), Heap.ExtBut t s.heap h₂ → s.heap.objs.size ≤ h₂.objs.size → h₂.get? t = some (tabObj ps') → TriplesOk ps'.toList → codeAmong pos ps'.toList = some cdv → h₂.CodeRec cdv qual →
      (∀ c, cdv = .ref c → c ≠ ns) → (∀ c, cdv = .ref c → c ≠ t) → (∀ c, cdv = .ref c → c ≠ P) →
      (∀ pos' : Pos, ¬ ((pos.line : Int) = pos'.line ∧ (pos.col : Int) = pos'.col) → codeAmong pos' ps'.toList = codeAmong pos' ps.toList) →
      wpAny M A (do standAt pos; bindName env name (.ref h₂.objs.size); pure Flow.next) Q E { s with heap := h₂.push { cls := .type "function", data := .func (fnX name qual params body scope clos .none .none doc ((mg "__name__").getD .none) none cdv ctv) }, toks := tk₂ } := by
    intro h₂ tk₂ cdv ctv doc ps' hx hsz ht htr hca hrec hcn hct hcP hoth
    have Plt : P < h₂.objs.size := Heap.lt_size (hx _ _ (Ne.symm tP) hPh)
    refine wpAny_bind (wpAny_standAt (wpAny_bind (wpAny_bindName ?_)))
    have D2 : DictAt (h₂.push { cls := .type "function", data := .func (fnX name qual params body scope clos .none .none doc ((mg "__name__").getD .none) none cdv ctv) }) env.locals kvs := by
      rw [hns]; exact (C.dict.ext hx C.ne).keeps fun _ _ e => Heap.get?_push_of_some _ e
    have nlt : ns < h₂.objs.size := (C.dict.ext hx C.ne).lt
    have tlt : t < h₂.objs.size := Heap.lt_size ht
    refine cstore hk (.inl hl) D2 (by rw [hkv]) fun h' sb D' => wpAny_pure ?_
    rw [hns] at sb D'
    have C' : CB g h' ns t (kvs ++ [(name, .ref h₂.objs.size)]) ps' := ⟨fun b o e => (sb.2 b (fun q => by rw [q, C.nns] at e; cases e)).trans (Heap.get?_push_of_some _ (hx b o (fun q => by rw [q, C.nt] at e; cases e) (C.keep b o e))), C.nns, C.nt, C.ne, D',
      (sb.2 t (Ne.symm C.ne)).trans (Heap.get?_push_of_some _ ht), htr⟩
    obtain ⟨C2, st⟩ := C'.rebase (P := P) hP
    refine h h₂.objs.size cdv ctv doc _ h' ps' _ st (hideAll_none _ (.tail _ (.tail _ (.head _)))) ((sb.2 P (Ne.symm nsP)).trans (Heap.get?_push_of_some _ (hx _ _ (Ne.symm tP) hPh))) C2 hca ?_ hoth ?_
    · obtain ⟨c, o, vs, u, e, ge, r⟩ := hrec
      exact ⟨c, o, vs, u, e, hid3 ((sb.2 c (hcn c e)).trans (Heap.get?_push_of_some _ ge)) (hcn c e) (hct c e) (hcP c e), r⟩
    · exact hid3 ((sb.2 _ (Nat.ne_of_gt nlt)).trans (Heap.get?_push_size _ rfl)) (Nat.ne_of_gt nlt) (Nat.ne_of_gt tlt) (Nat.ne_of_gt Plt)
  rw [exec_def, hq, defaultsOf_eq, hd, hkd, hann]
  refine wpAny_bind (wpAny_standAt (wpAny_bind (wpAny_holding ?_)))
  refine wpAny_bind (wpAny_pure (wpAny_bind (wpAny_holding (wpAny_pure ?_))))
  refine wpAny_holding (wpAny_bind (wpAny_pure ?_))
  have hg' := hg.keeps C.keep
  have hb' : s.heap.BuiltinsAt mg t := let ⟨bm, o, a1, a2, a3, a4, a5, r⟩ := hb; ⟨bm, o, a1, a2, a3, a4, C.keep _ _ a5, r⟩
  have C1 := hc.keeps C.keep
  rcases hcase with hn | ⟨cv, hf, hrec⟩
  · refine makeFunction_K hcl hgl hg' hcd C1 C.tab C.trip hn hmP hb' fun c' ctv doc h' tk hx hge hlt hrec ht => ?_
    have hl' : (ps ++ #[rawInt pos.line, rawInt pos.col, Value.ref c']).toList = ps.toList ++ [rawInt pos.line, rawInt pos.col, .ref c'] := by simp
    refine fin h' tk (.ref c') ctv doc _ hx (Nat.le_trans hge (Nat.le_of_lt hlt)) ht (by rw [hl']; exact TriplesOk_snoc _ _ _ _ C.trip) (by rw [hl']; exact codeAmong_snoc _ C.trip hn) hrec ?_ ?_ ?_ ?_
    · intro c e; cases e; exact Nat.ne_of_gt (Nat.lt_of_lt_of_le C.dict.lt hge)
    · intro c e; cases e; exact Nat.ne_of_gt (Nat.lt_of_lt_of_le (Heap.lt_size C.tab) hge)
    · intro c e; cases e; exact Nat.ne_of_gt (Nat.lt_of_lt_of_le (Heap.lt_size hPh) hge)
    · intro pos' hne
      rw [hl']
      exact codeAmong_other hne _ C.trip
  · refine makeFunction_hit hcl hgl hg' hcd C1 C.tab C.trip hf hb' fun ctv doc h' tk hkp hsz => ?_
    have r2 := codeRec_keeps hrec C.keep
    refine fin h' tk cv ctv doc _ (fun b o _ e => hkp b o e) hsz (hkp _ _ C.tab) C.trip hf (codeRec_keeps r2 hkp) ?_ ?_ ?_ (fun _ _ => rfl)
    · intro c e q
      obtain ⟨c2, o, vs, u, e2, ge, r⟩ := hrec
      rw [e] at e2; cases e2
      rw [q, C.nns] at ge; cases ge
    · intro c e q
      obtain ⟨c2, o, vs, u, e2, ge, r⟩ := hrec
      rw [e] at e2; cases e2
      rw [q, C.nt] at ge; cases ge
    · intro c e q
      obtain ⟨c2, o, vs, u, e2, ge, r⟩ := hrec
      rw [e] at e2; cases e2
      rw [q, hP] at ge; cases ge
end
end Mine
end
section
open PySem PySem.W PySem.Calls PyProof.Rows PySem.Spec
set_option maxRecDepth 100000
set_option maxHeartbeats 4000000
namespace Mine

theorem tl_type_getattribute : typeLookup (.type "type") "__getattribute__" = pure (some (.builtin "type.__getattribute__")) := by rw [typeLookup_type, builtinLookup_eq_fast]; kernel_rfl
theorem tl_type_prepare : typeLookup (.type "type") "__prepare__" = pure (some (.builtin "type.__prepare__")) := by rw [typeLookup_type, builtinLookup_eq_fast]; kernel_rfl
theorem ty_type : typeOf (.type "type") = pure (.type "type") := by kernel_rfl
theorem ty_object : typeOf (.type "object") = pure (.type "type") := by kernel_rfl
theorem ty_prep : typeOf (.builtin "type.__prepare__") = pure (.type "classmethod_descriptor") := by kernel_rfl
theorem tl_cmd_get : typeLookup (.type "classmethod_descriptor") "__get__" = pure (some (.builtin "classmethod_descriptor.__get__")) := by rw [typeLookup_type, builtinLookup_eq_fast]; kernel_rfl
theorem tl_cmd_set : typeLookup (.type "classmethod_descriptor") "__set__" = pure none := by rw [typeLookup_type, builtinLookup_eq_fast]; kernel_rfl
theorem tl_cmd_delete : typeLookup (.type "classmethod_descriptor") "__delete__" = pure none := by rw [typeLookup_type, builtinLookup_eq_fast]; kernel_rfl
theorem sub_type_type : isSubtype (.type "type") (.type "type") = pure true := by rw [isSubtype_type]; kernel_rfl
theorem tl_type_getattr : typeLookup (.type "type") "__getattr__" = pure none := by rw [typeLookup_type, builtinLookup_eq_fast]; kernel_rfl
theorem bs_tga (self : Value) : bindSpecial (.builtin "type.__getattribute__") self = pure (.builtin "type.__getattribute__", [self]) := by kernel_rfl
theorem en_tga : entryFor table "type.__getattribute__" = some Builtin.«type.__getattribute__» := entryFor_of_tree (by kernel_rfl)
theorem en_cmdget : entryFor table "classmethod_descriptor.__get__" = some Builtin.«classmethod_descriptor.__get__» := entryFor_of_tree (by kernel_rfl)
theorem en_prep : entryFor table "type.__prepare__" = some Builtin.«type.__prepare__» := entryFor_of_tree (by kernel_rfl)
theorem pl_tga : plainId "type.__getattribute__" = true := by decide +kernel
theorem pl_cmdget : plainId "classmethod_descriptor.__get__" = true := by decide +kernel
theorem pl_prep : plainId "type.__prepare__" = true := by decide +kernel
theorem ck_tga (b : Value) : checkBuiltinCall "type.__getattribute__" ⟨[.type "type", b], []⟩ = pure () := by kernel_rfl
theorem ck_cmdget (b c : Value) : checkBuiltinCall "classmethod_descriptor.__get__" ⟨[.builtin "type.__prepare__", b, c], []⟩ = pure () := by kernel_rfl
theorem tga_prep (t : Tok) : Builtin.«type.__getattribute__» ⟨[.type "type", .str (Str.ofString "__prepare__") t], []⟩ =
    (do ret (← holding [.builtin "type.__prepare__"] (call (.builtin "classmethod_descriptor.__get__") [.builtin "type.__prepare__", .none, .type "type"]))) := by kernel_rfl
theorem cmdget_prep : Builtin.«classmethod_descriptor.__get__» ⟨[.builtin "type.__prepare__", .none, .type "type"], []⟩ =
    (do ret (← newFields "builtin_function_or_method" [.builtin "type.__prepare__", .type "type"])) := by kernel_rfl
theorem gab_prep (t : Tok) : getAttrBy (.type "type") (.str (Str.ofString "__prepare__") t) false = getAttrByItsOwn (.type "type") (.str (Str.ofString "__prepare__") t) (.type "type") (.builtin "type.__getattribute__") false false := by kernel_rfl
theorem gabo_prep (t : Tok) : getAttrByItsOwn (.type "type") (.str (Str.ofString "__prepare__") t) (.type "type") (.builtin "type.__getattribute__") false false =
    (do match ← (call (.builtin "type.__getattribute__") [.type "type", .str (Str.ofString "__prepare__") t]).attempt with
        | .ok v => handedOut v
        | .error e => getattributeRaised (.type "type") (.str (Str.ofString "__prepare__") t) (.type "type") e none false false) := by kernel_rfl
end Mine
end
section
open PySem PySem.W PySem.Calls PyProof.Rows PySem.Spec
set_option maxRecDepth 100000
set_option maxHeartbeats 4000000
namespace Mine

abbrev St (h h' : Heap) : Prop := ∀ b o, h.get? b = some o → h'.get? b = some o
theorem St.refl (h : Heap) : St h h := fun _ _ e => e
theorem St.tr {a b c : Heap} (x : St a b) (y : St b c) : St a c := fun p o e => y p o (x p o e)
theorem ne_new {h : Heap} {a b : Addr} {o : Obj} (x : h.get? a = some o) (y : h.get? b = none) : a ≠ b := fun e => by rw [e, y] at x; cases x

section
variable {M : Model} {A : Around} {E : Value → Shared → Prop} {s : Shared}
theorem get_size_none (h : Heap) : h.get? h.objs.size = none := by
  cases q : h.get? h.objs.size with
  | none => rfl
  | some o => exact absurd (Heap.lt_size q) (Nat.lt_irrefl _)
theorem al {o : Obj} {Q : Addr → Shared → Prop} (hf : o.isFreed = false) (h : ∀ a h', St s.heap h' → h'.get? a = some o → s.heap.objs.size ≤ a → Q a { s with heap := h' }) : wpAny M A (alloc o) Q E s :=
  wpAny_alloc (h _ _ (fun _ _ e => Heap.get?_push_of_some _ e) (Heap.get?_push_size _ hf) (Nat.le_refl _))
theorem alT {T : String} {data : Data} {Q : Value → Shared → Prop} (hf : ({ cls := .type T, data } : Obj).isFreed = false) (hd : sizeOk data)
    (h : ∀ a h', St s.heap h' → h'.get? a = some { cls := .type T, data } → s.heap.objs.size ≤ a → Q (.ref a) { s with heap := h' }) : wpAny M A (newObj (.type T) data) Q E s :=
  wpAny_newObj_type (h _ _ (fun _ _ e => Heap.get?_push_of_some _ e) (Heap.get?_push_size _ hf) (Nat.le_refl _)) hd
end

section
variable {prog : Program} {w : World} {A : Around} {E : Value → Shared → Prop} {s : Shared}

abbrev FinTo (prog : Program) (w : World) (A : Around) (Q : Value → Shared → Prop) (E : Value → Shared → Prop) (fin : PySem.Fin) (s' : Shared) : Prop :=
  match fin with
  | .done f => (match (Except.ok f : Result) with | .ok (.ret v) => Q v s' | .ok _ => False | .error e => E e s')
  | .again c' => c'.quiet = true ∧ codeAny (model prog w) A c' (fun r s' => match r with | .ok (.ret v) => Q v s' | .ok _ => False | .error e => E e s') s'

theorem callB {id : String} {pos : List Value} {kw : List (Str × Value)} {b : Builtin} {Q : Value → Shared → Prop} (hp : plainId id = true) (hb : entryFor table id = some b)
    (hc : checkBuiltinCall id ⟨pos, kw⟩ = pure ()) (h : wpAny (model prog w) A.in1 (b ⟨pos, kw⟩) (FinTo prog w A Q E) E s) : wpAny (model prog w) A (call (.builtin id) pos kw) Q E s := by
  refine wpAny_call (codeAny_call_builtin hp hb ?_)
  rw [hc]
  exact wpAny_pure h

theorem callBound {bm : Addr} {id : String} {self : Value} {pos : List Value} {kw : List (Str × Value)} {b : Builtin} {Q : Value → Shared → Prop}
    (ho : s.heap.get? bm = some { cls := .type "builtin_function_or_method", data := .fields #[.builtin id, self] }) (hp : plainId id = true) (hb : entryFor table id = some b)
    (hc : ∀ {M : Model} {A : Around} {Q : Unit → Shared → Prop} {E : Value → Shared → Prop}, Q () s → wpAny M A (checkBoundCall id ⟨self :: pos, kw⟩) Q E s)
    (h : wpAny (model prog w) A.in1 (b ⟨self :: pos, kw⟩) (FinTo prog w A Q E) E s) : wpAny (model prog w) A (call (.ref bm) pos kw) Q E s := by
  refine wpAny_call (codeAny_of_tree ?_)
  show wpAny _ A.in1 (callAny (.ref bm) ⟨pos, kw⟩) _ _ s
  unfold callAny
  dsimp only
  refine wpAny_bind (wpAny_load ho ?_)
  dsimp only
  rw [if_pos (by rfl)]
  skip
  show wpAny _ _ (if (Value.type "builtin_function_or_method" != Value.type "method") = true then _ else _) _ _ _
  rw [if_pos (by rfl)]
  refine wpAny_bind (hc (wpAny_pure ⟨plainId_quiet hp _, codeAny_builtin hb ?_⟩))
  rw [Around.under_plainId hp]
  exact h

theorem prepare {Q : Option Value → Shared → Prop} (h : ∀ bm h' tk, St s.heap h' → h'.get? bm = some { cls := .type "builtin_function_or_method", data := .fields #[.builtin "type.__prepare__", .type "type"] } → Q (some (.ref bm)) { s with heap := h', toks := tk }) :
    wpAny (model prog w) A (getAttr? (.type "type") "__prepare__") Q E s := by
  unfold getAttr?
  refine wpAny_bind (wpAny_mkText ?_)
  unfold getAttrBy?
  show wpAny _ _ (Sem.bind (getAttrBy (.type "type") (.str (Str.ofString "__prepare__") _) false).attempt _) _ _ _
  rw [gab_prep, gabo_prep]
  refine wpAny_bind (wpAny_attempt (wpAny_bind (wpAny_attempt (callB pl_tga en_tga (ck_tga _) ?_))))
  rw [tga_prep]
  refine wpAny_bind (wpAny_holding (callB pl_cmdget en_cmdget (ck_cmdget _ _) ?_))
  rw [cmdget_prep]
  refine wpAny_bind (alT rfl (by size_fits) fun bm h' st hg hn => ?_)
  refine wpAny_pure ?_
  refine wpAny_pure ?_
  refine wpAny_pure ?_
  exact wpAny_pure (h bm h' _ st hg)
end
end Mine
end
section
open PySem PySem.W PySem.Calls PyProof.Rows PySem.Spec
set_option maxRecDepth 100000
set_option maxHeartbeats 4000000
namespace Mine

theorem none_of_ge {h : Heap} {a : Addr} (x : h.objs.size ≤ a) : h.get? a = none := Heap.get?_none_of_le x

section
variable {M : Model} {A : Around} {E : Value → Shared → Prop} {s : Shared}

theorem classCode_new {env : Env} {c P : Addr} {ps : Array Value} {pos : Pos} {firstLine : Nat} {name qual : Str} {scope : Scope} {Q : Value → Shared → Prop}
    (hc : env.code = .ref c) (hd : CodeHd s.heap c P) (ht : s.heap.get? P = some (tabObj ps)) (htr : TriplesOk ps.toList) (hnf : codeAmong pos ps.toList = none)
    (h : ∀ c' P' h' tk, Heap.ExtBut P s.heap h' → h'.get? P = some (tabObj (ps ++ #[rawInt pos.line, rawInt pos.col, .ref c'])) → CodeHd h' c' P' → h'.CodeRec (.ref c') qual → h'.get? P' = some (tabObj #[]) →
      s.heap.get? c' = none → s.heap.get? P' = none → Q (.ref c') { s with heap := h', toks := tk }) :
    wpAny M A (classCode env pos firstLine name qual scope) Q E s := by
  obtain ⟨o, vs, file, tf, flags, tg, inF, text, tt, ho, hcls, hda, h11', h11, h18, h7, h9, h10, hne⟩ := hd
  unfold classCode codeAt
  rw [hc, if_neg (show ¬ ((Value.ref c == Value.none) = true) from Bool.false_ne_true)]
  refine wpAny_bind (wpAny_fieldsOf ho hda ?_)
  rw [h11]
  refine wpAny_bind (wpAny_fieldsOf ht rfl ?_)
  rw [hnf, h18, h7, h9, h10]
  refine wpAny_bind (wpAny_newCodeX fun c' P' h' tk hk hc' hP' hcode' htab' hrec' => ?_)
  have ht' := hk _ _ ht
  have eP : ∀ x : Addr, s.heap.objs.size ≤ x → x ≠ P := fun x hx => Nat.ne_of_gt (Nat.lt_of_lt_of_le (Heap.lt_size ht) hx)
  refine wpAny_bind (wpAny_updateFieldsOfTheText ht' rfl ?_)
  have hl : (ps ++ #[rawInt pos.line, rawInt pos.col, Value.ref c']).toList = ps.toList ++ [rawInt pos.line, rawInt pos.col, .ref c'] := by simp
  have hnew : Obj.mapFields (fun vs => if (codeAmong pos vs.toList).isSome = true then vs else vs ++ #[rawInt pos.line, rawInt pos.col, .ref c']) (tabObj ps) = tabObj (ps ++ #[rawInt pos.line, rawInt pos.col, .ref c']) := by
    simp only [Obj.mapFields, hnf]; rfl
  have hget : (h'.update P (Obj.mapFields fun vs => if (codeAmong pos vs.toList).isSome = true then vs else vs ++ #[rawInt pos.line, rawInt pos.col, .ref c'])).get? P = some (tabObj (ps ++ #[rawInt pos.line, rawInt pos.col, .ref c'])) := by
    rw [← hnew]; exact Heap.get?_update_self _ ht' (by rw [hnew]; rfl)
  refine wpAny_bind (wpAny_fieldsOf hget rfl ?_)
  rw [hl, codeAmong_snoc _ htr hnf]
  have sb := Heap.SameBut.update h' P (Obj.mapFields fun vs => if (codeAmong pos vs.toList).isSome = true then vs else vs ++ #[rawInt pos.line, rawInt pos.col, .ref c'])
  refine wpAny_pure (h c' P' _ _ (fun b o' hb e => sb.extBut b o' hb (hk b o' e)) hget ?_ ?_ ?_ (none_of_ge hc') (none_of_ge hP'))
  · obtain ⟨o2, vs2, a1, a2, a3, a4, a5, a6, a7, g2, r2⟩ := CodeHd.of hcode' htab'
    exact ⟨o2, vs2, a1, a2, a3, a4, a5, a6, a7, (sb.2 _ (eP _ hc')).trans g2, r2⟩
  · obtain ⟨c₂, o₂, vs₂, t₂, e₂, g₂, r₂⟩ := hrec'
    cases e₂
    exact ⟨_, o₂, vs₂, t₂, rfl, (sb.2 _ (eP _ hc')).trans g₂, r₂⟩
  · exact (sb.2 _ (eP _ hP')).trans htab'.2
theorem classCode_hit {env : Env} {c P : Addr} {ps : Array Value} {pos : Pos} {firstLine : Nat} {name qual : Str} {scope : Scope} {c' : Value} {Q : Value → Shared → Prop}
    (hc : env.code = .ref c) (hd : CodeHd s.heap c P) (ht : s.heap.get? P = some (tabObj ps)) (htr : TriplesOk ps.toList) (hf : codeAmong pos ps.toList = some c') (h : Q c' s) :
    wpAny M A (classCode env pos firstLine name qual scope) Q E s := wpAny_codeAt_hit hc (hd.code ht htr) hf h
theorem classCode_any {g : Heap} {env : Env} {c P : Addr} {ps : Array Value} {pos : Pos} {firstLine : Nat} {name qual : Str} {scope : Scope} {Full : Heap → Array Value → Prop} {Q : Value → Shared → Prop}
    (hc : env.code = .ref c) (hd : CodeHd s.heap c P) (ht : s.heap.get? P = some (tabObj ps)) (htr : TriplesOk ps.toList) (hnP : g.get? P = none) (hgs : ∀ b o, g.get? b = some o → s.heap.get? b = some o)
    (hcase : codeAmong pos ps.toList = none ∨ ∃ cc t qs, codeAmong pos ps.toList = some (.ref cc) ∧ CodeHd g cc t ∧ g.get? t = none ∧ t ≠ P ∧ s.heap.get? t = some (tabObj qs) ∧ TriplesOk qs.toList ∧ Full g qs)
    (h : ∀ cc t ps1 qs h' tk, Heap.ExtBut P s.heap h' → h'.get? P = some (tabObj ps1) → TriplesOk ps1.toList → codeAmong pos ps1.toList = some (.ref cc) → CodeHd h' cc t → h'.get? t = some (tabObj qs) → TriplesOk qs.toList → t ≠ P → cc ≠ P → g.get? t = none →
      ((qs = #[] ∧ s.heap.get? t = none ∧ s.heap.get? cc = none) ∨ (Full g qs ∧ CodeHd g cc t ∧ s.heap.get? t = some (tabObj qs))) → Q (.ref cc) { s with heap := h', toks := tk }) :
    wpAny M A (classCode env pos firstLine name qual scope) Q E s := by
  rcases hcase with hn | ⟨cc, t, qs, hf, hcd, hgt, htP, hqs, htq, hfull⟩
  · refine classCode_new hc hd ht htr hn fun c' P' h' tk hx hP hcd hrec hP' nc nP => ?_
    have hl : (ps ++ #[rawInt pos.line, rawInt pos.col, Value.ref c']).toList = ps.toList ++ [rawInt pos.line, rawInt pos.col, .ref c'] := by simp
    refine h c' P' _ #[] h' tk hx hP (by rw [hl]; exact TriplesOk_snoc _ _ _ _ htr) (by rw [hl]; exact codeAmong_snoc _ htr hn) hcd hP' trivial ?_ ?_ ?_ (.inl ⟨rfl, nP, nc⟩)
    · intro e; rw [e, ht] at nP; cases nP
    · intro e; rw [e, ht] at nc; cases nc
    · cases q : g.get? P' with
      | none => rfl
      | some o => have := hgs _ _ q; rw [nP] at this; cases this
  · refine classCode_hit hc hd ht htr hf ?_
    have ccP : cc ≠ P := by
      intro e
      obtain ⟨o, vs, a1, a2, a3, a4, a5, a6, a7, g2, r2⟩ := hcd
      rw [e, hnP] at g2; cases g2
    exact h cc t ps qs s.heap s.toks (fun _ _ _ e => e) ht htr hf (hcd.keeps hgs) hqs htq htP ccP hgt (.inr ⟨hfull, hcd, hqs⟩)

theorem cload_name {env : Env} {kvs : List (Str × Value)} {mg : Str → Option Value} {nm : Value} {Q : Value → Shared → Prop} (hk : env.scope.kind = .class) (hn : env.scope.names.lookup (Str.ofString "__name__") = none) (hge : env.globals = mainGlobals)
    (x : DictAt s.heap env.locals kvs) (hl : kvs.lookup (Str.ofString "__name__") = none) (hg : s.heap.Ns mainGlobals mg) (hm : mg (Str.ofString "__name__") = some nm) (h : Q nm s) : wpAny M A (loadName env (Str.ofString "__name__")) Q E s := by
  unfold loadName
  have hb : env.blockKind = .class := by unfold Env.blockKind; rw [hk]; rfl
  have e1 : env.kindOf (Str.ofString "__name__") = none := hn
  rw [hk, hb, e1]
  rw [if_neg (by simp [ScopeKind.isAnnotationScope])]
  dsimp only
  rw [if_neg (by decide +kernel)]
  unfold localGet
  obtain ⟨es, n, g, r⟩ := id x
  refine wpAny_bind (wpAny_bind (wpAny_load (o := { cls := .type "dict", data := .dict es n }) g ?_))
  rw [if_pos (by rfl)]
  refine dget x ?_
  rw [hl]
  dsimp only
  unfold loadGlobal
  rw [hge]
  refine wpAny_bind (wpAny_nsGet hg ?_)
  rw [hm]
  exact wpAny_pure h
end
end Mine
end
section
open PySem PySem.W PySem.Calls PyProof.Rows PySem.Spec
set_option maxRecDepth 100000
set_option maxHeartbeats 4000000
namespace Mine
section
variable {prog : Program} {w : World} {M : Model} {A : Around} {E : Value → Shared → Prop} {s : Shared}

theorem newTupleA {vs : List Value} {Q : Value → Shared → Prop} (hsz : vs.length ≤ 1000)
    (h : ∀ a h', St s.heap h' → h'.get? a = some { cls := .type "tuple", data := .seq vs.toArray } → s.heap.objs.size ≤ a → Q (.ref a) { s with heap := h' }) : wpAny M A (newTuple vs) Q E s :=
  alT rfl (by show vs.toArray.size ≤ sizeLine; rw [List.size_toArray, sizeLine_eq]; omega) h

theorem alTT {vs : List Value} {Q : Value → Shared → Prop} (h : ∀ a h', St s.heap h' → h'.get? a = some { cls := .type "tuple", data := .seq vs.toArray } → s.heap.objs.size ≤ a → Q (.ref a) { s with heap := h' }) : wpAny M A (newTextTuple vs) Q E s :=
  wpAny_newTextTuple (h _ _ (fun _ _ e => Heap.get?_push_of_some _ e) (Heap.get?_push_size _ rfl) (Nat.le_refl _))
theorem wpE {α : Type} {M : Model} {t : Sem α} {a : α} {Q : α → Shared → Prop} (e : t = pure a) (h : Q a s) : wpAny M A t Q E s := by subst e; exact wpAny_pure h

theorem ck_prep (a b c : Value) : checkBoundCall "type.__prepare__" ⟨[.type "type", a, b], []⟩ = pure () := by kernel_rfl
theorem tl_dict_getitem : typeLookup (.type "dict") "__getitem__" = pure (some (.builtin "dict.__getitem__")) := by rw [typeLookup_type, builtinLookup_eq_fast]; kernel_rfl

structure CM (g h : Heap) (c P : Addr) (ps : Array Value) : Prop where
  keep : St g h
  nP : g.get? P = none
  tab : h.get? P = some (tabObj ps)
  trip : TriplesOk ps.toList
  cd : CodeHd g c P

theorem Ns_ne {g : Heap} {a b : Addr} {m : Str → Option Value} (x : g.Ns a m) (y : g.get? b = none) : a ≠ b := fun e => by
  obtain ⟨o, es, ep, ho, _⟩ := x
  rw [e, y] at ho; cases ho
theorem Ns_st {g h : Heap} {a : Addr} {m : Str → Option Value} (x : g.Ns a m) (y : St g h) : h.Ns a m := x.keeps y

theorem buildClass_K {name qual : Str} {body : List Stmt} {scope : Scope} {statics : List Str} {firstLine : Nat} {env : Env} {pos : Pos} {Q : Value → Shared → Prop} {g : Heap} {c P : Addr} {ps : Array Value} {mg : Str → Option Value} {nm : Value} {clos : List (Str × Addr)}
    {Full : Heap → Array Value → Prop} {Bd : Heap → Addr → Addr → Addr → List (Str × Value) → Array Value → Prop}
    (hge : env.globals = mainGlobals) (hcode : env.code = .ref c) (hroom : A.depth < recursionLimit) (hlim : g.NoLimit) (hg : g.Ns mainGlobals mg) (hmn : mg "__name__" = some nm) (hb : g.BuiltinsAt mg P)
    (hcl : closureFor scope env = pure clos) (hk : scope.kind = .class) (hs1 : (scope.names.lookup (Str.ofString "__class__") == some NameKind.cell) = false) (hs2 : (scope.names.lookup (Str.ofString "__classdict__") == some NameKind.cell) = false)
    (hn1 : scope.names.lookup (Str.ofString "__name__") = none) (hn2 : scope.names.lookup (Str.ofString "__module__") = some .local) (hn3 : scope.names.lookup (Str.ofString "__qualname__") = none) (hn4 : scope.names.lookup (Str.ofString "__firstlineno__") = none) (hn5 : scope.names.lookup (Str.ofString "__static_attributes__") = none)
    (hann : hasAnns body = false) (hdoc : docOf body = none)
    (C : CM g s.heap c P ps)
    (hcase : codeAmong pos ps.toList = none ∨ ∃ cc t qs, codeAmong pos ps.toList = some (.ref cc) ∧ CodeHd g cc t ∧ g.get? t = none ∧ t ≠ P ∧ s.heap.get? t = some (tabObj qs) ∧ TriplesOk qs.toList ∧ Full g qs)
    (hbody : ∀ cenv g1 h1 ns t cc ps1 qs tk tq tf, cenv.scope = scope → cenv.locals = ns → cenv.globals = mainGlobals → cenv.cells = clos → cenv.code = .ref cc → cenv.qual = qual ++ Str.ofString "." → cenv.builtins = builtinsNs →
      St g g1 → g1.get? P = none → ns ≠ P → t ≠ P → h1.get? P = some (tabObj ps1) → TriplesOk ps1.toList → codeAmong pos ps1.toList = some (.ref cc) → CodeHd g1 cc t → (qs = #[] ∨ Full g1 qs) →
      CB g1 h1 ns t [(Str.ofString "__module__", nm), (Str.ofString "__qualname__", .str qual tq), (Str.ofString "__firstlineno__", .int firstLine tf)] qs →
      wpAny (model prog w) (A.deeper cenv) (execs body cenv) (fun _ s' => ∃ g2 h2 tk2 kvs qs2, s' = { s with heap := h2, toks := tk2 } ∧ St g1 g2 ∧ g2.get? P = none ∧ h2.get? P = some (tabObj ps1) ∧ CB g2 h2 ns t kvs qs2 ∧ kvs.lookup (Str.ofString "__static_attributes__") = none ∧ Bd g2 ns t cc kvs qs2)
        (fun _ _ => False) { s with heap := h1, toks := tk }) 
    (hFull : ∀ g g' qs, St g g' → Full g qs → Full g' qs) (hBm : ∀ g g' ns t cc kvs qs, St g g' → Bd g ns t cc kvs qs → Bd g' ns t cc kvs qs)
    (htype : ∀ g2 h2 ns t cc ps1 qs kvs bT sT tk tn ts, St g g2 → g2.get? P = none → h2.get? P = some (tabObj ps1) → TriplesOk ps1.toList → codeAmong pos ps1.toList = some (.ref cc) → CB g2 h2 ns t (kvs ++ [(Str.ofString "__static_attributes__", .ref sT)]) qs → Bd g2 ns t cc kvs qs →
      CodeHd g2 cc t → g2.get? bT = some { cls := .type "tuple", data := .seq #[.type "object"] } → g2.get? sT = some { cls := .type "tuple", data := .seq ts } → t ≠ P → ns ≠ P → ns ≠ sysModules →
      wpAny (model prog w) A (call (.type "type") [.str name tn, .ref bT, .ref ns] []) Q E { s with heap := h2, toks := tk }) :
    wpAny (model prog w) A (buildClass name qual [.type "object"] [] body scope statics firstLine env pos none) Q E s := by
  unfold buildClass
  refine wpAny_bind (newTupleA (by decide) fun bT h1 st1 gT nT => ?_)
  dsimp only
  refine wpAny_bind (wpE (a := ([.type "object"], false)) (by kernel_rfl) ?_)
  refine wpAny_bind (wpE ty_object ?_)
  refine wpAny_bind (wpE (a := true) rfl ?_)
  rw [if_pos rfl]
  refine wpAny_bind (wpE (a := .type "type") (by kernel_rfl) ?_)
  refine wpAny_bind (wpAny_mkText ?_)
  rw [if_neg (by decide)]
  refine wpAny_bind (wpAny_pure ?_)
  refine wpAny_holding ?_
  refine wpAny_bind (prepare fun bm h2 tk2 st2 gm => ?_)
  dsimp only at st2 ⊢
  refine wpAny_bind (callBound gm pl_prep en_prep (fun hq => wpE (ck_prep _ _ .none) hq) ?_)
  refine wpAny_bind (alT rfl (by size_fits) fun ns h3 st3 gns nns => ?_)
  dsimp only at st3 nns
  refine wpAny_pure ?_
  dsimp only
  have st03 : St s.heap h3 := st1.tr (st2.tr st3)
  have st02 : St s.heap h2 := st1.tr st2
  have nn2 : h2.get? ns = none := none_of_ge nns
  have nns' : s.heap.get? ns = none := by
    cases q : s.heap.get? ns with
    | none => rfl
    | some o => have := st02 _ _ q; rw [nn2] at this; cases this
  have hsys : ns ≠ sysModules := by
    have l3 : mainGlobals < h2.objs.size := (Ns_st hg (C.keep.tr st02)).lt
    intro e
    have : mainGlobals < ns := Nat.lt_of_lt_of_le l3 nns
    rw [e] at this
    exact absurd this (by decide)
  refine wpAny_bind (wpE (a := ()) (by unfold notTheModulesDict; rw [if_neg (by simpa using hsys)]) ?_)
  refine wpAny_bind (wpAny_bind (wpAny_typeOf_ref gns (wpE tl_dict_getitem ?_)))
  rw [if_neg (by decide)]
  refine wpAny_holding ?_
  rw [hs1, if_neg (by decide)]
  refine wpAny_bind (wpAny_pure ?_)
  rw [hs2, if_neg (by decide)]
  refine wpAny_bind (wpAny_pure ?_)
  have C3 : CodeHd h3 c P := (C.cd.keeps C.keep).keeps st03
  have gh3 : St g h3 := C.keep.tr st03
  have gns0 : g.get? ns = none := by
    cases q : g.get? ns with
    | none => rfl
    | some o => have := C.keep _ _ q; rw [nns'] at this; cases this
  refine wpAny_bind (classCode_any (g := g) (Full := Full) hcode C3 (st03 _ _ C.tab) C.trip C.nP gh3 ?_ fun cc t ps1 qs h4 tk4 hx hP1 htr1 hca hcd4 ht4 htq4 htP hccP hgt hnew => ?_)
  · rcases hcase with hn | ⟨cc, t, qs, a1, a2, a3, a4, a5, a6⟩
    · exact .inl hn
    · exact .inr ⟨cc, t, qs, a1, a2, a3, a4, st03 _ _ a5, a6⟩
  have g4 : St g h4 := fun b o e => hx b o (fun q => by rw [q, C.nP] at e; cases e) (gh3 b o e)
  have nsP : ns ≠ P := fun e => by rw [e] at nn2; rw [st02 _ _ C.tab] at nn2; cases nn2
  have nst : ns ≠ t := fun e => by
    rcases hnew with ⟨_, b1, _⟩ | ⟨_, _, b1⟩
    · dsimp only at b1; rw [← e, gns] at b1; cases b1
    · dsimp only at b1; rw [← e, gns] at b1; cases b1
  have nscc : ns ≠ cc := fun e => by
    rcases hnew with ⟨_, _, b1⟩ | ⟨_, b2, _⟩
    · dsimp only at b1; rw [← e, gns] at b1; cases b1
    · obtain ⟨o2, vs2, a1, a2, a3, a4, a5, a6, a7, g2, r2⟩ := b2
      rw [← e, gns0] at g2; cases g2
  have gns4 := hx _ _ nsP gns
  obtain ⟨bmd, ob, hbm, hne0, _, hneP, hbo, hbcls, hbdict, hbdata⟩ := id hb
  rw [hge]
  refine wpAny_bind (wpAny_builtinsFor (Ns_st hg g4) hbm hne0 (g4 _ _ hbo) hbcls hbdict hbdata ?_)
  refine wpAny_bind ?_
  unfold newBodyFrame
  refine wpAny_bind (wpAny_nsGet (Ns_st hg g4) ?_)
  refine al rfl fun fr h5 st5 gfr nfr => ?_
  rw [hcl]
  refine wpAny_bind (wpAny_pure ?_)
  refine wpAny_holding ?_
  dsimp only at st5 nfr
  have g5 : St g h5 := g4.tr st5
  refine wpAny_bind (wpAny_enterFrame (hlim.keeps g5) hroom ?_)
  have D5 : DictAt h5 ns [] := ⟨#[], 0, st5 _ _ gns4, .nil⟩
  generalize hcenv : ({ scope := scope, locals := ns, globals := mainGlobals, cells := (Option.map (fun x => (Str.ofString "__class__", x)) none).toList ++ (Option.map (fun x => (Str.ofString "__classdict__", x)) none).toList ++ clos, qual := qual ++ Str.ofString ".", code := Value.ref cc, frame := some fr, builtins := builtinsNs } : Env) = cenv
  have e1 : cenv.scope = scope := by rw [← hcenv]
  have e2 : cenv.locals = ns := by rw [← hcenv]
  have e3 : cenv.globals = mainGlobals := by rw [← hcenv]
  have e4 : cenv.cells = clos := by rw [← hcenv]; rfl
  have e5 : cenv.code = .ref cc := by rw [← hcenv]
  have e6 : cenv.qual = qual ++ Str.ofString "." := by rw [← hcenv]
  have e7 : cenv.builtins = builtinsNs := by rw [← hcenv]
  have ek : cenv.scope.kind = .class := by rw [e1]; exact hk
  rw [← e2] at D5
  refine wpAny_bind (wpAny_onRaise ?_)
  refine wpAny_bind (cload_name ek (by rw [e1]; exact hn1) e3 D5 rfl (Ns_st hg g5) hmn ?_)
  refine wpAny_bind (cstore ek (.inl (by unfold Env.kindOf; rw [e1]; exact hn2)) D5 rfl fun h6 sb6 D6 => ?_)
  refine wpAny_bind (wpAny_mkText ?_)
  refine wpAny_bind (cstore ek (.inr ⟨by unfold Env.kindOf; rw [e1]; exact hn3, by decide +kernel⟩) D6 rfl fun h7 sb7 D7 => ?_)
  refine wpAny_bind (wpAny_mkInt ?_)
  refine wpAny_bind (cstore ek (.inr ⟨by unfold Env.kindOf; rw [e1]; exact hn4, by decide +kernel⟩) D7 rfl fun h8 sb8 D8 => ?_)
  refine wpAny_pure ?_
  rw [e2] at sb6 sb7 sb8 D8
  dsimp only at sb6 sb7 sb8
  have up : ∀ b, b ≠ ns → h8.get? b = h5.get? b := fun b hb => (sb8.2 b hb).trans ((sb7.2 b hb).trans (sb6.2 b hb))
  have g8 : St g h8 := fun b o e => (up b (fun q => by rw [q, gns0] at e; cases e)).trans (g5 b o e)
  have hP8 : h8.get? P = some (tabObj ps1) := (up P (Ne.symm nsP)).trans (st5 _ _ hP1)
  have ht8 : h8.get? t = some (tabObj qs) := (up t (Ne.symm nst)).trans (st5 _ _ ht4)
  have hid : ∀ {b o}, h8.get? b = some o → b ≠ ns → b ≠ t → b ≠ P → (hideAll h8 [ns, t, P]).get? b = some o := fun {b o} e x y z => hideAll_get _ e (by
    intro hm
    rcases List.mem_cons.mp hm with q | hm
    · exact x q
    · rcases List.mem_cons.mp hm with q | hm
      · exact y q
      · rcases List.mem_cons.mp hm with q | hm
        · exact z q
        · cases hm)
  have gg1 : St g (hideAll h8 [ns, t, P]) := fun b o e => hid (g8 b o e) (fun q => by rw [q, gns0] at e; cases e) (fun q => by rw [q, hgt] at e; cases e) (fun q => by rw [q, C.nP] at e; cases e)
  have hccg : CodeHd (hideAll h8 [ns, t, P]) cc t := by
    obtain ⟨o2, vs2, a1, a2, a3, a4, a5, a6, a7, g2, r2, r3, r4, r5, r6, r7, r8, r9, r10⟩ := hcd4
    exact ⟨o2, vs2, a1, a2, a3, a4, a5, a6, a7, hid ((up cc (Ne.symm nscc)).trans (st5 _ _ g2)) (Ne.symm nscc) r10 hccP, r2, r3, r4, r5, r6, r7, r8, r9, r10⟩
  have CB8 : CB (hideAll h8 [ns, t, P]) h8 ns t [(Str.ofString "__module__", nm), (Str.ofString "__qualname__", .str qual _), (Str.ofString "__firstlineno__", .int firstLine _)] qs :=
    ⟨fun _ _ e => of_hideAll _ e, hideAll_none _ (.head _), hideAll_none _ (.tail _ (.head _)), nst, D8, ht8, htq4⟩
  have hF8 : qs = #[] ∨ Full (hideAll h8 [ns, t, P]) qs := by
    rcases hnew with ⟨x, _⟩ | ⟨x, _⟩
    · exact .inl x
    · exact .inr (hFull _ _ _ gg1 x)
  dsimp only
  refine wpAny_bind (wpAny_run (codeAny_body hann hdoc (wpAny_mono (hbody cenv (hideAll h8 [ns, t, P]) h8 ns t cc ps1 qs _ _ _ e1 e2 e3 e4 e5 e6 e7 gg1 (hideAll_none _ (.tail _ (.tail _ (.head _)))) nsP htP hP8 htr1 hca hccg hF8 CB8) (fun fl s' hs => ?_) fun _ _ hF => hF.elim)))
  obtain ⟨g2, h9, tk9, kvs, qs2, rfl, sg, nP2, hP9, CB9, hkv, hBd⟩ := hs
  dsimp only
  refine wpAny_bind (wpAny_onRaise ?_)
  refine wpAny_bind (wpAny_mkStrs fun vs => ?_)
  refine wpAny_bind (alTT fun sT h10 st10 gsT nsT => ?_)
  dsimp only at st10 nsT
  have D10 : DictAt h10 cenv.locals kvs := by rw [e2]; exact CB9.dict.keeps st10
  refine wpAny_bind (cstore ek (.inr ⟨by unfold Env.kindOf; rw [e1]; exact hn5, by decide +kernel⟩) D10 (by rw [hkv]) fun h11 sb11 D11 => ?_)
  rw [e2] at sb11 D11
  dsimp only at sb11
  refine wpAny_pure ?_
  rw [if_neg (by decide)]
  have nsT9 : h9.get? sT = none := none_of_ge nsT
  have nesT : sT ≠ ns := fun e => by rw [e] at nsT9; obtain ⟨es, n, ge, _⟩ := CB9.dict; rw [ge] at nsT9; cases nsT9
  have tsT : sT ≠ t := fun e => by rw [e, CB9.tab] at nsT9; cases nsT9
  have PsT : sT ≠ P := fun e => by rw [e, hP9] at nsT9; cases nsT9
  have hid2 : ∀ {b o}, h11.get? b = some o → b ≠ ns → b ≠ t → b ≠ P → (hideAll h11 [ns, t, P]).get? b = some o := fun {b o} e x y z => hideAll_get _ e (by
    intro hm
    rcases List.mem_cons.mp hm with q | hm
    · exact x q
    · rcases List.mem_cons.mp hm with q | hm
      · exact y q
      · rcases List.mem_cons.mp hm with q | hm
        · exact z q
        · cases hm)
  have g2n : St g2 (hideAll h11 [ns, t, P]) := fun b o e => by
    have bn : b ≠ ns := fun q => by rw [q, CB9.nns] at e; cases e
    exact hid2 ((sb11.2 b bn).trans (st10 _ _ (CB9.keep b o e))) bn (fun q => by rw [q, CB9.nt] at e; cases e) (fun q => by rw [q, nP2] at e; cases e)
  refine wpAny_bind ?_
  have bTn : s.heap.get? bT = none := none_of_ge nT
  have bTP : bT ≠ P := fun e => by rw [e, C.tab] at bTn; cases bTn
  have bTns : bT ≠ ns := fun e => by have := st2 _ _ gT; rw [e, nn2] at this; cases this
  have bTt : bT ≠ t := fun e => by
    rcases hnew with ⟨_, b1, _⟩ | ⟨_, _, b1⟩
    · dsimp only at b1; rw [← e, st3 _ _ (st2 _ _ gT)] at b1; cases b1
    · dsimp only at b1; rw [← e, st3 _ _ (st2 _ _ gT)] at b1; cases b1
  have gbT : (hideAll h8 [ns, t, P]).get? bT = some { cls := .type "tuple", data := .seq #[.type "object"] } :=
    hid ((up bT bTns).trans (st5 _ _ (hx _ _ bTP (st3 _ _ (st2 _ _ gT))))) bTns bTt bTP
  have CB11 : CB (hideAll h11 [ns, t, P]) h11 ns t (kvs ++ [(Str.ofString "__static_attributes__", .ref sT)]) qs2 :=
    ⟨fun _ _ e => of_hideAll _ e, hideAll_none _ (.head _), hideAll_none _ (.tail _ (.head _)), nst, D11, (sb11.2 t (Ne.symm nst)).trans (st10 _ _ CB9.tab), CB9.trip⟩
  refine wpAny_mono (htype (hideAll h11 [ns, t, P]) h11 ns t cc ps1 qs2 kvs bT sT _ _ _ ((gg1.tr sg).tr g2n) (hideAll_none _ (.tail _ (.tail _ (.head _)))) ((sb11.2 P (Ne.symm nsP)).trans (st10 _ _ hP9)) htr1 hca CB11 (hBm _ _ _ _ _ _ _ g2n hBd) ((hccg.keeps sg).keeps g2n) (g2n _ _ (sg _ _ gbT)) (hid2 ((sb11.2 sT nesT).trans gsT) nesT tsT PsT) htP nsP hsys) (fun v s' hq => wpAny_pure hq) fun _ _ e => e
end
end Mine
end
section
open PySem PySem.W PySem.Calls PyProof.Rows PySem.Spec
set_option maxRecDepth 100000
set_option maxHeartbeats 4000000
namespace Mine
section
variable {α : Type} {prog : Program} {w : World} {M : Model} {A : Around} {E : Value → Shared → Prop} {s : Shared}
theorem wIN {c : Prop} [Decidable c] {a b : Sem α} {Q : α → Shared → Prop} (hc : ¬ c) (h : wpAny M A b Q E s) : wpAny M A (if c then a else b) Q E s := by rw [if_neg hc]; exact h
theorem wIP {c : Prop} [Decidable c] {a b : Sem α} {Q : α → Shared → Prop} (hc : c) (h : wpAny M A a Q E s) : wpAny M A (if c then a else b) Q E s := by rw [if_pos hc]; exact h

theorem EntsL.len {es : List DictEntry} {kvs : List (Str × Value)} (x : EntsL es kvs) : es.length = kvs.length := by
  induction x with
  | nil => rfl
  | cons _ ih => simp [ih]
theorem EntsL.anyA {es : Array DictEntry} {kvs : List (Str × Value)} (x : EntsL es.toList kvs) (n : Str) : (es.any fun e => e.key.isStr n) = (kvs.lookup n).isSome := by
  rw [← Array.any_toList]; exact x.any n
theorem EntsL.findE {es : List DictEntry} {kvs : List (Str × Value)} (x : EntsL es kvs) {n : Str} {v : Value} (h : kvs.lookup n = some v) : ∃ e, es.find? (·.key.isStr n) = some e ∧ e.val = v := by
  have := x.find n
  rw [h] at this
  cases q : es.find? (·.key.isStr n) with
  | none => rw [q] at this; cases this
  | some e => rw [q] at this; exact ⟨e, rfl, Option.some.inj this⟩

theorem wF1 {β : Type} {x : α} {b : β} {f : α → β → Sem (ForInStep β)} {Q : β → Shared → Prop} (h : wpAny M A (f x b) (fun r s' => match r with | .done b' => Q b' s' | .yield b' => Q b' s') E s) : wpAny M A (forIn #[x] b f) Q E s := by
  have e : forIn (m := Sem) #[x] b f = forIn [x] b f := by rw [← List.forIn_toArray]
  rw [e, List.forIn_cons]
  refine wpAny_bind (wpAny_mono h (fun r s' hr => ?_) fun _ _ q => q)
  cases r with
  | done b' => exact wpAny_pure hr
  | yield b' =>
    show wpAny M A (forIn [] b' f) Q E s'
    rw [List.forIn_nil]; exact wpAny_pure hr
theorem slotsRead {es : Array DictEntry} {kvs : List (Str × Value)} {sl : Addr} {t : Tok} {nn : Nat} {Q : Builtin.Slots.Plan → Shared → Prop} (r : EntsL es.toList kvs) (hsl : kvs.lookup (Str.ofString "__slots__") = some (.ref sl))
    (gs : s.heap.get? sl = some { cls := .type "list", data := .seq #[.str (Str.ofString "obj") t] nn }) (hno : kvs.lookup (Str.ofString "obj") = none)
    (h : ∀ h', St s.heap h' → Q { names := [Str.ofString "obj"], dict := false, weak := false, inherited := [] } { s with heap := h' }) :
    wpAny (model prog w) A (Builtin.Slots.read (Str.ofString "K") [.type "object"] es) Q E s := by
  obtain ⟨e, he, hv⟩ := r.findE hsl
  have he' : es.find? (·.key.isStr (Str.ofString "__slots__")) = some e := by rw [← Array.find?_toList]; exact he
  unfold Builtin.Slots.read
  refine wpAny_bind (wpE (a := .type "object") (by kernel_rfl) ?_)
  refine wpAny_bind (wpE (a := []) (by kernel_rfl) ?_)
  refine wpAny_bind (wpE (a := false) (by kernel_rfl) ?_)
  refine wpAny_bind (wpE (a := false) (by kernel_rfl) ?_)
  refine wpAny_bind (wpE (a := false) (by kernel_rfl) ?_)
  rw [he']
  refine wpAny_bind (wpAny_rule ?_)
  rw [hv]
  refine wpAny_bind (wpAny_bind (wpAny_load gs (wpAny_pure ?_)))
  refine wIN (by decide) ?_
  refine wpAny_bind (collect_list (vs := [.str (Str.ofString "obj") t]) ⟨_, gs, rfl, _, rfl⟩ ?_ (by rw [sizeLine_eq]; exact Nat.le_of_ble_eq_true rfl))
  have stN : St s.heap ((s.heap.push (seqObj "list" #[] 0)).update s.heap.objs.size (Obj.mapSeq (· ++ #[.str (Str.ofString "obj") t]))) := fun b o q => by
    rw [Heap.get?_update_ne _ _ _ _ (Nat.ne_of_lt (Heap.lt_size q))]
    exact Heap.get?_push_of_some _ q
  generalize ((s.heap.push (seqObj "list" #[] 0)).update s.heap.objs.size (Obj.mapSeq (· ++ #[.str (Str.ofString "obj") t]))) = h1 at stN
  refine wIP rfl ?_
  refine wpAny_bind (wpE (a := false) (by kernel_rfl) ?_)
  refine wIN (by decide) ?_
  refine wpAny_bind (wpE (a := (false, false, #[Str.ofString "obj"], [])) (by kernel_rfl) ?_)
  have ea : (es.any fun x => x.key.isStr (Builtin.Slots.mangle (Str.ofString "K") (Str.ofString "obj"))) = false := by
    have em : Builtin.Slots.mangle (Str.ofString "K") (Str.ofString "obj") = Str.ofString "obj" := by decide +kernel
    rw [em, ← Array.any_toList]
    rw [r.any, hno]; rfl
  refine wpAny_bind (wF1 ?_)
  refine wIN (by decide +kernel) ?_
  refine wIN (by rw [ea]; decide) ?_
  refine wIN (by decide +kernel) ?_
  refine wpAny_pure ?_
  refine wpAny_bind (wpE (a := (false, false)) (by kernel_rfl) ?_)
  exact wpAny_pure (h h1 stN)
end
end Mine
end
section
open PySem PySem.W PySem.Calls PyProof.Rows PySem.Spec
set_option maxRecDepth 100000
set_option maxHeartbeats 4000000
namespace Mine
def ClsAt (h : Heap) (C : Addr) (cd : ClassData) (sl : Array (Option Value)) : Prop := h.get? C = some { cls := .type "type", data := .cls cd, slots := sl }
section
variable {α : Type} {prog : Program} {w : World} {M : Model} {A : Around} {E : Value → Shared → Prop} {s : Shared}
theorem ClsAt.same {h h' : Heap} {C b : Addr} {cd sl} (x : ClsAt h C cd sl) (sb : Heap.SameBut b h h') (e : C ≠ b) : ClsAt h' C cd sl := (sb.2 C e).trans x
theorem ClsAt.st {h h' : Heap} {C : Addr} {cd sl} (x : ClsAt h C cd sl) (k : St h h') : ClsAt h' C cd sl := k _ _ x
theorem slotSetC {C : Addr} {cd sl sl'} {i : Nat} {v : Option Value} {Q : Unit → Shared → Prop} (x : ClsAt s.heap C cd sl) (hi : i < 100) (hs : (sl ++ Array.replicate (i + 1 - sl.size) none).setIfInBounds i v = sl')
    (h : ∀ h', Heap.SameBut C s.heap h' → ClsAt h' C cd sl' → Q () { s with heap := h' }) : wpAny M A (setSlotAt C i v) Q E s := by
  unfold setSlotAt
  refine wIN (by rw [sizeLine_eq]; omega) ?_
  refine wpAny_updatePart x (h _ (Heap.SameBut.update ..) ?_)
  unfold ClsAt
  rw [← hs]
  exact Heap.get?_update_self _ x rfl
theorem updClsC {C : Addr} {cd cd' sl} {f : ClassData → ClassData} {Q : Unit → Shared → Prop} (x : ClsAt s.heap C cd sl) (hf : f cd = cd') (hp : (Data.cls cd').pastItsLine = none)
    (h : ∀ h', Heap.SameBut C s.heap h' → ClsAt h' C cd' sl → Q () { s with heap := h' }) : wpAny M A (updateCls C f) Q E s := by
  unfold updateCls
  refine wpAny_bind (wpAny_load x ?_)
  have e : (s.heap.update C (Obj.mapCls f)).get? C = some { cls := .type "type", data := .cls cd', slots := sl } := by
    rw [← hf]; exact Heap.get?_update_self _ x rfl
  refine wpAny_bind (wpAny_update x (wpAny_lookBehind e hp (h _ (Heap.SameBut.update ..) e)))
theorem dgE {a : Addr} {kvs} {name : Str} {v : Option Value} {Q : Option Value → Shared → Prop} (x : DictAt s.heap a kvs) (hv : kvs.lookup name = v) (h : Q v s) : wpAny M A (nsGet a name) Q E s := by subst hv; exact dget x h
theorem wFL {β γ : Type} {x : γ} {l : List γ} {b : β} {f : γ → β → Sem (ForInStep β)} {Q : β → Shared → Prop} (h : wpAny M A (f x b) (fun r s' => match r with | .done b' => Q b' s' | .yield b' => wpAny M A (forIn l b' f) Q E s') E s) : wpAny M A (forIn (x :: l) b f) Q E s := by
  rw [List.forIn_cons]
  refine wpAny_bind (wpAny_mono h (fun r s' hr => ?_) fun _ _ q => q)
  cases r with
  | done b' => exact wpAny_pure hr
  | yield b' => exact hr
theorem wFN {β γ : Type} {b : β} {f : γ → β → Sem (ForInStep β)} {Q : β → Shared → Prop} (h : Q b s) : wpAny M A (forIn [] b f) Q E s := by
  rw [List.forIn_nil]; exact wpAny_pure h
theorem tlC {C : Addr} {cd sl} {kvs : List (Str × Value)} {name : Str} {r : Option Value} {Q : Option Value → Shared → Prop} (x : ClsAt s.heap C cd sl) (hm : cd.mro = [.ref C, .type "object"]) (D : DictAt s.heap cd.ns kvs)
    (hr : (kvs.lookup name).or (builtinOwn "object" name) = r) (h : Q r s) : wpAny M A (typeLookup (.ref C) name) Q E s := by
  rw [typeLookup_eq]
  refine wpAny_bind (wpAny_bind (wpAny_bind (wpAny_load x (wpAny_pure (wpAny_pure ?_)))))
  rw [hm, lookupAlong_cons]
  refine wpAny_bind (wpAny_bind (wpAny_bind (wpAny_load x (wpAny_pure (dget D ?_)))))
  cases q : kvs.lookup name with
  | some v => rw [q] at hr; have hr' : some v = r := hr; exact wpAny_pure (hr' ▸ h)
  | none =>
    rw [q] at hr
    show wpAny M A (lookupAlong [.type "object"] name) Q E s
    rw [lookupAlong_cons]
    refine wpAny_bind (wpE (a := builtinOwn "object" name) rfl ?_)
    cases q2 : builtinOwn "object" name with
    | some v => rw [q2] at hr; have hr' : some v = r := hr; exact wpAny_pure (hr' ▸ h)
    | none => rw [q2] at hr; have hr' : none = r := hr; exact wpE (a := none) rfl (hr' ▸ h)
end
end Mine
end
section
open PySem PySem.W PySem.Calls PyProof.Rows PySem.Spec
set_option maxRecDepth 100000
set_option maxHeartbeats 4000000
namespace Mine
section
variable {α : Type} {prog : Program} {w : World} {M : Model} {A : Around} {E : Value → Shared → Prop} {s : Shared}

theorem subCC {h : Heap} {C : Addr} {cd sl} {base : Value} (x : ClsAt h C cd sl) (hm : cd.mro = [.ref C, .type "object"]) (hb : base = .ref C ∨ base = .type "object") : Looks M h (isSubtype (.ref C) base) true := by
  intro A Q E s k q
  unfold isSubtype
  refine wpAny_bind (wpAny_bind (wpAny_bind (wpAny_load (k _ _ x) (wpAny_pure (wpAny_pure ?_)))))
  rw [hm]
  refine wIN Bool.false_ne_true ?_
  refine wpE (a := true) ?_ q
  rcases hb with rfl | rfl
  · simp
  · simp
theorem supCall {C : Addr} {cd sl} {Q : Value → Shared → Prop} (x : ClsAt s.heap C cd sl) (hm : cd.mro = [.ref C, .type "object"])
    (h : ∀ so h', St s.heap h' → h'.get? so = some { cls := .type "super", data := .fields #[.ref C, .ref C, .ref C] } → Q (.ref so) { s with heap := h' }) :
    wpAny (model prog w) A (call (.type "super") [.ref C, .ref C]) Q E s := by
  refine ks_callType_codesW (Q₁ := fun obj s₁ => obj = .ref s.heap.objs.size ∧ s₁ = { s with heap := s.heap.push { cls := .type "super", data := .fields #[.none, .none, .none] } }) F.ks_called_super
    (fun hq => ks_wpAny_checkTypeCall_super x rfl hq) F.ks_entry_super_init (ks_code_super_new _ _ ⟨rfl, rfl⟩) fun obj s₁ h₁ => ?_
  obtain ⟨rfl, rfl⟩ := h₁
  have up : St s.heap (s.heap.push { cls := .type "super", data := .fields #[.none, .none, .none] }) := fun y o e => Heap.get?_push_of_some _ e
  have hso : (s.heap.push { cls := .type "super", data := .fields #[.none, .none, .none] }).get? s.heap.objs.size = some { cls := .type "super", dict := none, data := .fields #[.none, .none, .none], slots := #[] } := Heap.get?_push_at rfl rfl
  have x' := x.st up
  have hsub' := subCC (M := model prog w) (base := .ref C) x' hm (.inl rfl)
  refine ⟨⟨_, hso, rfl⟩, F.ks_initArgs_super _ _ _, ?_⟩
  unfold Builtin.«super.__init__» noKeywords
  repeat (first | (with_reducible refine ks_wpAny_isType_cls x' rfl ?_) | (with_reducible refine Looks.at hsub' ?_) | (with_reducible refine ks_wpAny_super_set3 hso ?_) | wp_step)
  all_goals first
    | (intro h' e k; exact ⟨rfl, h _ h' (fun y o ey => k y o (Nat.ne_of_lt (Heap.lt_size ey)) (up y o ey)) e⟩)
    | (refine ks_wpAny_super_set3 hso ?_; intro h' e k; exact ⟨rfl, h _ h' (fun y o ey => k y o (Nat.ne_of_lt (Heap.lt_size ey)) (up y o ey)) e⟩)
theorem ty_ois : typeOf (.builtin "object.__init_subclass__") = pure (.type "classmethod_descriptor") := by kernel_rfl
theorem ck_cmdget2 (b c : Value) : checkBuiltinCall "classmethod_descriptor.__get__" ⟨[.builtin "object.__init_subclass__", b, c], []⟩ = pure () := by kernel_rfl
theorem en_ois : entryFor table "object.__init_subclass__" = some Builtin.«object.__init_subclass__» := entryFor_of_tree (by kernel_rfl)
theorem pl_ois : plainId "object.__init_subclass__" = true := by decide +kernel
theorem tl_sup_ga : typeLookup (.type "super") "__getattribute__" = pure (some (.builtin "super.__getattribute__")) := F.ks_slot_super_ga.lookup
theorem own_ois : builtinOwn "object" "__init_subclass__" = some (.builtin "object.__init_subclass__") := by rw [builtinOwn_eq_fast]; kernel_rfl
theorem isTypeC {C : Addr} {cd sl} {Q : Bool → Shared → Prop} (x : ClsAt s.heap C cd sl) (h : Q true s) : wpAny M A (isType (.ref C)) Q E s := ks_wpAny_isType_cls x rfl h
theorem cmdgetC {C : Addr} {cd sl} {Q : PySem.Fin → Shared → Prop} (x : ClsAt s.heap C cd sl) (hm : cd.mro = [.ref C, .type "object"])
    (h : ∀ bm h', St s.heap h' → h'.get? bm = some { cls := .type "builtin_function_or_method", data := .fields #[.builtin "object.__init_subclass__", .ref C] } → Q (.done (.ret (.ref bm))) { s with heap := h' }) :
    wpAny M A (Builtin.«classmethod_descriptor.__get__» ⟨[.builtin "object.__init_subclass__", .none, .ref C], []⟩) Q E s := by
  unfold Builtin.«classmethod_descriptor.__get__»
  refine wpAny_bind (wpE (a := (.builtin "object.__init_subclass__", none, some (.ref C))) (by kernel_rfl) ?_)
  refine wpAny_bind (wpAny_pure ?_)
  refine wpAny_bind (isTypeC x ?_)
  refine wIN (by decide) ?_
  have e1 : (Value.type (".".intercalate ("object.__init_subclass__".cutAt '.').dropLast)) = .type "object" := by decide +kernel
  refine wpAny_bind ((subCC x hm (.inr e1)).here ?_)
  refine wIN (by decide) ?_
  exact wpAny_bind (alT rfl (by size_fits) fun bm h' st g _ => wpAny_pure (h bm h' st g))

theorem stNs {h : Heap} (hst : h.get? cStatics = some { cls := .none, data := .dict #[] }) : h.Ns cStatics (fun _ => none) := ⟨_, #[], 0, hst, rfl, fun _ he => absurd he (by simp), fun _ => rfl⟩
theorem opq {C : Addr} {Q : Option Str → Shared → Prop} (hst : s.heap.get? cStatics = some { cls := .none, data := .dict #[] }) (h : Q none s) : wpAny M A (opaqueClassAbove (.ref C)) Q E s := by
  unfold opaqueClassAbove anyOpaqueLoaded
  exact wpAny_bind (wpAny_bind (wpAny_nsGet (stNs hst) (wpAny_pure (wIP rfl (wpAny_pure h)))))
theorem nopq {C : Addr} {a b : String} {Q : Unit → Shared → Prop} (hst : s.heap.get? cStatics = some { cls := .none, data := .dict #[] }) (h : Q () s) : wpAny M A (notOfAnOpaqueClass a b (.ref C)) Q E s := by
  unfold notOfAnOpaqueClass
  exact wpAny_bind (opq hst (wpAny_pure h))
theorem supGet {C so : Addr} {cd sl} {tk : Tok} {Q : PySem.Fin → Shared → Prop} (x : ClsAt s.heap C cd sl) (hm : cd.mro = [.ref C, .type "object"]) (hst : s.heap.get? cStatics = some { cls := .none, data := .dict #[] })
    (g : s.heap.get? so = some { cls := .type "super", data := .fields #[.ref C, .ref C, .ref C] })
    (h : ∀ bm h', St s.heap h' → h'.get? bm = some { cls := .type "builtin_function_or_method", data := .fields #[.builtin "object.__init_subclass__", .ref C] } → Q (.done (.ret (.ref bm))) { s with heap := h' }) :
    wpAny (model prog w) A (Builtin.«super.__getattribute__» ⟨[.ref so, .str (Str.ofString "__init_subclass__") tk], []⟩) Q E s := by
  unfold Builtin.«super.__getattribute__»
  refine wpAny_bind (wpAny_pure ?_)
  refine wIN (by decide) ?_
  refine wpAny_bind (wpAny_pure ?_)
  refine wpAny_bind (wpAny_field (x := .ref C) g rfl rfl ?_)
  refine wpAny_bind (wpAny_field (x := .ref C) g rfl rfl ?_)
  refine wpAny_bind (wpAny_field (x := .ref C) g rfl rfl ?_)
  refine wIN (by simp; decide +kernel) ?_
  refine wpAny_bind (nopq hst ?_)
  refine wIN Bool.false_ne_true ?_
  refine wpAny_bind (wpAny_bind (wpAny_bind (wpAny_load x (wpAny_pure (wpAny_pure ?_)))))
  rw [hm]
  have e1 : List.drop 1 (List.dropWhile (fun x => x != Value.ref C) [Value.ref C, .type "object"]) = [.type "object"] := by simp
  rw [e1]
  refine wpAny_bind (wFL ?_)
  refine wpAny_bind (wpE (a := builtinOwn "object" (Str.ofString "__init_subclass__")) rfl ?_)
  rw [own_ois]
  refine wpAny_bind (wpE ty_ois ?_)
  refine wpAny_bind (wpE tl_cmd_get ?_)
  refine wpAny_bind (wpAny_holding ?_)
  rw [if_pos (by simp)]
  refine callB pl_cmdget en_cmdget (ck_cmdget2 _ _) (cmdgetC x hm fun bm h' st gb => ?_)
  exact wpAny_bind (wpAny_pure (wpAny_pure (wpAny_pure (h bm h' st gb))))

theorem supAttr {C so : Addr} {cd sl} {Q : Value → Shared → Prop} (x : ClsAt s.heap C cd sl) (hm : cd.mro = [.ref C, .type "object"]) (hst : s.heap.get? cStatics = some { cls := .none, data := .dict #[] })
    (g : s.heap.get? so = some { cls := .type "super", data := .fields #[.ref C, .ref C, .ref C] })
    (h : ∀ bm h' tk, St s.heap h' → h'.get? bm = some { cls := .type "builtin_function_or_method", data := .fields #[.builtin "object.__init_subclass__", .ref C] } → Q (.ref bm) { s with heap := h', toks := tk }) :
    wpAny (model prog w) A (getAttr (.ref so) (Str.ofString "__init_subclass__")) Q E s := by
  unfold getAttr getAttrBy
  refine wpAny_bind (wpAny_mkText ?_)
  refine wpAny_holding ?_
  refine wpAny_bind (wpAny_typeOf_ref g ?_)
  refine wpAny_bind (wpE tl_sup_ga ?_)
  refine wIN Bool.false_ne_true ?_
  unfold getAttrByItsOwn
  refine wpAny_bind (wpAny_pure ?_)
  refine wpAny_bind (wpAny_attempt (wpAny_holding ?_))
  unfold callGetattribute
  refine wIN (by decide) ?_
  unfold boundAndCalled
  refine wpAny_bind (wpE (F.ks_slot_super_ga.bind _) ?_)
  refine wpAny_call_entry F.ks_slot_super_ga ⟨_, g, rfl⟩ F.ks_entry_super_ga (supGet x hm hst g fun bm h' st gb => ?_) (F.ks_gaArgs_super _ _)
  exact ⟨_, rfl, wpAny_pure (h bm h' _ st gb)⟩

theorem sub_type_module : isSubtype (.type "type") (.type "module") = pure false := by rw [isSubtype_type]; kernel_rfl
theorem sg_some : (Manifest.signature? "object.__init_subclass__").isSome = true := by decide +kernel
theorem sg_args (v : Value) : Bind.checkArgs "object.__init_subclass__" { (Manifest.signature? "object.__init_subclass__").get sg_some with full := toString (Str.ofString "cmp_to_key.<locals>.K").toString ++ toString "." ++ toString (Bind.lastOf "object.__init_subclass__") } ⟨[v], []⟩ = pure () := by kernel_rfl
theorem sg_kind : builtinKind "object.__init_subclass__" = some .classMethod := by kernel_rfl
theorem sg_va : Manifest.varargsMethods.contains "object.__init_subclass__" = false := by decide +kernel
theorem initSub {C bm : Addr} {cd sl} {Q : Value → Shared → Prop} (x : ClsAt s.heap C cd sl) (hq0 : cd.qualname = Str.ofString "cmp_to_key.<locals>.K")
    (g : s.heap.get? bm = some { cls := .type "builtin_function_or_method", data := .fields #[.builtin "object.__init_subclass__", .ref C] }) (h : Q .none s) :
    wpAny (model prog w) A (call (.ref bm) [] []) Q E s := by
  refine callBound g pl_ois en_ois (fun hq => ?_) ?_
  · unfold checkBoundCall
    rw [(Option.some_get sg_some).symm, sg_kind]
    refine wIN (by decide) ?_
    refine wpAny_bind (wpAny_bind (wpAny_typeOf_ref x (wpE sub_type_module ?_)))
    refine wIN (by rw [sg_va]; decide) ?_
    refine wpAny_bind (isTypeC x ?_)
    refine wIP rfl ?_
    refine wpAny_bind (wpAny_pure ?_)
    refine wpAny_bind (wpAny_bind (wpAny_load x (wpAny_pure ?_)))
    refine wpAny_bind (wpAny_typeOf_ref x ?_)
    refine wIP rfl ?_
    rw [hq0]
    exact wpE (sg_args _) hq
  · exact wpAny_pure h
end
end Mine
end
section
open PySem PySem.W PySem.Calls PyProof.Rows PySem.Spec
set_option maxRecDepth 100000
set_option maxHeartbeats 4000000
namespace Mine
theorem sub_tuple_tuple : isSubtype (.type "tuple") (.type "tuple") = pure true := by rw [isSubtype_type]; kernel_rfl
theorem sub_dict_dict : isSubtype (.type "dict") (.type "dict") = pure true := by rw [isSubtype_type]; kernel_rfl
theorem tl_dict_iter : typeLookup (.type "dict") "__iter__" = pure (some (.builtin "dict.__iter__")) := by rw [typeLookup_type, builtinLookup_eq_fast]; kernel_rfl
abbrev kvC (mv : Value) (fl : Int) (tf : Tok) (sl fI fL fG fE fLe fGe sA : Addr) (r : List (Str × Value)) : List (Str × Value) :=
  (Str.ofString "__module__", mv) :: (Str.ofString "__firstlineno__", .int fl tf) :: (Str.ofString "__slots__", .ref sl) :: (Str.ofString "__init__", .ref fI) :: (Str.ofString "__lt__", .ref fL) ::
      (Str.ofString "__gt__", .ref fG) :: (Str.ofString "__eq__", .ref fE) :: (Str.ofString "__le__", .ref fLe) :: (Str.ofString "__ge__", .ref fGe) :: (Str.ofString "__hash__", .none) :: (Str.ofString "__static_attributes__", .ref sA) :: r
section
variable {prog : Program} {w : World} {M : Model} {A : Around} {E : Value → Shared → Prop} {s : Shared}
theorem isiA {a : Addr} {T : String} {d : Data} {U : String} {Q : Bool → Shared → Prop} {dd : Option Addr} {sl : Array (Option Value)} {b : Bool} (g : s.heap.get? a = some { cls := .type T, dict := dd, data := d, slots := sl }) (hs : isSubtype (.type T) (.type U) = pure b) (h : Q b s) : wpAny M A (isInstance (.ref a) (.type U)) Q E s := by
  unfold isInstance
  exact wpAny_bind (wpAny_typeOf_ref g (wpE hs h))

theorem wFEntL {β : Type} {b : β} {f : DictEntry → β → Sem (ForInStep β)} {Q : β → Shared → Prop} {es : List DictEntry} {kvs : List (Str × Value)} (r : EntsL es kvs)
    (step : ∀ hh k t v, (k, v) ∈ kvs → ∀ Q' : ForInStep β → Shared → Prop, Q' (.yield b) s → wpAny M A (f ⟨hh, .str k t, v⟩ b) Q' E s) (h : Q b s) : wpAny M A (forIn es b f) Q E s := by
  induction r with
  | nil => exact wFN h
  | cons r ih => exact wFL (step _ _ _ _ (.head _) _ (ih fun hh k t v hm => step hh k t v (.tail _ hm)))
theorem wFEnt {β : Type} {b : β} {f : DictEntry → β → Sem (ForInStep β)} {Q : β → Shared → Prop} {es : Array DictEntry} {kvs : List (Str × Value)} (r : EntsL es.toList kvs)
    (step : ∀ hh k t v, (k, v) ∈ kvs → ∀ Q' : ForInStep β → Shared → Prop, Q' (.yield b) s → wpAny M A (f ⟨hh, .str k t, v⟩ b) Q' E s) (h : Q b s) : wpAny M A (forIn es b f) Q E s := by
  have e : forIn (m := Sem) es b f = forIn es.toList b f := by cases es; simp
  rw [e]
  exact wFEntL r step h
def Hush (h : Heap) (v : Value) : Prop := ∃ T, (∀ s : Shared, s.heap = h → s.TypeIs v T) ∧ typeLookup (.type T) (Str.ofString "__set_name__") = pure none ∧ ∀ k t, Builtin.laidUnderItsOwnName (.str k t) v = false

theorem typeNew {tn tq tf to : Tok} {bT ns sl fI fL fG fE fLe fGe sA : Addr} {firstLine : Int} {mv : Value} {qual : Str} {nn : Nat} {kvs : List (Str × Value)} {P : PySem.Fin → Shared → Prop}
    (gb : s.heap.get? bT = some { cls := .type "tuple", data := .seq #[.type "object"] }) (D : DictAt s.heap ns kvs) (hsys : ns ≠ sysModules) 
    (hkvs : kvs = [(Str.ofString "__module__", mv), (Str.ofString "__qualname__", .str qual tq), (Str.ofString "__firstlineno__", .int firstLine tf), (Str.ofString "__slots__", .ref sl), (Str.ofString "__init__", .ref fI), (Str.ofString "__lt__", .ref fL),
      (Str.ofString "__gt__", .ref fG), (Str.ofString "__eq__", .ref fE), (Str.ofString "__le__", .ref fLe), (Str.ofString "__ge__", .ref fGe), (Str.ofString "__hash__", .none), (Str.ofString "__static_attributes__", .ref sA)])
    (gsl : s.heap.get? sl = some { cls := .type "list", data := .seq #[.str (Str.ofString "obj") to] nn }) (hq0 : qual = Str.ofString "cmp_to_key.<locals>.K") (hst : s.heap.get? cStatics = some { cls := .none, data := .dict #[] })
    (hush : ∀ h', St s.heap h' → ∀ k v, (k, v) ∈ kvC mv firstLine tf sl fI fL fG fE fLe fGe sA [] → Hush h' v)
    (h : ∀ C n2 md h' tk tmd, St s.heap h' → s.heap.get? C = none → s.heap.get? n2 = none → s.heap.get? md = none → ClsAt h' C { name := Str.ofString "K", bases := [.type "object"], mro := [.ref C, .type "object"], ns := n2, qualname := qual, hasDict := false, slotNames := [Str.ofString "obj"] }
        #[some (.ref bT), none, some (.str (Str.ofString "K") tn), some (.str qual tq), some (.builtin "object.__new__"), some (.bool false)] →
      DictAt h' n2 (kvC mv firstLine tf sl fI fL fG fE fLe fGe sA [(Str.ofString "obj", .ref md), (Str.ofString "__doc__", .none)]) →
      h'.get? md = some { cls := .type "member_descriptor", data := .fields #[.str (Str.ofString "obj") tmd, .ref C, .builtin "proto.slot", .builtin "proto.slot#set", .int 0 0] } → P (.done (.ret (.ref C))) { s with heap := h', toks := tk }) :
    wpAny (model prog w) A (Builtin.«type.__new__» ⟨[.type "type", .str (Str.ofString "K") tn, .ref bT, .ref ns], []⟩) P E s := by
  subst hkvs
  unfold Builtin.«type.__new__»
  obtain ⟨es, n, g, r⟩ := id D
  refine wpAny_bind (wpAny_pure ?_)
  refine wpAny_bind (isiA gb sub_tuple_tuple ?_)
  refine wIN (by decide) ?_
  refine wpAny_bind (isiA g sub_dict_dict ?_)
  refine wIN (by decide) ?_
  refine wpAny_bind (wpAny_bind (wpAny_load gb (wpAny_pure ?_)))
  refine wIN (by decide) ?_
  refine wpAny_bind (wpE (a := ⟨⟩) (by kernel_rfl) ?_)
  refine wpAny_bind (wpE (a := .type "type") (by kernel_rfl) ?_)
  refine wIN (by decide) ?_
  refine wpAny_bind (wpE (a := ()) (by kernel_rfl) ?_)
  refine wpAny_bind (wpE (a := .type "object") (by kernel_rfl) ?_)
  refine wIN (by simpa using hsys) ?_
  refine wpAny_bind (dentries D fun es1 r1 => ?_)
  refine wpAny_bind (wpAny_bind (wpAny_typeOf_ref g (wpE tl_dict_iter ?_)))
  refine wIP (by simp) ?_
  refine wpAny_bind (wpAny_pure ?_)
  refine wpAny_bind (wpAny_holding (slotsRead r1 rfl gsl rfl fun h1 st1 => ?_))
  refine wpAny_bind (alT rfl ?_ fun n2 h2 st2 gn2 nn2 => ?_)
  · show es1.size ≤ sizeLine + 1
    have := r1.len
    rw [Array.length_toList] at this
    rw [this, sizeLine_eq]
    exact Nat.le_of_ble_eq_true rfl
  have D2 : DictAt h2 n2 _ := ⟨es1, 0, gn2, r1⟩
  refine wIN (by show ¬ ((!(es1.any fun x => x.key.isStr (Str.ofString "__module__"))) = true); rw [r1.anyA]; exact Bool.false_ne_true) ?_
  refine wpAny_bind (wIN (by decide +kernel) (wpAny_pure ?_))
  refine wIN (by decide +kernel) ?_
  refine wpAny_bind (dgE D2 (v := some (.str qual tq)) rfl ?_)
  refine wpAny_bind (dgE D2 (v := some (.str qual tq)) rfl ?_)
  refine wpAny_bind (wpAny_pure ?_)
  refine wpAny_bind (wpAny_pure ?_)
  refine wpAny_bind (dgE D2 (v := none) rfl ?_)
  refine wpAny_bind (al rfl fun C h3 st3 gC nC => ?_)
  have C3 : ClsAt h3 C { name := Str.ofString "K", bases := [.type "object"], mro := [], ns := n2, qualname := qual } #[] := gC
  refine wIP rfl ?_
  refine wpAny_bind (slotSetC (sl' := #[some (.ref bT)]) C3 (by decide) rfl fun h4 sb4 C4 => ?_)
  refine wpAny_bind (slotSetC (sl' := #[some (.ref bT), none, some (.str (Str.ofString "K") tn)]) C4 (by decide) rfl fun h5 sb5 C5 => ?_)
  refine wpAny_bind (slotSetC (sl' := #[some (.ref bT), none, some (.str (Str.ofString "K") tn), some (.str qual tq)]) C5 (by decide) rfl fun h6 sb6 C6 => ?_)
  have nC2 : n2 ≠ C := fun e => by have := none_of_ge nC; dsimp only at this; rw [← e, gn2] at this; cases this
  have D6 := (((D2.keeps st3).same sb4 nC2).same sb5 nC2).same sb6 nC2
  refine wpAny_bind (ddel D6 (kvs' := kvC mv firstLine tf sl fI fL fG fE fLe fGe sA []) (u := .str qual tq) rfl rfl fun h7 sb7 D7 => ?_)
  have C7 := C6.same sb7 (Ne.symm nC2)
  refine wpAny_bind (dgE D7 (v := none) rfl ?_)
  refine wpAny_bind (wFL (wpAny_bind (dgE D7 (v := none) rfl (wpAny_pure (wFL (wpAny_bind (dgE D7 (v := none) rfl (wpAny_pure (wFN ?_)))))))))
  refine wpAny_bind (dgE D7 (v := none) rfl ?_)
  refine wpAny_bind (dgE D7 (v := none) rfl ?_)
  refine wpAny_bind (wpE (a := none) (by kernel_rfl) ?_)
  refine wpAny_bind (wpE (a := [.type "object"]) (by kernel_rfl) ?_)
  refine wpAny_bind (wpAny_pure ?_)
  have filt : List.filter (fun x => x != Value.ref C) [Value.ref C, .type "object"] = [.type "object"] := by simp
  refine wpAny_bind (wpE (a := false) ?_ ?_)
  · rw [filt]; kernel_rfl
  refine wpAny_bind (updClsC C7 (cd' := { name := Str.ofString "K", bases := [.type "object"], mro := [.ref C, .type "object"], ns := n2, qualname := qual }) ?_ rfl fun h8 sb8 C8 => ?_)
  · show ClassData.mk _ _ _ _ _ _ _ _ _ _ ((es1.any fun x => x.key.isStr (Str.ofString "__del__")) || false) = _
    rw [r1.anyA]; rfl
  refine wpAny_bind (wpE (a := some "object.__new__") (by kernel_rfl) ?_)
  refine wpAny_bind (slotSetC (sl' := #[some (.ref bT), none, some (.str (Str.ofString "K") tn), some (.str qual tq), some (.builtin "object.__new__")]) C8 (by decide) rfl fun h9 sb9 C9 => ?_)
  have D9 := (D7.same sb8 nC2).same sb9 nC2
  refine wpAny_bind ?_
  unfold Bind.refreshMaker
  refine wpAny_bind (wpAny_bind (wpAny_loadPart C9 (wpAny_pure ?_)))
  refine wIN Bool.false_ne_true ?_
  refine wpAny_bind (tlC C9 rfl D9 (r := some (.builtin "object.__new__")) (by rw [builtinOwn_eq_fast]; kernel_rfl) ?_)
  refine wIN (by decide +kernel) ?_
  refine wpAny_pure ?_
  refine wpAny_bind ?_
  unfold Builtin.Slots.install
  refine wpAny_bind (wFL ?_)
  refine wpAny_bind (dgE D9 (v := none) rfl ?_)
  refine wIP rfl ?_
  refine wpAny_bind (wpAny_mkStr ?_ (by rw [sizeLine_eq]; exact Nat.le_of_ble_eq_true rfl))
  refine wpAny_bind (alT rfl (by show _ ≤ _; rw [sizeLine_eq]; exact Nat.le_of_ble_eq_true rfl) fun md h10 st10 gmd nmd => ?_)
  have D10 := D9.keeps st10
  refine wpAny_bind (dsetV (kvs' := kvC mv firstLine tf sl fI fL fG fE fLe fGe sA [(Str.ofString "obj", .ref md)]) D10 (Nat.le_of_ble_eq_true rfl) rfl fun h11 sb11 D11 => ?_)
  refine wpAny_pure (wFN ?_)
  have C9' := C9.st st10
  have C11 := C9'.same sb11 (Ne.symm nC2)
  refine wpAny_bind (wpE (a := false) (by kernel_rfl) ?_)
  refine wIN (by show ¬ (_ > sizeLine); rw [sizeLine_eq]; decide) ?_
  refine updClsC C11 (cd' := { name := Str.ofString "K", bases := [.type "object"], mro := [.ref C, .type "object"], ns := n2, qualname := qual, hasDict := false, slotNames := [Str.ofString "obj"] }) rfl rfl fun h12 sb12 C12 => ?_
  have D12 := D11.same sb12 nC2
  refine wpAny_bind (wpE (a := false) (by kernel_rfl) ?_)
  refine wpAny_bind (slotSetC (sl' := #[some (.ref bT), none, some (.str (Str.ofString "K") tn), some (.str qual tq), some (.builtin "object.__new__"), some (.bool false)]) C12 (by decide) rfl fun h13 sb13 C13 => ?_)
  have D13 := D12.same sb13 nC2
  refine wIN Bool.false_ne_true ?_
  refine wIN Bool.false_ne_true ?_
  refine wpAny_bind (dgE D13 (v := none) rfl ?_)
  refine wIP rfl ?_
  refine wpAny_bind (dset (kvs' := kvC mv firstLine tf sl fI fL fG fE fLe fGe sA [(Str.ofString "obj", .ref md), (Str.ofString "__doc__", .none)]) D13 rfl fun h14 sb14 D14 => ?_)
  have C14 := C13.same sb14 (Ne.symm nC2)
  refine wpAny_bind (dgE D14 (v := some (.ref fE)) rfl ?_)
  refine wIP rfl ?_
  refine wpAny_bind (dgE D14 (v := some .none) rfl ?_)
  refine wIN Bool.false_ne_true ?_
  refine wpAny_bind (wpE (a := ⟨⟩) (by kernel_rfl) ?_)
  have l1 : ∀ {b o}, s.heap.get? b = some o → b ≠ n2 := fun {b o} e q => by
    have := Heap.lt_size (st1 _ _ e); rw [q] at this; exact absurd this (Nat.not_lt.mpr nn2)
  have l2 : ∀ {b o}, s.heap.get? b = some o → b ≠ C := fun {b o} e q => by
    have := Heap.lt_size (st2 _ _ (st1 _ _ e)); rw [q] at this; exact absurd this (Nat.not_lt.mpr nC)
  have k9 : St s.heap h9 := fun b o e =>
    (sb9.2 b (l2 e)).trans ((sb8.2 b (l2 e)).trans ((sb7.2 b (l1 e)).trans ((sb6.2 b (l2 e)).trans ((sb5.2 b (l2 e)).trans ((sb4.2 b (l2 e)).trans (st3 _ _ (st2 _ _ (st1 _ _ e))))))))
  have up14 : ∀ b, b ≠ n2 → b ≠ C → h14.get? b = h10.get? b := fun b x y => (sb14.2 b x).trans ((sb13.2 b y).trans ((sb12.2 b y).trans (sb11.2 b x)))
  have k14 : St s.heap h14 := fun b o e => (up14 b (l1 e) (l2 e)).trans (st10 _ _ (k9 _ _ e))
  have mdn : h9.get? md = none := none_of_ge nmd
  have md1 : md ≠ n2 := fun e => by obtain ⟨es', n', ge, _⟩ := D9; rw [e, ge] at mdn; cases mdn
  have md2 : md ≠ C := fun e => by have := C9; unfold ClsAt at this; rw [e, this] at mdn; cases mdn
  have gmd14 := (up14 md md1 md2).trans gmd
  have hgeC : s.heap.get? C = none := by
    cases q : s.heap.get? C with
    | none => rfl
    | some o => exact absurd rfl (l2 q)
  have hgeN : s.heap.get? n2 = none := by
    cases q : s.heap.get? n2 with
    | none => rfl
    | some o => exact absurd rfl (l1 q)
  have hgeM : s.heap.get? md = none := by
    cases q : s.heap.get? md with
    | none => rfl
    | some o => have := k9 _ _ q; rw [mdn] at this; cases this
  refine wpAny_bind (wpAny_tryCatch (wpAny_holding ?_))
  refine wpAny_bind (dentries D14 fun es2 r2 => ?_)
  refine wpAny_bind (wFEnt r2 (fun hh k t v hm Q' hq => wpAny_bind (wpAny_pure (wIN Bool.false_ne_true (wpAny_pure hq)))) ?_)
  refine wIN Bool.false_ne_true ?_
  refine wpAny_bind (dentries D14 fun es3 r3 => ?_)
  refine wpAny_bind (wFEnt r3 (fun hh k t v hm Q' hq => ?_) ?_)
  · have hH : Hush h14 v := by
      rcases List.mem_append.mp (show (k, v) ∈ kvC mv firstLine tf sl fI fL fG fE fLe fGe sA [] ++ [(Str.ofString "obj", .ref md), (Str.ofString "__doc__", .none)] from hm) with hm | hm
      · exact hush _ k14 k v hm
      · rcases List.mem_cons.mp hm with e | hm
        · cases e
          exact ⟨"member_descriptor", fun s' e => ⟨_, by rw [e]; exact gmd14, rfl⟩, by rw [typeLookup_type, builtinLookup_eq_fast]; kernel_rfl, fun _ _ => rfl⟩
        · rcases List.mem_cons.mp hm with e | hm
          · cases e
            exact ⟨"NoneType", fun _ _ => rfl, by rw [typeLookup_type, builtinLookup_eq_fast]; kernel_rfl, fun _ _ => rfl⟩
          · cases hm
    obtain ⟨T, hT, hl, hn⟩ := hH
    exact wIN (by rw [hn]; decide) (wpAny_bind (wpAny_bind (wpAny_typeOf (hT _ rfl) (wpE hl (wpAny_pure hq)))))
  refine wpAny_bind (supCall C14 rfl fun so h15 st15 gso => ?_)
  have C15 := C14.st st15
  refine wpAny_bind (wpAny_holding (supAttr C15 rfl (st15 _ _ (k14 _ _ hst)) gso fun bm h16 tk16 st16 gbm => ?_))
  have C16 := C15.st st16
  refine wpAny_bind (initSub C16 hq0 gbm ?_)
  refine wpAny_pure ?_
  refine wpAny_pure ?_
  exact h C n2 md h16 _ _ (k14.tr (St.tr st15 st16)) hgeC hgeN hgeM C16 ((D14.keeps st15).keeps st16) (st16 _ _ (st15 _ _ gmd14))
end
end Mine
end
section
open PySem PySem.W PySem.Calls PyProof.Rows PySem.Spec
set_option maxRecDepth 100000
set_option maxHeartbeats 4000000
namespace Mine
theorem ct_type (a b c : Value) : checkTypeCall "type" ⟨[a, b, c], []⟩ = pure () := by kernel_rfl
theorem mro_type' : mroOf (.type "type") = pure [.type "type", .type "object"] := by rw [mroOf_type]; kernel_rfl
theorem made_type : Bind.madeBy (.type "type") = pure (some "type.__new__") := by kernel_rfl
theorem pl_tnew : plainId "type.__new__" = true := by decide +kernel
theorem en_tnew : entryFor table "type.__new__" = some Builtin.«type.__new__» := entryFor_of_tree (by kernel_rfl)
theorem ck_tnew (a : Value) (b c : Value) : checkBuiltinCall "type.__new__" ⟨[.type "type", a, b, c], []⟩ = pure () := by kernel_rfl
theorem slot_tinit : Slot "type" "__init__" "type.__init__" := .of (owner := "type") (n := "__init__") (by rw [typeLookup_type, builtinLookup_eq_fast]; kernel_rfl) (by decide +kernel) (by decide +kernel) (by decide +kernel)
    (by first | exact .inl (by decide +kernel) | exact .inr (by decide +kernel)) (by rw [isSubtype_type]; kernel_rfl)
theorem en_tinit : entryFor table "type.__init__" = some Builtin.«type.__init__» := entryFor_of_tree (by kernel_rfl)
theorem ao_tinit (a b c d : Value) : argsOk "type.__init__" ⟨[a, b, c, d], []⟩ := by unfold argsOk; kernel_rfl
section
variable {prog : Program} {w : World} {M : Model} {A : Around} {E : Value → Shared → Prop} {s : Shared}

theorem typeCall {name : Str} {tn : Tok} {bT ns : Addr} {Q : Value → Shared → Prop}
    (hnew : wpAny (model prog w) A.in1.in1 (Builtin.«type.__new__» ⟨[.type "type", .str name tn, .ref bT, .ref ns], []⟩) (fun fin s' => ∃ C cd sl, fin = .done (.ret (.ref C)) ∧ ClsAt s'.heap C cd sl ∧ Q (.ref C) s') E s) :
    wpAny (model prog w) A (call (.type "type") [.str name tn, .ref bT, .ref ns] []) Q E s := by
  refine wpAny_call (codeAny_of_tree ?_)
  show wpAny _ _ (callAny (.type "type") _) _ _ _
  refine wpAny_pure ⟨Code.quiet_builtin _ (by decide +kernel), codeAny_builtin F.entry_type_call ?_⟩
  rw [Around.under_plain (weight_type_call_type "type" _ []) rfl]
  unfold Builtin.«type.__call__»
  refine wIP rfl ?_
  refine wIN Bool.false_ne_true ?_
  refine wIN Bool.false_ne_true ?_
  refine wIN (by decide +kernel) ?_
  refine wpAny_bind (wpE (ct_type _ _ _) ?_)
  refine wpAny_bind (wpE mro_type' ?_)
  refine wIN Bool.false_ne_true ?_
  refine wpAny_bind (wpE made_type ?_)
  refine wpAny_bind (wpAny_pure ?_)
  refine wpAny_bind (wpAny_holding (callB pl_tnew en_tnew (ck_tnew _ _ _) ?_))
  refine wpAny_mono hnew (fun fin s' hf => ?_) fun _ _ e => e
  obtain ⟨C, cd, sl, rfl, x, hq⟩ := hf
  show wpAny _ _ _ _ _ _
  refine wpAny_bind ?_
  unfold isInstance
  refine wpAny_bind (wpAny_typeOf_ref x (wpE sub_type_type ?_))
  refine wIN Bool.false_ne_true ?_
  refine wpAny_bind (wpAny_holding ?_)
  unfold callSpecial?
  refine wpAny_bind (wpAny_bind (wpAny_typeOf_ref x (wpE slot_tinit.lookup ?_)))
  refine wpAny_holding ?_
  refine wpAny_bind (wpE (slot_tinit.bind _) ?_)
  refine wpAny_bind (wpAny_call_entry slot_tinit ⟨_, x, rfl⟩ en_tinit (wpE (a := .done (.ret .none)) rfl ⟨_, rfl, ?_⟩) (ao_tinit _ _ _ _))
  refine wpAny_pure ?_
  refine wIN (by decide) ?_
  exact wpAny_pure hq
end
end Mine
end
section
open PySem PySem.W PySem.Calls PyProof.Rows PySem.Spec
set_option maxRecDepth 100000
set_option maxHeartbeats 4000000
namespace Mine

def Found (g : Heap) (qs : Array Value) (x : Pos × Str) : Prop := ∃ cv, codeAmong x.1 qs.toList = some cv ∧ g.CodeRec cv x.2
theorem Found.st {g g' : Heap} {qs x} (f : Found g qs x) (st : St g g') : Found g' qs x := let ⟨cv, a, b⟩ := f; ⟨cv, a, codeRec_keeps b st⟩
def FullL (L : List (Pos × Str)) (g : Heap) (qs : Array Value) : Prop := ∀ x ∈ L, Found g qs x

structure CSt (mg : Str → Option Value) (P ns t cc : Addr) (oP : Obj) (g h : Heap) (kvs : List (Str × Value)) (qs : Array Value) (todo done : List (Pos × Str)) : Prop where
  cb : CB g h ns t kvs qs
  cd : CodeHd g cc t
  gn : g.Ns mainGlobals mg
  bm : g.BuiltinsAt mg t
  nP : g.get? P = none
  hP : h.get? P = some oP
  nsP : ns ≠ P
  tP : t ≠ P
  todo : ∀ x ∈ todo, codeAmong x.1 qs.toList = none ∨ Found g qs x
  done : ∀ x ∈ done, Found g qs x

section
variable {M : Model} {A : Around} {E : Value → Shared → Prop} {s : Shared} {cenv : Env} {mg : Str → Option Value} {P ns t cc : Addr} {oP : Obj} {g : Heap} {kvs kvs' : List (Str × Value)} {qs : Array Value} {todo done : List (Pos × Str)}

theorem builtinsAt_st {g g' : Heap} {mg : Str → Option Value} {t : Addr} (b : g.BuiltinsAt mg t) (st : St g g') : g'.BuiltinsAt mg t :=
  let ⟨bm, o, a1, a2, a3, a4, a5, r⟩ := b; ⟨bm, o, a1, a2, a3, a4, st _ _ a5, r⟩

theorem cstoreS {name : Str} {v : Value} {Q : Unit → Shared → Prop} (S : CSt mg P ns t cc oP g s.heap kvs qs todo done) (hk : cenv.scope.kind = .class) (hns : cenv.locals = ns) (hl : cenv.kindOf name = some .local)
    (hkv : (match kvs.lookup name with | none => kvs ++ [(name, v)] | some _ => setKv name v kvs) = kvs')
    (h : ∀ h' tk, CSt mg P ns t cc oP g h' kvs' qs todo done → Q () { s with heap := h', toks := tk }) : wpAny M A (storeName cenv name v) Q E s := by
  refine cstore hk (.inl hl) (hns ▸ S.cb.dict) hkv fun h' sb D => ?_
  rw [hns] at sb D
  exact h h' _ ⟨⟨fun b o e => (sb.2 b (fun q => by rw [q, S.cb.nns] at e; cases e)).trans (S.cb.keep b o e), S.cb.nns, S.cb.nt, S.cb.ne, D, (sb.2 t (Ne.symm S.cb.ne)).trans S.cb.tab, S.cb.trip⟩, S.cd, S.gn, S.bm, S.nP, (sb.2 P (Ne.symm S.nsP)).trans S.hP, S.nsP, S.tP, S.todo, S.done⟩

theorem cdefS {name q : Str} {params : Arguments} {body : List Stmt} {scope : Scope} {pos : Pos} {clos : List (Str × Addr)} {Q : Flow → Shared → Prop}
    (S : CSt mg P ns t cc oP g s.heap kvs qs ((pos, q) :: todo) done) (hk : cenv.scope.kind = .class) (hns : cenv.locals = ns) (hl : cenv.kindOf name = some .local) (hgl : cenv.globals = mainGlobals) (hcd : cenv.code = .ref cc)
    (hq : qualnameIn cenv name name = q) (hd : params.defaults = []) (hkd : params.kw_defaults = []) (hann : annTrees params none cenv = []) (hcl : closureFor scope cenv = pure clos) (hkv : kvs.lookup name = none)
    (hdist : ∀ x ∈ todo ++ done, ¬ ((pos.line : Int) = x.1.line ∧ (pos.col : Int) = x.1.col))
    (h : ∀ f cdv ctv doc g' h' qs' tk, St g g' → CSt mg P ns t cc oP g' h' (kvs ++ [(name, .ref f)]) qs' todo ((pos, q) :: done) → g'.CodeRec cdv q →
      g'.get? f = some { cls := .type "function", data := .func (fnX name q params body scope clos .none .none doc ((mg "__name__").getD .none) none cdv ctv) } → Q .next { s with heap := h', toks := tk }) :
    wpAny M A (exec (.FunctionDef name params body [] none [] scope none name pos) cenv) Q E s := by
  refine cdef hk hl hns hgl hcd hq hd hkd hann hcl S.cb S.cd S.gn S.bm (S.todo _ (.head _)) hkv S.nP S.hP S.nsP S.tP fun f cdv ctv doc g' h' qs' tk st nP' hP' cb' hca hrec hoth gf => ?_
  refine h f cdv ctv doc g' h' qs' tk st ⟨cb', S.cd.keeps st, Ns_st S.gn st, builtinsAt_st S.bm st, nP', hP', S.nsP, S.tP, fun x hx => ?_, fun x hx => ?_⟩ hrec gf
  · have e := hoth x.1 (hdist x (List.mem_append_left _ hx))
    rcases S.todo x (.tail _ hx) with hn | hf
    · exact .inl (e.trans hn)
    · exact .inr (let ⟨cv, a, b⟩ := hf; ⟨cv, e.trans a, codeRec_keeps b st⟩)
  · rcases List.mem_cons.mp hx with rfl | hx
    · exact ⟨cdv, hca, hrec⟩
    · have e := hoth x.1 (hdist x (List.mem_append_right _ hx))
      exact (let ⟨cv, a, b⟩ := S.done x hx; ⟨cv, e.trans a, codeRec_keeps b st⟩)

theorem CSt.grow {h h' : Heap} (S : CSt mg P ns t cc oP g h kvs qs todo done) (st : St h h') : CSt mg P ns t cc oP (hideAll h' [ns, t, P]) h' kvs qs todo done ∧ St g (hideAll h' [ns, t, P]) := by
  have cb : CB g h' ns t kvs qs := ⟨fun b o e => st b o (S.cb.keep b o e), S.cb.nns, S.cb.nt, S.cb.ne, S.cb.dict.keeps st, st _ _ S.cb.tab, S.cb.trip⟩
  obtain ⟨cb', sg⟩ := cb.rebase (P := P) S.nP
  exact ⟨⟨cb', S.cd.keeps sg, Ns_st S.gn sg, builtinsAt_st S.bm sg, hideAll_none _ (.tail _ (.tail _ (.head _))), st _ _ S.hP, S.nsP, S.tP, fun x hx => (S.todo x hx).imp id fun f => f.st sg, fun x hx => (S.done x hx).st sg⟩, sg⟩

structure CBody (cenv : Env) (pI pL pG pE pe pg : Arguments) (sI sL sG sE se sg : Scope) (cI cL cG cE ce cg : List (Str × Addr)) : Prop where
  dI : pI.defaults = [] ∧ pI.kw_defaults = [] ∧ annTrees pI none cenv = [] ∧ closureFor sI cenv = pure cI
  dL : pL.defaults = [] ∧ pL.kw_defaults = [] ∧ annTrees pL none cenv = [] ∧ closureFor sL cenv = pure cL
  dG : pG.defaults = [] ∧ pG.kw_defaults = [] ∧ annTrees pG none cenv = [] ∧ closureFor sG cenv = pure cG
  dE : pE.defaults = [] ∧ pE.kw_defaults = [] ∧ annTrees pE none cenv = [] ∧ closureFor sE cenv = pure cE
  de : pe.defaults = [] ∧ pe.kw_defaults = [] ∧ annTrees pe none cenv = [] ∧ closureFor se cenv = pure ce
  dg : pg.defaults = [] ∧ pg.kw_defaults = [] ∧ annTrees pg none cenv = [] ∧ closureFor sg cenv = pure cg

abbrev isFn (g : Heap) (f : Addr) : Prop := ∃ fd, g.get? f = some { cls := .type "function", data := .func fd }

theorem classBody {qual : Str} {p1 p1' p1c p2 p2' p2l p2c p9 p9' p9c : Pos} {k1 k2 k9 : Nat} {x1 : Str} {pI pL pG pE pe pg : Arguments} {bI bL bG bE be bg : List Stmt} {sI sL sG sE se sg : Scope} {oI oL oG oE oe og : Pos} {cI cL cG cE ce cg : List (Str × Addr)} {nm : Value} {tq tf : Tok} {fl : Int} {Q : Flow → Shared → Prop}
    (S : CSt mg P ns t cc oP g s.heap [(Str.ofString "__module__", nm), (Str.ofString "__qualname__", .str qual tq), (Str.ofString "__firstlineno__", .int fl tf)] qs
      [(oI, cenv.qual ++ Str.ofString "__init__"), (oL, cenv.qual ++ Str.ofString "__lt__"), (oG, cenv.qual ++ Str.ofString "__gt__"), (oE, cenv.qual ++ Str.ofString "__eq__"), (oe, cenv.qual ++ Str.ofString "__le__"), (og, cenv.qual ++ Str.ofString "__ge__")] [])
    (hk : cenv.scope.kind = .class) (hns : cenv.locals = ns) (hgl : cenv.globals = mainGlobals) (hcd : cenv.code = .ref cc)
    (hl : ∀ n ∈ [Str.ofString "__module__", Str.ofString "__slots__", Str.ofString "__init__", Str.ofString "__lt__", Str.ofString "__gt__", Str.ofString "__eq__", Str.ofString "__le__", Str.ofString "__ge__", Str.ofString "__hash__"], cenv.kindOf n = some .local)
    (hD : CBody cenv pI pL pG pE pe pg sI sL sG sE se sg cI cL cG cE ce cg)
    (hlines : ([oI, oL, oG, oE, oe, og].map (·.line)) = [8, 11, 14, 17, 20, 23])
    (h : ∀ sl fI fL fG fE fLe fGe to nn ctI ctL docI docL cdI cdL t1 g' h' qs' tk, St g g' →
      CSt mg P ns t cc oP g' h' [(Str.ofString "__module__", .str x1 t1), (Str.ofString "__qualname__", .str qual tq), (Str.ofString "__firstlineno__", .int fl tf), (Str.ofString "__slots__", .ref sl), (Str.ofString "__init__", .ref fI), (Str.ofString "__lt__", .ref fL),
        (Str.ofString "__gt__", .ref fG), (Str.ofString "__eq__", .ref fE), (Str.ofString "__le__", .ref fLe), (Str.ofString "__ge__", .ref fGe), (Str.ofString "__hash__", .none)] qs' []
        [(og, cenv.qual ++ Str.ofString "__ge__"), (oe, cenv.qual ++ Str.ofString "__le__"), (oE, cenv.qual ++ Str.ofString "__eq__"), (oG, cenv.qual ++ Str.ofString "__gt__"), (oL, cenv.qual ++ Str.ofString "__lt__"), (oI, cenv.qual ++ Str.ofString "__init__")] →
      g'.get? sl = some { cls := .type "list", data := .seq #[.str (Str.ofString "obj") to] nn } →
      g'.CodeRec cdI (cenv.qual ++ Str.ofString "__init__") → g'.get? fI = some { cls := .type "function", data := .func (fnX (Str.ofString "__init__") (cenv.qual ++ Str.ofString "__init__") pI bI sI cI .none .none docI ((mg "__name__").getD .none) none cdI ctI) } →
      g'.CodeRec cdL (cenv.qual ++ Str.ofString "__lt__") → g'.get? fL = some { cls := .type "function", data := .func (fnX (Str.ofString "__lt__") (cenv.qual ++ Str.ofString "__lt__") pL bL sL cL .none .none docL ((mg "__name__").getD .none) none cdL ctL) } →
      isFn g' fG → isFn g' fE → isFn g' fLe → isFn g' fGe → Q .next { s with heap := h', toks := tk }) :
    wpAny M A (execs [.Assign [.Name (Str.ofString "__module__") p1] (.Constant (.str x1) k1 p1c) p1', .Assign [.Name (Str.ofString "__slots__") p2] (.List [.Constant (.str (Str.ofString "obj")) k2 p2c] p2l) p2',
      .FunctionDef (Str.ofString "__init__") pI bI [] none [] sI none (Str.ofString "__init__") oI, .FunctionDef (Str.ofString "__lt__") pL bL [] none [] sL none (Str.ofString "__lt__") oL,
      .FunctionDef (Str.ofString "__gt__") pG bG [] none [] sG none (Str.ofString "__gt__") oG, .FunctionDef (Str.ofString "__eq__") pE bE [] none [] sE none (Str.ofString "__eq__") oE,
      .FunctionDef (Str.ofString "__le__") pe be [] none [] se none (Str.ofString "__le__") oe, .FunctionDef (Str.ofString "__ge__") pg bg [] none [] sg none (Str.ofString "__ge__") og,
      .Assign [.Name (Str.ofString "__hash__") p9] (.Constant .none k9 p9c) p9'] cenv) Q E s := by
  have hqn : ∀ n, cenv.kindOf n = some .local → qualnameIn cenv n n = cenv.qual ++ n := fun n e => by unfold qualnameIn; rw [e]; rfl
  have lines : oI.line = 8 ∧ oL.line = 11 ∧ oG.line = 14 ∧ oE.line = 17 ∧ oe.line = 20 ∧ og.line = 23 := by simpa using hlines
  obtain ⟨n1, n2, n3, n4, n5, n6⟩ := lines
  refine wpAny_execs_cons (wpAny_Assign_Name (wpAny_Constant_str ?_))
  refine cstoreS (s := { s with toks := s.toks + 1 }) S hk hns (hl _ (by simp)) rfl fun h1 tk1 S1 => ?_
  refine wpAny_execs_cons (wpAny_Assign_Name ?_)
  refine List_ ?_
  refine wpAny_bind (wIN Bool.false_ne_true (wpAny_Constant_str ?_))
  refine wIN Bool.false_ne_true ?_
  refine wpAny_bind (wpAny_pure (wpAny_bind (wpAny_holding (wpAny_pure (wpAny_pure ?_)))))
  refine alT rfl (by show _ ≤ _; rw [sizeLine_eq]; exact Nat.le_of_ble_eq_true rfl) fun sl h2 st2 gsl nsl => ?_
  obtain ⟨S2, sg2⟩ := S1.grow st2
  have nsl1 : h1.get? sl = none := none_of_ge nsl
  have gsl2 : (hideAll h2 [ns, t, P]).get? sl = some { cls := .type "list", data := .seq #[.str (Str.ofString "obj") tk1] } := by
    refine hid3 gsl ?_ ?_ ?_
    · intro e; obtain ⟨es, n, ge, _⟩ := S1.cb.dict; rw [e, ge] at nsl1; cases nsl1
    · intro e; rw [e, S1.cb.tab] at nsl1; cases nsl1
    · intro e; rw [e, S1.hP] at nsl1; cases nsl1
  generalize hideAll h2 [ns, t, P] = g2 at S2 sg2 gsl2
  refine cstoreS (s := { s with heap := h2, toks := tk1 + 1 }) S2 hk hns (hl _ (by simp)) rfl fun h3 tk3 S3 => ?_
  have ql : ∀ n, n ∈ [Str.ofString "__module__", Str.ofString "__slots__", Str.ofString "__init__", Str.ofString "__lt__", Str.ofString "__gt__", Str.ofString "__eq__", Str.ofString "__le__", Str.ofString "__ge__", Str.ofString "__hash__"] → qualnameIn cenv n n = cenv.qual ++ n := fun n hn => hqn n (hl n hn)
  refine wpAny_execs_cons (cdefS (s := { s with heap := h3, toks := tk3 }) S3 hk hns (hl _ (by simp)) hgl hcd (ql _ (by simp)) hD.dI.1 hD.dI.2.1 hD.dI.2.2.1 hD.dI.2.2.2 rfl ?_ fun f4 cd4 ct4 doc4 g4 h4 qs4 tk4 st4 S4 rec4 gf4 => ?_)
  · intro x hx; simp at hx; rcases hx with rfl | rfl | rfl | rfl | rfl <;> (simp only [n1, n2, n3, n4, n5, n6]; intro q; exact absurd q.1 (by decide))
  refine wpAny_execs_cons (cdefS (s := { s with heap := h4, toks := tk4 }) S4 hk hns (hl _ (by simp)) hgl hcd (ql _ (by simp)) hD.dL.1 hD.dL.2.1 hD.dL.2.2.1 hD.dL.2.2.2 rfl ?_ fun f5 cd5 ct5 doc5 g5 h5 qs5 tk5 st5 S5 rec5 gf5 => ?_)
  · intro x hx; simp at hx; rcases hx with rfl | rfl | rfl | rfl | rfl <;> (simp only [n1, n2, n3, n4, n5, n6]; intro q; exact absurd q.1 (by decide))
  refine wpAny_execs_cons (cdefS (s := { s with heap := h5, toks := tk5 }) S5 hk hns (hl _ (by simp)) hgl hcd (ql _ (by simp)) hD.dG.1 hD.dG.2.1 hD.dG.2.2.1 hD.dG.2.2.2 rfl ?_ fun f6 cd6 ct6 doc6 g6 h6 qs6 tk6 st6 S6 rec6 gf6 => ?_)
  · intro x hx; simp at hx; rcases hx with rfl | rfl | rfl | rfl | rfl <;> (simp only [n1, n2, n3, n4, n5, n6]; intro q; exact absurd q.1 (by decide))
  refine wpAny_execs_cons (cdefS (s := { s with heap := h6, toks := tk6 }) S6 hk hns (hl _ (by simp)) hgl hcd (ql _ (by simp)) hD.dE.1 hD.dE.2.1 hD.dE.2.2.1 hD.dE.2.2.2 rfl ?_ fun f7 cd7 ct7 doc7 g7 h7 qs7 tk7 st7 S7 rec7 gf7 => ?_)
  · intro x hx; simp at hx; rcases hx with rfl | rfl | rfl | rfl | rfl <;> (simp only [n1, n2, n3, n4, n5, n6]; intro q; exact absurd q.1 (by decide))
  refine wpAny_execs_cons (cdefS (s := { s with heap := h7, toks := tk7 }) S7 hk hns (hl _ (by simp)) hgl hcd (ql _ (by simp)) hD.de.1 hD.de.2.1 hD.de.2.2.1 hD.de.2.2.2 rfl ?_ fun f8 cd8 ct8 doc8 g8 h8 qs8 tk8 st8 S8 rec8 gf8 => ?_)
  · intro x hx; simp at hx; rcases hx with rfl | rfl | rfl | rfl | rfl <;> (simp only [n1, n2, n3, n4, n5, n6]; intro q; exact absurd q.1 (by decide))
  refine wpAny_execs_cons (cdefS (s := { s with heap := h8, toks := tk8 }) S8 hk hns (hl _ (by simp)) hgl hcd (ql _ (by simp)) hD.dg.1 hD.dg.2.1 hD.dg.2.2.1 hD.dg.2.2.2 rfl ?_ fun f9 cd9 ct9 doc9 g9 h9 qs9 tk9 st9 S9 rec9 gf9 => ?_)
  · intro x hx; simp at hx; rcases hx with rfl | rfl | rfl | rfl | rfl <;> (simp only [n1, n2, n3, n4, n5, n6]; intro q; exact absurd q.1 (by decide))
  refine wpAny_execs_cons (wpAny_Assign_Name (wpAny_Constant_none ?_))
  refine cstoreS (s := { s with heap := h9, toks := tk9 }) S9 hk hns (hl _ (by simp)) rfl fun h10 tk10 S10 => ?_
  refine wpAny_execs_nil ?_
  have s45 := St.tr st5 (St.tr st6 (St.tr st7 (St.tr st8 st9)))
  refine h sl f4 f5 f6 f7 f8 f9 _ _ ct4 ct5 doc4 doc5 cd4 cd5 _ g9 h10 qs9 tk10 (St.tr sg2 (St.tr st4 s45)) S10 (s45 _ _ (st4 _ _ gsl2)) (codeRec_keeps rec4 s45) (s45 _ _ gf4) (codeRec_keeps rec5 (St.tr st6 (St.tr st7 (St.tr st8 st9)))) (St.tr st6 (St.tr st7 (St.tr st8 st9)) _ _ gf5)
    ⟨_, St.tr st7 (St.tr st8 st9) _ _ gf6⟩ ⟨_, St.tr st8 st9 _ _ gf7⟩ ⟨_, st9 _ _ gf8⟩ ⟨_, gf9⟩
end
end Mine
end
section
open PySem PySem.W PySem.Calls PyProof.Rows PySem.Spec
set_option maxRecDepth 100000
set_option maxHeartbeats 4000000
namespace Mine

structure Gd (w : World) (mg mb : Str → Option Value) (g : Heap) : Prop where
  K : (hd.heap_39 w.params).In g
  gn : g.Ns mainGlobals mg
  bn : g.Ns builtinsNs mb
  bb : ∀ x : Str, x ≠ "__name__" → mb x = bootBuiltins x
  nolim : g.NoLimit
  bmod : ∃ ob, g.get? 4 = some ob ∧ ob.cls = .type "module" ∧ ob.dict = some builtinsNs ∧ ob.data = .plain

theorem Gd.st {w mg mb g g'} (G : Gd w mg mb g) (s : St g g') : Gd w mg mb g' :=
  ⟨G.K.keeps s, Ns_st G.gn s, Ns_st G.bn s, G.bb, G.nolim.keeps s, let ⟨ob, a, r⟩ := G.bmod; ⟨ob, s _ _ a, r⟩⟩
theorem Gd.mgOf {w mg mb g} (G : Gd w mg mb g) {x : Str} {v : Value} (e : nsIn (hd.heap_39 w.params) mainGlobals x = some (some v)) : mg x = some v := mg_of G.K G.gn e
theorem Gd.mgNone {w mg mb g} (G : Gd w mg mb g) {x : Str} (e : nsIn (hd.heap_39 w.params) mainGlobals x = some none) : mg x = none := mg_none_of G.K G.gn e
theorem Gd.bat {w mg mb g} (G : Gd w mg mb g) {t : Addr} (h : g.get? t = none) : g.BuiltinsAt mg t := by
  obtain ⟨ob, a, r⟩ := G.bmod
  exact ⟨4, ob, G.mgOf (by kernel_rfl), by decide, by decide, (fun e => by rw [← e, a] at h; cases h), a, r⟩
theorem Gd.statics {w mg mb g} (G : Gd w mg mb g) : g.get? cStatics = some { cls := .none, data := .dict #[] } := G.K _ _ (by kernel_rfl)

section
variable {prog : Program} {w : World} {M : Model} {A : Around} {E : Value → Shared → Prop} {s : Shared} {mg mb : Str → Option Value} {g : Heap}

theorem callCells {f : Addr} {fo : Obj} {name qual : Str} {params : Arguments} {body : List Stmt} {scope : Scope} {dV kV doc pm cdv ct : Value} {an : Option Addr} {args : Args} {binds : List (Str × Value)} {Q : Value → Shared → Prop}
    (hlim : s.heap.NoLimit) (ho : s.heap.get? f = some fo) (hd : fo.data = .func (fnX name qual params body scope [] dV kV doc pm an cdv ct)) (hcd : s.heap.CodeRec cdv qual) (hroom : A.depth < recursionLimit)
    (hbind : BindsTo s (fnX name qual params body scope [] dV kV doc pm an cdv ct) args binds)
    (hkind : ∀ n, ∀ x ∈ binds, scope.names.lookup x.1 = some .local ∨ (scope.names.lookup x.1 = some .cell ∧ ((cellsFrom n scope.names []).lookup x.1).isSome = true))
    (h : ∀ L h₁ tk, St s.heap h₁ → s.heap.objs.size ≤ L → h₁.Ns L (bindL (envOfC qual scope L f cdv).kindOf binds fun _ => none) →
      (∀ n c, (cellsFrom (L + 1) scope.names []).lookup n = some c → h₁.IsCell c (bindC (envOfC qual scope L f cdv).kindOf binds (fun _ => none) n)) → (∀ n c, (n, c) ∈ cellsFrom (L + 1) scope.names [] → L < c) →
      wpAny (model prog w) (A.deeper (envOfC qual scope L f cdv)) (execs body (envOfC qual scope L f cdv)) (fun fl s' => Q (match fl with | .ret v => v | _ => .none) s') (fun _ _ => False) { s with heap := h₁, toks := tk })
    (hco : scope.isCoroutine = false) (hgen : scope.isGenerator = false) (hk : scope.kind = .function) : wpAny (model prog w) A (call (.ref f) args.pos args.kw) Q E s := by
  refine wpAny_call (codeAny_call_function hroom ho hd hco hgen rfl hcd (hbind _ _ _ _ ?_))
  refine wpAny_newFunctionEnv_cells hk (hkind _) fun env' he s' x => ?_
  subst he
  refine ⟨hlim.keeps x.toInCall.keep, codeAny_func ?_⟩
  obtain ⟨h₁, tk, rfl, _⟩ := x.done
  refine wpAny_mono (h s.heap.objs.size h₁ tk x.toInCall.keep (Nat.le_refl _) x.toInCall.ns (fun n c e => x.cell n c e) (fun n c e => x.above n c e)) (fun fl s' hq => hq) fun _ _ hF => hF.elim

abbrev posK : Pos := ⟨4, 4, 25, 23⟩
abbrev qK : Str := Str.ofString "cmp_to_key.<locals>.K"
abbrev sixK : List (Pos × Str) :=
  [(⟨23, 8, 24, 50⟩, (qK ++ Str.ofString ".") ++ Str.ofString "__ge__"), (⟨20, 8, 21, 50⟩, (qK ++ Str.ofString ".") ++ Str.ofString "__le__"), (⟨17, 8, 18, 50⟩, (qK ++ Str.ofString ".") ++ Str.ofString "__eq__"),
   (⟨14, 8, 15, 49⟩, (qK ++ Str.ofString ".") ++ Str.ofString "__gt__"), (⟨11, 8, 12, 49⟩, (qK ++ Str.ofString ".") ++ Str.ofString "__lt__"), (⟨8, 8, 9, 26⟩, (qK ++ Str.ofString ".") ++ Str.ofString "__init__")]

/-- the state of the code tables at the ground -/
def Tabs (g h : Heap) (ps : Array Value) : Prop := CM g h 20 16 ps ∧ (codeAmong posK ps.toList = none ∨ ∃ cc t qs, codeAmong posK ps.toList = some (.ref cc) ∧ CodeHd g cc t ∧ g.get? t = none ∧ t ≠ 16 ∧ h.get? t = some (tabObj qs) ∧ TriplesOk qs.toList ∧ FullL sixK g qs)

noncomputable def objAt (w : World) (a : Addr) : Obj := ((hd.heap_39 w.params).lookup a).getD default
noncomputable def kBody (w : World) : List Stmt := match (objAt w 21).data with
  | .func fd => (match fd.body with
    | .stmts (.ClassDef _ _ _ b _ _ _ _ _ _ _ :: _) => b
    | _ => [])
  | _ => []
noncomputable def kDef (w : World) (i : Nat) : Arguments × List Stmt × Scope := match (kBody w)[i]? with
  | some (.FunctionDef _ p b _ _ _ sc _ _ _) => (p, b, sc)
  | _ => (⟨[], [], none, [], [], none, []⟩, [], ⟨.module, [], false, false, []⟩)
abbrev qI : Str := (qK ++ Str.ofString ".") ++ Str.ofString "__init__"
abbrev qL : Str := (qK ++ Str.ofString ".") ++ Str.ofString "__lt__"
abbrev nmK : Value := .str (Str.ofString "law_mr0005_01") 211
/-- the two methods that matter, and what else the body made -/
structure KFns (w : World) (c : Addr) (g : Heap) (sl fI fL fG fE fLe fGe : Addr) : Prop where
  sl : ∃ to nn, g.get? sl = some { cls := .type "list", data := .seq #[.str (Str.ofString "obj") to] nn }
  fI : ∃ cd ct doc, g.CodeRec cd qI ∧ g.get? fI = some { cls := .type "function", data := .func (fnX (Str.ofString "__init__") qI (kDef w 2).1 (kDef w 2).2.1 (kDef w 2).2.2 [] .none .none doc nmK none cd ct) }
  fL : ∃ cd ct doc, g.CodeRec cd qL ∧ g.get? fL = some { cls := .type "function", data := .func (fnX (Str.ofString "__lt__") qL (kDef w 3).1 (kDef w 3).2.1 (kDef w 3).2.2 [(Str.ofString "mycmp", c)] .none .none doc nmK none cd ct) }
  fG : isFn g fG
  fE : isFn g fE
  fLe : isFn g fLe
  fGe : isFn g fGe
theorem KFns.st {w c g g' sl fI fL fG fE fLe fGe} (k : KFns w c g sl fI fL fG fE fLe fGe) (s : St g g') : KFns w c g' sl fI fL fG fE fLe fGe :=
  ⟨let ⟨a, b, e⟩ := k.sl; ⟨a, b, s _ _ e⟩, let ⟨a, b, d, r, e⟩ := k.fI; ⟨a, b, d, codeRec_keeps r s, s _ _ e⟩, let ⟨a, b, d, r, e⟩ := k.fL; ⟨a, b, d, codeRec_keeps r s, s _ _ e⟩,
   let ⟨a, e⟩ := k.fG; ⟨a, s _ _ e⟩, let ⟨a, e⟩ := k.fE; ⟨a, s _ _ e⟩, let ⟨a, e⟩ := k.fLe; ⟨a, s _ _ e⟩, let ⟨a, e⟩ := k.fGe; ⟨a, s _ _ e⟩⟩
def BdK (w : World) (c : Addr) (g : Heap) (_ns _t _cc : Addr) (kvs : List (Str × Value)) (qs : Array Value) : Prop :=
  ∃ sl fI fL fG fE fLe fGe t1 tq tf, kvs = [(Str.ofString "__module__", .str (Str.ofString "cpy313.functools") t1), (Str.ofString "__qualname__", .str qK tq), (Str.ofString "__firstlineno__", .int (4 : Nat) tf), (Str.ofString "__slots__", .ref sl), (Str.ofString "__init__", .ref fI), (Str.ofString "__lt__", .ref fL),
        (Str.ofString "__gt__", .ref fG), (Str.ofString "__eq__", .ref fE), (Str.ofString "__le__", .ref fLe), (Str.ofString "__ge__", .ref fGe), (Str.ofString "__hash__", .none)] ∧ KFns w c g sl fI fL fG fE fLe fGe ∧ FullL sixK g qs

/-- the class K made by one call of cmp_to_key with the comparison cv -/
def KClass (w : World) (cv : Value) (g : Heap) (C : Addr) : Prop :=
  ∃ n2 md sl fI fL fG fE fLe fGe sA c oc mv tf tmd sls, ClsAt g C { name := Str.ofString "K", bases := [.type "object"], mro := [.ref C, .type "object"], ns := n2, qualname := qK, hasDict := false, slotNames := [Str.ofString "obj"] } sls ∧
    sls[4]? = some (some (.builtin "object.__new__")) ∧
    DictAt g n2 (kvC mv (4 : Nat) tf sl fI fL fG fE fLe fGe sA [(Str.ofString "obj", .ref md), (Str.ofString "__doc__", .none)]) ∧
    g.get? md = some { cls := .type "member_descriptor", data := .fields #[.str (Str.ofString "obj") tmd, .ref C, .builtin "proto.slot", .builtin "proto.slot#set", .int 0 0] } ∧
    KFns w c g sl fI fL fG fE fLe fGe ∧ g.get? c = some oc ∧ oc.data = .cell (some cv)
theorem KClass.st {w cv g g' C} (k : KClass w cv g C) (s : St g g') : KClass w cv g' C :=
  let ⟨n2, md, sl, fI, fL, fG, fE, fLe, fGe, sA, c, oc, mv, tf, tmd, sls, a1, a2, a3, a4, a5, a6, a7⟩ := k
  ⟨n2, md, sl, fI, fL, fG, fE, fLe, fGe, sA, c, oc, mv, tf, tmd, sls, a1.st s, a2, a3.keeps s, s _ _ a4, a5.st s, s _ _ a6, a7⟩
theorem ne_tab {h : Heap} {b t : Addr} {o : Obj} {qs : Array Value} (x : h.get? b = some o) (y : h.get? t = some (tabObj qs)) (z : o.cls ≠ .none) : b ≠ t := fun e => by
  rw [e, y] at x; cases x; exact z rfl

theorem cmpToKey {cv : Value} {ps : Array Value} {Q : Value → Shared → Prop} (G : Gd w mg mb g) (T : Tabs g s.heap ps) (hroom : A.depth + 10 < recursionLimit)
    (h : ∀ C gF h' tk ps', St g gF → Tabs gF h' ps' → codeAmong posK ps'.toList ≠ none → KClass w cv gF C → Q (.ref C) { s with heap := h', toks := tk }) :
    wpAny (model prog w) A (call (.ref 21) [cv]) Q E s := by
  have Kh := G.K.keeps T.1.keep
  have e21 : (hd.heap_39 w.params).lookup 21 = some (objAt w 21) := by kernel_rfl
  refine callCells (args := ⟨[cv], []⟩) (G.nolim.keeps T.1.keep) (Kh 21 _ e21) rfl (codeRec_of Kh ?cr) (by omega) (BindsTo.of_eq rfl) ?_ (fun L h1 tk1 st1 nL nsL cells above => ?_) rfl rfl rfl
  case cr => kernel_rfl
  · intro n; exact kindsX rfl n
  refine wpAny_execs_cons ?_
  have G1 : Gd w mg mb h1 := (G.st T.1.keep).st st1
  rw [arm_exec_ClassDef]
  refine wpAny_bind (wpAny_pure ?_)
  refine wpAny_bind (wpAny_standAt ?_)
  refine wpAny_bind ?_
  unfold buildClassGuard
  refine wpAny_bind (wpAny_nsGet G1.bn ?_)
  rw [G1.bb _ (by decide), show bootBuiltins (Str.ofString "__build_class__") = some (.builtin "__build_class__") from by kernel_rfl]
  refine wpAny_pure ?_
  refine wpAny_bind (wpAny_holding ?_)
  refine wpAny_bind ?_
  unfold evalArgs
  refine wpAny_bind (wpAny_bind ?_)
  refine wIN Bool.false_ne_true ?_
  refine Name_function_global (x := Str.ofString "object") rfl rfl (loadGlobal_builtin G1.gn (G1.mgNone (by kernel_rfl)) G1.bn (v := .type "object") ((G1.bb _ (by decide)).trans (by kernel_rfl)) ?_)
  refine wIN Bool.false_ne_true ?_
  refine wpAny_bind (wpAny_pure (wpAny_bind (wpAny_holding (wpAny_pure (wpAny_pure ?_)))))
  refine wpAny_bind (wpAny_pure ?_)
  refine wpAny_holding ?_
  refine wIP rfl ?_
  refine wpAny_bind (wpAny_pure ?_)
  refine wpAny_bind (wpAny_pure ?_)
  refine wpAny_pure ?_
  refine wpAny_bind (wpAny_standAt ?_)
  refine wpAny_holding ?_
  have eq0 : qualnameIn (envOfC (Str.ofString "cmp_to_key") { kind := ScopeKind.function, names := [(Str.ofString "mycmp", NameKind.cell), (Str.ofString "K", NameKind.local), (Str.ofString "object", NameKind.globalImplicit)], isGenerator := false, isCoroutine := false } L 21 (Value.ref 20)) (Str.ofString "K") (Str.ofString "K") = qK := by kernel_rfl
  rw [eq0]
  obtain ⟨t', ht'0, ht'L, hcase'⟩ : ∃ t', g.get? t' = none ∧ t' < L ∧ (codeAmong posK ps.toList = none ∨ ∃ cc qs, codeAmong posK ps.toList = some (.ref cc) ∧ CodeHd g cc t' ∧ t' ≠ 16 ∧ s.heap.get? t' = some (tabObj qs) ∧ TriplesOk qs.toList ∧ FullL sixK g qs) := by
    rcases T.2 with hn | ⟨cc, t, qs, a1, a2, a3, a4, a5, a6⟩
    · exact ⟨16, T.1.nP, Nat.lt_of_lt_of_le (Heap.lt_size T.1.tab) nL, .inl hn⟩
    · exact ⟨t, a3, Nat.lt_of_lt_of_le (Heap.lt_size a5) nL, .inr ⟨cc, qs, a1, a2, a4, a5, a6⟩⟩
  have gL : ∀ {b o}, g.get? b = some o → b ≠ L := fun {b o} e q => by
    have := Heap.lt_size (T.1.keep _ _ e); rw [q] at this; exact absurd this (Nat.not_lt.mpr nL)
  have g0 : St g (hideAll h1 [t', t', 16]) := fun b o e => hid3 (st1 _ _ (T.1.keep _ _ e)) (fun q => by rw [q, ht'0] at e; cases e) (fun q => by rw [q, ht'0] at e; cases e) (fun q => by rw [q, T.1.nP] at e; cases e)
  have n16 : 16 < L := Nat.lt_of_lt_of_le (Heap.lt_size T.1.tab) nL
  obtain ⟨oc, goc, hoc⟩ : ∃ oc, h1.get? (L + 1) = some oc ∧ oc.data = .cell (some cv) := cells (Str.ofString "mycmp") (L + 1) (by kernel_rfl)
  have gcell : (hideAll h1 [t', t', 16]).get? (L + 1) = some oc := hid3 goc (Nat.ne_of_gt (Nat.lt_succ_of_lt ht'L)) (Nat.ne_of_gt (Nat.lt_succ_of_lt ht'L)) (Nat.ne_of_gt (Nat.lt_succ_of_lt n16))
  have nsG : (hideAll h1 [t', t', 16]).Ns L _ := let ⟨o, es, ep, ge, r⟩ := nsL; ⟨o, es, ep, hid3 ge (Nat.ne_of_gt ht'L) (Nat.ne_of_gt ht'L) (Nat.ne_of_gt n16), r⟩
  have hb16 : (hideAll h1 [t', t', 16]).get? 16 = none := hideAll_none _ (.tail _ (.tail _ (.head _)))
  have hbt : (hideAll h1 [t', t', 16]).get? t' = none := hideAll_none _ (.tail _ (.head _))
  have keep0 : St (hideAll h1 [t', t', 16]) h1 := fun _ _ e => of_hideAll _ e
  generalize hideAll h1 [t', t', 16] = gg at g0 gcell nsG hb16 hbt keep0
  have GG := G.st g0
  have hnm : mg (Str.ofString "__name__") = some nmK := GG.mgOf (by kernel_rfl)
  refine buildClass_K (g := gg) (c := 20) (P := 16) (ps := ps) (mg := mg) (nm := nmK) (clos := [(Str.ofString "mycmp", L + 1)]) (Full := FullL sixK) (Bd := BdK w (L + 1)) rfl rfl ?room GG.nolim GG.gn hnm (GG.bat hb16) ?hcl rfl ?s1 ?s2 ?n1 ?n2 ?n3 ?n4 ?n5 rfl rfl
    ⟨keep0, hb16, st1 _ _ T.1.tab, T.1.trip, T.1.cd.keeps g0⟩ ?hcase ?hbody ?hFull ?hBm ?htype
  case room => show A.depth + 1 < _; omega
  case hcl => kernel_rfl
  case s1 => decide +kernel
  case s2 => decide +kernel
  case n1 => decide +kernel
  case n2 => decide +kernel
  case n3 => decide +kernel
  case n4 => decide +kernel
  case n5 => decide +kernel
  case hcase =>
    rcases hcase' with hn | ⟨cc, qs, a1, a2, a3, a4, a5, a6⟩
    · exact .inl hn
    · exact .inr ⟨cc, t', qs, a1, a2.keeps g0, hbt, a3, st1 _ _ a4, a5, fun x hx => (a6 x hx).st g0⟩
  case hFull => exact fun g g' qs st f x hx => (f x hx).st st
  case hBm => exact fun g g' ns t cc kvs qs st ⟨sl, fI, fL, fG, fE, fLe, fGe, t1, tq, tf, e, k, f⟩ => ⟨sl, fI, fL, fG, fE, fLe, fGe, t1, tq, tf, e, k.st st, fun x hx => (f x hx).st st⟩
  case hbody =>
    intro cenv g1 hh1 ns t cc ps1 qs tk tq tf e1 e2 e3 e4 e5 e6 e7 sg nP nsP tP hP htr hca hcd hq CBx
    obtain ⟨csc, cloc, cgl, ccl, cql, cfn, ccd, cfr, cbi⟩ := cenv
    dsimp only at e1 e2 e3 e4 e5 e6 e7
    subst e1 e2 e3 e4 e5 e6 e7
    have S0 : CSt mg 16 cloc t cc (tabObj ps1) g1 hh1 [(Str.ofString "__module__", nmK), (Str.ofString "__qualname__", .str qK tq), (Str.ofString "__firstlineno__", .int (4 : Nat) tf)] qs
      [(⟨8, 8, 9, 26⟩, (qK ++ Str.ofString ".") ++ Str.ofString "__init__"), (⟨11, 8, 12, 49⟩, (qK ++ Str.ofString ".") ++ Str.ofString "__lt__"), (⟨14, 8, 15, 49⟩, (qK ++ Str.ofString ".") ++ Str.ofString "__gt__"), (⟨17, 8, 18, 50⟩, (qK ++ Str.ofString ".") ++ Str.ofString "__eq__"), (⟨20, 8, 21, 50⟩, (qK ++ Str.ofString ".") ++ Str.ofString "__le__"), (⟨23, 8, 24, 50⟩, (qK ++ Str.ofString ".") ++ Str.ofString "__ge__")] [] :=
      ⟨CBx, hcd, (GG.st sg).gn, (GG.st sg).bat CBx.nt, nP, hP, nsP, tP, fun x hx => by
        rcases hq with rfl | hf
        · exact .inl rfl
        · refine .inr (hf x ?_)
          simp only [List.mem_cons, List.not_mem_nil, or_false] at hx ⊢
          rcases hx with rfl | rfl | rfl | rfl | rfl | rfl <;> simp, fun _ hx => nomatch hx⟩
    refine classBody (cI := []) (cL := [(Str.ofString "mycmp", L + 1)]) (cG := [(Str.ofString "mycmp", L + 1)]) (cE := [(Str.ofString "mycmp", L + 1)]) (ce := [(Str.ofString "mycmp", L + 1)]) (cg := [(Str.ofString "mycmp", L + 1)]) S0 rfl rfl rfl rfl ?hl ?hD ?hlines fun sl fI fL fG fE fLe fGe to nn ctI ctL docI docL cdI cdL t1 g' h' qs' tk' sg' S' gsl rI gI rL gLt iG iE iLe iGe => ?_
    case hl =>
      intro n hn
      unfold Env.kindOf
      simp only [List.mem_cons, List.not_mem_nil, or_false] at hn
      rcases hn with rfl | rfl | rfl | rfl | rfl | rfl | rfl | rfl | rfl <;> kernel_rfl
    case hD =>
      exact ⟨⟨rfl, rfl, rfl, by kernel_rfl⟩, ⟨rfl, rfl, rfl, by kernel_rfl⟩, ⟨rfl, rfl, rfl, by kernel_rfl⟩, ⟨rfl, rfl, rfl, by kernel_rfl⟩, ⟨rfl, rfl, rfl, by kernel_rfl⟩, ⟨rfl, rfl, rfl, by kernel_rfl⟩⟩
    case hlines => rfl
    have nme : (mg (Str.ofString "__name__")).getD .none = nmK := by rw [hnm]; rfl
    refine ⟨g', h', tk', _, qs', rfl, sg', S'.nP, S'.hP, S'.cb, by kernel_rfl, sl, fI, fL, fG, fE, fLe, fGe, t1, tq, tf, rfl, ⟨⟨to, nn, gsl⟩, ⟨cdI, ctI, docI, rI, ?_⟩, ⟨cdL, ctL, docL, rL, ?_⟩, iG, iE, iLe, iGe⟩, S'.done⟩
    · rw [nme] at gI; exact gI
    · rw [nme] at gLt; exact gLt
  case htype =>
    intro g2 h2 ns t cc ps1 qs kvs bT sT tk tn ts sg nP hP htr hca CBx Bd hcd gb gsT tP nsP hsys
    obtain ⟨sl, fI, fL, fG, fE, fLe, fGe, t1, tq, tf, rfl, kf, full⟩ := Bd
    obtain ⟨to, nn, gsl⟩ := kf.sl
    have G2 := GG.st sg
    have k2 : St g2 h2 := CBx.keep
    refine typeCall (typeNew (k2 _ _ gb) CBx.dict hsys rfl (k2 _ _ gsl) rfl (k2 _ _ G2.statics) ?hush fun C n2 md h' tk' tmd st nC nN nM cC cD gmd => ⟨C, _, _, rfl, cC, ?_⟩)
    case hush =>
      intro h' st k v hm
      have fn : ∀ f, isFn g2 f → Hush h' (.ref f) := fun f ⟨fd, e⟩ => ⟨"function", fun s' es => ⟨_, by rw [es]; exact st _ _ (k2 _ _ e), rfl⟩, by rw [typeLookup_type, builtinLookup_eq_fast]; kernel_rfl, fun _ _ => rfl⟩
      have fIn : isFn g2 fI := let ⟨_, _, _, _, e⟩ := kf.fI; ⟨_, e⟩
      have fLn : isFn g2 fL := let ⟨_, _, _, _, e⟩ := kf.fL; ⟨_, e⟩
      simp only [List.mem_cons, List.not_mem_nil, or_false, Prod.mk.injEq] at hm
      rcases hm with ⟨_, rfl⟩ | ⟨_, rfl⟩ | ⟨_, rfl⟩ | ⟨_, rfl⟩ | ⟨_, rfl⟩ | ⟨_, rfl⟩ | ⟨_, rfl⟩ | ⟨_, rfl⟩ | ⟨_, rfl⟩ | ⟨_, rfl⟩ | ⟨_, rfl⟩
      · exact ⟨"str", fun _ _ => rfl, by rw [typeLookup_type, builtinLookup_eq_fast]; kernel_rfl, fun _ _ => rfl⟩
      · exact ⟨"int", fun _ _ => rfl, by rw [typeLookup_type, builtinLookup_eq_fast]; kernel_rfl, fun _ _ => rfl⟩
      · exact ⟨"list", fun s' es => ⟨_, by rw [es]; exact st _ _ (k2 _ _ gsl), rfl⟩, by rw [typeLookup_type, builtinLookup_eq_fast]; kernel_rfl, fun _ _ => rfl⟩
      · exact fn _ fIn
      · exact fn _ fLn
      · exact fn _ kf.fG
      · exact fn _ kf.fE
      · exact fn _ kf.fLe
      · exact fn _ kf.fGe
      · exact ⟨"NoneType", fun _ _ => rfl, by rw [typeLookup_type, builtinLookup_eq_fast]; kernel_rfl, fun _ _ => rfl⟩
      · exact ⟨"tuple", fun s' es => ⟨_, by rw [es]; exact st _ _ (k2 _ _ gsT), rfl⟩, by rw [typeLookup_type, builtinLookup_eq_fast]; kernel_rfl, fun _ _ => rfl⟩
    refine wpAny_bind (wpAny_pure (wpAny_bind (wpAny_standAt (wpAny_bind (wpAny_bindName ?_)))))
    have up' : St gg h' := fun b o e => st _ _ (k2 _ _ (sg _ _ e))
    refine wpAny_storeName_local (by kernel_rfl) (Ns_st nsG up') (fun h3 ns3 sb3 => ?_) rfl
    refine wpAny_pure ?_
    refine wpAny_execs_cons ?_
    refine wpAny_Return_some (wpAny_Name (wpAny_loadName_local rfl (by kernel_rfl) ns3 (v := .ref C) (by kernel_rfl) ?_))
    obtain ⟨oL, esL, epL, gLo, hLd, _⟩ := nsG
    have hL' : h'.get? L = some oL := up' _ _ gLo
    have ht' : h'.get? t = some (tabObj qs) := st _ _ CBx.tab
    have h16' : h'.get? 16 = some (tabObj ps1) := st _ _ hP
    have tL : t ≠ L := fun e => by
      rw [← e, ht'] at hL'; cases hL'; cases hLd
    have hL16 : (16 : Addr) ≠ L := Nat.ne_of_lt n16
    have g2F : ∀ b o, g2.get? b = some o → (∀ es n, o.data ≠ .dict es n) → (hideAll h3 [L, t, 16]).get? b = some o := fun b o e nd => by
      have bL : b ≠ L := fun q => by rw [q] at e; have := st _ _ (k2 _ _ e); rw [hL'] at this; cases this; exact nd _ _ hLd
      exact hid3 ((sb3.2 b bL).trans (st _ _ (k2 _ _ e))) bL (fun q => by rw [q, CBx.nt] at e; cases e) (fun q => by rw [q, nP] at e; cases e)
    have sgF : St g (hideAll h3 [L, t, 16]) := fun b o e => by
      have e2 := sg _ _ (g0 _ _ e)
      exact hid3 ((sb3.2 b (gL e)).trans (st _ _ (k2 _ _ e2))) (gL e) (fun q => by rw [q, CBx.nt] at e2; cases e2) (fun q => by rw [q, nP] at e2; cases e2)
    have newF : ∀ b o, h'.get? b = some o → o.cls ≠ .none → h2.get? b = none → (hideAll h3 [L, t, 16]).get? b = some o := fun b o e hc hn => by
      have bL : b ≠ L := fun q => by rw [q] at hn; rw [k2 _ _ (sg _ _ gLo)] at hn; cases hn
      exact hid3 ((sb3.2 b bL).trans e) bL (ne_tab e ht' hc) (ne_tab e h16' hc)
    have recF : ∀ {cd q}, g2.CodeRec cd q → (hideAll h3 [L, t, 16]).CodeRec cd q := fun ⟨c, o, vs, t, e, ge, r1, r2⟩ => ⟨c, o, vs, t, e, g2F _ _ ge (fun es n q => by rw [r1] at q; cases q), r1, r2⟩
    have fnF : ∀ {f}, isFn g2 f → isFn (hideAll h3 [L, t, 16]) f := fun ⟨fd, e⟩ => ⟨fd, g2F _ _ e (fun es n q => by cases q)⟩
    have cdF : CodeHd (hideAll h3 [L, t, 16]) cc t := by
      obtain ⟨o2, vs2, a1, a2, a3, a4, a5, a6, a7, e2, r1, r2, r3⟩ := hcd
      exact ⟨o2, vs2, a1, a2, a3, a4, a5, a6, a7, g2F _ _ e2 (fun es n q => by rw [r2] at q; cases q), r1, r2, r3⟩
    refine h C (hideAll h3 [L, t, 16]) h3 _ ps1 sgF ⟨⟨fun _ _ e => of_hideAll _ e, hideAll_none _ (.tail _ (.tail _ (.head _))), (sb3.2 _ hL16).trans h16', htr, T.1.cd.keeps sgF⟩,
      .inr ⟨cc, t, qs, hca, cdF, hideAll_none _ (.tail _ (.head _)), tP, (sb3.2 _ tL).trans ht', CBx.trip, fun x hx => let ⟨cv, a, b⟩ := full x hx; ⟨cv, a, recF b⟩⟩⟩ (by rw [hca]; exact fun q => by cases q) ?_
    have kF : KFns w (L + 1) (hideAll h3 [L, t, 16]) sl fI fL fG fE fLe fGe :=
      ⟨⟨to, nn, g2F _ _ gsl (fun es n q => by cases q)⟩, let ⟨a, b, d, r, e⟩ := kf.fI; ⟨a, b, d, recF r, g2F _ _ e (fun es n q => by cases q)⟩, let ⟨a, b, d, r, e⟩ := kf.fL; ⟨a, b, d, recF r, g2F _ _ e (fun es n q => by cases q)⟩,
        fnF kf.fG, fnF kf.fE, fnF kf.fLe, fnF kf.fGe⟩
    obtain ⟨es2, nn2, gn2, rn2⟩ := cD
    exact ⟨n2, md, sl, fI, fL, fG, fE, fLe, fGe, sT, L + 1, oc, _, tf, tmd, _, newF _ _ cC (fun q => by cases q) nC, rfl, ⟨es2, nn2, newF _ _ gn2 (fun q => by cases q) nN, rn2⟩, newF _ _ gmd (fun q => by cases q) nM, kF,
      g2F _ _ (sg _ _ gcell) (fun es n q => by rw [hoc] at q; cases q), hoc⟩
end
end Mine
end
section
open PySem PySem.W PySem.Calls PyProof.Rows PySem.Spec
set_option maxRecDepth 100000
set_option maxHeartbeats 4000000
namespace Mine
section
variable {prog : Program} {w : World} {M : Model} {A : Around} {E : Value → Shared → Prop} {s : Shared} {h : Heap} {C : Addr} {cd : ClassData} {sl : Array (Option Value)} {kvs : List (Str × Value)}

theorem callDef {f : Addr} {fo : Obj} {name qual : Str} {params : Arguments} {body : List Stmt} {scope : Scope} {cl : List (Str × Addr)} {dV kV doc pm cdv ct : Value} {an : Option Addr} {args : Args} {binds : List (Str × Value)} {R : Result → Shared → Prop}
    (hlim : s.heap.NoLimit) (ho : s.heap.get? f = some fo) (hd : fo.data = .func (fnX name qual params body scope cl dV kV doc pm an cdv ct)) (hcd : s.heap.CodeRec cdv qual) (hroom : A.depth < recursionLimit)
    (hbind : BindsTo s (fnX name qual params body scope cl dV kV doc pm an cdv ct) args binds) (hloc : ∀ y ∈ binds, scope.names.lookup y.1 = some .local)
    (h : ∀ L h₁, St s.heap h₁ → s.heap.objs.size ≤ L → h₁.Ns L (fun y => binds.reverse.lookup y) →
      wpAny (model prog w) (A.deeper (envX qual scope L f cdv cl)) (execs body (envX qual scope L f cdv cl)) (fun fl s' => R (.ok (.ret (match fl with | .ret v => v | _ => .none))) s') (fun _ _ => False) { s with heap := h₁, toks := s.toks + binds.length })
    (hcell : ∀ x ∈ scope.names, x.2 ≠ .cell) (hco : scope.isCoroutine = false) (hgen : scope.isGenerator = false) (hk : scope.kind = .function) : codeAny (model prog w) A (.call (.ref f) args) R s := by
  refine codeAny_call_def (fd := fnX name qual params body scope cl dV kV doc pm an cdv ct) (body := body) (binds := binds) hroom ho hd hlim hcd rfl hbind hcell hloc (fun h₁ hns hk₁ => ?_) hco hgen hk
  exact wpAny_mono (h s.heap.objs.size h₁ hk₁ (Nat.le_refl _) hns) (fun fl s' hq => hq) fun _ _ hF => hF.elim

theorem tlL {name : Str} {r : Option Value} (x : ClsAt h C cd sl) (hm : cd.mro = [.ref C, .type "object"]) (D : DictAt h cd.ns kvs) (hr : (kvs.lookup name).or (builtinOwn "object" name) = r) : Looks M h (typeLookup (.ref C) name) r :=
  fun _ _ _ _ k q => tlC (x.st k) hm (D.keeps k) hr q

theorem tl_type_call : typeLookup (.type "type") "__call__" = pure (some (.builtin "type.__call__")) := by rw [typeLookup_type, builtinLookup_eq_fast]; kernel_rfl

theorem kMakes (x : ClsAt h C cd sl) (hm : cd.mro = [.ref C, .type "object"]) (hab : cd.abstract = false) (hde : cd.hasDel = false) (h4 : sl[4]? = some (some (.builtin "object.__new__"))) : Makes M h C := by
  have hmro : Looks M h (mroOf (.ref C)) [.ref C, .type "object"] := fun A Q E s k q => wpAny_bind (wpAny_bind (wpAny_load (k _ _ x) (wpAny_pure (wpAny_pure (by rw [hm]; exact q)))))
  have made : Looks M h (Bind.madeBy (.ref C)) (some "object.__new__") := by
    intro A Q E s k q
    unfold Bind.madeBy
    refine wpAny_bind (hmro A _ E s k (wpAny_bind (wFL ?_)))
    refine wpAny_bind (wpAny_bind (wpAny_loadPart (k _ _ x) (wpAny_pure ?_)))
    dsimp only
    rw [h4]
    exact wpAny_pure (wpAny_pure q)
  refine ⟨⟨_, _, cd, sl, x, hab, hde, by rw [hm]; rfl⟩, made, ?_, subCC x hm (.inl rfl), subCC x hm (.inr rfl), ?_, ?_⟩
  · intro A Q E s k q
    unfold Bind.staticBase
    refine wpAny_bind (hmro A _ E s k (wpAny_bind (wFL ?_)))
    exact wpAny_bind (made A _ E s k (wpAny_pure (wpAny_pure q)))
  · intro A Q E s k q
    unfold specialOf
    exact wpAny_bind (wpAny_typeOf_ref (k _ _ x) (wpE tl_type_call q))
  · intro A Q E s k q
    unfold isInstance
    exact wpAny_bind (wpAny_typeOf_ref (k _ _ x) (wpE sub_type_type q))
end
end Mine
end
section
open PySem PySem.W PySem.Calls PyProof.Rows PySem.Spec Builtin Builtin.ObjectAttr Builtin.Getset_descriptor
set_option maxRecDepth 100000
set_option maxHeartbeats 4000000
namespace Mine
abbrev kObj (C dx : Addr) (v : Value) : Obj := { cls := .ref C, dict := some dx, data := .plain, slots := #[some v] }
/-- x is a thing of the class at C, and its one slot holds v -/
def KInst (h : Heap) (C x : Addr) (v : Value) : Prop := ∃ dx, h.get? x = some (kObj C dx v)
theorem KInst.st {h h' : Heap} {C x v} (k : KInst h C x v) (s : St h h') : KInst h' C x v := let ⟨d, e⟩ := k; ⟨d, s _ _ e⟩
theorem tl_md_get : typeLookup (.type "member_descriptor") "__get__" = pure (some (.builtin "member_descriptor.__get__")) := by rw [typeLookup_type, builtinLookup_eq_fast]; kernel_rfl
theorem tl_md_set : typeLookup (.type "member_descriptor") "__set__" = pure (some (.builtin "member_descriptor.__set__")) := by rw [typeLookup_type, builtinLookup_eq_fast]; kernel_rfl
section
variable {prog : Program} {w : World} {M : Model} {A : Around} {E : Value → Shared → Prop} {s : Shared} {h : Heap} {C md x dx : Addr} {cd : ClassData} {sl : Array (Option Value)} {kvs : List (Str × Value)} {tmd : Tok} {v : Value}
abbrev mdObj (C : Addr) (tmd : Tok) : Obj := { cls := .type "member_descriptor", data := .fields #[.str (Str.ofString "obj") tmd, .ref C, .builtin "proto.slot", .builtin "proto.slot#set", .int 0 0] }
theorem tyX {o : Obj} (g : h.get? x = some o) : Looks M h (typeOf (.ref x)) o.cls := (Looks.ld g).andThen .now

theorem slotGetK {tp : Value} {R : Result → Shared → Prop} (c : ClsAt s.heap C cd sl) (hm : cd.mro = [.ref C, .type "object"]) (hs : cd.slotNames = [Str.ofString "obj"]) (m : s.heap.get? md = some (mdObj C tmd))
    (i : s.heap.get? x = some (kObj C dx v)) (h : R (.ok (.ret v)) s) : codeAny (model prog w) A (.call (.builtin "member_descriptor.__get__") ⟨[.ref md, .ref x, tp], []⟩) R s := by
  obtain ⟨hh, g, dr, t, os⟩ := s
  have L0 : Looks (model prog w) hh (typeOf (.ref x)) (.ref C) := tyX i
  have L1 : Looks (model prog w) hh (isSubtype (.ref C) (.ref C)) true := subCC c hm (.inl rfl)
  have L2 : Looks (model prog w) hh (Slots.slotNamesOf (.ref C)) [Str.ofString "obj"] := hs ▸ ((Looks.ld (part := none) c).andThen .now).andThen .now
  dsimp only at i m
  have f0 := looks_field (M := model prog w) m 0 (v := .str (Str.ofString "obj") tmd) rfl
  have f1 := looks_field (M := model prog w) m 1 (v := .ref C) rfl
  have f2 := looks_field (M := model prog w) m 2 (v := .builtin "proto.slot") rfl
  have f4 := looks_field (M := model prog w) m 4 (v := .int 0 0) rfl
  refine codeAny_call_builtin KF.slot_mem.plain KF.entry_mem (KF.slot_mem.check _ _ _ _ _ _ _ _ ⟨_, m, rfl⟩ (KF.args_mem _ _ _) ?_)
  unfold Builtin.«member_descriptor.__get__» descrGet
  rw [dga_obj]
  refine wpAny_bind (wpAny_pure ?_)
  unfold descrGetter descrCheckInstance descrNameAndClass isInstance
  repeat lk
  refine ⟨Code.quiet_builtin _ (by decide +kernel), codeAny_builtin KF.entry_slot ?_⟩
  unfold Builtin.«proto.slot» Slots.target
  repeat lk
  exact h

theorem slotSetK {R : Result → Shared → Prop} (c : ClsAt s.heap C cd sl) (hm : cd.mro = [.ref C, .type "object"]) (hs : cd.slotNames = [Str.ofString "obj"]) (m : s.heap.get? md = some (mdObj C tmd))
    (i : s.heap.get? x = some (instObj C dx)) (h : ∀ h', Heap.SameBut x s.heap h' → h'.get? x = some (kObj C dx v) → R (.ok (.ret .none)) { s with heap := h' }) : codeAny (model prog w) A (.call (.builtin "member_descriptor.__set__") ⟨[.ref md, .ref x, v], []⟩) R s := by
  obtain ⟨hh, g, dr, t, os⟩ := s
  have L0 : Looks (model prog w) hh (typeOf (.ref x)) (.ref C) := tyX i
  have L1 : Looks (model prog w) hh (isSubtype (.ref C) (.ref C)) true := subCC c hm (.inl rfl)
  have L2 : Looks (model prog w) hh (Slots.slotNamesOf (.ref C)) [Str.ofString "obj"] := hs ▸ ((Looks.ld (part := none) c).andThen .now).andThen .now
  dsimp only at i m
  have f0 := looks_field (M := model prog w) m 0 (v := .str (Str.ofString "obj") tmd) rfl
  have f1 := looks_field (M := model prog w) m 1 (v := .ref C) rfl
  have f3 := looks_field (M := model prog w) m 3 (v := .builtin "proto.slot#set") rfl
  have f4 := looks_field (M := model prog w) m 4 (v := .int 0 0) rfl
  refine codeAny_call_builtin KF.slot_mset.plain KF.entry_mset (KF.slot_mset.check _ _ _ _ _ _ _ _ ⟨_, m, rfl⟩ (KF.args_mset _ _ _) ?_)
  unfold Builtin.«member_descriptor.__set__» descrSet descrStoreThrough descrCheckInstance descrNameAndClass isInstance
  have f5 : Looks (model prog w) hh (descrItself (.ref md)) [.ref md] := ((Looks.ld (part := none) m).andThen .now).andThen (Looks.of_pure (by kernel_rfl))
  repeat lk
  refine ⟨Code.quiet_builtin _ (by decide +kernel), codeAny_builtin KF.entry_slotset ?_⟩
  unfold Builtin.«proto.slot#set» Slots.target
  repeat lk
  exact wpAny_updatePart i (wpAny_pure (h _ (Heap.SameBut.update ..) (Heap.get?_update_self _ i rfl)))

theorem getObj {expr : Bool} {Q : Value → Shared → Prop} (c : ClsAt s.heap C cd sl) (hm : cd.mro = [.ref C, .type "object"]) (hs : cd.slotNames = [Str.ofString "obj"]) (D : DictAt s.heap cd.ns kvs) (k1 : kvs.lookup (Str.ofString "obj") = some (.ref md)) (k2 : kvs.lookup (Str.ofString "__getattribute__") = none) (k3 : kvs.lookup (Str.ofString "__getattr__") = none)
    (m : s.heap.get? md = some (mdObj C tmd)) (i : s.heap.get? x = some (kObj C dx v)) (hh : handedIn v = true) (h : Q v { s with toks := s.toks + 1 }) : wpAny (model prog w) A (getAttr (.ref x) (Str.ofString "obj") expr) Q E s := by
  have L0 : Looks (model prog w) s.heap (typeOf (.ref x)) (.ref C) := tyX i
  have L1 : Looks (model prog w) s.heap (typeLookup (.ref C) "__getattribute__") (some (.builtin "object.__getattribute__")) := tlL c hm D (by rw [show ("__getattribute__" : Str) = Str.ofString "__getattribute__" from rfl, k2]; kernel_rfl)
  have L2 : Looks (model prog w) s.heap (typeLookup (.ref C) "__getattr__") none := tlL c hm D (by rw [show ("__getattr__" : Str) = Str.ofString "__getattr__" from rfl, k3]; kernel_rfl)
  have L3 : Looks (model prog w) s.heap (find (.ref x) (.ref C) (Str.ofString "obj")) (.bind (.builtin "member_descriptor.__get__") (.ref md)) := by
    refine (tlL c hm D (r := some (.ref md)) (by rw [k1]; rfl)).andThen ?_
    refine Looks.andThen (a := some (.builtin "member_descriptor.__get__")) ((tyX m).andThen (Looks.of_pure tl_md_get)) ?_
    refine Looks.andThen (a := some (.builtin "member_descriptor.__get__", .ref md)) ?_ (Looks.tag .now)
    exact Looks.andThen (a := true) (((tyX m).andThen (Looks.of_pure tl_md_set)).andThen .now) .now
  unfold getAttr getAttrBy
  refine wpAny_bind (wpAny_mkText (wpAny_holding (wpAny_bind (L0.here (s := { s with toks := s.toks + 1 }) (wpAny_bind (L1.here (s := { s with toks := s.toks + 1 }) ?_))))))
  show wpAny _ _ (getAttrEveryday _ _ _) _ _ _
  refine wpAny_bind (wpAny_onRaise (wpAny_runValue (codeAny_builtin F.plainObj_entry_getattr_hooked ?_)))
  refine wpAny_bind (wpAny_pure (wpAny_bind (L0.here (s := { s with toks := s.toks + 1 }) (wpAny_bind (L3.here (s := { s with toks := s.toks + 1 }) (wpAny_bind (L2.here (s := { s with toks := s.toks + 1 }) ?_)))))))
  show wpAny _ _ (holding [.ref md] (call (.builtin "member_descriptor.__get__") [.ref md, .ref x, .ref C]) >>= ret) _ _ _
  refine wpAny_bind (wpAny_holding (wpAny_call (slotGetK (s := { s with toks := s.toks + 1 }) c hm hs m i ?_)))
  refine wpAny_pure ?_
  show wpAny _ _ (handedOut v) _ _ _
  rw [handedOut_of hh]; exact wpAny_pure h

theorem setObj {Q : Unit → Shared → Prop} (c : ClsAt s.heap C cd sl) (hm : cd.mro = [.ref C, .type "object"]) (hs : cd.slotNames = [Str.ofString "obj"]) (D : DictAt s.heap cd.ns kvs) (k1 : kvs.lookup (Str.ofString "obj") = some (.ref md)) (k2 : kvs.lookup (Str.ofString "__setattr__") = none)
    (m : s.heap.get? md = some (mdObj C tmd)) (i : s.heap.get? x = some (instObj C dx)) (h : ∀ h' tk, Heap.SameBut x s.heap h' → h'.get? x = some (kObj C dx v) → Q () { s with heap := h', toks := tk }) : wpAny (model prog w) A (setAttr (.ref x) (Str.ofString "obj") v) Q E s := by
  have L0 : Looks (model prog w) s.heap (typeOf (.ref x)) (.ref C) := tyX i
  have L1 : Looks (model prog w) s.heap (typeLookup (.ref C) "__setattr__") (some (.builtin "object.__setattr__")) := tlL c hm D (by rw [show ("__setattr__" : Str) = Str.ofString "__setattr__" from rfl, k2]; kernel_rfl)
  have SF := PySem.F.store_object
  refine wpAny_bind (wpAny_mkText (wpAny_bind (wpAny_bind (wpAny_bind (L0 _ _ _ _ (fun _ _ e => e) (L1 _ _ _ _ (fun _ _ e => e) (wpAny_holding ?_)))))))
  rw [SF.slot.bind]
  refine wpAny_bind (wpAny_pure (wpAny_bind (wpAny_call ?_)))
  have sub : Looks (model prog w) s.heap (isInstance (.ref x) (.type "object")) true := L0.andThen (subCC c hm (.inr rfl))
  refine codeAny_call_builtin SF.slot.plain SF.entry (@check_slot (model prog w) _ _ { s with toks := s.toks + 1 } "object.__setattr__" "object" "__setattr__" (.ref x) [.str (Str.ofString "obj") s.toks, v] [] _ SF.kind SF.split sub (SF.args (.ref x) (.str (Str.ofString "obj") s.toks) v) ?_)
  have hmro : Looks (model prog w) s.heap (mroOf (.ref C)) [.ref C, .type "object"] := hm ▸ ((Looks.ld (part := none) c).andThen .now).andThen .now
  show wpAny _ _ (Builtin.«object.__setattr__» ⟨[.ref x, .str (Str.ofString "obj") s.toks, v], []⟩) _ _ _
  rw [osa_eq, refuse_eq]
  refine wpAny_bind (wpAny_bind (L0.here (s := { s with toks := s.toks + 1 }) (wpAny_bind (hmro.here (s := { s with toks := s.toks + 1 }) ?_))))
  rw [refuse_only _ rfl]
  refine wpAny_pure (wpAny_bind (L0.here (s := { s with toks := s.toks + 1 }) (wpAny_bind ((tlL c hm D (name := Str.ofString "obj") (r := some (.ref md)) (by rw [k1]; rfl) : Looks (model prog w) s.heap _ _).here (s := { s with toks := s.toks + 1 }) ?_))))
  have L3 : Looks (model prog w) s.heap (storeTaker? (some (.ref md))) (some (.ref md)) := Looks.andThen (a := true) (((tyX m).andThen (Looks.of_pure tl_md_set)).andThen .now) .now
  refine wpAny_bind (L3.here (s := { s with toks := s.toks + 1 }) ?_)
  have S := KF.slot_mset
  refine wpAny_bind (wpAny_rule (wpAny_bind (wpAny_holding (wpAny_bind (wpAny_bind ((tyX m).here (s := { s with toks := s.toks + 1 }) ((Looks.of_pure (h := s.heap) S.lookup).here (s := { s with toks := s.toks + 1 }) (wpAny_holding ?_))))))))
  rw [S.bind]
  refine wpAny_bind (wpAny_pure (wpAny_bind (wpAny_call (slotSetK (s := { s with toks := s.toks + 1 }) c hm hs m i fun h' sb g => ?_))))
  exact wpAny_pure (wpAny_pure (wpAny_pure (wpAny_pure (h h' _ sb g))))
end
end Mine
end
section
open PySem PySem.W PySem.Calls PyProof.Rows PySem.Spec
set_option maxRecDepth 100000
set_option maxHeartbeats 4000000
namespace Mine
section
variable {prog : Program} {w : World} {M : Model} {A : Around} {E : Value → Shared → Prop} {s : Shared} {h : Heap} {C : Addr} {v cv : Value}
theorem bindFn {f : Addr} {o : Obj} (self : Value) (g : h.get? f = some o) (hc : o.cls = .type "function") : Looks M h (bindSpecial (.ref f) self) (.ref f, [self]) := by
  unfold bindSpecial
  exact (hc ▸ tyX g : Looks M h (typeOf (.ref f)) (.type "function")).andThen (Looks.of_pure (by kernel_rfl))

theorem kNew {R : Result → Shared → Prop} (nl : s.heap.NoLimit) (k : KClass w cv s.heap C) (hroom : A.depth + 1 < recursionLimit)
    (h : ∀ x h' tk, St s.heap h' → KInst h' C x v → s.heap.objs.size ≤ x → R (.ok (.ret (.ref x))) { s with heap := h', toks := tk }) : codeAny (model prog w) A (.call (.ref C) ⟨[v], []⟩) R s := by
  obtain ⟨n2, md, sl, fI, fL, fG, fE, fLe, fGe, sA, c, oc, mv, tf, tmd, sls, a1, a2, a3, a4, a5, a6, a7⟩ := k
  obtain ⟨cd, ct, doc, rI, gI⟩ := a5.fI
  obtain ⟨hh, gg, d, t, os⟩ := s
  dsimp only at nl a1 a2 a3 a4 gI rI a6
  refine make_core (kMakes a1 rfl rfl rfl a2) (tlL a1 rfl a3 (r := some (.ref fI)) (by rfl)) (fun self => bindFn self gI rfl) (.inl rfl) ?_
  have st : St hh ((hh.push emptyDict).push (instObj C hh.objs.size)) := fun _ _ e => Heap.get?_push_of_some _ (Heap.get?_push_of_some _ e)
  have hx : ((hh.push emptyDict).push (instObj C hh.objs.size)).get? (hh.objs.size + 1) = some (instObj C hh.objs.size) := by heap_get
  have hb : BindsTo ⟨(hh.push emptyDict).push (instObj C hh.objs.size), gg, d, t, os⟩ (fnX (Str.ofString "__init__") qI (kDef w 2).1 (kDef w 2).2.1 (kDef w 2).2.2 [] .none .none doc nmK none cd ct) ⟨[.ref (hh.objs.size + 1), v], []⟩ [(Str.ofString "self", .ref (hh.objs.size + 1)), (Str.ofString "obj", v)] := BindsTo.of_eq rfl
  refine callDef (nl.keeps st) (st _ _ gI) rfl (codeRec_keeps rI st) hroom hb ?_ (fun L h₁ st₁ nL ns => ?_) ?_ rfl rfl rfl
  · intro y hy
    simp only [List.mem_cons, List.not_mem_nil, or_false] at hy
    rcases hy with rfl | rfl <;> kernel_rfl
  · have c1 : ClsAt h₁ C _ sls := (a1.st st).st st₁
    have d1 := (a3.keeps st).keeps st₁
    have m1 := st₁ _ _ (st _ _ a4)
    have x1 := st₁ _ _ hx
    refine wpAny_execs_cons ?_
    refine plainObj_wpAny_Assign_Attribute (wpAny_Name (wpAny_loadName_local rfl (by kernel_rfl) ns (v := v) rfl ?_)) (by kernel_rfl)
    refine wpAny_Name (wpAny_loadName_local rfl (by kernel_rfl) ns (v := .ref (hh.objs.size + 1)) rfl ?_)
    refine setObj c1 rfl rfl d1 rfl rfl m1 x1 fun h' tk sb gx => ?_
    refine wpAny_execs_nil ?_
    refine ⟨rfl, h _ h' tk (fun b o e => ?_) ⟨_, gx⟩ (Nat.le_succ _)⟩
    exact (sb.2 b (Nat.ne_of_lt (Nat.lt_succ_of_lt (Heap.lt_size e)))).trans (st₁ _ _ (st _ _ e))
  · have e : (kDef w 2).2.2.names.all (fun x => x.2 != .cell) = true := by kernel_rfl
    intro y hy q
    have := List.all_eq_true.mp e y hy
    rw [q] at this
    exact absurd this (by decide)
end
end Mine
end
section
open PySem PySem.W PySem.Calls PyProof.Rows PySem.Spec
set_option maxRecDepth 100000
set_option maxHeartbeats 4000000
namespace Mine
section
variable {prog : Program} {w : World} {M : Model} {A : Around} {E : Value → Shared → Prop} {s : Shared} {mg mb : Str → Option Value}
theorem kinds_no {sc : Scope} (e : sc.names.all (fun x => x.2 != .cell) = true) : ∀ x ∈ sc.names, x.2 ≠ .cell := by
  intro y hy q
  have := List.all_eq_true.mp e y hy
  rw [q] at this
  exact absurd this (by decide)
/-- what _law_on gives -/
def onW (p a b : Int) : Int := if p.fmod 2 = 0 then p * b + a else p * b + b - 1 - a
theorem lawOn {p a b : Int} {tp ta tb : Tok} {T : Addr} {R : Result → Shared → Prop} (G : Gd w mg mb s.heap) (hT : IsTup s.heap T #[.int a ta, .int b tb]) (hroom : A.depth < recursionLimit) (hm : IntMulOk p b)
    (h : ∀ h' tk t' r, r = onW p a b → St s.heap h' → R (.ok (.ret (.int r t'))) { s with heap := h', toks := tk }) : codeAny (model prog w) A (.call (.ref 44) ⟨[.int p tp, .ref T], []⟩) R s := by
  have e44 : (hd.heap_39 w.params).lookup 44 = some (objAt w 44) := by kernel_rfl
  refine callDef (binds := [(Str.ofString "place", .int p tp), (Str.ofString "pair", .ref T)]) G.nolim (G.K _ _ e44) rfl (codeRec_of G.K (by kernel_rfl)) hroom (BindsTo.of_eq rfl) ?_ (fun L h₁ st nL ns => ?_) (kinds_no (by kernel_rfl)) rfl rfl rfl
  · intro y hy
    simp only [List.mem_cons, List.not_mem_nil, or_false] at hy
    rcases hy with rfl | rfl <;> kernel_rfl
  have F : Fr s.heap L h₁ (fun y => [(Str.ofString "place", Value.int p tp), (Str.ofString "pair", Value.ref T)].reverse.lookup y) := ⟨ns, st, nL⟩
  have N : News s.heap L h₁ [] := fun _ hp => nomatch hp
  have X := G.K
  have hT1 : IsTup h₁ T #[.int a ta, .int b tb] := Heap.IsTuple.at hT fun o e => st _ o e
  refine wpAny_execs_cons ?_
  k_steps
  all_goals (repeat' first | (refine item_tuple hT1 (by decide) (by decide) rfl rfl ?_; k_steps) | (refine PyProof.Rows.mul_int ?_ hm; k_steps))
  · rename_i hp
    exact h _ _ _ _ (if_pos hp).symm st
  · rename_i hp
    exact h _ _ _ _ (if_neg hp).symm st

/-- what _law_is_ahead answers -/
def aheadW (a k b l : Int) : Bool := decide (a < b) || (a == b && decide (k < l))
theorem lawAhead {a k b l : Int} {ta tk tb tl : Tok} {T U : Addr} {R : Result → Shared → Prop} (G : Gd w mg mb s.heap) (hT : IsTup s.heap T #[.int a ta, .int k tk]) (hU : IsTup s.heap U #[.int b tb, .int l tl]) (hroom : A.depth < recursionLimit)
    (h : ∀ h' tk r, r = aheadW a k b l → St s.heap h' → R (.ok (.ret (.bool r))) { s with heap := h', toks := tk }) : codeAny (model prog w) A (.call (.ref 58) ⟨[.ref T, .ref U], []⟩) R s := by
  have e58 : (hd.heap_39 w.params).lookup 58 = some (objAt w 58) := by kernel_rfl
  refine callDef (binds := [(Str.ofString "one", .ref T), (Str.ofString "other", .ref U)]) G.nolim (G.K _ _ e58) rfl (codeRec_of G.K (by kernel_rfl)) hroom (BindsTo.of_eq rfl) ?_ (fun L h₁ st nL ns => ?_) (kinds_no (by kernel_rfl)) rfl rfl rfl
  · intro y hy
    simp only [List.mem_cons, List.not_mem_nil, or_false] at hy
    rcases hy with rfl | rfl <;> kernel_rfl
  have F : Fr s.heap L h₁ (fun y => [(Str.ofString "one", Value.ref T), (Str.ofString "other", Value.ref U)].reverse.lookup y) := ⟨ns, st, nL⟩
  have N : News s.heap L h₁ [] := fun _ hp => nomatch hp
  have X := G.K
  have hT1 : IsTup h₁ T #[.int a ta, .int k tk] := Heap.IsTuple.at hT fun o e => st _ o e
  have hU1 : IsTup h₁ U #[.int b tb, .int l tl] := Heap.IsTuple.at hU fun o e => st _ o e
  refine wpAny_execs_cons ?_
  k_steps
  all_goals (repeat' first | (refine item_tuple hT1 (by decide) (by decide) rfl rfl ?_; k_steps) | (refine item_tuple hU1 (by decide) (by decide) rfl rfl ?_; k_steps))
  all_goals (refine h _ _ _ ?_ st; clear F N X G hT hU hT1 hU1 ns st h e58; unfold aheadW; first | (simp_all; done) | (rename_i x y; rw [beq_eq_false_iff_ne.mpr y, decide_eq_false (by omega)]; rfl))
end
end Mine
end
section
open PySem PySem.W PySem.Calls PyProof.Rows PySem.Spec
set_option maxRecDepth 100000
set_option maxHeartbeats 1000000
namespace Mine
/-- keeps an end out of the driver's hands -/
structure Held (P : Prop) : Prop where
  get : P
section
variable {prog : Program} {w : World} {A : Around} {E : Value → Shared → Prop} {s : Shared} {env : Env} {h₀ : Heap} {body : List Stmt} {Q : Flow → Shared → Prop}
theorem turnsAt_mk {target : Expr} {I : Addr} {fp wr : List Addr} {n : Nat} {P Md : Nat → Value → Heap → Prop} {St : Nat → Heap → Prop} {m : Str → Option Value} {s₂ : Shared} (J : Nat → (Str → Option Value) → Prop)
    (W : KTurns prog w A target I fp wr n P Md St) (hLf : env.locals ∉ fp) (hwr : ∀ b ∈ wr, h₀.get? b = none) (hst : St 0 s₂.heap) (F : Fr h₀ env.locals s₂.heap m) (j0 : J 0 m)
    (step : ∀ i v m₁ h₁ tk₁ own, i < n → P i v h₁ → J i m₁ → Fr h₀ env.locals h₁ m₁ → News h₀ env.locals h₁ own →
      wpAny (model prog w) A (assign target env v) (fun _ s₃ => wpAny (model prog w) A (execs body env)
        (fun f s' => match f with | .ret v => Q (.ret v) s' | .brk => Q .next s' | _ => Held (∃ h' tk' m', s' = { s₂ with heap := h', toks := tk' } ∧ Fr h₀ env.locals h' m' ∧ News h₀ env.locals h' own ∧ J (i + 1) m')) E s₃) E { s₂ with heap := h₁, toks := tk₁ })
    (fin : ∀ h' tk m', Fr h₀ env.locals h' m' → J n m' → Q .next { s₂ with heap := h', toks := tk }) : TurnsAt prog w A h₀ env target body Q E (.ref I) s₂ := by
  unfold TurnsAt
  refine ⟨I, fp, wr, n, P, Md, St, m, [], fun i m news => news = [] ∧ J i m, rfl, W, hLf, hwr, List.forall_mem_nil _, hst, F, List.forall_mem_nil _, ⟨rfl, j0⟩, ?_, ?_⟩
  · intro i v m₁ news₁ h₁ tk₁ own hi hP hJ _ _ _ _ _ F₁ N₁
    obtain ⟨rfl, hJ⟩ := hJ
    rw [List.append_nil] at N₁
    refine wpAny_mono (step i v m₁ h₁ tk₁ own hi hP hJ F₁ N₁) (fun _ s₃ z => wpAny_mono z (fun f s' q => ?_) fun _ _ e => e) fun _ _ e => e
    cases f with
    | ret v => exact q
    | brk => exact q
    | cont =>
      obtain ⟨h', tk', m', rfl, F', N', J'⟩ := q.get
      exact LoopStepU.intro (news₂ := []) F' (by rw [List.append_nil]; exact N') (List.forall_mem_nil _) ⟨rfl, J'⟩
    | next =>
      obtain ⟨h', tk', m', rfl, F', N', J'⟩ := q.get
      exact LoopStepU.intro (news₂ := []) F' (by rw [List.append_nil]; exact N') (List.forall_mem_nil _) ⟨rfl, J'⟩
  · intro h tk m news F' N' _ hJ
    exact fin h tk m F' hJ.2
/-- a for over zip of two lists of the ground, with a state J of the frame's names -/
theorem zipLoop {elts : List Expr} {k : Nat} {pos : Pos} {l1 l2 : Addr} {xs ys : List Value} {m₀ : Str → Option Value} (hh : A.handled = none) (F : Fr h₀ env.locals s.heap m₀) (h1 : h₀.IsList l1 xs.toArray) (h2 : h₀.IsList l2 ys.toArray)
    (J : Nat → (Str → Option Value) → Prop) (j0 : J 0 m₀)
    (step : ∀ i x y T m h tk own, xs[i]? = some x → ys[i]? = some y → J i m → Fr h₀ env.locals h m → News h₀ env.locals h own → IsTup h T #[x, y] →
      wpAny (model prog w) A (assign (.Tuple elts k pos) env (.ref T)) (fun _ s₂ => wpAny (model prog w) A (execs body env)
        (fun f s' => match f with | .ret v => Q (.ret v) s' | .brk => Q .next s' | _ => Held (∃ h' tk' m', s' = { s with heap := h', toks := tk' } ∧ Fr h₀ env.locals h' m' ∧ News h₀ env.locals h' own ∧ J (i + 1) m')) E s₂) E { s with heap := h, toks := tk })
    (fin : ∀ h tk m, Fr h₀ env.locals h m → J (min xs.length ys.length) m → Q .next { s with heap := h, toks := tk }) :
    wpAny (model prog w) A (call (.type "zip") [.ref l1, .ref l2]) (fun xv s₁ => wpAny (model prog w) A (pyIter xv) (fun it s₂ => TurnsAt prog w A h₀ env (.Tuple elts k pos) body Q E it s₂) E s₁) E s := by
  have hl1 : s.heap.IsList l1 xs.toArray := h1.at fun o e => F.keep _ o e
  have hl2 : s.heap.IsList l2 ys.toArray := h2.at fun o e => F.keep _ o e
  have hlt1 : l1 < s.heap.objs.size := let ⟨_, g, _⟩ := hl1; Heap.lt_size g
  have hlt2 : l2 < s.heap.objs.size := let ⟨_, g, _⟩ := hl2; Heap.lt_size g
  have g1 : l1 ≠ env.locals := fun e => by
    obtain ⟨o, g, _⟩ := h1
    have := Heap.lt_size g
    rw [e] at this
    exact absurd this (Nat.not_lt.mpr F.above)
  have g2 : l2 ≠ env.locals := fun e => by
    obtain ⟨o, g, _⟩ := h2
    have := Heap.lt_size g
    rw [e] at this
    exact absurd this (Nat.not_lt.mpr F.above)
  have hLs : env.locals < s.heap.objs.size := F.ns.lt
  have D : ZipApart (s.heap.objs.size + 4) (s.heap.objs.size + 2) (s.heap.objs.size + 3) s.heap.objs.size (s.heap.objs.size + 1) l1 l2 := ktu_apart _ _ _ hlt1 hlt2
  refine call_zip_2 hl1 hl2 fun h' hz hTI hTO hi1 hi2 hsz hk => ?_
  refine wpAny_pyIter_zip hz ?_
  have W := KTurns.ofWalksU (elts := elts) (k := k) (pos := pos) (WalksT.zip2 (prog := prog) (w := w) hh _ _ _ _ _ _ _ D xs.toArray ys.toArray).toU
  refine turnsAt_mk (m := m₀) J W ?_ ?_ ⟨hz, hTI, ⟨_, _, hTO⟩, hi1, hi2, hl1.at fun o e => hk l1 o e, hl2.at fun o e => hk l2 o e⟩ (F.keeps hk) j0 ?_ ?_
  · intro hI'
    have hb' : env.locals = s.heap.objs.size + 4 ∨ env.locals = s.heap.objs.size + 2 ∨ env.locals = s.heap.objs.size + 3 ∨ env.locals = s.heap.objs.size ∨ env.locals = s.heap.objs.size + 1 ∨ env.locals = l1 ∨ env.locals = l2 := by simpa using hI'
    rcases hb' with e | e | e | e | e | e | e
    · exact ktu_ne 4 hLs e
    · exact ktu_ne 2 hLs e
    · exact ktu_ne 3 hLs e
    · exact Nat.ne_of_lt hLs e
    · exact ktu_ne 1 hLs e
    · exact g1 e.symm
    · exact g2 e.symm
  · intro b hb
    have hb' : b = s.heap.objs.size + 4 ∨ b = s.heap.objs.size + 3 ∨ b = s.heap.objs.size ∨ b = s.heap.objs.size + 1 := by simpa using hb
    rcases hb' with rfl | rfl | rfl | rfl
    · exact ktu_new F (Nat.le_add_right _ _)
    · exact ktu_new F (Nat.le_add_right _ _)
    · exact ktu_new F (Nat.le_refl _)
    · exact ktu_new F (Nat.le_add_right _ _)
  · intro i v m₁ h₁ tk₁ own hi hP hJ F₁ N₁
    obtain ⟨T, vals, rfl, ⟨x, y, hx, hy, rfl⟩, hT⟩ := hP
    exact step i x y T m₁ h₁ tk₁ own (by simpa using hx) (by simpa using hy) hJ F₁ N₁ hT
  · intro h tk m F' hJ
    exact fin h tk m F' (by simpa using hJ)
end
end Mine
end
section
open PySem PySem.W PySem.Calls PyProof.Rows PySem.Spec
set_option maxRecDepth 100000
set_option maxHeartbeats 4000000
namespace Mine
/-- what _law_compare gives upon two words, with the sum of the digits ahead -/
def cmpW : Int → List Int → List Int → Int
  | c, a :: r, b :: q => if a = b then cmpW (c + a) r q else if c.fmod 2 = 0 then a - b else b - a
  | _, _, _ => 0
theorem sum_snoc {ns : List Int} {i : Nat} {a : Int} (h : ns[i]? = some a) : (ns.take (i + 1)).sum = (ns.take i).sum + a := by
  rw [List.take_succ, h]; simp
theorem drop_at {ns : List Int} {i : Nat} {a : Int} (h : ns[i]? = some a) : ns.drop i = a :: ns.drop (i + 1) := by
  obtain ⟨hi, e⟩ := List.getElem?_eq_some_iff.mp h
  rw [List.drop_eq_getElem_cons hi, e]
theorem List.drop_nil_or (ns ms : List Int) : ns.drop (min ns.length ms.length) = [] ∨ ms.drop (min ns.length ms.length) = [] := by
  rcases Nat.le_total ns.length ms.length with h | h
  · exact .inl (by rw [Nat.min_eq_left h]; simp)
  · exact .inr (by rw [Nat.min_eq_right h]; simp)
theorem cmpW_end {c : Int} {xs ys : List Int} (h : xs = [] ∨ ys = []) : cmpW c xs ys = 0 := by
  rcases h with rfl | rfl
  · simp [cmpW]
  · cases xs <;> simp [cmpW]
section
variable {prog : Program} {w : World} {M : Model} {A : Around} {E : Value → Shared → Prop} {s : Shared} {mg mb : Str → Option Value}
theorem lawCompare {pp : Program} {loose : List Str} {T U l1 l2 : Addr} {k l : Value} {xs ys : List Value} {ns ms : List Int} {R : Result → Shared → Prop} (G : Gd w mg mb s.heap) (TR : TopRead pp loose mg mb s.heap) (hT : IsTup s.heap T #[.ref l1, k]) (hU : IsTup s.heap U #[.ref l2, l])
    (h1 : s.heap.IsList l1 xs.toArray) (h2 : s.heap.IsList l2 ys.toArray) (i1 : IntsAre xs ns) (i2 : IntsAre ys ms) (hroom : A.depth < recursionLimit) (hh : A.handled = none)
    (h : ∀ h' tk t' r, r = cmpW 0 ns ms → St s.heap h' → R (.ok (.ret (.int r t'))) { s with heap := h', toks := tk }) : codeAny (model prog w) A (.call (.ref 51) ⟨[.ref T, .ref U], []⟩) R s := by
  have e51 : (hd.heap_39 w.params).lookup 51 = some (objAt w 51) := by kernel_rfl
  refine callDef (binds := [(Str.ofString "one", .ref T), (Str.ofString "other", .ref U)]) G.nolim (G.K _ _ e51) rfl (codeRec_of G.K (by kernel_rfl)) hroom (BindsTo.of_eq rfl) ?_ (fun L h₁ st nL ns' => ?_) (kinds_no (by kernel_rfl)) rfl rfl rfl
  · intro y hy
    simp only [List.mem_cons, List.not_mem_nil, or_false] at hy
    rcases hy with rfl | rfl <;> kernel_rfl
  have F : Fr s.heap L h₁ (fun y => [(Str.ofString "one", Value.ref T), (Str.ofString "other", Value.ref U)].reverse.lookup y) := ⟨ns', st, nL⟩
  have N : News s.heap L h₁ [] := fun _ hp => nomatch hp
  have X := G.K
  refine wpAny_execs_cons ?_
  k_steps
  rename_i hA FA NA
  have hT1 : IsTup hA T #[.ref l1, k] := Heap.IsTuple.at hT fun o e => FA.keep _ o e
  have hU1 : IsTup hA U #[.ref l2, l] := Heap.IsTuple.at hU fun o e => FA.keep _ o e
  refine For_turns FA ?_
  refine Call_ ?_
  refine nameX_B (v := .type "zip") FA X TR (by kernel_rfl) (by kernel_rfl) (by decide) ?_
  iterate 12 (first | walk1 | (dsimp only; walk1))
  refine zipLoop (J := fun i m => (∃ (t : Tok) (m0 : Str → Option Value), m = fun y => if y = Str.ofString "ahead" then some (.int (ns.take i).sum t) else m0 y) ∧ cmpW 0 ns ms = cmpW (ns.take i).sum (ns.drop i) (ms.drop i)) hh FA h1 h2 ?j0 ?step ?fin
  case j0 => exact ⟨⟨_, _, rfl⟩, rfl⟩
  case step =>
    intro i x y Tp m hB tk own hx hy hJ FB NB hTp
    obtain ⟨⟨ta, m0, rfl⟩, hc⟩ := hJ
    obtain ⟨a, t1, rfl, ea⟩ := IntsAre.at i1 i x hx
    obtain ⟨b, t2, rfl, eb⟩ := IntsAre.at i2 i y hy
    have st1 : (ns.take (i + 1)).sum = (ns.take i).sum + a := sum_snoc ea
    have d1 : ns.drop i = a :: ns.drop (i + 1) := drop_at ea
    have d2 : ms.drop i = b :: ms.drop (i + 1) := drop_at eb
    rw [d1, d2, cmpW] at hc
    generalize (ns.take i).sum = S at FB NB st1 hc
    refine unpackN_ FB NB hTp hh rfl rfl ?_
    intro hC FC NC
    k_steps
    · rename_i e F' N' hab hp
      exact h _ _ _ _ (by rw [hc, if_neg hab, if_pos hp]) (fun b o e => F'.keep b o e)
    · rename_i e F' N' hab hp
      exact h _ _ _ _ (by rw [hc, if_neg hab, if_neg hp]) (fun b o e => F'.keep b o e)
    · rename_i hab _ F' N'
      refine ⟨_, _, _, rfl, F', N', ⟨_, _, by rw [st1]⟩, ?_⟩
      rw [hc, if_pos hab, st1]
  case fin =>
    intro hB tk m FB hJ
    k_steps
    refine h _ _ _ _ ?_ (fun b o e => FB.keep b o e)
    rw [hJ.2]
    exact (cmpW_end (by rw [i1.length, i2.length]; exact List.drop_nil_or ns ms)).symm
end
end Mine
end
section
open PySem PySem.W PySem.Calls PyProof.Rows PySem.Spec
set_option maxRecDepth 100000
set_option maxHeartbeats 4000000
namespace Mine
section
variable {prog : Program} {w : World} {M : Model} {A : Around} {E : Value → Shared → Prop} {s : Shared} {mg mb : Str → Option Value}
/-- the thing at T is a pair of a word and a place -/
def Thing (h : Heap) (T : Addr) (ns : List Int) (k : Value) : Prop := ∃ l xs, IsTup h T #[.ref l, k] ∧ h.IsList l xs.toArray ∧ IntsAre xs ns

theorem lit3 {i : Nat} {P : Arguments → List Stmt → Scope → Prop} {p b sc} (e : kDef w i = (p, b, sc)) (h : P p b sc) : P (kDef w i).1 (kDef w i).2.1 (kDef w i).2.2 := by rw [e]; exact h
theorem kLt {pp : Program} {loose : List Str} {C x y T U : Addr} {ns ms : List Int} {k l : Value} {R : Result → Shared → Prop} (G : Gd w mg mb s.heap) (TR : TopRead pp loose mg mb s.heap) (K : KClass w (.ref 51) s.heap C)
    (ix : KInst s.heap C x (.ref T)) (iy : KInst s.heap C y (.ref U)) (tx : Thing s.heap T ns k) (ty : Thing s.heap U ms l) (hroom : A.depth + 2 < recursionLimit) (hh : A.handled = none)
    (h : ∀ h' tk r, r = decide (cmpW 0 ns ms < 0) → St s.heap h' → R (.ok (.ret (.bool r))) { s with heap := h', toks := tk }) {fL : Addr} (hfL : ∃ cd ct doc c oc, s.heap.CodeRec cd qL ∧ s.heap.get? c = some oc ∧ oc.data = .cell (some (.ref 51)) ∧ s.heap.get? fL = some { cls := .type "function", data := .func (fnX (Str.ofString "__lt__") qL (kDef w 3).1 (kDef w 3).2.1 (kDef w 3).2.2 [(Str.ofString "mycmp", c)] .none .none doc nmK none cd ct) }) :
    codeAny (model prog w) A (.call (.ref fL) ⟨[.ref x, .ref y], []⟩) R s := by
  obtain ⟨cd, ct, doc, c, oc, rL, gc, hoc, gL⟩ := hfL
  refine lit3 (w := w) (i := 3) (P := fun p b sc => s.heap.get? fL = some { cls := .type "function", data := .func (fnX (Str.ofString "__lt__") qL p b sc [(Str.ofString "mycmp", c)] .none .none doc nmK none cd ct) } → codeAny (model prog w) A (.call (.ref fL) ⟨[.ref x, .ref y], []⟩) R s) rfl (fun gL => ?_) gL
  refine callDef (binds := [(Str.ofString "self", .ref x), (Str.ofString "other", .ref y)]) G.nolim gL rfl rL (by omega) (BindsTo.of_eq rfl) ?_ (fun L h₁ st nL ns' => ?_) (kinds_no (by kernel_rfl)) rfl rfl rfl
  · intro y hy
    simp only [List.mem_cons, List.not_mem_nil, or_false] at hy
    rcases hy with rfl | rfl <;> kernel_rfl
  have F : Fr s.heap L h₁ (fun y' => [(Str.ofString "self", Value.ref x), (Str.ofString "other", Value.ref y)].reverse.lookup y') := ⟨ns', st, nL⟩
  have N : News s.heap L h₁ [] := fun _ hp => nomatch hp
  clear gL
  obtain ⟨dx, ix⟩ := ix
  obtain ⟨dy, iy⟩ := iy
  obtain ⟨n2, md, sl, fI, fL', fG, fE, fLe, fGe, sA, c', oc', mv, tf, tmd, sls, a1, a2, a3, a4, a5, a6, a7⟩ := K
  obtain ⟨l1, xs, tx, lx, nx⟩ := tx
  obtain ⟨l2, ys, ty, ly, ny⟩ := ty
  have e51 : (hd.heap_39 w.params).lookup 51 = some (objAt w 51) := by kernel_rfl
  refine wpAny_execs_cons (wpAny_Return_some (wpAny_Compare1 (Call_ (wpAny_Name (wpAny_loadName_free rfl (by kernel_rfl) (c := c) (by kernel_rfl) ⟨oc, st _ _ gc, hoc⟩ ?_)))))
  refine callWith_def (o := objAt w 51) rfl (args_cons ?_)
  refine Attribute_Name_ (wpAny_Name (wpAny_loadName_local rfl (by kernel_rfl) ns' (v := .ref x) rfl ?_))
  refine getObj (a1.st st) rfl rfl (a3.keeps st) rfl rfl rfl (st _ _ a4) (st _ _ ix) rfl ?_
  refine args_cons ?_
  refine Attribute_Name_ (wpAny_Name (wpAny_loadName_local rfl (by kernel_rfl) ns' (v := .ref y) rfl ?_))
  refine getObj (s := { s with heap := h₁, toks := _ }) (a1.st st) rfl rfl (a3.keeps st) rfl rfl rfl (st _ _ a4) (st _ _ iy) rfl ?_
  refine args_nil ⟨st _ _ (G.K _ _ e51), ?_⟩
  refine wpAny_call (lawCompare (s := { s with heap := h₁, toks := _ }) (G.st st) (TR.keeps st) (Heap.IsTuple.at tx fun o e => st _ o e) (Heap.IsTuple.at ty fun o e => st _ o e) (lx.at fun o e => st _ o e) (ly.at fun o e => st _ o e) nx ny ?_ hh ?_)
  · show A.depth + 1 < _; omega
  intro h' tk t' r er st'
  refine wpAny_Constant_int ?_
  refine lt_int ?_
  exact h _ _ _ (by rw [er]) (st.tr st')
end
end Mine
end
section
open PySem PySem.W PyProof.Rows
set_option maxRecDepth 100000
set_option maxHeartbeats 1000000
namespace Mine
/-- what a tree of questions ends in, when each is answered by ask; each asks of two of the first n -/
def Asks {α : Type} (n : Nat) (ask : Nat → Nat → Bool) (P : α → Prop) : KasT α → Prop
  | .ret a => P a
  | .ask i j k => i < n ∧ j < n ∧ Asks n ask P (k (ask i j))
theorem Asks.bind {α β : Type} {n ask} {f : α → KasT β} {P : β → Prop} : ∀ {t : KasT α}, Asks n ask (fun a => Asks n ask P (f a)) t → Asks n ask P (t.bind f)
  | .ret _, h => h
  | .ask _ _ k, h => ⟨h.1, h.2.1, Asks.bind (t := k _) h.2.2⟩
theorem Asks.mono {α : Type} {n ask} {P Q : α → Prop} (h : ∀ a, P a → Q a) : ∀ {t : KasT α}, Asks n ask P t → Asks n ask Q t
  | .ret a, q => h a q
  | .ask _ _ k, q => ⟨q.1, q.2.1, Asks.mono h (t := k _) q.2.2⟩
theorem Asks.wp {α : Type} {n ask} {P : α → Prop} {cmp : Nat → Nat → (Bool → Shared → Prop) → Shared → Prop} {I : Shared → Prop} (hc : ∀ i j C s, i < n → j < n → I s → (∀ s', I s' → C (ask i j) s') → cmp i j C s) {Q : α → Shared → Prop} :
    ∀ {t : KasT α} {s : Shared}, Asks n ask P t → I s → (∀ a s', P a → I s' → Q a s') → t.kasWp cmp Q s
  | .ret a, s, h, i, q => q a s h i
  | .ask i j k, s, h, hi, q => hc i j _ s h.1 h.2.1 hi fun s' i' => Asks.wp hc (t := k _) h.2.2 i' q

theorem getD_opt (p : Array Nat) (k : Nat) : p.getD k 0 = (p[k]?).getD 0 := by
  unfold Array.getD
  split <;> rename_i h <;> simp [h]
theorem g_rev {p : Array Nat} {i j : Nat} (hj : j ≤ p.size) (k : Nat) : (kas_rev p i j).getD k 0 = if i ≤ k ∧ k < j then p.getD (i + j - 1 - k) 0 else p.getD k 0 := by
  rw [getD_opt, kas_rev, getElem?_mirror_all hj]
  split <;> rw [getD_opt]
theorem g_bub {p : Array Nat} {k l : Nat} (hs : k < p.size) (hl : l ≤ k) (x : Nat) : (bubble p k (k - l)).getD x 0 = if x = l then p.getD k 0 else if l < x ∧ x ≤ k then p.getD (x - 1) 0 else p.getD x 0 := by
  have e : k - (k - l) = l := by omega
  rw [getD_opt, getElem?_bubble hs _ (by omega), e]
  by_cases h1 : x = l
  · rw [if_pos h1, if_pos h1]; exact (getD_opt p k).symm
  · rw [if_neg h1, if_neg h1]
    by_cases h2 : l < x ∧ x ≤ k
    · rw [if_pos h2, if_pos h2]; exact (getD_opt p _).symm
    · rw [if_neg h2, if_neg h2]; exact (getD_opt p _).symm

def R (d : Nat → Int) (i j : Nat) : Prop := d i < d j ∨ (d i = d j ∧ i < j)
structure Lay (n : Nat) (p : Array Nat) (m : Nat) : Prop where
  size : p.size = n
  low : ∀ i, i < m → p.getD i 0 < m
  high : ∀ i, m ≤ i → i < n → p.getD i 0 = i
def Srt (d : Nat → Int) (p : Array Nat) (m : Nat) : Prop := ∀ i j, i < j → j < m → R d (p.getD i 0) (p.getD j 0)
def Rvs (d : Nat → Int) (p : Array Nat) (m : Nat) : Prop := ∀ i j, i < j → j < m → R d (p.getD j 0) (p.getD i 0)
theorem R.tr {d i j k} (a : R d i j) (b : R d j k) : R d i k := by unfold R at *; omega
theorem Lay.rev {n p m} (L : Lay n p m) {i j : Nat} (hi : i ≤ j) (hj : j ≤ m) (hm : m ≤ n) : Lay n (kas_rev p i j) m := by
  have hj' : j ≤ p.size := by rw [L.size]; omega
  refine ⟨by rw [kas_rev_size, L.size], fun k hk => ?_, fun k hk hn => ?_⟩
  · rw [g_rev hj']
    split
    · exact L.low _ (by omega)
    · exact L.low _ hk
  · rw [g_rev hj', if_neg (by omega)]; exact L.high k hk hn
theorem Lay.succ {n p m} (L : Lay n p m) (h : m < n) : Lay n p (m + 1) := by
  refine ⟨L.size, fun k hk => ?_, fun k hk hn => L.high k (by omega) hn⟩
  by_cases e : k = m
  · rw [e, L.high m (Nat.le_refl _) h]; omega
  · exact Nat.lt_succ_of_lt (L.low k (by omega))

section
variable {n : Nat} {d : Nat → Int}
abbrev lt (d : Nat → Int) (i j : Nat) : Bool := decide (d i < d j)
theorem asc_ok {P : Nat → Prop} {p : Array Nat} : ∀ (f m : Nat), 1 ≤ m → m + f = n → Lay n p m → Srt d p m →
    (∀ m', m ≤ m' → m' ≤ n → Lay n p m' → Srt d p m' → (m' < n → d (p.getD m' 0) < d (p.getD (m' - 1) 0)) → P m') → Asks n (lt d) P (kas_asc p f m)
  | 0, m, h1, hf, L, S, q => q m (Nat.le_refl _) (by omega) L S (by omega)
  | f + 1, m, h1, hf, L, S, q => by
    have pm := L.high m (Nat.le_refl _) (by omega)
    have pl := L.low (m - 1) (by omega)
    refine ⟨by rw [pm]; omega, by omega, ?_⟩
    by_cases c : d (p.getD m 0) < d (p.getD (m - 1) 0)
    · rw [show lt d (p.getD m 0) (p.getD (m - 1) 0) = true from decide_eq_true c]
      show Asks n (lt d) P (.ret m)
      exact q m (Nat.le_refl _) (by omega) L S fun _ => c
    · rw [show lt d (p.getD m 0) (p.getD (m - 1) 0) = false from decide_eq_false c]
      show Asks n (lt d) P (kas_asc p f (m + 1))
      refine asc_ok f (m + 1) (by omega) (by omega) (L.succ (by omega)) (fun i j hij hj => ?_) fun m' a b L' S' z => q m' (by omega) b L' S' z
      by_cases e : j = m
      · subst e
        have r1 : R d (p.getD (j - 1) 0) (p.getD j 0) := by unfold R; omega
        by_cases e2 : i = j - 1
        · rw [e2]; exact r1
        · exact (S i (j - 1) (by omega) (by omega)).tr r1
      · exact S i j hij (by omega)

def Dsc (d : Nat → Int) (p : Array Nat) (m q : Nat) : Prop := q + 1 ≤ m ∧ (∀ i j, i < j → j < m - (q + 1) → R d (p.getD j 0) (p.getD i 0)) ∧ (∀ i j, i < m - (q + 1) → m - (q + 1) ≤ j → j < m → d (p.getD j 0) < d (p.getD i 0)) ∧
  ∀ i j, i < j → j < m → m - (q + 1) ≤ i → d (p.getD i 0) = d (p.getD j 0) ∧ p.getD i 0 < p.getD j 0
theorem Dsc.close {p m q} (L : Lay n p m) (hm : m ≤ n) (D : Dsc d p m q) : Rvs d (kas_rev p (m - (q + 1)) m) m := by
  have hj' : m ≤ p.size := by rw [L.size]; exact hm
  obtain ⟨h1, h2, h4, h3⟩ := D
  intro i j hij hj
  rw [g_rev hj', g_rev hj']
  by_cases a : m - (q + 1) ≤ i
  · rw [if_pos (by omega), if_pos (by omega)]
    have := h3 (m - (q + 1) + m - 1 - j) (m - (q + 1) + m - 1 - i) (by omega) (by omega) (by omega)
    exact .inr ⟨this.1, this.2⟩
  · rw [if_neg (c := m - (q + 1) ≤ i ∧ i < m) (by omega)]
    split
    · exact .inl (h4 _ _ (by omega) (by omega) (by omega))
    · exact h2 _ _ hij (by omega)
theorem Dsc.open {p m} (D : Dsc d p m 0) : Rvs d p m := by
  obtain ⟨h1, h2, h4, h3⟩ := D
  intro i j hij hj
  by_cases e : j < m - (0 + 1)
  · exact h2 i j hij e
  · exact .inl (h4 i j (by omega) (by omega) hj)
theorem Rvs.next {p m} (h0 : 0 < m) (r : Rvs d p m) (c : d (p.getD m 0) < d (p.getD (m - 1) 0)) : Dsc d p (m + 1) 0 := by
  refine ⟨by omega, fun i j hij hj => r i j hij (by omega), fun i j hi hj hj2 => ?_, fun i j hij hj hi => by omega⟩
  have e : j = m := by omega
  subst e
  by_cases e2 : i = j - 1
  · rw [e2]; exact c
  · have := r i (j - 1) (by omega) (by omega)
    unfold R at this
    omega
theorem last_rev {p : Array Nat} {b m : Nat} (hm : m ≤ p.size) (hb : b < m) : (kas_rev p b m).getD (m - 1) 0 = p.getD b 0 := by
  rw [g_rev hm, if_pos (by omega)]; congr 1; omega

theorem desc_ok {P : Array Nat × Nat × Nat → Prop} : ∀ (f : Nat) (p : Array Nat) (m q : Nat), m + f = n → Lay n p m → Dsc d p m q →
    (∀ p' m' q', m' ≤ n → Lay n p' m' → Dsc d p' m' q' → P (p', m', q')) → Asks n (lt d) P (kas_desc f p m q)
  | 0, p, m, q, hf, L, D, z => z p m q (by omega) L D
  | f + 1, p, m, q, hf, L, D, z => by
    have pm := L.high m (Nat.le_refl _) (by omega)
    have q1 := D.1
    have pl := L.low (m - 1) (by omega)
    have hsz : m ≤ p.size := by rw [L.size]; omega
    refine ⟨by rw [pm]; omega, by omega, ?_⟩
    by_cases c : d (p.getD m 0) < d (p.getD (m - 1) 0)
    · rw [show lt d (p.getD m 0) (p.getD (m - 1) 0) = true from decide_eq_true c]
      show Asks n (lt d) P (if q > 0 then kas_desc f (kas_rev p (m - (q + 1)) m) (m + 1) 0 else kas_desc f p (m + 1) 0)
      split
      · rename_i hq
        have Lr := L.rev (i := m - (q + 1)) (j := m) (by omega) (Nat.le_refl _) (by omega)
        refine desc_ok f _ (m + 1) 0 (by omega) (Lr.succ (by omega)) (Rvs.next (by omega) (D.close L (by omega)) ?_) z
        rw [last_rev hsz (by omega), g_rev hsz, if_neg (by omega)]
        have e := (D.2.2.2 (m - (q + 1)) (m - 1) (by omega) (by omega) (Nat.le_refl _)).1
        omega
      · rename_i hq
        have hq0 : q = 0 := by omega
        subst hq0
        exact desc_ok f _ (m + 1) 0 (by omega) (L.succ (by omega)) (Rvs.next (by omega) D.open c) z
    · rw [show lt d (p.getD m 0) (p.getD (m - 1) 0) = false from decide_eq_false c]
      refine ⟨by omega, by rw [pm]; omega, ?_⟩
      by_cases c2 : d (p.getD (m - 1) 0) < d (p.getD m 0)
      · rw [show lt d (p.getD (m - 1) 0) (p.getD m 0) = true from decide_eq_true c2]
        show P (p, m, q)
        exact z p m q (by omega) L D
      · rw [show lt d (p.getD (m - 1) 0) (p.getD m 0) = false from decide_eq_false c2]
        show Asks n (lt d) P (kas_desc f p (m + 1) (q + 1))
        refine desc_ok f p (m + 1) (q + 1) (by omega) (L.succ (by omega)) ⟨by omega, fun i j hij hj => ?_, fun i j hi hj hj2 => ?_, fun i j hij hj hi => ?_⟩ z
        · exact D.2.1 i j hij (by omega)
        · by_cases e : j = m
          · subst e
            have r1 := D.2.2.1 i (j - 1) (by omega) (by omega) (by omega)
            omega
          · exact D.2.2.1 i j (by omega) (by omega) (by omega)
        · by_cases e : j = m
          · subst e
            have r0 : p.getD i 0 < j := L.low i (by omega)
            refine ⟨?_, by rw [pm]; exact r0⟩
            by_cases e2 : i = j - 1
            · subst e2; omega
            · have := (D.2.2.2 i (j - 1) (by omega) (by omega) (by omega)).1; omega
          · exact D.2.2.2 i j hij (by omega) (by omega)

theorem Rvs.srt {p m} (L : Lay n p m) (hm : m ≤ n) (r : Rvs d p m) : Srt d (kas_rev p 0 m) m := by
  have hj' : m ≤ p.size := by rw [L.size]; exact hm
  intro i j hij hj
  rw [g_rev hj', g_rev hj', if_pos (by omega), if_pos (by omega)]
  exact r _ _ (by omega) (by omega)
theorem tail3_ok {P : Nat × Array Nat → Prop} {p m} (h1 : 1 ≤ m) (hm : m ≤ n) (L : Lay n p m) (r : Rvs d p m) (z : ∀ p' m', 1 ≤ m' → m' ≤ n → Lay n p' m' → Srt d p' m' → P (m', p')) : Asks n (lt d) P (kas_tail3 m n p) :=
  Asks.bind (asc_ok (n - m) m h1 (by omega) (L.rev (Nat.zero_le _) (Nat.le_refl _) hm) (r.srt L hm) fun m' a b L' S' _ => z _ m' (by omega) b L' S')
theorem descPart_ok {P : Nat × Array Nat → Prop} {p m} (h1 : 1 ≤ m) (hm : m < n) (L : Lay n p m) (r : Rvs d p m) (c : d (p.getD m 0) < d (p.getD (m - 1) 0)) (z : ∀ p' m', 1 ≤ m' → m' ≤ n → Lay n p' m' → Srt d p' m' → P (m', p')) : Asks n (lt d) P (kas_descPart m n p) := by
  refine Asks.bind (desc_ok (n - (m + 1)) p (m + 1) 0 (by omega) (L.succ hm) (Rvs.next h1 r c) fun p' m' q' a L' D' => ?_)
  have q1 := D'.1
  by_cases hq : q' > 0
  · show Asks n (lt d) P (if q' > 0 then _ else _)
    rw [if_pos hq]
    exact tail3_ok (m := m') (by omega) a (L'.rev (Nat.sub_le _ _) (Nat.le_refl _) a) (D'.close L' a) z
  · show Asks n (lt d) P (if q' > 0 then _ else _)
    rw [if_neg hq]
    have : q' = 0 := by omega
    subst this
    exact tail3_ok (m := m') (by omega) a L' D'.open z
theorem lay0 (h : 1 ≤ n) : Lay n (List.toArray (List.range n)) 1 := by
  refine ⟨by simp, fun i hi => ?_, fun i hi hn => ?_⟩
  · have : i = 0 := by omega
    subst this
    rw [getD_opt]; simp [show 0 < n from h]
  · rw [getD_opt]; simp [hn]
theorem count_ok {P : Nat × Array Nat → Prop} (h : 2 ≤ n) (z : ∀ p' m', 1 ≤ m' → m' ≤ n → Lay n p' m' → Srt d p' m' → P (m', p')) : Asks n (lt d) P (kas_count n (List.toArray (List.range n))) := by
  have e0 : ∀ i, i < n → (List.toArray (List.range n)).getD i 0 = i := fun i hi => by rw [getD_opt]; simp [hi]
  refine Asks.bind (asc_ok (n - 1) 1 (Nat.le_refl _) (by omega) (lay0 (by omega)) (fun i j hij hj => by omega) fun m a b L S c => ?_)
  by_cases e : m = n
  · rw [if_pos (by rw [e]; exact beq_self_eq_true n)]
    exact z _ m a b L S
  · rw [if_neg (by rw [beq_iff_eq]; exact e)]
    have c' := c (by omega)
    by_cases e1 : m > 1
    · rw [if_pos e1]
      have pl := L.low (m - 1) (by omega)
      have p0 := L.low 0 (by omega)
      refine ⟨by omega, by omega, ?_⟩
      by_cases q : d ((List.toArray (List.range n)).getD 0 0) < d ((List.toArray (List.range n)).getD (m - 1) 0)
      · rw [show lt d ((List.toArray (List.range n)).getD 0 0) ((List.toArray (List.range n)).getD (m - 1) 0) = true from decide_eq_true q]
        exact z _ m a b L S
      · rw [show lt d ((List.toArray (List.range n)).getD 0 0) ((List.toArray (List.range n)).getD (m - 1) 0) = false from decide_eq_false q]
        show Asks n (lt d) P (kas_descPart m n (kas_rev (List.toArray (List.range n)) 0 m))
        have hsz : m ≤ (List.toArray (List.range n)).size := by simpa using b
        refine descPart_ok a (by omega) (L.rev (Nat.zero_le _) (Nat.le_refl _) b) (fun i j hij hj => ?_) ?_ z
        · rw [g_rev hsz, g_rev hsz, if_pos (by omega), if_pos (by omega)]
          exact S _ _ (by omega) (by omega)
        · rw [last_rev hsz (by omega), g_rev hsz, if_neg (by omega)]
          have := S 0 (m - 1) (by omega) (by omega)
          unfold R at this
          omega
    · rw [if_neg e1]
      have : m = 1 := by omega
      subst this
      exact descPart_ok a (by omega) L (fun i j hij hj => by omega) c' z
theorem place_ok {P : Nat → Prop} {p : Array Nat} {k : Nat} (hk : k < n) (L : Lay n p k) (S : Srt d p k) : ∀ (f l r : Nat), l ≤ r → r ≤ k → r - l ≤ f → (∀ i, i < l → R d (p.getD i 0) k) → (∀ i, r ≤ i → i < k → d k < d (p.getD i 0)) →
    (∀ l', l' ≤ k → (∀ i, i < l' → R d (p.getD i 0) k) → (∀ i, l' ≤ i → i < k → d k < d (p.getD i 0)) → P l') → Asks n (lt d) P (kas_place p k f l r)
  | 0, l, r, a, b, c, x, y, z => z l (by omega) x (fun i hi => y i (by omega))
  | f + 1, l, r, a, b, c, x, y, z => by
    unfold kas_place
    by_cases e : l ≥ r
    · rw [if_pos e]; exact z l (by omega) x (fun i hi => y i (by omega))
    · rw [if_neg e]
      have pk := L.high k (Nat.le_refl _) hk
      have pm := L.low ((l + r) / 2) (by omega)
      refine ⟨by rw [pk]; omega, by omega, ?_⟩
      rw [pk]
      by_cases q : d k < d (p.getD ((l + r) / 2) 0)
      · rw [show lt d k (p.getD ((l + r) / 2) 0) = true from decide_eq_true q]
        refine place_ok hk L S f l ((l + r) / 2) (by omega) (by omega) (by omega) x (fun i hi hk' => ?_) z
        by_cases e2 : i = (l + r) / 2
        · rw [e2]; exact q
        · have := S ((l + r) / 2) i (by omega) hk'
          unfold R at this
          omega
      · rw [show lt d k (p.getD ((l + r) / 2) 0) = false from decide_eq_false q]
        refine place_ok hk L S f ((l + r) / 2 + 1) r (by omega) b (by omega) (fun i hi => ?_) y z
        have r1 : R d (p.getD ((l + r) / 2) 0) k := by unfold R; omega
        by_cases e2 : i = (l + r) / 2
        · rw [e2]; exact r1
        · exact (S i ((l + r) / 2) (by omega) (by omega)).tr r1
theorem bin_ok {P : Array Nat → Prop} (z : ∀ p, Lay n p n → Srt d p n → P p) : ∀ (f : Nat) (p : Array Nat) (k : Nat), k + f = n → Lay n p k → Srt d p k → Asks n (lt d) P (kas_bin f p k)
  | 0, p, k, e, L, S => by
    have : k = n := by omega
    subst this
    exact z p L S
  | f + 1, p, k, e, L, S => by
    have hk : k < n := by omega
    have pk := L.high k (Nat.le_refl _) hk
    have hs : k < p.size := by rw [L.size]; exact hk
    refine Asks.bind (place_ok hk L S k 0 k (Nat.zero_le _) (Nat.le_refl _) (by omega) (fun i hi => by omega) (fun i h1 h2 => by omega) fun l hl x y => ?_)
    refine bin_ok z f _ (k + 1) (by omega) ⟨by rw [bubble_size, L.size], fun i hi => ?_, fun i hi hn => ?_⟩ fun i j hij hj => ?_
    · rw [g_bub hs hl, pk]
      split
      · omega
      · split
        · exact Nat.lt_succ_of_lt (L.low _ (by omega))
        · exact Nat.lt_succ_of_lt (L.low _ (by omega))
    · rw [g_bub hs hl, if_neg (by omega), if_neg (by omega)]; exact L.high i (by omega) hn
    · rw [g_bub hs hl, g_bub hs hl, pk]
      by_cases i1 : i = l
      · rw [if_pos i1, if_neg (by omega), if_pos (by omega)]
        exact .inl (y _ (by omega) (by omega))
      · rw [if_neg i1]
        by_cases i2 : l < i ∧ i ≤ k
        · rw [if_pos i2, if_neg (by omega), if_pos (by omega)]
          exact S _ _ (by omega) (by omega)
        · rw [if_neg i2]
          by_cases j1 : j = l
          · rw [if_pos j1]; exact x i (by omega)
          · rw [if_neg j1]
            split
            · exact S _ _ (by omega) (by omega)
            · exact S _ _ hij (by omega)
/-- the whole sort: the tree's array is in the order of d, like ones as they stood -/
theorem sort_ok (h : 2 ≤ n) : Asks n (lt d) (fun p => Lay n p n ∧ Srt d p n) (kas_sort n) := by
  refine Asks.bind (count_ok h fun p' m' a b L S => ?_)
  by_cases e : m' < n
  · show Asks n (lt d) _ (if m' < n then _ else _)
    rw [if_pos e]
    have em : max m' 1 = m' := by omega
    rw [em]
    exact bin_ok (fun p L S => ⟨L, S⟩) (n - m') p' m' (by omega) L S
  · show Asks n (lt d) _ (if m' < n then _ else _)
    rw [if_neg e]
    have : m' = n := by omega
    subst this
    exact ⟨L, S⟩
end
end Mine
end
section
open PySem PySem.W PySem.Calls PyProof.Rows PySem.Spec
set_option maxRecDepth 100000
set_option maxHeartbeats 4000000
namespace Mine
section
variable {prog : Program} {w : World} {M : Model} {A : Around} {E : Value → Shared → Prop} {s : Shared} {mg mb : Str → Option Value}

theorem ifBoundX {name : Str} {x C f : Addr} {args : List Value} {Q : Option Value → Shared → Prop} (ty : Looks M s.heap (typeOf (.ref x)) (.ref C)) (tl : Looks M s.heap (typeLookup (.ref C) name) (some (.ref f))) (bf : Looks M s.heap (bindSpecial (.ref f) (.ref x)) (.ref f, [.ref x]))
    (h : wpAny M A (call (.ref f) (.ref x :: args)) (fun v => Q (some v)) E s) : wpAny M A (callSpecialIfBound? (.ref x) name args) Q E s := by
  simp only [callSpecialIfBound?, bindSpecialIfBound?]
  refine wpAny_holding (wpAny_bind (wpAny_bind (wpAny_bind (ty.here (tl.here ?_)))))
  refine wpAny_bind (wpAny_askSetting (wpAny_ite ?_))
  have fin : wpAny M A (call (.ref f) ([.ref x] ++ args) >>= fun v => pure (some v)) Q E s := wpAny_bind (wpAny_mono h (fun v s' h' => wpAny_pure h') fun _ _ h' => h')
  split
  · exact wpAny_bind (bf.here (wpAny_pure (by exact fin)))
  · exact wpAny_tryCatch (wpAny_bind (bf.here (wpAny_pure (by exact fin))))

theorem kKeyLt {pp : Program} {loose : List Str} {C x y T U : Addr} {ns ms : List Int} {k l : Value} {Q : Bool → Shared → Prop} (G : Gd w mg mb s.heap) (TR : TopRead pp loose mg mb s.heap) (K : KClass w (.ref 51) s.heap C)
    (ix : KInst s.heap C x (.ref T)) (iy : KInst s.heap C y (.ref U)) (tx : Thing s.heap T ns k) (ty : Thing s.heap U ms l) (hroom : A.depth + 2 < recursionLimit) (hh : A.handled = none) (hu : A.units < cLine)
    (h : ∀ h' tk, St s.heap h' → Q (decide (cmpW 0 ns ms < 0)) { s with heap := h', toks := tk }) : wpAny (model prog w) A (keyLt' oneType' (.ref x) (.ref y)) Q E s := by
  have K' := K
  obtain ⟨n2, md, sl, fI, fL, fG, fE, fLe, fGe, sA, c, oc, mv, tf, tmd, sls, a1, a2, a3, a4, a5, a6, a7⟩ := K'
  obtain ⟨cd, ct, doc, rL, gL⟩ := a5.fL
  have hc : codeAny (model prog w) A (.call (.ref fL) ⟨[.ref x, .ref y], []⟩) (fun r s' => match r with | .ok (.ret v) => W.BoolBack Q v s' | _ => False) s :=
    kLt G TR K ix iy tx ty hroom hh (fun h' tk r er st => by rw [er]; exact h h' tk st) ⟨cd, ct, doc, c, oc, rL, a6, a7, gL⟩
  have hcall : wpAny (model prog w) A (call (.ref fL) [.ref x, .ref y]) (W.BoolBack Q) E s := wpAny_call (codeAny_mono hc fun r s' q => by
    rcases r with e | fl
    · exact q.elim
    · cases fl <;> first | exact q | exact q.elim)
  obtain ⟨dx, ix⟩ := ix
  rw [keyLt'_oneType, oneLt'_eq]
  simp only [if_true]
  refine wpAny_bind (wpAny_cRoomFor hu (wpAny_bind ?_))
  refine ifBoundX (tyX ix) (tlL a1 rfl a3 (r := some (.ref fL)) (by rfl)) (bindFn _ gL rfl) (wpAny_mono hcall (fun v s' hv => ?_) fun _ _ e => e)
  cases v <;> first | exact hv.elim | skip
  exact wpAny_truthy_bool hv
end
end Mine
end
section
open PySem PySem.W PyProof.Rows
set_option maxRecDepth 100000
set_option maxHeartbeats 1000000
namespace Mine
/-- q is the first n numbers in the order of d, like ones as they stand -/
structure Ord (n : Nat) (d : Nat → Int) (q : List Nat) : Prop where
  len : q.length = n
  low : ∀ i ∈ q, i < n
  up : q.Pairwise (R d)
def turnI (b : Bool) (n i : Nat) : Nat := if b then n - 1 - i else i
def turnD (b : Bool) (d : Nat → Int) (i : Nat) : Int := if b then - d i else d i
theorem turn_item {b : Bool} {n i : Nat} {keys : Array Value} {vs : List Value} (hk : keys.size = n) (hv : vs.length = n) (hi : i < n) :
    kas_item (if b then (keys.zip vs.toArray).reverse else keys.zip vs.toArray) i = (keys.getD (turnI b n i) .none, vs.getD (turnI b n i) .none) := by
  have hz : (keys.zip vs.toArray).size = n := by rw [Array.size_zip, hk, List.size_toArray, hv, Nat.min_self]
  have key : ∀ j, j < n → (keys.zip vs.toArray).getD j (Value.none, Value.none) = (keys.getD j .none, vs.getD j .none) := by
    intro j hj
    have e1 : (keys.zip vs.toArray).getD j (Value.none, Value.none) = (keys.zip vs.toArray)[j] := by simp [Array.getD, hk, hv, hj]
    have e2 : keys.getD j .none = keys[j] := by simp [Array.getD, hk, hj]
    have e3 : vs.getD j .none = vs[j] := by simp [hv, hj]
    rw [e1, e2, e3]
    simp
  cases b with
  | false => exact key i hi
  | true =>
    have e : kas_item (if true = true then (keys.zip vs.toArray).reverse else keys.zip vs.toArray) i = (keys.zip vs.toArray).getD (n - 1 - i) (Value.none, Value.none) := by
      rw [if_pos rfl]
      unfold kas_item
      have h1 : i < (keys.zip vs.toArray).reverse.size := by rw [Array.size_reverse, hz]; exact hi
      have h2 : n - 1 - i < (keys.zip vs.toArray).size := by rw [hz]; omega
      have e1 : (keys.zip vs.toArray).reverse.getD i (Value.none, Value.none) = (keys.zip vs.toArray).reverse[i] := by
        unfold Array.getD; rw [dif_pos h1]; rfl
      have e2 : (keys.zip vs.toArray).getD (n - 1 - i) (Value.none, Value.none) = (keys.zip vs.toArray)[n - 1 - i] := by
        unfold Array.getD; rw [dif_pos h2]; rfl
      rw [e1, e2, Array.getElem_reverse]
      congr 1
      rw [hz]
    rw [e, key _ (by omega)]
    rfl
theorem lay_get {n : Nat} {p : Array Nat} (hs : p.size = n) {i : Nat} (hi : i < n) (h : i < p.toList.length) : p.toList[i] = p.getD i 0 := by
  unfold Array.getD
  rw [dif_pos (by rw [hs]; exact hi)]
  simp
theorem out_ok {b : Bool} {n : Nat} {d : Nat → Int} {p : Array Nat} {keys : Array Value} {vs : List Value} (hk : keys.size = n) (hv : vs.length = n) (L : Lay n p n) (S : Srt (fun i => d (turnI b n i)) p n) :
    ∃ q, Ord n (turnD b d) q ∧ (if b then ((p.map (kas_item (if b then (keys.zip vs.toArray).reverse else keys.zip vs.toArray))).map (·.2)).reverse else (p.map (kas_item (if b then (keys.zip vs.toArray).reverse else keys.zip vs.toArray))).map (·.2)).toList = q.map fun i => vs.getD i .none := by
  have hz := L.size
  have hm : ∀ x ∈ p.toList, x < n := by
    intro x hx
    obtain ⟨i, hi, e⟩ := List.mem_iff_getElem.mp hx
    have hi' : i < n := by simpa [hz] using hi
    rw [lay_get hz hi' hi] at e
    rw [← e]; exact L.low i hi'
  have hout : ((p.map (kas_item (if b then (keys.zip vs.toArray).reverse else keys.zip vs.toArray))).map (·.2)).toList = p.toList.map fun i => vs.getD (turnI b n i) .none := by
    rw [Array.map_map, Array.toList_map]
    refine List.map_congr_left fun i hi => ?_
    show (kas_item _ i).2 = _
    rw [turn_item hk hv (hm i hi)]
  have hp : p.toList.Pairwise (R fun i => d (turnI b n i)) := by
    rw [List.pairwise_iff_getElem]
    intro i j hi hj hij
    have hj' : j < n := by simpa [hz] using hj
    rw [lay_get hz (by omega) hi, lay_get hz hj' hj]
    exact S i j hij hj'
  cases b with
  | false =>
    refine ⟨p.toList, ⟨by simpa using hz, hm, hp⟩, ?_⟩
    exact hout
  | true =>
    refine ⟨(p.toList.map (n - 1 - ·)).reverse, ⟨by simpa using hz, ?_, ?_⟩, ?_⟩
    · intro i hi
      rw [List.mem_reverse, List.mem_map] at hi
      obtain ⟨x, hx, rfl⟩ := hi
      have := hm x hx
      omega
    · rw [List.pairwise_reverse, List.pairwise_map]
      refine List.Pairwise.imp_of_mem (fun {x y} hx hy r => ?_) hp
      have hx' := hm x hx
      have hy' := hm y hy
      unfold R turnI at r
      unfold R turnD
      simp only [if_true] at r ⊢
      omega
    · rw [if_pos rfl, Array.toList_reverse, hout, List.map_reverse, List.map_map]
      rfl
end Mine
end
section
open PySem PySem.W PySem.Calls PyProof.Rows PySem.Spec
set_option maxRecDepth 100000
set_option maxHeartbeats 4000000
namespace Mine
theorem Thing.st {h h' : Heap} {T ns k} (t : Thing h T ns k) (s : St h h') : Thing h' T ns k := let ⟨l, xs, a, b, c⟩ := t; ⟨l, xs, Heap.IsTuple.at a fun o e => s _ o e, b.at fun o e => s _ o e, c⟩
theorem KInst.same {h h' : Heap} {C x b v} {xs : Array Value} {n : Nat} (k : KInst h C x v) (g : h.get? b = some (seqObj "list" xs n)) (sb : Heap.SameBut b h h') : KInst h' C x v :=
  let ⟨d, e⟩ := k; ⟨d, (sb.2 x fun q => by rw [q, g] at e; cases e).trans e⟩
/-- what the sort stands on: the class, the things -/
structure Stand (w : World) (pp : Program) (loose : List Str) (mg mb : Str → Option Value) (g : Heap) (C : Addr) (vs : List Value) (W : Nat → List Int) : Prop where
  G : Gd w mg mb g
  TR : TopRead pp loose mg mb g
  K : KClass w (.ref 51) g C
  th : ∀ i, i < vs.length → ∃ T k, vs[i]? = some (.ref T) ∧ Thing g T (W i) k
theorem Stand.st {w pp loose mg mb g g' C vs W} (x : Stand w pp loose mg mb g C vs W) (s : St g g') : Stand w pp loose mg mb g' C vs W :=
  ⟨x.G.st s, x.TR.keeps s, x.K.st s, fun i hi => let ⟨T, k, a, b⟩ := x.th i hi; ⟨T, k, a, b.st s⟩⟩
theorem st_same {g h h' : Heap} {a : Addr} (s : St g h) (sb : Heap.SameBut a h h') (n : g.get? a = none) : St g h' :=
  fun b o e => (sb.2 b fun q => by rw [q, n] at e; cases e).trans (s _ _ e)

section
variable {prog : Program} {w : World} {A : Around} {E : Value → Shared → Prop} {s : Shared} {mg mb : Str → Option Value} {pp : Program} {loose : List Str} {g : Heap} {C a kS : Addr} {vs : List Value} {W : Nat → List Int} {d : Nat → Int} {b : Bool} {e e1 : Nat} {keys : Array Value} {P : PySem.Fin → Shared → Prop}

theorem kTail {st : SortSt} (hg : St g s.heap) (na : g.get? a = none) (nk : g.get? kS = none) (ga : s.heap.get? a = some (seqObj "list" #[] e1)) (gk : s.heap.get? kS = some (seqObj "list" keys e)) (hka : kS ≠ a)
    (h64 : vs.length < 64) (hsz : keys.size = vs.length) {q : List Nat} (hq : q.length = vs.length) (ho : (if b then ((arrOf st).map (·.2)).reverse else (arrOf st).map (·.2)).toList = q.map fun i => vs.getD i .none) (hfl : failedOf st = none)
    (h : ∀ h' tk, St g h' → h'.IsList a (q.map fun i => vs.getD i .none).toArray → P (.done (.ret .none)) { s with heap := h', toks := tk }) :
    wpAny (model prog w) A (ksk_tail a b e1 (.ref kS) st) P E s := by
  have hout : (if b then ((arrOf st).map (·.2)).reverse else (arrOf st).map (·.2)) = (q.map fun i => vs.getD i .none).toArray := by rw [← ho, Array.toArray_toList]
  have s1 := Heap.SameBut.update s.heap kS (Obj.mapSeq fun _ => (#[] : Array Value))
  have na1 : (s.heap.update kS (Obj.mapSeq fun _ => (#[] : Array Value))).get? a = some (seqObj "list" #[] e1) := (s1.2 a hka.symm).trans ga
  have s2 := Heap.SameBut.update (s.heap.update kS (Obj.mapSeq fun _ => (#[] : Array Value))) a (Obj.mapSeq fun _ => (q.map fun i => vs.getD i .none).toArray)
  have hc2 := get?_update_seq na1 fun _ => (q.map fun i => vs.getD i .none).toArray
  unfold ksk_tail
  try dsimp only
  rw [hout]
  refine wpAny_bind (listUpdate_at gk rfl ?_ (by rw [hsz, sizeLine_eq]; omega) (Nat.zero_le _))
  refine wpAny_bind (wpAny_letGo ?_)
  refine wpAny_bind (seqEpoch_at na1 rfl ?_)
  refine wpAny_bind (listUpdate_at na1 rfl ?_ (Nat.zero_le _) (Nat.le_trans (Nat.le_of_eq (by rw [List.size_toArray, List.length_map, hq])) (by rw [sizeLine_eq]; omega)))
  rw [hfl]
  simp only [bne_self_eq_false, Bool.false_eq_true, if_false]
  exact wpAny_pure (h _ _ (st_same (st_same hg s1 nk) s2 na) ⟨_, hc2, rfl, _, rfl⟩)

theorem kEnd (X : Stand w pp loose mg mb g C vs W) (hg : St g s.heap) (na : g.get? a = none) (nk : g.get? kS = none) (ga : s.heap.get? a = some (seqObj "list" #[] e1)) (gk : s.heap.get? kS = some (seqObj "list" keys e)) (hka : kS ≠ a)
    (h2 : 2 ≤ vs.length) (h64 : vs.length < 64) (hsz : keys.size = vs.length) (hkeys : ∀ (j : Nat) (v : Value), vs[j]? = some v → ∃ x, keys[j]? = some (Value.ref x) ∧ KInst s.heap C x v)
    (hroom : A.depth + 2 < recursionLimit) (hh : A.handled = none) (hu : A.units < cLine) (hd : ∀ i j, i < vs.length → j < vs.length → decide (cmpW 0 (W i) (W j) < 0) = decide (d i < d j))
    (h : ∀ h' tk q, Ord vs.length (turnD b d) q → St g h' → h'.IsList a (q.map fun i => vs.getD i .none).toArray → P (.done (.ret .none)) { s with heap := h', toks := tk }) :
    wpAny (model prog w) A (ksk_end a b vs.toArray e1 (.ref kS) keys) P E s := by
  have step : ∀ t : Sem PySem.Fin, wpAny (model prog w) A t P E s → wpAny (model prog w) A (if b = true then (do let _ ← rule "list.sort.reverse"; t) else t) P E s := by
    intro t ht
    split
    · exact wpAny_bind (wpAny_rule ht)
    · exact ht
  have hit : (if b = true then (keys.zip vs.toArray).reverse else keys.zip vs.toArray).size = vs.length := by
    cases b <;> simp [hsz]
  have hkt : keys.toList.toArray = keys := by simp
  unfold ksk_end
  try dsimp only
  refine step _ ?_
  have hn2 : ¬ vs.toArray.size < 2 := by rw [List.size_toArray]; omega
  rw [if_neg hn2, if_neg hn2]
  rw [← hkt]
  refine wpAny_bind (kas_kind (T := .ref C) (by rw [Array.length_toList, hsz]; exact h2) (fun v hv => ?_) rfl (by simp) ?_)
  · obtain ⟨j, hj, rfl⟩ := List.mem_iff_getElem.mp hv
    have hj' : j < vs.length := by rw [← hsz]; simpa using hj
    obtain ⟨x, ex, dx, ix⟩ := hkeys j _ (List.getElem?_eq_getElem hj')
    have ek : keys.toList[j] = .ref x := by
      have : keys.toList[j]? = some (.ref x) := by simpa using ex
      rw [List.getElem?_eq_getElem hj] at this
      exact Option.some.inj this
    rw [ek]
    exact tyX ix
  rw [hkt]
  have est : SortSt.mk' oneType' (if b = true then (keys.zip vs.toArray).reverse else keys.zip vs.toArray) #[] 7 none = kas_st oneType' (if b = true then (keys.zip vs.toArray).reverse else keys.zip vs.toArray) (List.toArray (List.range vs.length)) := by
    have q := kas_range (if b = true then (keys.zip vs.toArray).reverse else keys.zip vs.toArray)
    rw [hit] at q
    unfold kas_st
    rw [q]
  have ask : (kas_sort vs.length).kasWp (kas_cmp prog w A oneType' (if b = true then (keys.zip vs.toArray).reverse else keys.zip vs.toArray))
      (fun p s' => (Lay vs.length p vs.length ∧ Srt (fun i => d (turnI b vs.length i)) p vs.length) ∧ ∃ h' tk, s' = { s with heap := h', toks := tk } ∧ St s.heap h') s := by
    refine Asks.wp (I := fun s' => ∃ h' tk, s' = { s with heap := h', toks := tk } ∧ St s.heap h') ?_ (sort_ok (d := fun i => d (turnI b vs.length i)) h2) ⟨s.heap, s.toks, rfl, St.refl _⟩ fun p s' hp hi => ⟨hp, hi⟩
    rintro i j Cc s' hi hj ⟨h', tk, rfl, st⟩ hC
    have hi' : turnI b vs.length i < vs.length := by unfold turnI; split <;> omega
    have hj' : turnI b vs.length j < vs.length := by unfold turnI; split <;> omega
    unfold kas_cmp
    rw [turn_item hsz rfl hi, turn_item hsz rfl hj]
    obtain ⟨T, k, eT, tT⟩ := X.th _ hi'
    obtain ⟨U, l, eU, tU⟩ := X.th _ hj'
    obtain ⟨x, ex, ix⟩ := hkeys _ _ eT
    obtain ⟨y, ey, iy⟩ := hkeys _ _ eU
    have kx : keys.getD (turnI b vs.length i) .none = .ref x := by rw [Array.getD_eq_getD_getElem?, ex]; rfl
    have ky : keys.getD (turnI b vs.length j) .none = .ref y := by rw [Array.getD_eq_getD_getElem?, ey]; rfl
    rw [kx, ky]
    have sg := hg.tr st
    refine kKeyLt (s := { s with heap := h', toks := tk }) (X.G.st sg) (X.TR.keeps sg) (X.K.st sg) (ix.st st) (iy.st st) (tT.st sg) (tU.st sg) hroom hh hu fun h'' tk' st' => ?_
    rw [hd _ _ hi' hj']
    exact hC _ ⟨h'', tk', rfl, st.tr st'⟩
  have run := kas_runs (E := E) (Q := fun _ st' s' => ∃ p : Array Nat, arrOf st' = p.map (kas_item (if b = true then (keys.zip vs.toArray).reverse else keys.zip vs.toArray)) ∧ failedOf st' = none ∧ (Lay vs.length p vs.length ∧ Srt (fun i => d (turnI b vs.length i)) p vs.length) ∧ ∃ h' tk, s' = { s with heap := h', toks := tk } ∧ St s.heap h')
    h2 h64 (fun p' st' s' a1 a2 a3 a4 => ⟨p', a2, a3, a4⟩) ask
  rw [← est] at run
  refine wpAny_bind (wpAny_mono run ?_ fun _ _ q => q)
  rintro ⟨⟨⟩, st'⟩ s' ⟨p, har, hf, ⟨L, S⟩, h', tk, rfl, st⟩
  dsimp only
  obtain ⟨q, hO, ho⟩ := out_ok hsz rfl L S
  rw [← har] at ho
  exact kTail (s := { s with heap := h', toks := tk }) (hg.tr st) na nk (st _ _ ga) (st _ _ gk) hka h64 hsz hO.len ho hf fun h3 tk3 g3 l3 => h h3 tk3 q hO g3 l3

theorem kRest (X : Stand w pp loose mg mb g C vs W) (hg : St g s.heap) (na : g.get? a = none) (nk : g.get? kS = none) (ga : s.heap.get? a = some (seqObj "list" #[] e1)) (gk : s.heap.get? kS = some (seqObj "list" #[] 0)) (hka : kS ≠ a)
    (h2 : 2 ≤ vs.length) (h64 : vs.length < 64) (hroom : A.depth + 2 < recursionLimit) (hh : A.handled = none) (hu : A.units < cLine) (hd : ∀ i j, i < vs.length → j < vs.length → decide (cmpW 0 (W i) (W j) < 0) = decide (d i < d j))
    (h : ∀ h' tk q, Ord vs.length (turnD b d) q → St g h' → h'.IsList a (q.map fun i => vs.getD i .none).toArray → P (.done (.ret .none)) { s with heap := h', toks := tk }) :
    wpAny (model prog w) A (ksk_rest a (.ref C) b vs.toArray e1 (.ref kS)) P E s := by
  unfold ksk_rest
  refine wpAny_bind (wpAny_rule ?_)
  rw [List.forIn_toArray]
  refine wpAny_bind (ksk_fold (fun i s' => ∃ h' tk kA e, s' = { s with heap := h', toks := tk } ∧ St g h' ∧ h'.get? a = some (seqObj "list" #[] e1) ∧ h'.get? kS = some (seqObj "list" kA e) ∧ kA.size = i ∧
      ∀ j v, j < i → vs[j]? = some v → ∃ x, kA[j]? = some (.ref x) ∧ KInst h' C x v) vs 0 s
    ⟨s.heap, s.toks, #[], 0, rfl, hg, ga, gk, rfl, fun j v hj => absurd hj (Nat.not_lt_zero _)⟩ ?step ?done)
  case step =>
    rintro j v s' hx ⟨h', tk, kA, e, rfl, hg', ga', gk', hz, hk⟩
    simp only [Nat.zero_add] at hz hk ⊢
    have hj : j < vs.length := (List.getElem?_eq_some_iff.mp hx).1
    refine wpAny_bind (wpAny_attempt (wpAny_call (kNew (s := { s with heap := h', toks := tk }) (X.G.nolim.keeps hg') (X.K.st hg') (by omega) fun x h2' tk2 st ix _ => ?_)))
    try dsimp only
    have gk2 := st _ _ gk'
    have s1 := Heap.SameBut.update h2' kS (Obj.mapSeq (·.push (.ref x)))
    have hc2 := get?_update_seq gk2 (·.push (.ref x))
    refine wpAny_bind (listUpdate_at gk2 rfl ?_ (by rw [sizeLine_eq]; omega) (Nat.le_trans (Nat.le_of_eq (Array.size_push ..)) (by rw [sizeLine_eq]; omega)))
    refine wpAny_pure ⟨rfl, _, _, kA.push (.ref x), _, rfl, st_same (hg'.tr st) s1 nk, (s1.2 a hka.symm).trans (st _ _ ga'), hc2, by rw [Array.size_push, hz], fun j' v' hj' hv' => ?_⟩
    by_cases q : j' = j
    · subst q
      rw [hx] at hv'
      cases hv'
      exact ⟨x, by rw [← hz]; exact Array.getElem?_push_size, ix.same gk2 s1⟩
    · obtain ⟨x', ex', ix'⟩ := hk j' v' (by omega) hv'
      have hlt : j' < kA.size := by omega
      refine ⟨x', ?_, (ix'.st st).same gk2 s1⟩
      rw [Array.getElem?_push, if_neg (by omega)]
      exact ex'
  case done =>
    rintro s' ⟨h', tk, kA, e, rfl, hg', ga', gk', hz, hk⟩
    rw [Nat.zero_add] at hz hk
    try dsimp only
    refine wpAny_bind (listItems_at gk' rfl ?_)
    exact kEnd (s := { s with heap := h', toks := tk }) X hg' na nk ga' gk' hka h2 h64 hz (fun j v hv => hk j v (List.getElem?_eq_some_iff.mp hv).1 hv) hroom hh hu hd h
end
end Mine
end
section
open PySem PySem.W PySem.Calls PyProof.Rows PySem.Spec
set_option maxRecDepth 100000
set_option maxHeartbeats 4000000
namespace Mine
section
variable {prog : Program} {w : World} {A : Around} {E : Value → Shared → Prop} {s : Shared} {mg mb : Str → Option Value} {pp : Program} {loose : List Str} {g : Heap} {C a l : Addr} {vs : List Value} {W : Nat → List Int} {d : Nat → Int} {b : Bool}

theorem fresh1 (h : Heap) : h.get? (h.objs.size + 1) = none := by
  cases q : h.get? (h.objs.size + 1) with
  | none => rfl
  | some o => exact absurd (Heap.lt_size q) (Nat.not_lt.mpr (Nat.le_succ _))
theorem kSort {n : Nat} {P : PySem.Fin → Shared → Prop} (X : Stand w pp loose mg mb g C vs W) (hg : St g s.heap) (na : g.get? a = none) (ga : s.heap.get? a = some (seqObj "list" vs.toArray n)) 
    (h2 : 2 ≤ vs.length) (h64 : vs.length < 64) (hroom : A.depth + 2 < recursionLimit) (hh : A.handled = none) (hu : A.units < cLine) (hd : ∀ i j, i < vs.length → j < vs.length → decide (cmpW 0 (W i) (W j) < 0) = decide (d i < d j))
    (h : ∀ h' tk q, Ord vs.length (turnD b d) q → St g h' → h'.IsList a (q.map fun i => vs.getD i .none).toArray → P (.done (.ret .none)) { s with heap := h', toks := tk }) :
    wpAny (model prog w) A (ksk_tree a (.ref C) b) P E s := by
  have ha : a < s.heap.objs.size := Heap.lt_size ga
  have s1 := Heap.SameBut.update s.heap a (Obj.mapSeq fun _ => (#[] : Array Value))
  have ho1 := get?_update_seq ga fun _ => (#[] : Array Value)
  have hkS : ((s.heap.update a (Obj.mapSeq fun _ => (#[] : Array Value))).push (seqObj "tuple" vs.toArray 0)).objs.size = s.heap.objs.size + 1 := by rw [size_push', Heap.size_update]
  have g1 := st_same hg s1 na
  have g3 : St g (((s.heap.update a (Obj.mapSeq fun _ => (#[] : Array Value))).push (seqObj "tuple" vs.toArray 0)).push (seqObj "list" #[] 0)) := fun b o e => Heap.get?_push_of_some _ (Heap.get?_push_of_some _ (g1 _ _ e))
  unfold ksk_tree
  refine wpAny_bind (listItems_at ga rfl ?_)
  refine wpAny_bind (listUpdate_at ga rfl ?_ (by rw [List.size_toArray, sizeLine_eq]; omega) (Nat.zero_le _))
  refine wpAny_bind (seqEpoch_at ho1 rfl ?_)
  refine wpAny_bind (wpAny_newTuple ?_ (by show vs.length ≤ _; rw [sizeLine_eq]; omega))
  refine wpAny_bind (wpAny_newList ?_ (Nat.zero_le _))
  refine wpAny_holding ?_
  refine kRest (s := { s with heap := ((s.heap.update a (Obj.mapSeq fun _ => (#[] : Array Value))).push (seqObj "tuple" vs.toArray 0)).push (seqObj "list" #[] 0) }) (kS := ((s.heap.update a (Obj.mapSeq fun _ => (#[] : Array Value))).push (seqObj "tuple" vs.toArray 0)).objs.size)
    X g3 na ?nk (Heap.get?_push_of_some _ (Heap.get?_push_of_some _ ho1)) (Heap.get?_push_size _ rfl) (by rw [hkS]; exact Nat.ne_of_gt (Nat.lt_succ_of_lt ha)) h2 h64 hroom hh hu hd h
  case nk =>
    rw [hkS]
    cases q : g.get? (s.heap.objs.size + 1) with
    | none => rfl
    | some o => exact absurd (Heap.lt_size (hg _ _ q)) (Nat.not_lt.mpr (Nat.le_succ _))

theorem kSorted {kw : List (Str × Value)} {Q : Value → Shared → Prop} (X : Stand w pp loose mg mb s.heap C vs W) (hl : s.heap.IsList l vs.toArray)
    (ha1 : argsOk "sorted" ⟨[.ref l], kw⟩) (ha2 : ∀ x, argsOk "list.sort" ⟨[.ref x], kw⟩) (ht : ∀ x, Builtin.«list.sort» ⟨[.ref x], kw⟩ = ksk_tree x (.ref C) b)
    (h2 : 2 ≤ vs.length) (h64 : vs.length < 64) (hroom : A.depth + 2 < recursionLimit) (hh : A.handled = none) (hu : A.units + 2 < cLine) (hd : ∀ i j, i < vs.length → j < vs.length → decide (cmpW 0 (W i) (W j) < 0) = decide (d i < d j))
    (h : ∀ D h' tk q, Ord vs.length (turnD b d) q → St s.heap h' → h'.IsList D (q.map fun i => vs.getD i .none).toArray → s.heap.get? D = none → Q (.ref D) { s with heap := h', toks := tk }) :
    wpAny (model prog w) A (call (.builtin "sorted") [.ref l] kw) Q E s := by
  refine call_function_entry_kw kind_sorted plain_sorted entry_sorted ha1 ?_
  unfold Builtin.«sorted»
  refine wpAny_bind (m := checkCount "sorted" 1 1 _) (wpAny_pure ?_)
  refine wpAny_bind (collect_list hl ?_ (by rw [sizeLine_eq]; omega))
  refine wpAny_bind (wpAny_newList ?_ (by rw [sizeLine_eq]; omega))
  have hsz : ((s.heap.push (seqObj "list" #[] 0)).update s.heap.objs.size (Obj.mapSeq (· ++ vs.toArray))).objs.size = s.heap.objs.size + 1 := by
    rw [Heap.size_update, size_push']
  have hoL : (((s.heap.push (seqObj "list" #[] 0)).update s.heap.objs.size (Obj.mapSeq (· ++ vs.toArray))).push (seqObj "list" vs.toArray 0)).get? (s.heap.objs.size + 1) = some (seqObj "list" vs.toArray 0) := by
    rw [← hsz]; exact Heap.get?_push_size _ rfl
  have keep : St s.heap (((s.heap.push (seqObj "list" #[] 0)).update s.heap.objs.size (Obj.mapSeq (· ++ vs.toArray))).push (seqObj "list" vs.toArray 0)) := fun b o q => by
    have hlt : b < s.heap.objs.size := Heap.lt_size q
    rw [Heap.get?_push_ne _ _ _ (by rw [hsz]; exact Nat.ne_of_lt (Nat.lt_succ_of_lt hlt)), Heap.get?_update_ne _ _ _ _ (Nat.ne_of_lt hlt), Heap.get?_push_ne _ _ _ (Nat.ne_of_lt hlt)]
    exact q
  show wpAny _ _ _ _ _ { s with heap := ((s.heap.push (seqObj "list" #[] 0)).update s.heap.objs.size (Obj.mapSeq (· ++ vs.toArray))).push (seqObj "list" vs.toArray 0) }
  rw [hsz]
  refine wpAny_bind (wpAny_holding (wpAny_call_entry_kw slot_list_sort ⟨_, hoL, rfl⟩ entry_list_sort ?body (ha2 _)))
  case body =>
    have ht' := ht (s.heap.objs.size + 1)
    show wpAny (model prog w) A.in1.in1 (Builtin.«list.sort» ⟨[.ref (s.heap.objs.size + 1)], kw⟩) _ _ _
    rw [ht']
    refine kSort (s := { s with heap := ((s.heap.push (seqObj "list" #[] 0)).update s.heap.objs.size (Obj.mapSeq (· ++ vs.toArray))).push (seqObj "list" vs.toArray 0) })
      X keep (fresh1 _) hoL h2 h64 hroom hh ?hu hd fun h' tk q hO g' l' => ⟨_, rfl, wpAny_pure ⟨_, rfl, h _ h' tk q hO g' l' (fresh1 _)⟩⟩
    case hu => exact hu
end
end Mine
end
section
open PySem PySem.W PySem.Calls PyProof.Rows PySem.Spec
set_option maxRecDepth 100000
set_option maxHeartbeats 4000000
namespace Mine
/-- all but W is kept -/
def Sb (W : List Addr) (h h' : Heap) : Prop := ∀ b o, b ∉ W → h.get? b = some o → h'.get? b = some o
theorem Sb.refl (W : List Addr) (h : Heap) : Sb W h h := fun _ _ _ e => e
theorem Sb.tr {W : List Addr} {a b c : Heap} (x : Sb W a b) (y : Sb W b c) : Sb W a c := fun p o n e => y p o n (x p o n e)
theorem Sb.mono {W V : List Addr} {a b : Heap} (x : Sb W a b) (h : ∀ p ∈ W, p ∈ V) : Sb V a b := fun p o n e => x p o (fun m => n (h p m)) e
theorem Sb.ofSt {W : List Addr} {a b : Heap} (x : St a b) : Sb W a b := fun p o _ e => x p o e
theorem Sb.ofSame {W : List Addr} {a b : Heap} {p : Addr} (x : Heap.SameBut p a b) (h : p ∈ W) : Sb W a b := fun q o n e => (x.2 q fun r => n (r ▸ h)).trans e
/-- h is g, with the hidden ones W beside it -/
structure Lv (W : List Addr) (g h : Heap) : Prop where
  st : St g h
  no : ∀ b ∈ W, g.get? b = none
theorem Lv.sb {W g h h'} (x : Lv W g h) (s : Sb W h h') : Lv W g h' := ⟨fun b o e => s b o (fun m => by rw [x.no b m] at e; cases e) (x.st b o e), x.no⟩
theorem Lv.same {W g h h' a} (x : Lv W g h) (s : Heap.SameBut a h h') (m : a ∈ W) : Lv W g h' := x.sb (.ofSame s m)
theorem Lv.now (W : List Addr) (h : Heap) : Lv W (hideAll h W) h := ⟨fun _ _ e => of_hideAll _ e, fun _ m => hideAll_none _ m⟩
theorem Lv.up {W g h} (x : Lv W g h) : St g (hideAll h W) := fun b o e => hideAll_get _ (x.st b o e) fun m => by rw [x.no b m] at e; cases e
theorem Lv.less {W V g h} (x : Lv W g h) (m : ∀ p ∈ V, p ∈ W) : Lv V g h := ⟨x.st, fun b n => x.no b (m b n)⟩
theorem hidden {h : Heap} {b : Addr} {o : Obj} {W : List Addr} (e : h.get? b = some o) (n : b ∉ W) : (hideAll h W).get? b = some o := hideAll_get _ e n
theorem fresh_none {h : Heap} {a : Addr} (e : h.objs.size ≤ a) : h.get? a = none := Heap.get?_none_of_le e

section
variable {prog : Program} {w : World} {A : Around} {E : Value → Shared → Prop} {s : Shared} {mg mb : Str → Option Value} {env : Env} {g : Heap}
/-- a global name of the text -/
theorem nameG {x : Str} {pos : Pos} {v : Value} {Q : Value → Shared → Prop} (G : Gd w mg mb g) (st : St g s.heap) (hk : env.scope.kind = .function) (hx : env.kindOf x = some .globalImplicit) (hg : env.globals = mainGlobals)
    (e : nsIn (hd.heap_39 w.params) mainGlobals x = some (some v)) (h : Q v s) (hd : (x == ("__debug__" : Str)) = false := by decide) : wpAny (model prog w) A (eval (.Name x pos) env) Q E s :=
  Name_function_global hk hx (loadGlobal_global (by rw [hg]; exact (G.st st).gn) (G.mgOf e) h) hd
/-- a name of the builtins -/
theorem nameB {x : Str} {pos : Pos} {v : Value} {Q : Value → Shared → Prop} (G : Gd w mg mb g) (st : St g s.heap) (hk : env.scope.kind = .function) (hx : env.kindOf x = some .globalImplicit) (hg : env.globals = mainGlobals) (hb : env.builtins = builtinsNs)
    (e : nsIn (hd.heap_39 w.params) mainGlobals x = some none) (hv : bootBuiltins x = some v) (hn : x ≠ "__name__") (h : Q v s) (hd : (x == ("__debug__" : Str)) = false := by decide) : wpAny (model prog w) A (eval (.Name x pos) env) Q E s :=
  Name_function_global hk hx (loadGlobal_builtin (by rw [hg]; exact (G.st st).gn) (G.mgNone e) (by rw [hb]; exact (G.st st).bn) ((G.bb _ hn).trans hv) h) hd
/-- a local name -/
theorem nameL {x : Str} {pos : Pos} {v : Value} {m} {Q : Value → Shared → Prop} (ns : s.heap.Ns env.locals m) (hv : m x = some v) (hk : env.scope.kind = .function) (hx : env.kindOf x = some .local) (h : Q v s) (hd : (x == ("__debug__" : Str)) = false := by decide) :
    wpAny (model prog w) A (eval (.Name x pos) env) Q E s := wpAny_Name (wpAny_loadName_local hk hx ns hv h) hd

theorem nl {vs : List Value} {Q : Value → Shared → Prop} (h : ∀ h' D, St s.heap h' → h'.get? D = some (seqObj "list" vs.toArray 0) → s.heap.objs.size ≤ D → Q (.ref D) { s with heap := h' }) (hsz : vs.length ≤ sizeLine := by size_fits) : wpAny (model prog w) A (newList vs) Q E s :=
  wpAny_newList (h _ _ (fun _ _ e => Heap.get?_push_of_some _ e) (Heap.get?_push_size _ rfl) (Nat.le_refl _)) hsz
theorem nt {vs : List Value} {Q : Value → Shared → Prop} (h : ∀ h' D, St s.heap h' → h'.get? D = some (seqObj "tuple" vs.toArray 0) → s.heap.objs.size ≤ D → Q (.ref D) { s with heap := h' }) (hsz : vs.length ≤ sizeLine := by size_fits) : wpAny (model prog w) A (newTuple vs) Q E s :=
  wpAny_newTuple (h _ _ (fun _ _ e => Heap.get?_push_of_some _ e) (Heap.get?_push_size _ rfl) (Nat.le_refl _)) hsz
theorem addL {l b : Addr} {vs ws : List Value} {Q : Value → Shared → Prop} (hl : s.heap.IsList l vs.toArray) (hb : s.heap.IsList b ws.toArray)
    (h : ∀ h' D, St s.heap h' → h'.get? D = some (seqObj "list" (vs ++ ws).toArray 0) → s.heap.objs.size ≤ D → Q (.ref D) { s with heap := h' }) (hsz : vs.length + ws.length ≤ sizeLine) :
    wpAny (model prog w) A (binaryOp .Add (.ref l) (.ref b)) Q E s := by
  obtain ⟨⟨cls, dd, data, sl⟩, ho, hc, n, hd⟩ := id hl
  obtain ⟨⟨cls2, dd2, data2, sl2⟩, ho2, hc2, n2, hd2⟩ := id hb
  simp only at hc hd hc2 hd2
  subst hc hd hc2 hd2
  have e : vs.toArray ++ ws.toArray = (vs ++ ws).toArray := by simp
  refine concat_meets ⟨_, ho, rfl⟩ ⟨_, ho2, rfl⟩ noFill_list_add seq_list_add PySem.F.slot_list_add PySem.F.entry_list_add (PySem.F.args_list_add_2 _ _) (list_addW l b vs.toArray ws.toArray n n2 dd dd2 sl sl2 (by simpa using hsz)) ⟨ho, ho2, ?_⟩
  rw [e]
  exact h _ _ (fun _ _ e => Heap.get?_push_of_some _ e) (Heap.get?_push_size _ rfl) (Nat.le_refl _)

/-- a for over an iterator: J holds between the turns, the body changes Wb alone -/
theorem forW {x : Str} {px : Pos} {body : List Stmt} {I : Addr} {fp wr : List Addr} {n : Nat} {P : Nat → Value → Prop} {Stt : Nat → Heap → Prop} {Q : Flow → Shared → Prop} (W : Walks prog w A I fp wr n P Stt) (J : Nat → Heap → Prop) (Wb : List Addr) (hfp : ∀ b ∈ fp, b ∉ Wb)
    (hst : Stt 0 s.heap) (h0 : J 0 s.heap) (hJ : ∀ i h h', J i h → Sb wr h h' → J i h')
    (step : ∀ i v h tk, i < n → P i v → J i h → Sb (wr ++ Wb) s.heap h → Stt (i + 1) h → wpAny (model prog w) A (assign (.Name x px) env v) (fun _ s₂ => wpAny (model prog w) A (execs body env)
      (fun f s' => match f with | .ret v => Q (.ret v) s' | .brk => Q .next s' | _ => ∃ h' tk', s' = { s with heap := h', toks := tk' } ∧ J (i + 1) h' ∧ Sb Wb h h') (fun _ _ => False) s₂) (fun _ _ => False) { s with heap := h, toks := tk })
    (fin : ∀ h tk, J n h → Sb (wr ++ Wb) s.heap h → Q .next { s with heap := h, toks := tk }) :
    codeAny (model prog w) A (.forLoop (.Name x px) (.ref I) body [] env) (fun r s' => match r with | .ok f => Q f s' | .error e => cameBackBy (model prog w) A env E e s') s := by
  refine codeAny_forLoop (fun k s' => ∃ h tk i, s' = { s with heap := h, toks := tk } ∧ Stt i h ∧ J i h ∧ Sb (wr ++ Wb) s.heap h ∧ i ≤ n ∧ k = n + 1 - i) ?_ (n + 1) ⟨s.heap, s.toks, 0, rfl, hst, h0, Sb.refl _ _, Nat.zero_le _, rfl⟩
  rintro k s' ⟨h, tk, i, rfl, hs, hj, sb, hi, rfl⟩
  by_cases hlt : i < n
  · refine W.item i _ _ _ hlt hs fun v h₁ tk₁ hP hs₁ hk₁ => ?_
    have sb1 : Sb (wr ++ Wb) s.heap h₁ := fun b o nb e => hk₁ b o (fun m => nb (List.mem_append_left _ m)) (sb b o nb e)
    refine wpAny_mono (step i v h₁ tk₁ hlt hP (hJ i h h₁ hj fun b o nb e => hk₁ b o nb e) sb1 hs₁) (fun _ s₂ z => wpAny_mono z (fun f s₃ q => ?_) fun _ _ e => e.elim) fun _ _ e => e.elim
    have go : (∃ h' tk', s₃ = { s with heap := h', toks := tk' } ∧ J (i + 1) h' ∧ Sb Wb h₁ h') → ∃ m, m < n + 1 - i ∧ ∃ h tk i', s₃ = { s with heap := h, toks := tk } ∧ Stt i' h ∧ J i' h ∧ Sb (wr ++ Wb) s.heap h ∧ i' ≤ n ∧ m = n + 1 - i' := by
      rintro ⟨h', tk', rfl, hj', sb'⟩
      exact ⟨n + 1 - (i + 1), by omega, h', tk', i + 1, rfl, W.frame _ _ _ hs₁ fun b hb o e => sb' b o (hfp b hb) e, hj', fun b o nb e => sb' b o (fun m => nb (List.mem_append_right _ m)) (sb1 b o nb e), hlt, rfl⟩
    cases f with
    | ret v => exact q
    | brk => exact q
    | cont => exact go q
    | next => exact go q
  · have : i = n := by omega
    subst this
    refine W.done _ _ _ hs fun h₁ tk₁ hk₁ => wpAny_execs_nil (fin h₁ tk₁ (hJ _ h h₁ hj fun b o nb e => hk₁ b o nb e) fun b o nb e => hk₁ b o (fun m => nb (List.mem_append_left _ m)) (sb b o nb e))
end
end Mine
end
section
open PySem PySem.W PySem.Calls PyProof.Rows PySem.Spec
set_option maxRecDepth 100000
set_option maxHeartbeats 4000000
namespace Mine
section
variable {prog : Program} {w : World} {A : Around} {E : Value → Shared → Prop} {s : Shared} {mg mb : Str → Option Value}
theorem iterL {l : Addr} {items : Array Value} {Q : Value → Shared → Prop} (hl : s.heap.IsList l items)
    (hQ : ∀ I h', St s.heap h' → h'.IsListIter I l 0 → s.heap.objs.size ≤ I → Q (.ref I) { s with heap := h' }) : wpAny (model prog w) A (call (.builtin "iter") [.ref l]) Q E s := by
  refine call_function_entry (by decide +kernel) (by decide +kernel) kdk_entry_iter (kdk_args_iter _) ?_
  unfold Builtin.«iter»
  refine wpAny_bind (m := someArgs "iter" 1 2 _) (wpAny_of_eq (a := [Value.ref l]) (by first | rfl | kernel_rfl!) ?_)
  show wpAny _ _ (pyIter (.ref l) >>= _) _ _ _
  refine wpAny_bind (wpAny_pyIter_list hl ?_)
  exact wpAny_pure ⟨_, rfl, hQ _ _ (fun _ _ e => Heap.get?_push_of_some _ e) ⟨_, Heap.get?_push_size _ rfl, rfl, rfl⟩ (Nat.le_refl _)⟩

def foldOn (p : Int) (ps : List (Int × Int)) : Int := ps.foldl (fun q x => onW q x.1 x.2) p
theorem foldOn_snoc {p : Int} {ps : List (Int × Int)} {i : Nat} {a b : Int} (h : ps[i]? = some (a, b)) : foldOn p (ps.take (i + 1)) = onW (foldOn p (ps.take i)) a b := by
  unfold foldOn
  rw [List.take_succ, h, List.foldl_append]; rfl
/-- the list's items are pairs of ints -/
structure Prs (h : Heap) (xs : List Value) (ps : List (Int × Int)) : Prop where
  len : xs.length = ps.length
  item : ∀ (i : Nat) (p : Int × Int), ps[i]? = some p → ∃ T ta tb, xs[i]? = some (Value.ref T) ∧ IsTup h T #[.int p.1 ta, .int p.2 tb]

theorem lawReduce {l : Addr} {t0 : Tok} {xs : List Value} {ps : List (Int × Int)} {R : Result → Shared → Prop} (G : Gd w mg mb s.heap) (hl : s.heap.IsList l xs.toArray) (hp : Prs s.heap xs ps) (hb : ∀ p ∈ ps, -9 < p.2 ∧ p.2 < 9) (hroom : A.depth + 1 < recursionLimit) (hh : A.handled = none)
    (h : ∀ h' tk t' r, r = foldOn 0 ps → St s.heap h' → R (.ok (.ret (.int r t'))) { s with heap := h', toks := tk }) : codeAny (model prog w) A (.call (.ref 30) ⟨[.ref 44, .ref l, .int 0 t0], []⟩) R s := by
  have e23 : (hd.heap_39 w.params).lookup 23 = some (objAt w 23) := by kernel_rfl
  have e30 : (hd.heap_39 w.params).lookup 30 = some (objAt w 30) := by kernel_rfl
  refine callDef (binds := [(Str.ofString "function", .ref 44), (Str.ofString "sequence", .ref l), (Str.ofString "initial", .int 0 t0)]) G.nolim (G.K _ _ e30) rfl (codeRec_of G.K (by kernel_rfl)) (by omega) (BindsTo.of_defaults rfl (G.K _ _ e23) rfl rfl rfl) ?_ (fun L h₁ st nL ns => ?_) (kinds_no (by kernel_rfl)) rfl rfl rfl
  · intro y hy
    simp only [List.mem_cons, List.not_mem_nil, or_false] at hy
    rcases hy with rfl | rfl | rfl <;> kernel_rfl
  have L0 : s.heap.get? L = none := fresh_none nL
  refine wpAny_execs_cons (wpAny_Assign_Name (Call_ (nameB G st rfl (by kernel_rfl) rfl rfl (v := .builtin "iter") (by kernel_rfl) (by kernel_rfl) (by decide) ?_)))
  refine PyProof.Rows.callWith_builtin1 (args_cons (nameL ns (v := .ref l) rfl rfl (by kernel_rfl) (args_nil ?_)))
  refine iterL (hl.at fun o e => st _ o e) fun I h₂ st₂ hI nI => ?_
  have IL : I ≠ L := fun e => by subst e; exact absurd (ns.lt) (Nat.not_lt.mpr nI)
  have I0 : s.heap.get? I = none := by
    cases q : s.heap.get? I with
    | none => rfl
    | some o => exact absurd (Heap.lt_size (st _ _ q)) (Nat.not_lt.mpr nI)
  refine wpAny_storeName_local (by kernel_rfl) (Ns_st ns st₂) (fun h₃ ns₃ sb₃ => ?_) rfl
  have lv3 : Lv [L, I] s.heap h₃ := ⟨st_same (st.tr st₂) sb₃ L0, by
    intro b hb
    simp only [List.mem_cons, List.not_mem_nil, or_false] at hb
    rcases hb with rfl | rfl
    · exact L0
    · exact I0⟩
  have hI3 : h₃.IsListIter I l 0 := hI.at fun o e => (sb₃.2 I IL).trans e
  refine wpAny_execs_cons (wpAny_If (wpAny_isTrue_Compare1 (nameL ns₃ (v := .int 0 t0) rfl rfl (by kernel_rfl) (nameG G lv3.st rfl (by kernel_rfl) rfl (v := .ref 22) (by kernel_rfl) ?_))))
  refine wpAny_is_other rfl (by intro q; cases q) (wpAny_truthy_bool ?_)
  rw [if_neg Bool.false_ne_true]
  refine wpAny_execs_cons (wpAny_Assign_Name (nameL ns₃ (v := .int 0 t0) rfl rfl (by kernel_rfl) ?_))
  refine wpAny_storeName_local (by kernel_rfl) ns₃ (fun h₄ ns₄ sb₄ => ?_) rfl
  refine wpAny_execs_nil ?_
  have lv4 : Lv [L, I] s.heap h₄ := lv3.same sb₄ (.head _)
  refine wpAny_execs_cons (wpAny_For (nameL ns₄ (v := .ref I) rfl rfl (by kernel_rfl) ?_))
  have hI4 : h₄.IsListIter I l 0 := hI3.at fun o e => (sb₄.2 I IL).trans e
  refine wpAny_pyIter_listiter hI4 ?_
  have lI : l ≠ I := fun e => by
    subst e
    obtain ⟨o, q, _⟩ := hl
    rw [I0] at q; cases q
  have lL : l ≠ L := fun e => by
    subst e
    obtain ⟨o, q, _⟩ := hl
    rw [L0] at q; cases q
  refine forW (Walks.list (A := A.deeper _) hh I l lI xs.toArray) (fun i h' => Lv [L, I] s.heap h' ∧ ∃ m, h'.Ns L m ∧ m (Str.ofString "function") = some (.ref 44) ∧ ∃ t, m (Str.ofString "value") = some (.int (foldOn 0 (ps.take i)) t)) [L] ?fp ⟨hI4, hl.at fun o e => lv4.st _ o e⟩ ⟨lv4, _, ns₄, rfl, t0, rfl⟩ ?hJ ?step ?fin
  case fp =>
    intro b hb
    simp only [List.mem_cons, List.not_mem_nil, or_false] at hb ⊢
    rcases hb with rfl | rfl
    · exact IL
    · exact lL
  case hJ =>
    rintro i h h' ⟨lv, m, ns, r⟩ sb
    exact ⟨lv.sb (sb.mono (by simp)), m, ns.at' fun o e => sb _ o (by simpa using IL.symm) e, r⟩
  case step =>
    rintro i v h' tk hi hv ⟨lv, m, ns', mf, t, mv⟩ - -
    have hi' : i < ps.length := by rw [← hp.len]; simpa using hi
    obtain ⟨T, ta, tb, ex, hT⟩ := hp.item i _ (List.getElem?_eq_getElem hi')
    have ev : v = .ref T := by
      have : xs[i]? = some v := by simpa using hv
      rw [this] at ex; exact Option.some.inj ex
    subst ev
    have epi : ps[i]? = some (ps[i].1, ps[i].2) := List.getElem?_eq_getElem hi'
    refine wpAny_assign_Name (wpAny_storeName_local (by kernel_rfl) ns' (fun h₅ ns₅ sb₅ => ?_) rfl)
    have lv5 := lv.same sb₅ (.head _)
    have mf5 : (fun y => if y = Str.ofString "element" then some (Value.ref T) else m y) (Str.ofString "function") = some (.ref 44) := mf
    have mv5 : (fun y => if y = Str.ofString "element" then some (Value.ref T) else m y) (Str.ofString "value") = some (.int (foldOn 0 (ps.take i)) t) := mv
    refine wpAny_execs_cons (wpAny_Assign_Name (Call_ (nameL ns₅ mf5 rfl (by kernel_rfl) ?_)))
    have e44 : (hd.heap_39 w.params).lookup 44 = some (objAt w 44) := by kernel_rfl
    refine callWith_def (o := objAt w 44) rfl (args_cons (nameL ns₅ mv5 rfl (by kernel_rfl) (args_cons (nameL ns₅ (v := .ref T) rfl rfl (by kernel_rfl) (args_nil ⟨lv5.st _ _ (G.K _ _ e44), ?_⟩)))))
    refine wpAny_call (lawOn (s := { s with heap := h₅, toks := _ }) (G.st lv5.st) (Heap.IsTuple.at hT fun o e => lv5.st _ o e) hroom (IntMulOk.of_right (intBits_le_64 ?_ ?_)) fun h₆ tk₆ t₆ r er st₆ => ?_)
    · have := (hb _ (List.getElem_mem hi')).1; omega
    · have := (hb _ (List.getElem_mem hi')).2; omega
    have lv6 : Lv [L, I] s.heap h₆ := ⟨lv5.st.tr st₆, lv5.no⟩
    refine wpAny_storeName_local (by kernel_rfl) (Ns_st ns₅ st₆) (fun h₇ ns₇ sb₇ => ?_) rfl
    refine wpAny_execs_nil ⟨h₇, _, rfl, ⟨lv6.same sb₇ (.head _), _, ns₇, mf5, _, by rw [foldOn_snoc epi, ← er]; rfl⟩, ?_⟩
    exact ((Sb.ofSame sb₅ (.head _)).tr (.ofSt st₆)).tr (.ofSame sb₇ (.head _))
  case fin =>
    rintro h' tk ⟨lv, m, ns', mf, t, mv⟩ -
    refine wpAny_execs_cons (wpAny_Return_some (nameL ns' mv rfl (by kernel_rfl) ?_))
    refine h _ _ _ _ ?_ lv.st
    rw [List.size_toArray, hp.len, List.take_length]
end
end Mine
end
section
open PySem PySem.W PySem.Calls PyProof.Rows PySem.Spec
set_option maxRecDepth 100000
set_option maxHeartbeats 4000000
namespace Mine
section
variable {prog : Program} {w : World} {A : Around} {E : Value → Shared → Prop} {R : Result → Shared → Prop}
/-- the loop of list(iterator): J holds of the items so far and of the heap beside the list S -/
theorem extendLoop {I S : Addr} {res : Value} {n : Nat} (J : Nat → Array Value → Heap → Prop) (hn : n ≤ sizeLine) (s : Shared) (hsz : ∀ i acc h, J i acc h → acc.size = i)
    (item : ∀ i acc h tk c, i < n → J i acc h → h.get? S = some (seqObj "list" acc c) → wpAny (model prog w) A.in1 (pyNext (.ref I)) (fun r s' => ∃ v h' tk', r = some v ∧ s' = { s with heap := h', toks := tk' } ∧ h'.get? S = some (seqObj "list" acc c) ∧
      ∀ h'', Heap.SameBut S h' h'' → J (i + 1) (acc.push v) h'') (fun _ _ => False) { s with heap := h, toks := tk })
    (done : ∀ acc h tk c, J n acc h → h.get? S = some (seqObj "list" acc c) → wpAny (model prog w) A.in1 (pyNext (.ref I)) (fun r s' => r = none ∧ R (.ok (.ret res)) s') (fun _ _ => False) { s with heap := h, toks := tk }) :
    ∀ (k i : Nat) (acc : Array Value) (h : Heap) (tk c : Nat), n - i = k → i ≤ n → J i acc h → h.get? S = some (seqObj "list" acc c) →
      codeAny (model prog w) A (.builtin "list.extend.loop" ⟨[.ref S, .ref I, res], []⟩) R { s with heap := h, toks := tk } := by
  intro k
  induction k with
  | zero =>
    intro i acc h tk c hk hi hj hS
    have hin : i = n := by omega
    subst hin
    refine codeAny_builtin F.entry_extend_loop ?_
    rw [Around.under_plainId F.plain_extend_loop _]
    show wpAny _ A.in1 (pyNext (.ref I) >>= _) _ _ _
    refine wpAny_bind (wpAny_mono (done acc h tk c hj hS) (fun r s' q => ?_) fun _ _ e => e.elim)
    obtain ⟨rfl, q⟩ := q
    exact wpAny_pure q
  | succ k ih =>
    intro i acc h tk c hk hi hj hS
    have hlt : i < n := by omega
    refine codeAny_builtin F.entry_extend_loop ?_
    rw [Around.under_plainId F.plain_extend_loop _]
    show wpAny _ A.in1 (pyNext (.ref I) >>= _) _ _ _
    refine wpAny_bind (wpAny_mono (item i acc h tk c hlt hj hS) (fun r s' q => ?_) fun _ _ e => e.elim)
    obtain ⟨v, h', tk', rfl, rfl, hS', hj'⟩ := q
    show wpAny _ A.in1 (updateSeq S (·.push v) >>= _) _ _ _
    refine wpAny_bind ?_
    refine wpAny_updateSeq hS' rfl (wpAny_pure ⟨plainId_quiet F.plain_extend_loop _, ih (i + 1) (acc.push v) _ _ _ (by omega) hlt (hj' _ (Heap.SameBut.update ..)) (get?_update_seq hS' (·.push v))⟩)
      (by rw [hsz _ _ _ hj]; omega) (by show (acc.push v).size ≤ sizeLine + 1; rw [Array.size_push, hsz _ _ _ hj]; omega)
end

section
variable {prog : Program} {w : World} {A : Around} {E : Value → Shared → Prop} {s : Shared}
/-- list(iterator), whatever the iterator's hint says -/
theorem listIter {T : String} {I : Addr} {n : Nat} {Q : Value → Shared → Prop} (J : Addr → Nat → Array Value → Heap → Prop) (hn : n ≤ sizeLine) (hsz : ∀ S i acc h, J S i acc h → acc.size = i) (hI : I < s.heap.objs.size)
    (hT : s.TypeIs (.ref I) T) (n1 : (Value.type T == Value.type "list") = false) (n2 : (Value.type T == Value.type "tuple") = false)
    (self : ∀ (A : Around) (s' : Shared) (Q : Value → Shared → Prop) (E : Value → Shared → Prop), s'.TypeIs (.ref I) T → Q (.ref I) s' → wpAny (model prog w) A (pyIter (.ref I)) Q E s')
    (hint : ∀ (A : Around) (s' : Shared) (Q : Bool → Shared → Prop) (E : Value → Shared → Prop), s'.TypeIs (.ref I) T → (∀ b, Q b s') → wpAny (model prog w) A (Builtin.List.listLengthHint (.ref I)) Q E s')
    (j0 : ∀ S h, s.heap.objs.size ≤ S → St s.heap h → J S 0 #[] h)
    (item : ∀ S i acc h tk c, i < n → J S i acc h → h.get? S = some (seqObj "list" acc c) → wpAny (model prog w) A.in1.in1 (pyNext (.ref I)) (fun r s' => ∃ v h' tk', r = some v ∧ s' = { s with heap := h', toks := tk' } ∧ h'.get? S = some (seqObj "list" acc c) ∧
      ∀ h'', Heap.SameBut S h' h'' → J S (i + 1) (acc.push v) h'') (fun _ _ => False) { s with heap := h, toks := tk })
    (done : ∀ S acc h tk c, J S n acc h → h.get? S = some (seqObj "list" acc c) → wpAny (model prog w) A.in1.in1 (pyNext (.ref I)) (fun r s' => r = none ∧ Q (.ref S) s') (fun _ _ => False) { s with heap := h, toks := tk }) :
    wpAny (model prog w) A (call (.type "list") [.ref I]) Q E s := by
  refine callType_codes (Q₁ := fun obj s₁ => obj = .ref s.heap.objs.size ∧ s₁ = { s with heap := s.heap.push { cls := .type "list", data := .seq #[] } }) F.called_list (F.typeCall_list_1 _) F.entry_list_init
    (code_list_new _ ⟨rfl, rfl⟩) fun obj s₁ h₁ => ?_
  obtain ⟨rfl, rfl⟩ := h₁
  have hS : (s.heap.push { cls := .type "list", data := .seq #[] }).get? s.heap.objs.size = some (seqObj "list" #[] 0) := Heap.get?_push_size _ rfl
  refine ⟨⟨_, hS, rfl⟩, F.args_list_init_2 _ _, ?_⟩
  generalize hSe : s.heap.objs.size = S at hS
  have hSI : S ≠ I := by rw [← hSe]; exact Nat.ne_of_gt hI
  obtain ⟨oI, gI, cI⟩ := hT
  have st0 : St s.heap (s.heap.push { cls := .type "list", data := .seq #[] }) := fun _ _ e => Heap.get?_push_of_some _ e
  generalize hH : s.heap.push { cls := .type "list", data := .seq #[] } = H at hS st0
  have key : ∀ (h : Heap) (tk c : Nat), St s.heap h → h.get? S = some (seqObj "list" #[] c) →
      codeAny (model prog w) A.in1 (.builtin "list.extend.loop" ⟨[.ref S, .ref I, .none], []⟩) (wants (fun r s₂ => r = Value.none ∧ Q (.ref S) s₂) E) { s with heap := h, toks := tk } := by
    intro h tk c st g
    refine extendLoop (J S) hn s (hsz S) (item S) ?_ n 0 #[] h tk c rfl (Nat.zero_le _) (j0 S h (by rw [hSe]; exact Nat.le_refl _) st) g
    intro acc h tk c hj g
    exact wpAny_mono (done S acc h tk c hj g) (fun r s' q => ⟨q.1, rfl, q.2⟩) fun _ _ e => e
  show wpAny _ _ (do let old ← Builtin.List.listItems (.ref S); Builtin.List.listUpdate (.ref S) (fun _ => #[]); letGo old.toList.reverse; Builtin.List.listExtendWith (.ref S) (.ref I) .none) _ _ _
  refine wpAny_bind (listItems_at hS rfl ?_)
  refine wpAny_bind (listUpdate_at hS rfl ?_ (Nat.zero_le _) (Nat.zero_le _))
  have s2 := Heap.SameBut.update H S (Obj.mapSeq fun _ => (#[] : Array Value))
  have hS2 := get?_update_seq hS fun _ => (#[] : Array Value)
  have nS : s.heap.get? S = none := by rw [← hSe]; exact fresh_none (Nat.le_refl _)
  have st2 := st_same st0 s2 nS
  refine wpAny_bind (wpAny_letGo ?_)
  unfold Builtin.List.listExtendWith
  refine wpAny_bind (wpAny_typeOf (T := T) ⟨oI, st2 _ _ gI, cI⟩ ?_)
  have h1 : Builtin.List.listSameRef (.ref S) (.ref I) = false := by simp [Builtin.List.listSameRef, hSI]
  simp only [h1, n1, n2, Bool.or_false, Bool.false_eq_true, if_false]
  refine wpAny_bind (self _ _ _ _ ⟨oI, st2 _ _ gI, cI⟩ ?_)
  refine wpAny_bind (wpAny_holding (hint _ _ _ _ ⟨oI, st2 _ _ gI, cI⟩ fun b => ?_))
  refine wpAny_ite_split (fun _ => ?_) (fun _ => wpAny_pure ⟨plainId_quiet F.plain_extend_loop _, key _ _ _ st2 hS2⟩)
  refine wpAny_bind (wpAny_rule ?_)
  refine wpAny_bind ?_
  show wpAny _ _ (updateSeq S (·.push .none) >>= fun _ => updateSeq S (·.pop)) _ _ _
  refine wpAny_bind (wpAny_updateSeq hS2 rfl ?_)
  have hS3 := get?_update_seq hS2 (·.push Value.none)
  have s3 := Heap.SameBut.update (H.update S (Obj.mapSeq fun _ => (#[] : Array Value))) S (Obj.mapSeq (·.push Value.none))
  refine wpAny_updateSeq (hz := by seq_fits) hS3 rfl ?_
  have hS4 := get?_update_seq hS3 (·.pop)
  have s4 := Heap.SameBut.update ((H.update S (Obj.mapSeq fun _ => (#[] : Array Value))).update S (Obj.mapSeq (·.push Value.none))) S (Obj.mapSeq (·.pop))
  exact wpAny_pure ⟨plainId_quiet F.plain_extend_loop _, key _ _ _ (st_same (st_same st2 s3 nS) s4 nS) hS4⟩

theorem rev_no_len : typeLookup (.type "list_reverseiterator") "__len__" = pure none := by rw [typeLookup_type, builtinLookup_eq_fast]; kernel_rfl
theorem rev_hint : typeLookup (.type "list_reverseiterator") "__length_hint__" = pure (some (.builtin "list_reverseiterator.__length_hint__")) := by rw [typeLookup_type, builtinLookup_eq_fast]; kernel_rfl
theorem rev_sub : isSubtype (.type "list_reverseiterator") (.type "list_reverseiterator") = pure true := by rw [isSubtype_type]; kernel_rfl
theorem hintRev {I : Addr} {Q : Bool → Shared → Prop} (hT : s.TypeIs (.ref I) "list_reverseiterator") (h : ∀ b, Q b s) : wpAny (model prog w) A (Builtin.List.listLengthHint (.ref I)) Q E s := by
  unfold Builtin.List.listLengthHint
  refine wpAny_bind (wpAny_specialOf hT rev_no_len ?_)
  show wpAny _ _ (specialOf (Value.ref I) (Str.ofString "__length_hint__") >>= _) _ _ _
  refine wpAny_bind (wpAny_specialOf hT rev_hint ?_)
  generalize hid : ("list_reverseiterator.__length_hint__" : String) = id0
  wp_delta
  rw [show splitId id0 = some ("list_reverseiterator", "__length_hint__") from by subst hid; decide +kernel]
  subst hid
  refine wpAny_bind (wpAny_isInstance (T := "list_reverseiterator") (b := true) hT rev_sub ?_)
  refine wpAny_ite_split (fun hab => absurd hab (by decide)) (fun _ => ?_)
  refine wpAny_ite_split (fun _ => ?_) (fun hab => absurd rfl hab)
  refine wpAny_ite_split (fun hab => absurd hab (by decide +kernel)) (fun _ => wpAny_pure (h _))

/-- list(reversed(l)) -/
theorem listReversed {l : Addr} {vs : List Value} {Q : Value → Shared → Prop} (hh : A.handled = none) (hl : s.heap.IsList l vs.toArray) (hn : vs.length ≤ sizeLine)
    (h : ∀ D h' tk, St s.heap h' → h'.IsList D vs.reverse.toArray → s.heap.get? D = none → Q (.ref D) { s with heap := h', toks := tk }) :
    wpAny (model prog w) A (call (.type "reversed") [.ref l]) (fun r s' => wpAny (model prog w) A (call (.type "list") [r]) Q E s') E s := by
  refine call_reversed_list hl ?_
  generalize hIe : s.heap.objs.size = I
  have hI0 : s.heap.get? I = none := by rw [← hIe]; exact fresh_none (Nat.le_refl _)
  have hlI : l ≠ I := fun e => by obtain ⟨o, q, _⟩ := hl; rw [e, hI0] at q; cases q
  have st1 : St s.heap (s.heap.push (revObj l ((vs.toArray.size : Int) - 1))) := fun _ _ e => Heap.get?_push_of_some _ e
  have gI : (s.heap.push (revObj l ((vs.toArray.size : Int) - 1))).get? I = some (revObj l ((vs.toArray.size : Int) - 1)) := by rw [← hIe]; exact Heap.get?_push_size _ rfl
  have hsz : (s.heap.push (revObj l ((vs.toArray.size : Int) - 1))).objs.size = I + 1 := by rw [Heap.size_push, hIe]
  generalize s.heap.push (revObj l ((vs.toArray.size : Int) - 1)) = H at st1 gI hsz
  have W := Walks.listRev (prog := prog) (w := w) (A := A.in1.in1) hh I l hlI vs.toArray
  refine listIter (s := { s with heap := H }) (T := "list_reverseiterator") (n := vs.toArray.size) (fun S i acc h => I < S ∧ s.heap.get? S = none ∧ St s.heap h ∧ (i ≤ vs.toArray.size ∧ h.IsRevIter I l ((vs.toArray.size : Int) - 1 - (i : Int)) ∧ h.IsList l vs.toArray) ∧ acc.size = i ∧ ∀ j, j < i → acc[j]? = vs.toArray[vs.toArray.size - 1 - j]?) (by simpa using hn) ?hsz (by show I < H.objs.size; rw [hsz]; exact Nat.lt_succ_self _) ⟨_, gI, rfl⟩ (by decide +kernel) (by decide +kernel)
    ?self ?hint ?j0 ?item ?done
  case hsz => exact fun S i acc h x => x.2.2.2.2.1
  case self =>
    intro A s' Q E hT hq
    refine wpAny_pyIter_slot hT F.slot_lri_iter (wpAny_call_entry F.slot_lri_iter hT F.entry_lri_iter ?_ (F.args_lri_iter_1 _))
    show wpAny _ _ (ret (.ref I)) _ _ s'
    exact wpAny_pure ⟨_, rfl, "list_reverseiterator", _, hT, F.slot_lri_next.lookup, hq⟩
  case hint => exact fun A s' Q E hT hq => hintRev hT hq
  case j0 =>
    intro S h hS st
    have st' := st1.tr st
    refine ⟨?_, ?_, st', ⟨Nat.zero_le _, ⟨_, st _ _ gI, rfl, by simp [revObj]⟩, hl.at fun o e => st' _ o e⟩, rfl, fun j hj => absurd hj (Nat.not_lt_zero _)⟩
    · have : H.objs.size ≤ S := hS
      rw [hsz] at this; exact this
    · refine fresh_none (Nat.le_trans ?_ hS)
      show s.heap.objs.size ≤ H.objs.size
      rw [hsz, hIe]; exact Nat.le_succ _
  case item =>
    rintro S i acc h tk c hi ⟨hIS, hS0, st, hst, hz, hacc⟩ gS
    refine W.item i _ _ _ hi hst fun v h' tk' hv hst' hk => ⟨v, h', tk', rfl, rfl, hk S _ (by simpa using Nat.ne_of_gt hIS) gS, fun h'' sb => ?_⟩
    have st2 : St s.heap h' := fun b o e => hk b o (fun m => by rw [List.mem_singleton.mp m, hI0] at e; cases e) (st _ _ e)
    refine ⟨hIS, hS0, st_same st2 sb hS0, W.frame _ _ _ hst' fun b hb o e => (sb.2 b fun q => ?_).trans e, by rw [Array.size_push, hz], fun j hj => ?_⟩
    · rw [q] at hb
      simp only [List.mem_cons, List.not_mem_nil, or_false] at hb
      rcases hb with q | q
      · exact absurd q (Nat.ne_of_gt hIS)
      · rw [q] at hS0; obtain ⟨o, q', _⟩ := hl; rw [hS0] at q'; cases q'
    · by_cases q : j = i
      · subst q
        rw [← hz, Array.getElem?_push_size, hz]; exact hv.symm
      · rw [Array.getElem?_push, if_neg (by omega)]; exact hacc j (by omega)
  case done =>
    rintro S acc g tk c ⟨hIS, hS0, st, hst, hz, hacc⟩ gS
    refine W.done _ _ _ hst fun h' tk' hk => ⟨rfl, ?_⟩
    have st2 : St s.heap h' := fun b o e => hk b o (fun m => by rw [List.mem_singleton.mp m, hI0] at e; cases e) (st _ _ e)
    refine h S h' tk' st2 ⟨_, hk S _ (by simpa using Nat.ne_of_gt hIS) gS, rfl, c, ?_⟩ hS0
    have e : acc = vs.reverse.toArray := by
      refine Array.ext (by rw [hz]; simp) fun i h1 h2 => ?_
      have := hacc i (by omega)
      rw [Array.getElem?_eq_getElem h1] at this
      have h3 : vs.toArray.size - 1 - i < vs.toArray.size := by omega
      rw [Array.getElem?_eq_getElem h3] at this
      have := Option.some.inj this
      rw [this]
      simp [List.getElem_reverse]
    rw [e]
end
end Mine
end
section
namespace Mine
/-- the words with one more place ahead -/
def stepTo (c : Nat) (ws : List (List Int)) : List (List Int) := ((List.range c).map fun (d : Nat) => (if d % 2 = 1 then ws.reverse else ws).map (((d : Nat) : Int) :: ·)).flatten
/-- all words of the counts in the mirrored order -/
def mirr : List Int → List (List Int)
  | [] => [[]]
  | c :: cs => stepTo c.toNat (mirr cs)
theorem stepTo_succ (c : Nat) (ws : List (List Int)) : stepTo (c + 1) ws = stepTo c ws ++ (if c % 2 = 1 then ws.reverse else ws).map ((c : Int) :: ·) := by
  unfold stepTo
  rw [List.range_succ, List.map_append, List.flatten_append]; simp
theorem stepTo_len (c : Nat) (ws : List (List Int)) : (stepTo c ws).length = c * ws.length := by
  induction c with
  | zero => simp [stepTo]
  | succ c ih =>
    rw [stepTo_succ, List.length_append, ih, List.length_map]
    have : (if c % 2 = 1 then ws.reverse else ws).length = ws.length := by split <;> simp
    rw [this, Nat.succ_mul]
theorem mirr_len : ∀ (cs : List Int), (∀ c ∈ cs, c ≤ 3) → (mirr cs).length ≤ 3 ^ cs.length
  | [], _ => by simp [mirr]
  | c :: cs, h => by
    have ih := mirr_len cs fun x hx => h x (.tail _ hx)
    have hc := h c (.head _)
    show (stepTo c.toNat (mirr cs)).length ≤ _
    rw [stepTo_len, List.length_cons, Nat.pow_succ, Nat.mul_comm]
    exact Nat.mul_le_mul ih (by omega)
theorem step_mem {c : Nat} {ws : List (List Int)} {x : List Int} (h : x ∈ stepTo c ws) : ∃ d w, x = d :: w ∧ w ∈ ws := by
  unfold stepTo at h
  rw [List.mem_flatten] at h
  obtain ⟨l, hl, hx⟩ := h
  rw [List.mem_map] at hl
  obtain ⟨d, _, rfl⟩ := hl
  rw [List.mem_map] at hx
  obtain ⟨w, hw, rfl⟩ := hx
  refine ⟨_, w, rfl, ?_⟩
  split at hw
  · exact List.mem_reverse.mp hw
  · exact hw
theorem mirr_word : ∀ (cs : List Int) (x : List Int), x ∈ mirr cs → x.length = cs.length
  | [], x, h => by simp [mirr] at h; simp [h]
  | c :: cs, x, h => by
    obtain ⟨d, w, rfl, hw⟩ := step_mem h
    rw [List.length_cons, List.length_cons, mirr_word cs w hw]
end Mine
end
section
open PySem PySem.W PySem.Calls PyProof.Rows PySem.Spec
set_option maxRecDepth 100000
set_option maxHeartbeats 4000000
namespace Mine
/-- the values are lists of ints, word by word -/
structure Wds (h : Heap) (xs : List Value) (ws : List (List Int)) : Prop where
  len : xs.length = ws.length
  item : ∀ (i : Nat) (x : List Int), ws[i]? = some x → ∃ l ys, xs[i]? = some (Value.ref l) ∧ h.IsList l ys.toArray ∧ IntsAre ys x
theorem Wds.st {h h' xs ws} (x : Wds h xs ws) (s : St h h') : Wds h' xs ws := ⟨x.len, fun i v e => let ⟨l, ys, a, b, c⟩ := x.item i v e; ⟨l, ys, a, b.at fun o q => s _ o q, c⟩⟩
theorem Wds.nil {h : Heap} : Wds h [] [] := ⟨rfl, fun i x e => by simp at e⟩
theorem Wds.snoc {h xs ws l ys x} (w : Wds h xs ws) (hl : h.IsList l ys.toArray) (hi : IntsAre ys x) : Wds h (xs ++ [.ref l]) (ws ++ [x]) := by
  refine ⟨by simp [w.len], fun i v e => ?_⟩
  rw [List.getElem?_append] at e
  split at e
  · rename_i hlt
    obtain ⟨l', ys', a, b, c⟩ := w.item i v e
    refine ⟨l', ys', ?_, b, c⟩
    rw [List.getElem?_append, if_pos (by rw [w.len]; exact hlt)]; exact a
  · rename_i hlt
    have hi0 : i - ws.length = 0 := by
      rcases Nat.eq_zero_or_pos (i - ws.length) with q | q
      · exact q
      · rw [List.getElem?_eq_none (by simp; omega)] at e; cases e
    rw [hi0] at e
    cases e
    refine ⟨l, ys, ?_, hl, hi⟩
    rw [List.getElem?_append, if_neg (by rw [w.len]; exact hlt), w.len, hi0]; rfl
theorem Wds.rev {h xs ws} (w : Wds h xs ws) : Wds h xs.reverse ws.reverse := by
  refine ⟨by simp [w.len], fun i v e => ?_⟩
  have hi : i < ws.length := by
    have := (List.getElem?_eq_some_iff.mp e).1
    simpa using this
  rw [List.getElem?_reverse hi] at e
  obtain ⟨l, ys, a, b, c⟩ := w.item _ v e
  refine ⟨l, ys, ?_, b, c⟩
  rw [List.getElem?_reverse (by rw [w.len]; exact hi), w.len]; exact a
theorem Sb.chain {V W : List Addr} {a b c : Heap} (x : Sb V a b) (y : Sb W b c) (n : ∀ p ∈ W, p ∈ V ∨ a.get? p = none) : Sb V a c := fun p o np e => y p o (fun m => (n p m).elim np fun q => by rw [q] at e; cases e) (x p o np e)
theorem Sb.none {W : List Addr} {a b : Heap} {p : Addr} (x : Sb W a b) (n : b.get? p = none) (m : p ∉ W) : a.get? p = none := by
  cases q : a.get? p with
  | none => rfl
  | some o => rw [x p o m q] at n; cases n

section
variable {prog : Program} {w : World} {A : Around} {E : Value → Shared → Prop} {s : Shared} {mg mb : Str → Option Value}
theorem rangeL {c : Int} {tc : Tok} {Q : Value → Shared → Prop} (h0 : 0 ≤ c) (h1 : c < 2 ^ 62) (h : ∀ h' I tk, St s.heap h' → IsRangeIter h' I 0 c 1 → s.heap.objs.size ≤ I → Q (.ref I) { s with heap := h', toks := tk }) :
    wpAny (model prog w) A (call (.type "range") [.int c tc]) (fun r s' => wpAny (model prog w) A (pyIter r) Q E s') E s := by
  refine call_range_1 ?_
  refine wpAny_pyIter_range (IsRange.new ..) (small_one (by decide) (by decide) (by omega) (by omega)) ?_
  refine h _ _ _ (fun _ _ e => Heap.get?_push_of_some _ (Heap.get?_push_of_some _ e)) ?_ ?_
  · have e : Builtin.Range.rangeSize 0 c 1 = c := by rw [rangeSize_one]; split <;> omega
    rw [e]
    exact Heap.get?_push_size _ rfl
  · show s.heap.objs.size ≤ (s.heap.push _).objs.size
    rw [Heap.size_push]; exact Nat.le_succ _
theorem pyIterL {l : Addr} {items : Array Value} {Q : Value → Shared → Prop} (hl : s.heap.IsList l items) (h : ∀ h' I, St s.heap h' → h'.IsListIter I l 0 → s.heap.objs.size ≤ I → Q (.ref I) { s with heap := h' }) : wpAny (model prog w) A (pyIter (.ref l)) Q E s :=
  wpAny_pyIter_list hl (h _ _ (fun _ _ e => Heap.get?_push_of_some _ e) ⟨_, Heap.get?_push_size _ rfl, rfl, rfl⟩ (Nat.le_refl _))
theorem lawMirrored {lc : Addr} {vs : List Value} {cs : List Int} {R : Result → Shared → Prop} (G : Gd w mg mb s.heap) (hl : s.heap.IsList lc vs.toArray) (hi : IntsAre vs cs) (hb : ∀ c ∈ cs, 0 ≤ c ∧ c ≤ 3) (hlen : cs.length ≤ 9) (hroom : A.depth < recursionLimit) (hh : A.handled = none)
    (h : ∀ h' tk D xs, St s.heap h' → h'.IsList D xs.toArray → Wds h' xs (mirr cs) → R (.ok (.ret (.ref D))) { s with heap := h', toks := tk }) : codeAny (model prog w) A (.call (.ref 37) ⟨[.ref lc], []⟩) R s := by
  have e37 : (hd.heap_39 w.params).lookup 37 = some (objAt w 37) := by kernel_rfl
  refine callDef (binds := [(Str.ofString "counts", .ref lc)]) G.nolim (G.K _ _ e37) rfl (codeRec_of G.K (by kernel_rfl)) hroom (BindsTo.of_eq rfl) ?_ (fun L h₁ st nL ns => ?_) (kinds_no (by kernel_rfl)) rfl rfl rfl
  · intro y hy
    simp only [List.mem_cons, List.not_mem_nil, or_false] at hy
    rcases hy with rfl
    kernel_rfl
  have L0 : s.heap.get? L = none := fresh_none nL
  refine wpAny_execs_cons (wpAny_Assign_Name (List_ (args_cons (List_ (args_nil (nl fun h₂ D₁ st₂ g₂ n₂ => args_nil (nl (s := { s with heap := h₂, toks := _ }) fun h₃ wl₀ st₃ g₃ n₃ => ?_)))))))
  have nsL3 := Ns_st (Ns_st ns st₂) st₃
  have hD₁L : D₁ ≠ L := fun e => by subst e; exact absurd ns.lt (Nat.not_lt.mpr n₂)
  have hwlL : wl₀ ≠ L := fun e => by subst e; exact absurd (Ns_st ns st₂).lt (Nat.not_lt.mpr n₃)
  refine wpAny_storeName_local (by kernel_rfl) nsL3 (fun h₄ ns₄ sb₄ => ?_) rfl
  have st4 : St s.heap h₄ := st_same ((st.tr st₂).tr st₃) sb₄ L0
  refine wpAny_execs_cons (wpAny_For (Call_ (nameB G st4 rfl (by kernel_rfl) rfl rfl (v := .type "reversed") (by kernel_rfl) (by kernel_rfl) (by decide) ?_)))
  refine PyProof.Rows.callWith_type1 (args_cons (nameL ns₄ (v := .ref lc) rfl rfl (by kernel_rfl) (args_nil ?_)))
  refine call_reversed_list (hl.at fun o e => st4 _ o e) ?_
  show wpAny _ _ (pyIter (.ref h₄.objs.size)) _ _ _
  have I0' : h₄.get? h₄.objs.size = none := fresh_none (Nat.le_refl _)
  have st5 : St h₄ (h₄.push (revObj lc ((vs.toArray.size : Int) - 1))) := fun _ _ e => Heap.get?_push_of_some _ e
  have gI1 : (h₄.push (revObj lc ((vs.toArray.size : Int) - 1))).get? h₄.objs.size = some (revObj lc ((vs.toArray.size : Int) - 1)) := Heap.get?_push_size _ rfl
  show wpAny _ _ (pyIter (.ref h₄.objs.size)) _ _ { s with heap := h₄.push (revObj lc ((vs.toArray.size : Int) - 1)), toks := _ }
  generalize h₄.push (revObj lc ((vs.toArray.size : Int) - 1)) = h₅ at st5 gI1
  generalize h₄.objs.size = I₁ at I0' gI1
  have I10 : s.heap.get? I₁ = none := by
    cases q : s.heap.get? I₁ with
    | none => rfl
    | some o => rw [st4 _ _ q] at I0'; cases I0'
  have hI1 : h₅.IsRevIter I₁ lc ((vs.toArray.size : Int) - 1) := ⟨_, gI1, rfl, rfl⟩
  have LI1 : L ≠ I₁ := fun e => by
    obtain ⟨o, _, _, q, _⟩ := ns₄
    rw [e, I0'] at q; cases q
  have lcL : lc ≠ L := fun e => by obtain ⟨o, q, _⟩ := hl; rw [e, L0] at q; cases q
  have lcI1 : lc ≠ I₁ := fun e => by obtain ⟨o, q, _⟩ := hl; rw [e, I10] at q; cases q
  refine wpAny_pyIter_revIter (s := { s with heap := h₅, toks := _ }) hI1 ?_
  have g3' : h₅.get? wl₀ = some (seqObj "list" [Value.ref D₁].toArray 0) := st5 _ _ ((sb₄.2 _ hwlL).trans g₃)
  have gD' : h₅.get? D₁ = some (seqObj "list" ([] : List Value).toArray 0) := st5 _ _ ((sb₄.2 _ hD₁L).trans (st₃ _ _ g₂))
  have wlI1 : wl₀ ≠ I₁ := fun e => by rw [← e, (sb₄.2 _ hwlL).trans g₃] at I0'; cases I0'
  have D1I1 : D₁ ≠ I₁ := fun e => by rw [← e, (sb₄.2 _ hD₁L).trans (st₃ _ _ g₂)] at I0'; cases I0'
  have lv5 : Lv [L, I₁] s.heap h₅ := ⟨st4.tr st5, by
    intro b hb
    simp only [List.mem_cons, List.not_mem_nil, or_false] at hb
    rcases hb with rfl | rfl
    · exact L0
    · exact I10⟩
  have hvl : vs.length = cs.length := hi.length
  refine forW (s := { s with heap := h₅, toks := _ }) (Walks.listRev (A := A.deeper _) hh I₁ lc lcI1 vs.toArray)
    (fun i h' => ∃ m wl xs g, h'.Ns L m ∧ m (Str.ofString "words") = some (.ref wl) ∧ Lv [L, I₁] g h' ∧ St s.heap g ∧ g.IsList wl xs.toArray ∧ Wds g xs (mirr (cs.drop (cs.length - i)))) [L] ?fp ⟨Nat.zero_le _, by simpa using hI1, hl.at fun o e => (st4.tr st5) _ o e⟩ ?j0 ?hJ ?step ?fin
  case fp =>
    intro b hb
    simp only [List.mem_cons, List.not_mem_nil, or_false] at hb ⊢
    rcases hb with rfl | rfl
    · exact LI1.symm
    · exact lcL
  case j0 =>
    refine ⟨_, wl₀, [.ref D₁], hideAll h₅ [L, I₁], Ns_st ns₄ st5, rfl, Lv.now _ _, lv5.up, ⟨_, hidden g3' (by simp [hwlL, wlI1]), rfl, _, rfl⟩, ?_⟩
    have e : cs.drop (cs.length - 0) = [] := by simp
    rw [e]
    exact Wds.nil.snoc (ys := []) ⟨_, hidden gD' (by simp [hD₁L, D1I1]), rfl, _, rfl⟩ .nil
  case hJ =>
    rintro i h h' ⟨m, wl, xs, g, ns, mw, lv, r⟩ sb
    exact ⟨m, wl, xs, g, ns.at' fun o e => sb _ o (by simpa using LI1) e, mw, lv.sb (sb.mono (by simp)), r⟩
  case step =>
    rintro i v h' tk hlt hv ⟨m, wl, xs, g, ns, mw, lv, sg, hwl, wds⟩ - ⟨-, hI1', -⟩
    have hlt' : i < cs.length := by rw [← hvl]; simpa using hlt
    obtain ⟨c, tc, rfl, ec⟩ := IntsAre.at hi (vs.length - 1 - i) v (by simpa using hv)
    rw [hvl] at ec
    have hdrop : cs.drop (cs.length - (i + 1)) = c :: cs.drop (cs.length - i) := by
      have := drop_at ec
      rw [show cs.length - 1 - i = cs.length - (i + 1) by omega] at this
      rw [this, show cs.length - (i + 1) + 1 = cs.length - i by omega]
    rw [hdrop]
    have hc := hb c (List.mem_of_getElem? ec)
    have hwl3 : (mirr (cs.drop (cs.length - i))).length ≤ 3 ^ 9 := by
      refine Nat.le_trans (mirr_len _ fun x hx => (hb x (List.mem_of_mem_drop hx)).2) (Nat.pow_le_pow_right (by decide) ?_)
      rw [List.length_drop]; omega
    have hwo : ∀ x ∈ mirr (cs.drop (cs.length - i)), x.length ≤ 9 := fun x hx => by
      rw [mirr_word _ x hx, List.length_drop]; omega
    have hm : mirr (c :: cs.drop (cs.length - i)) = stepTo c.toNat (mirr (cs.drop (cs.length - i))) := rfl
    rw [hm]
    clear hm hdrop
    generalize mirr (cs.drop (cs.length - i)) = ws at wds hwl3 hwo
    refine wpAny_assign_Name (wpAny_storeName_local (by kernel_rfl) ns (fun h₆ ns₆ sb₆ => ?_) rfl)
    have lv6 := lv.same sb₆ (.head _)
    refine wpAny_execs_cons (wpAny_Assign_Name (List_ (args_nil (nl (s := { s with heap := h₆, toks := _ }) fun h₇ ll st₇ g₇ n₇ => ?_))))
    have ll6 : h₆.get? ll = none := fresh_none n₇
    have llL : ll ≠ L := fun e => by subst e; exact absurd ns₆.lt (Nat.not_lt.mpr n₇)
    refine wpAny_storeName_local (by kernel_rfl) (Ns_st ns₆ st₇) (fun h₈ ns₈ sb₈ => ?_) rfl
    have lv7 : Lv [L, I₁] g h₇ := ⟨lv6.st.tr st₇, lv6.no⟩
    have lv8 := lv7.same sb₈ (.head _)
    refine wpAny_execs_cons (wpAny_For (Call_ (nameB G (sg.tr lv8.st) rfl (by kernel_rfl) rfl rfl (v := .type "range") (by kernel_rfl) (by kernel_rfl) (by decide) ?_)))
    refine PyProof.Rows.callWith_type1 (args_cons (nameL ns₈ (v := .int c tc) rfl rfl (by kernel_rfl) (args_nil (rangeL (s := { s with heap := h₈, toks := _ }) hc.1 (by omega) fun h₉ I₂ tk₉ st₉ hI₂ nI₂ => ?_))))
    have I28 : h₈.get? I₂ = none := fresh_none nI₂
    have I2L : I₂ ≠ L := fun e => by subst e; exact absurd ns₈.lt (Nat.not_lt.mpr nI₂)
    have gl8 : h₈.get? ll = some (seqObj "list" ([] : List Value).toArray 0) := (sb₈.2 _ llL).trans g₇
    have I2ll : I₂ ≠ ll := fun e => by rw [e, gl8] at I28; cases I28
    have ns9 := Ns_st ns₈ st₉
    have g0l : ∀ {b o}, g.get? b = some o → b ≠ ll := fun {b o} e q => by rw [q] at e; rw [lv6.st _ _ e] at ll6; cases ll6
    have g0I2 : ∀ {b o}, g.get? b = some o → b ≠ I₂ := fun {b o} e q => by rw [q] at e; rw [lv8.st _ _ e] at I28; cases I28
    have lv9 : Lv [L, ll, I₁, I₂] g h₉ := ⟨lv8.st.tr st₉, by
      intro b hb
      simp only [List.mem_cons, List.not_mem_nil, or_false] at hb
      rcases hb with rfl | rfl | rfl | rfl
      · exact lv.no _ (by simp)
      · cases q : g.get? b with
        | none => rfl
        | some o => exact absurd rfl (g0l q)
      · exact lv.no _ (by simp)
      · cases q : g.get? b with
        | none => rfl
        | some o => exact absurd rfl (g0I2 q)⟩
    have wsz : ∀ k : Nat, k ≤ 3 → k * ws.length ≤ 100000 := fun k hk => by
      have := Nat.mul_le_mul hk hwl3
      omega
    have llI1 : ll ≠ I₁ := fun e => by
      obtain ⟨o, q, _⟩ := hI1'
      rw [e, (sb₆.2 _ LI1.symm).trans q] at ll6
      cases ll6
    have sb06 : Sb [L] h' h₆ := .ofSame sb₆ (.head _)
    have sb09 : Sb [L] h' h₉ := ((sb06.tr (.ofSt st₇)).tr (.ofSame sb₈ (.head _))).tr (.ofSt st₉)
    have sb08 : Sb [L] h' h₈ := (sb06.tr (.ofSt st₇)).tr (.ofSame sb₈ (.head _))
    have ll0 : h'.get? ll = none := sb06.none ll6 (by simpa using llL)
    have I20 : h'.get? I₂ = none := sb08.none I28 (by simpa using I2L)
    refine forW (s := { s with heap := h₉, toks := tk₉ }) (Walks.range (A := A.deeper _) hh I₂ 0 1 c.toNat)
      (fun k h' => ∃ m ys g', h'.Ns L m ∧ m (Str.ofString "words") = some (.ref wl) ∧ m (Str.ofString "longer") = some (.ref ll) ∧ PlainL h' ll ys.toArray ∧ Lv [L, ll, I₁, I₂] g' h' ∧ St g g' ∧ Wds g' ys (stepTo k ws)) [L, ll] ?fp2 (by simpa [Int.toNat_of_nonneg hc.1] using hI₂) ?j2 ?hJ2 ?step2 ?fin2
    case fp2 =>
      intro b hb
      rw [List.mem_singleton.mp hb]
      simp [I2L, I2ll]
    case j2 =>
      refine ⟨_, [], g, ns9, mw, rfl, ⟨_, _, st₉ _ _ gl8, rfl, rfl, rfl⟩, lv9, St.refl _, ?_⟩
      have e : stepTo 0 ws = [] := by simp [stepTo]
      rw [e]; exact Wds.nil
    case hJ2 =>
      rintro k h h' ⟨m, ys, g', ns, m1, m2, pl, lv, r⟩ sb
      exact ⟨m, ys, g', ns.at' fun o e => sb _ o (by simpa using I2L.symm) e, m1, m2, let ⟨o, n, e, q⟩ := pl; ⟨o, n, sb _ _ (by simpa using I2ll.symm) e, q⟩, lv.sb (sb.mono (by simp)), r⟩
    case step2 =>
      rintro k v h'' tk hk ⟨tk', rfl⟩ ⟨m, ys, g', ns', m1, m2, pl, lv', sg', wd'⟩ sbs hI2'
      have hk3 : k < 3 := by omega
      have ek : (0 + (k : Int) * 1) = (k : Int) := by omega
      rw [ek]
      refine wpAny_assign_Name (wpAny_storeName_local (by kernel_rfl) ns' (fun ha nsa sba => ?_) rfl)
      have lva := lv'.same sba (.head _)
      have pla : PlainL ha ll ys.toArray := let ⟨o, n, e, q⟩ := pl; ⟨o, n, (sba.2 _ llL).trans e, q⟩
      have hwa : ha.IsList wl xs.toArray := hwl.at fun o e => lva.st _ o (sg' _ _ e)
      have hxl : xs.length = ws.length := wds.len
      refine wpAny_execs_cons (wpAny_Assign_Name (wpAny_mono (Q := fun v s' => ∃ tl tvs hb tkb, v = .ref tl ∧ s' = { s with heap := hb, toks := tkb } ∧ St ha hb ∧ hb.IsList tl (List.toArray tvs) ∧ tvs = (if k % 2 = 1 then xs.reverse else xs) ∧ (tl = wl ∨ ha.get? tl = none)) ?ev (fun v s' q => ?rest) fun _ _ e => e))
      case ev =>
        refine wpAny_IfExp (wpAny_isTrue_Compare1 (wpAny_BinOp (nameL nsa (v := .int k tk') rfl rfl (by kernel_rfl) (wpAny_Constant_int (PyProof.Rows.mod_int' (by decide) (wpAny_Constant_int (eq_int (wpAny_truthy_bool ?_))))))))
        by_cases hodd : k % 2 = 1
        · have e1 : ((k : Int).fmod 2 == 1) = true := by rw [beq_iff_eq, Int.fmod_eq_emod_of_nonneg _ (by decide)]; omega
          rw [e1, if_pos rfl]
          refine Call_ (nameB G (sg.tr (sg'.tr lva.st)) rfl (by kernel_rfl) rfl rfl (v := .type "list") (by kernel_rfl) (by kernel_rfl) (by decide) ?_)
          refine PyProof.Rows.callWith_type1 (args_cons (Call_ (nameB G (sg.tr (sg'.tr lva.st)) rfl (by kernel_rfl) rfl rfl (v := .type "reversed") (by kernel_rfl) (by kernel_rfl) (by decide) ?_)))
          refine PyProof.Rows.callWith_type1 (args_cons (nameL nsa m1 rfl (by kernel_rfl) (args_nil ?_)))
          refine wpAny_mono (listReversed (s := { s with heap := ha, toks := _ }) (Q := fun v s' => ∃ tl tvs hb tkb, v = .ref tl ∧ s' = { s with heap := hb, toks := tkb } ∧ St ha hb ∧ hb.IsList tl (List.toArray tvs) ∧ tvs = (if k % 2 = 1 then xs.reverse else xs) ∧ (tl = wl ∨ ha.get? tl = none)) (E := fun _ _ => False) hh hwa (by rw [hxl, sizeLine_eq]; have := wsz 1 (by decide); omega) fun D h₁₀ tk₁₀ st₁₀ hD nD => ⟨D, _, h₁₀, tk₁₀, rfl, rfl, st₁₀, hD, by rw [if_pos hodd], .inr nD⟩) (fun r s' q => args_nil q) fun _ _ e => e
        · have e1 : ((k : Int).fmod 2 == 1) = false := by rw [beq_eq_false_iff_ne, Int.fmod_eq_emod_of_nonneg _ (by decide)]; omega
          rw [e1, if_neg Bool.false_ne_true]
          exact nameL nsa m1 rfl (by kernel_rfl) ⟨wl, xs, ha, _, rfl, rfl, St.refl _, hwa, by rw [if_neg hodd], .inl rfl⟩
      case rest =>
        obtain ⟨tl, tvs, hb, tkb, rfl, rfl, stb, htl, etv, hfr⟩ := q
        have gI1a : ∃ o, ha.get? I₁ = some o := by
          obtain ⟨o, q, _⟩ := hI1'
          refine ⟨o, (sba.2 _ LI1.symm).trans (sbs _ _ ?_ (sb09 _ _ (by simpa using LI1.symm) q))⟩
          simp only [List.mem_append, List.mem_cons, List.not_mem_nil, or_false, not_or]
          exact ⟨fun e => (by rw [e, I20] at q; cases q), LI1.symm, llI1.symm⟩
        have gI2a : ∃ o, ha.get? I₂ = some o := ⟨_, (sba.2 _ I2L).trans hI2'⟩
        have gLa : ∃ o, ha.get? L = some o := let ⟨o, _, _, q, _⟩ := nsa; ⟨o, q⟩
        have glla : ∃ o, ha.get? ll = some o := let ⟨o, _, q, _⟩ := pla; ⟨o, q⟩
        have off : ∀ p, p ∈ [L, ll, I₁, I₂] → (∃ o, ha.get? p = some o) → tl ≠ p := fun p hp hx e => by
          rcases hfr with q | q
          · obtain ⟨o, q', _⟩ := hwl
            rw [← q, e, lv9.no p hp] at q'; cases q'
          · rw [e] at q; obtain ⟨o, q'⟩ := hx; rw [q'] at q; cases q
        have tlL := off L (by simp) gLa
        have tlll := off ll (by simp) glla
        have wdt : Wds g tvs (if k % 2 = 1 then ws.reverse else ws) := by
          rw [etv]
          split
          · exact wds.rev
          · exact wds
        have htws : (if k % 2 = 1 then ws.reverse else ws).length = ws.length := by split <;> simp
        have hstep : stepTo (k + 1) ws = stepTo k ws ++ (if k % 2 = 1 then ws.reverse else ws).map ((k : Int) :: ·) := stepTo_succ k ws
        have htwo : ∀ x ∈ (if k % 2 = 1 then ws.reverse else ws), x.length ≤ 9 := by
          intro x hx
          split at hx
          · exact hwo x (List.mem_reverse.mp hx)
          · exact hwo x hx
        generalize (if k % 2 = 1 then ws.reverse else ws) = tws at wdt htws hstep htwo
        refine wpAny_storeName_local (by kernel_rfl) (Ns_st nsa stb) (fun hc' nsc sbc => ?_) rfl
        have lvb : Lv [L, ll, I₁, I₂] g' hb := ⟨lva.st.tr stb, lva.no⟩
        have lvc := lvb.same sbc (.head _)
        have htlc : hc'.IsList tl tvs.toArray := htl.at fun o e => (sbc.2 _ tlL).trans e
        have plc : PlainL hc' ll ys.toArray := let ⟨o, n, e, q⟩ := pla; ⟨o, n, (sbc.2 _ llL).trans (stb _ _ e), q⟩
        have mcd : (fun y => if y = Str.ofString "tails" then some (Value.ref tl) else if y = Str.ofString "digit" then some (Value.int k tk') else m y) (Str.ofString "digit") = some (.int k tk') := rfl
        refine wpAny_execs_cons (wpAny_For (nameL nsc (v := .ref tl) rfl rfl (by kernel_rfl) (pyIterL (s := { s with heap := hc', toks := _ }) htlc fun hd I₃ std hI3 nI3 => ?_)))
        have I3c : hc'.get? I₃ = none := fresh_none nI3
        have I3L : I₃ ≠ L := fun e => by subst e; exact absurd nsc.lt (Nat.not_lt.mpr nI3)
        have I3ll : I₃ ≠ ll := fun e => by obtain ⟨o, _, q, _⟩ := plc; rw [e, q] at I3c; cases I3c
        have tlI3 : tl ≠ I₃ := fun e => by obtain ⟨o, q, _⟩ := htlc; rw [e, I3c] at q; cases q
        have lvd : Lv [L, ll, I₁, I₂, I₃] g' hd := ⟨lvc.st.tr std, by
          intro b hb'
          simp only [List.mem_cons, List.not_mem_nil, or_false] at hb'
          rcases hb' with rfl | rfl | rfl | rfl | rfl
          · exact lvc.no _ (by simp)
          · exact lvc.no _ (by simp)
          · exact lvc.no _ (by simp)
          · exact lvc.no _ (by simp)
          · cases q : g'.get? b with
            | none => rfl
            | some o => rw [lvc.st _ _ q] at I3c; cases I3c⟩
        have inC : ∀ p, p ≠ L → (∃ o, ha.get? p = some o) → p ≠ I₃ := fun p p1 ⟨o, q⟩ e => by
          rw [← e, (sbc.2 _ p1).trans (stb _ _ q)] at I3c; cases I3c
        have I1I3 : I₁ ≠ I₃ := inC I₁ LI1.symm gI1a
        have I2I3 : I₂ ≠ I₃ := inC I₂ I2L gI2a
        have sb0c : Sb [L, ll] h'' hc' := ((Sb.ofSame sba (.head _)).tr (.ofSt stb)).tr (.ofSame sbc (.head _))
        have I30 : h''.get? I₃ = none := sb0c.none I3c (by simp [I3L, I3ll])
        refine forW (s := { s with heap := hd, toks := _ }) (Walks.list (A := A.deeper _) hh I₃ tl tlI3 tvs.toArray)
          (fun j h' => ∃ m zs g3, h'.Ns L m ∧ m (Str.ofString "words") = some (.ref wl) ∧ m (Str.ofString "longer") = some (.ref ll) ∧ m (Str.ofString "digit") = some (.int k tk') ∧ PlainL h' ll zs.toArray ∧ Lv [L, ll, I₁, I₂, I₃] g3 h' ∧ St g' g3 ∧ Wds g3 zs (stepTo k ws ++ (tws.take j).map ((k : Int) :: ·))) [L, ll] ?fp3 ⟨hI3, htlc.at fun o e => std _ o e⟩ ?j3 ?hJ3 ?step3 ?fin3
        case fp3 =>
          intro b hb'
          simp only [List.mem_cons, List.not_mem_nil, or_false] at hb' ⊢
          rcases hb' with rfl | rfl
          · simp [I3L, I3ll]
          · simp [tlL, tlll]
        case j3 =>
          refine ⟨_, ys, g', Ns_st nsc std, m1, m2, rfl, let ⟨o, n, e, q⟩ := plc; ⟨o, n, std _ _ e, q⟩, lvd, St.refl _, ?_⟩
          simpa using wd'
        case hJ3 =>
          rintro j h h' ⟨m, zs, g3, ns, n1, n2, n3, pl, lv, r⟩ sb
          exact ⟨m, zs, g3, ns.at' fun o e => sb _ o (by simpa using I3L.symm) e, n1, n2, n3, let ⟨o, n, e, q⟩ := pl; ⟨o, n, sb _ _ (by simpa using I3ll.symm) e, q⟩, lv.sb (sb.mono (by simp)), r⟩
        case step3 =>
          rintro j v h3 tk3 hj hv ⟨m3, zs, g3, ns3, n1, n2, n3, pl3, lv3, sg3, wd3⟩ sbj ⟨hI3j, -⟩
          have hj' : j < tws.length := by rw [← wdt.len]; simpa using hj
          obtain ⟨l, yl, ev, hyl, hyi⟩ := wdt.item j _ (List.getElem?_eq_getElem hj')
          have ev' : v = .ref l := by
            have : tvs[j]? = some v := by simpa using hv
            rw [this] at ev; exact Option.some.inj ev
          subst ev'
          have hzl : zs.length ≤ 100000 := by
            have e := wd3.len
            rw [List.length_append, stepTo_len, List.length_map, List.length_take] at e
            have h2 := wsz (k + 1) (by omega)
            rw [Nat.succ_mul] at h2
            omega
          have hyl9 : yl.length ≤ 9 := by rw [hyi.length]; exact htwo _ (List.getElem_mem hj')
          refine wpAny_assign_Name (wpAny_storeName_local (by kernel_rfl) ns3 (fun h4 ns4 sb4 => ?_) rfl)
          have lv4 := lv3.same sb4 (.head _)
          have pl4 : PlainL h4 ll zs.toArray := let ⟨o, n, e, q⟩ := pl3; ⟨o, n, (sb4.2 _ llL).trans e, q⟩
          have n2' : (fun y => if y = Str.ofString "tail" then some (Value.ref l) else m3 y) (Str.ofString "longer") = some (.ref ll) := n2
          have n3' : (fun y => if y = Str.ofString "tail" then some (Value.ref l) else m3 y) (Str.ofString "digit") = some (.int k tk') := n3
          refine wpAny_execs_cons (wpAny_Expr (wpAny_Call_append rfl rfl rfl rfl (nameL ns4 n2' rfl (by kernel_rfl) ⟨ll, zs.toArray, rfl, pl4, ?_⟩)))
          refine wpAny_BinOp (List_ (args_cons (nameL ns4 n3' rfl (by kernel_rfl) (args_nil (nl (s := { s with heap := h4, toks := _ }) fun h5 D5 st5 g5 m5 => ?_)))))
          refine nameL (Ns_st ns4 st5) (v := .ref l) rfl rfl (by kernel_rfl) ?_
          refine addL (s := { s with heap := h5, toks := _ }) ⟨_, g5, rfl, _, rfl⟩ (hyl.at fun o e => st5 _ o (lv4.st _ o (sg3 _ _ (sg' _ _ e)))) (fun h6 D6 st6 g6 m6 => ?_) (by rw [sizeLine_eq]; simp; omega)
          have h56 := st5.tr st6
          have pl6 : PlainL h6 ll zs.toArray := let ⟨o, n, e, q⟩ := pl4; ⟨o, n, h56 _ _ e, q⟩
          have D65 : h5.get? D6 = none := fresh_none m6
          have D6ll : D6 ≠ ll := fun e => by obtain ⟨o, _, q, _⟩ := pl4; rw [e, st5 _ _ q] at D65; cases D65
          have D64 : h4.get? D6 = none := by
            cases q : h4.get? D6 with
            | none => rfl
            | some o => rw [st5 _ _ q] at D65; cases D65
          refine list_append_plainL (s := { s with heap := h6, toks := _ }) pl6 (fun h7 pl7 sb7 => ?_) (by rw [sizeLine_eq]; simp; omega)
          have lv6 : Lv [L, ll, I₁, I₂, I₃] (hideAll h6 [L, ll, I₁, I₂, I₃]) h6 := Lv.now _ _
          have lv46 : Lv [L, ll, I₁, I₂, I₃] g3 h6 := ⟨lv4.st.tr h56, lv4.no⟩
          have sbw : Sb [L, ll] h3 h7 := ((Sb.ofSame sb4 (.head _)).tr (.ofSt h56)).tr (.ofSame sb7 (by simp))
          have in4 : ∀ p, p ≠ L → p ≠ ll → p ≠ I₃ → (∃ o, ha.get? p = some o) → D6 ≠ p := fun p p1 p2 p3 ⟨o, q⟩ e => by
            have q3 := sbj _ _ (by simp [p1, p2, p3]) (std _ _ ((sbc.2 _ p1).trans (stb _ _ q)))
            rw [e, (sb4.2 _ p1).trans q3] at D64; cases D64
          have D6W : D6 ∉ [L, ll, I₁, I₂, I₃] := fun hm => by
            simp only [List.mem_cons, List.not_mem_nil, or_false] at hm
            rcases hm with e | e | e | e | e
            · obtain ⟨o, _, _, q, _⟩ := ns4; rw [e] at D64; rw [q] at D64; cases D64
            · exact D6ll e
            · exact in4 I₁ LI1.symm llI1.symm I1I3 gI1a e
            · exact in4 I₂ I2L I2ll I2I3 gI2a e
            · obtain ⟨o, q, _⟩ := hI3j
              rw [e, (sb4.2 _ I3L).trans q] at D64; cases D64
          refine wpAny_execs_nil ⟨h7, _, rfl, ⟨_, zs ++ [.ref D6], hideAll h6 [L, ll, I₁, I₂, I₃], (Ns_st ns4 h56).sameBut sb7 llL.symm, n1, n2, n3, by simpa using pl7, lv6.same sb7 (by simp), sg3.tr lv46.up, ?_⟩, sbw⟩
          have e : (tws.take (j + 1)).map ((k : Int) :: ·) = (tws.take j).map ((k : Int) :: ·) ++ [(k : Int) :: tws[j]] := by
            rw [List.take_add_one, List.getElem?_eq_getElem hj', List.map_append]; rfl
          rw [e, ← List.append_assoc]
          exact (wd3.st lv46.up).snoc ⟨_, hidden g6 D6W, rfl, _, rfl⟩ (.cons _ _ hyi)
        case fin3 =>
          rintro h3 tk3 ⟨m3, zs, g3, ns3, n1, n2, n3, pl3, lv3, sg3, wd3⟩ sb3
          refine wpAny_execs_nil ⟨h3, _, rfl, ⟨m3, zs, g3, ns3, n1, n2, pl3, lv3.less (by simp), sg'.tr sg3, ?_⟩, ?_⟩
          · rw [hstep]
            have e : tws.take tvs.toArray.size = tws := List.take_of_length_le (by rw [List.size_toArray, wdt.len]; exact Nat.le_refl _)
            rw [e] at wd3
            exact wd3
          · refine Sb.chain (sb0c.tr (.ofSt std)) sb3 ?_
            intro p hp
            simp only [List.mem_append, List.mem_cons, List.not_mem_nil, or_false] at hp ⊢
            rcases hp with rfl | rfl | rfl
            · exact .inr I30
            · exact .inl (.inl rfl)
            · exact .inl (.inr rfl)
    case fin2 =>
      rintro h' tk ⟨m, ys, g', ns', m1, m2, pl, lv', sg', wd'⟩ sbs
      refine wpAny_execs_cons (wpAny_Assign_Name (nameL ns' m2 rfl (by kernel_rfl) ?_))
      refine wpAny_storeName_local (by kernel_rfl) ns' (fun hA nsA sbA => ?_) rfl
      have lvA : Lv [L, ll, I₁, I₂] g' hA := lv'.same sbA (.head _)
      refine wpAny_execs_nil ⟨hA, _, rfl, ⟨_, ll, ys, hideAll hA [L, I₁], nsA, rfl, Lv.now _ _, ?_, ?_, ?_⟩, ?_⟩
      · exact (sg.tr sg').tr (lvA.less (by simp)).up
      · obtain ⟨o, n, e, q1, q2, q3⟩ := pl
        exact ⟨o, hidden ((sbA.2 _ llL).trans e) (by simp [llL, llI1]), q1, n, q3⟩
      · exact wd'.st (lvA.less (by simp)).up
      · refine Sb.tr (sb09.chain sbs ?_) (.ofSame sbA (.head _))
        intro p hp
        simp only [List.mem_append, List.mem_cons, List.not_mem_nil, or_false] at hp
        rcases hp with rfl | rfl | rfl
        · exact .inr I20
        · exact .inl (.head _)
        · exact .inr ll0
  case fin =>
    rintro h' tk ⟨m, wl, xs, g, ns, mw, lv, sg, hwl, wds⟩ -
    refine wpAny_execs_cons (wpAny_Return_some (nameL ns mw rfl (by kernel_rfl) ?_))
    refine h _ _ wl xs (sg.tr lv.st) (hwl.at fun o e => lv.st _ o e) ?_
    have e : cs.length - vs.toArray.size = 0 := by simp [hvl]
    rw [e, List.drop_zero] at wds
    exact wds.st lv.st
end
end Mine
end
section
open PySem PySem.W PySem.Calls PyProof.Rows PySem.Spec
set_option maxRecDepth 100000
set_option maxHeartbeats 4000000
namespace Mine
section
variable {prog : Program} {w : World} {A : Around} {E : Value → Shared → Prop} {s : Shared} {env : Env}
abbrev testsOf (ifs : List Expr) (cenv : Env) : Sem Bool := forIn ifs true fun c r => if r = true then do let ok ← isTrue c cenv (eval c cenv); pure (ForInStep.yield ok) else pure (ForInStep.yield r)
/-- one turn of a comprehension: the test, then the element; Fact tells of the items so far -/
def CompTurn (prog : Program) (w : World) (A : Around) (env : Env) (scope : Scope) (cl : List (Str × Addr)) (x : Str) (ifs : List Expr) (elt : Expr) (n : Nat) (P : Nat → Value → Prop) (Fact : Nat → List Value → Heap → Prop) (base : Heap) (s : Shared) : Prop :=
  ∀ C W i v ys g h m tk, i < n → P i v → h.Ns C m → m x = some v → Lv W g h → (∀ b ∈ W, ∃ o, h.get? b = some o) → St base g → Fact i ys g →
    wpAny (model prog w) A (testsOf ifs (compEnvC scope cl C env)) (fun ok s₃ => ∃ h₃ tk₃, s₃ = { s with heap := h₃, toks := tk₃ } ∧ St h h₃ ∧
      if ok = true then wpAny (model prog w) A (eval elt (compEnvC scope cl C env)) (fun y s₄ => ∃ h₄ tk₄, s₄ = { s with heap := h₄, toks := tk₄ } ∧ St h₃ h₄ ∧ Fact (i + 1) (ys ++ [y]) (hideAll h₄ W)) (fun _ _ => False) s₃
      else Fact (i + 1) ys (hideAll h₃ W)) (fun _ _ => False) { s with heap := h, toks := tk }

theorem compBlock {elt iter : Expr} {x : Str} {px : Pos} {ifs : List Expr} {scope : Scope} {cl : List (Str × Addr)} {pos : Pos} {I : Addr} {fp wr : List Addr} {n : Nat} {P : Nat → Value → Prop} {Stt : Nat → Heap → Prop} {RR : Value → Addr → Result → Shared → Prop} {base : Heap}
    (W : Walks prog w A I fp wr n P Stt) (Fact : Nat → List Value → Heap → Prop) (hsz : n ≤ sizeLine) (hF : ∀ i ys g g', St g g' → Fact i ys g → Fact i ys g') (hlen : ∀ i ys g, Fact i ys g → ys.length ≤ i)
    (hcell : ∀ y ∈ scope.names, y.2 ≠ .cell) (hkind : scope.kind = .function) (hx : scope.names.lookup x = some .local) (hst : Stt 0 s.heap) (hfp : ∀ b ∈ fp, b < s.heap.objs.size) (hwr : ∀ b ∈ wr, ∃ o, s.heap.get? b = some o) (hlive : ∀ i h b, Stt i h → b ∈ wr → ∃ o, h.get? b = some o) (lv : Lv wr base s.heap) (f0 : Fact 0 [] base)
    (turn : CompTurn prog w A env scope cl x ifs elt n P Fact base s)
    (hRR : ∀ D C h' tk ys m', s.heap.get? D = none → s.heap.get? C = none → D ≠ C → h'.Ns C m' → PlainL h' D ys.toArray → (∃ g, Lv (C :: D :: wr) g h' ∧ St base g ∧ Fact n ys g) → Sb wr s.heap h' → RR (.ref D) C (.ok .next) { s with heap := h', toks := tk }) :
    wpAny (model prog w) A (newList []) (fun acc s₃ => wpAny (model prog w) A (newFunctionEnv scope env.globals cl [] env.qual none .none (some env)) (fun cenv s₄ =>
      codeAny (model prog w) A (.compStart (.ListComp elt [⟨.Name x px, iter, ifs, 0⟩] scope pos) 0 (.ref I) acc { cenv with scope := relabel scope env }) (RR acc cenv.locals) s₄) E s₃) E s := by
  refine wpAny_newObj_type (wpAny_newFunctionEnv hcell (by intro y hy; simp at hy) (fun h₁ hns₁ hsb₁ => ?_) hkind)
  dsimp only at hns₁ hsb₁ ⊢
  generalize hH2 : s.heap.push { cls := .type "list", dict := none, data := .seq ([] : List Value).toArray } = H2 at hns₁ hsb₁ ⊢
  have hC : H2.objs.size = s.heap.objs.size + 1 := by rw [← hH2, Heap.size_push]
  have hDC : s.heap.objs.size ≠ H2.objs.size := by rw [hC]; exact Nat.ne_of_lt (Nat.lt_succ_self _)
  have below : ∀ b, b < s.heap.objs.size → b ≠ H2.objs.size ∧ b ≠ s.heap.objs.size := fun b hb => ⟨by rw [hC]; exact Nat.ne_of_lt (Nat.lt_succ_of_lt hb), Nat.ne_of_lt hb⟩
  have hDf : s.heap.objs.size ∉ fp := fun hm => Nat.lt_irrefl _ (hfp _ hm)
  have hCf : H2.objs.size ∉ fp := fun hm => by have := hfp _ hm; rw [hC] at this; exact Nat.lt_irrefl _ (Nat.lt_of_succ_lt this)
  have old : St s.heap h₁ := fun b o e => hsb₁.extBut b o (below b (Heap.lt_size e)).1 (Heap.get?_push_of_some _ (hH2 ▸ Heap.get?_push_of_some _ e))
  have hacc : PlainL h₁ s.heap.objs.size #[] := ⟨_, _, hsb₁.extBut _ _ hDC (Heap.get?_push_of_some _ (hH2 ▸ Heap.get?_push_size _ rfl)), rfl, rfl, rfl⟩
  have hst₁ : Stt 0 h₁ := W.frame _ _ _ hst fun b _ o e => old b o e
  have fD : s.heap.get? s.heap.objs.size = none := fresh_none (Nat.le_refl _)
  have fC : s.heap.get? H2.objs.size = none := fresh_none (by rw [hC]; exact Nat.le_succ _)
  generalize s.heap.objs.size = D at hDC below hDf hacc fD
  generalize H2.objs.size = C at hDC below hCf hns₁ fC
  have loop : ∀ s₃ : Shared, s₃ = { s with heap := h₁, toks := s.toks + ([] : List (Str × Value)).length } →
      codeAny (model prog w) A (.compLoop (.ListComp elt [⟨.Name x px, iter, ifs, 0⟩] scope pos) 0 (.ref I) (.ref D) (compEnvC scope cl C env)) (RR (.ref D) C) s₃ := by
    rintro s₃ rfl
    have hkx : (compEnvC scope cl C env).kindOf x = some .local := lookup_relabel_local hx
    have hkp : ((compEnvC scope cl C env).scope.kind == .class || ((compEnvC scope cl C env).scope.kind == .module && (compEnvC scope cl C env).locals != (compEnvC scope cl C env).globals)) = false := by simp [compEnvC, relabel, hkind]
    have hCw : C ∉ wr := fun m => hCf (W.sub _ m)
    have hDw : D ∉ wr := fun m => hDf (W.sub _ m)
    have base0 : ∀ b ∈ C :: D :: wr, base.get? b = none := by
      intro b hb
      simp only [List.mem_cons] at hb
      rcases hb with rfl | rfl | hb
      · cases q : base.get? b with
        | none => rfl
        | some o => rw [lv.st _ _ q] at fC; cases fC
      · cases q : base.get? b with
        | none => rfl
        | some o => rw [lv.st _ _ q] at fD; cases fD
      · exact lv.no b hb
    refine codeAny_compLoop_tests (fun k s' => ∃ h' tk m' ys g i, s' = { s with heap := h', toks := tk } ∧ Stt i h' ∧ PlainL h' D (List.toArray ys) ∧ h'.Ns C m' ∧ Lv (C :: D :: wr) g h' ∧ St base g ∧ Fact i ys g ∧ Sb wr s.heap h' ∧ i ≤ n ∧ k = n + 1 - i) ?_ (n + 1)
      ⟨h₁, _, _, [], base, 0, rfl, hst₁, hacc, hns₁, ⟨fun b o e => old _ _ (lv.st _ _ e), base0⟩, St.refl _, f0, .ofSt old, Nat.zero_le _, rfl⟩
    rintro k s' ⟨h', tk, m', ys, g, i, rfl, hst', hacc', hn', lv', sg, hf, sb, hi, rfl⟩
    by_cases hlt : i < n
    · refine W.item i _ _ _ hlt hst' fun v h₂ tk₂ hPv hst₂ hk₂ => ?_
      refine wpAny_assign_Name (wpAny_storeName_local hkx (hn'.at' fun o e => hk₂ _ o hCw e) (fun h₃ hn₃ hs₃ => ?_) hkp)
      have sbw : Sb (C :: D :: wr) h' h₃ := Sb.tr (fun b o nb e => hk₂ b o (fun m => nb (by simp [m])) e) (.ofSame hs₃ (.head _))
      have lv3 := lv'.sb sbw
      have hst₃ : Stt (i + 1) h₃ := W.frame _ _ _ hst₂ fun b hb o e => hs₃.extBut b o (fun h => hCf (by rw [show b = C from h] at hb; exact hb)) e
      have hacc₃ : PlainL h₃ D ys.toArray := let ⟨o, n, e, q⟩ := hacc'; ⟨o, n, hs₃.extBut _ _ hDC (hk₂ _ _ hDw e), q⟩
      have sb3 : Sb wr s.heap h₃ := fun b o nb e => hs₃.extBut b o (fun q => by rw [q] at e; have : s.heap.get? C = some o := e; rw [fC] at this; cases this) (hk₂ b o nb (sb b o nb e))
      have live : ∀ b ∈ C :: D :: wr, ∃ o, h₃.get? b = some o := by
        intro b hb
        simp only [List.mem_cons] at hb
        rcases hb with rfl | rfl | hb
        · obtain ⟨o, _, _, q, _⟩ := hn₃; exact ⟨o, q⟩
        · obtain ⟨o, _, q, _⟩ := hacc₃; exact ⟨o, q⟩
        · exact hlive _ _ _ hst₃ hb
      refine wpAny_mono (turn C (C :: D :: wr) i v ys g h₃ _ _ hlt hPv hn₃ (by simp) lv3 live sg hf) (fun ok s₃ q => ?_) fun _ _ e => e.elim
      obtain ⟨h₄, tk₄, rfl, st₄, q⟩ := q
      have lv4 : Lv (C :: D :: wr) g h₄ := ⟨lv3.st.tr st₄, lv3.no⟩
      have hst₄ : Stt (i + 1) h₄ := W.frame _ _ _ hst₃ fun b _ o e => st₄ b o e
      have hacc₄ : PlainL h₄ D ys.toArray := let ⟨o, n, e, q⟩ := hacc₃; ⟨o, n, st₄ _ _ e, q⟩
      cases ok with
      | false =>
        rw [if_neg Bool.false_ne_true] at q ⊢
        exact ⟨n + 1 - (i + 1), by omega, h₄, tk₄, _, ys, _, i + 1, rfl, hst₄, hacc₄, Ns_st hn₃ st₄, Lv.now _ _, sg.tr lv4.up, q, fun b o nb e => st₄ _ _ (sb3 b o nb e), hlt, rfl⟩
      | true =>
        rw [if_pos rfl] at q ⊢
        refine wpAny_mono q (fun y s₄ q => ?_) fun _ _ e => e.elim
        obtain ⟨h₅, tk₅, rfl, st₅, q⟩ := q
        have lv5 : Lv (C :: D :: wr) g h₅ := ⟨lv4.st.tr st₅, lv4.no⟩
        have hacc₅ : PlainL h₅ D ys.toArray := let ⟨o, n, e, q⟩ := hacc₄; ⟨o, n, st₅ _ _ e, q⟩
        have hyl := hlen _ _ _ hf
        refine list_append_plainL (s := { s with heap := h₅, toks := tk₅ }) hacc₅ (fun h₆ hl₆ hs₆ => ?_) (by rw [List.size_toArray]; omega)
        refine ⟨n + 1 - (i + 1), by omega, h₆, tk₅, _, ys ++ [y], _, i + 1, rfl, ?_, by simpa using hl₆, (Ns_st (Ns_st hn₃ st₄) st₅).sameBut hs₆ (Ne.symm hDC), (Lv.now (C :: D :: wr) h₅).same hs₆ (by simp), sg.tr lv5.up, q, ?_, hlt, rfl⟩
        · exact W.frame _ _ _ hst₄ fun b hb o e => hs₆.extBut b o (fun h => hDf (h ▸ hb)) (st₅ _ _ e)
        · exact fun b o nb e => hs₆.extBut b o (fun q => by rw [q] at e; have : s.heap.get? D = some o := e; rw [fD] at this; cases this) (st₅ _ _ (st₄ _ _ (sb3 b o nb e)))
    · have : i = n := by omega
      subst this
      refine W.done _ _ _ hst' fun h₂ tk₂ hk₂ => ?_
      refine hRR D C h₂ tk₂ ys m' fD fC hDC (hn'.at' fun o e => hk₂ _ o hCw e) (let ⟨o, n, e, q⟩ := hacc'; ⟨o, n, hk₂ _ _ hDw e, q⟩) ⟨g, lv'.sb fun b o nb e => hk₂ b o (fun m => nb (by simp [m])) e, sg, hf⟩ fun b o nb e => hk₂ b o nb (sb b o nb e)
  exact codeAny_compStart_list (loop _ rfl) (W.self 0 _ _ _ hst₁ (loop _ rfl))
end
end Mine
end
section
open PySem PySem.W PySem.Calls PyProof.Rows PySem.Spec
set_option maxRecDepth 100000
set_option maxHeartbeats 4000000
namespace Mine
section
variable {prog : Program} {w : World} {A : Around} {E : Value → Shared → Prop} {s : Shared} {env : Env}
/-- the block of a comprehension whose value is used -/
theorem compQ {elt iter : Expr} {x : Str} {px : Pos} {ifs : List Expr} {scope : Scope} {cl : List (Str × Addr)} {pos : Pos} {I : Addr} {fp wr : List Addr} {n : Nat} {P : Nat → Value → Prop} {Stt : Nat → Heap → Prop} {Q : Value → Shared → Prop} {base : Heap}
    (W : Walks prog w A I fp wr n P Stt) (Fact : Nat → List Value → Heap → Prop) (hsz : n ≤ sizeLine) (hF : ∀ i ys g g', St g g' → Fact i ys g → Fact i ys g') (hlen : ∀ i ys g, Fact i ys g → ys.length ≤ i)
    (hcell : ∀ y ∈ scope.names, y.2 ≠ .cell) (hkind : scope.kind = .function) (hx : scope.names.lookup x = some .local) (hst : Stt 0 s.heap) (hfp : ∀ b ∈ fp, b < s.heap.objs.size) (hwr : ∀ b ∈ wr, ∃ o, s.heap.get? b = some o) (hlive : ∀ i h b, Stt i h → b ∈ wr → ∃ o, h.get? b = some o) (lv : Lv wr base s.heap) (f0 : Fact 0 [] base)
    (turn : CompTurn prog w A env scope cl x ifs elt n P Fact base s)
    (hQ : ∀ D h' tk ys, s.heap.get? D = none → St base h' → Fact n ys h' → h'.IsList D (List.toArray ys) → Sb wr s.heap h' → Q (.ref D) { s with heap := h', toks := tk }) :
    wpAny (model prog w) A (newList []) (fun acc s₃ => wpAny (model prog w) A (newFunctionEnv scope env.globals cl [] env.qual none .none (some env)) (fun cenv s₄ =>
      codeAny (model prog w) A (.compStart (.ListComp elt [⟨.Name x px, iter, ifs, 0⟩] scope pos) 0 (.ref I) acc { cenv with scope := relabel scope env }) (compPost (model prog w) A E none Q acc cenv.locals) s₄) E s₃) E s := by
  refine compBlock (RR := fun acc C => compPost (model prog w) A E none Q acc C) W Fact hsz hF hlen hcell hkind hx hst hfp hwr hlive lv f0 turn ?_
  intro D C h' tk ys m' nD nC hDC hn pl ⟨g, lv', sg, hf⟩ sb
  refine ⟨m', hn, fun h'' hs'' => hQ D h'' tk ys nD (sg.tr (lv'.same hs'' (.head _)).st) (hF _ _ _ _ (lv'.same hs'' (.head _)).st hf) ?_ fun b o nb e => (hs''.2 b fun q => ?_).trans (sb b o nb e)⟩
  · obtain ⟨o, k, e, c, _, d⟩ := pl
    exact ⟨o, (hs''.2 _ hDC).trans e, c, k, d⟩
  · rw [q, nC] at e; cases e

/-- a comprehension over a list -/
theorem compList {elt iter : Expr} {x : Str} {px : Pos} {ifs : List Expr} {scope : Scope} {cl : List (Str × Addr)} {pos : Pos} {l : Addr} {vs : List Value} {Q : Value → Shared → Prop} (hh : A.handled = none)
    (Fact : Nat → List Value → Heap → Prop) (hsz : vs.length ≤ sizeLine) (hF : ∀ i ys g g', St g g' → Fact i ys g → Fact i ys g') (hlen : ∀ i ys g, Fact i ys g → ys.length ≤ i)
    (hcell : ∀ y ∈ scope.names, y.2 ≠ .cell) (hkind : scope.kind = .function) (hx : scope.names.lookup x = some .local) (hl : s.heap.IsList l vs.toArray) (f0 : Fact 0 [] s.heap)
    (turn : CompTurn prog w A env scope cl x ifs elt vs.length (fun i v => vs[i]? = some v) Fact s.heap s)
    (hQ : ∀ D h' tk ys, s.heap.get? D = none → St s.heap h' → Fact vs.length ys h' → h'.IsList D (List.toArray ys) → Q (.ref D) { s with heap := h', toks := tk }) :
    wpAny (model prog w) A (pyIter (.ref l)) (fun it s₂ => wpAny (model prog w) A (newList []) (fun acc s₃ => wpAny (model prog w) A (newFunctionEnv scope env.globals cl [] env.qual none .none (some env)) (fun cenv s₄ =>
      codeAny (model prog w) A (.compStart (.ListComp elt [⟨.Name x px, iter, ifs, 0⟩] scope pos) 0 it acc { cenv with scope := relabel scope env }) (compPost (model prog w) A E none Q acc cenv.locals) s₄) E s₃) E s₂) E s := by
  refine pyIterL hl fun h' I st hI nI => ?_
  have I0 : s.heap.get? I = none := fresh_none nI
  have lI : l ≠ I := fun e => by obtain ⟨o, q, _⟩ := hl; rw [e, I0] at q; cases q
  have W := Walks.list (prog := prog) (w := w) (A := A) hh I l lI vs.toArray
  obtain ⟨o, gI, r⟩ := hI
  refine compQ (s := { s with heap := h' }) (base := s.heap) W Fact (by simpa using hsz) hF hlen hcell hkind hx ⟨⟨o, gI, r⟩, hl.at fun o e => st _ o e⟩ ?_ (fun b hb => ⟨o, by rw [List.mem_singleton.mp hb]; exact gI⟩) (fun i h b hs hb => let ⟨o, q, _⟩ := hs.1; ⟨o, by rw [List.mem_singleton.mp hb]; exact q⟩) ⟨st, fun b hb => by rw [List.mem_singleton.mp hb]; exact I0⟩ f0 ?_ ?_
  · intro b hb
    simp only [List.mem_cons, List.not_mem_nil, or_false] at hb
    rcases hb with rfl | rfl
    · exact Heap.lt_size gI
    · obtain ⟨o, q, _⟩ := hl; exact Heap.lt_size (st _ _ q)
  · have e : (fun (i : Nat) v => vs.toArray[i]? = some v) = fun i v => vs[i]? = some v := by funext i v; simp
    rw [List.size_toArray, e]
    exact turn
  · intro D h2 tk ys nD sb hf hD _
    refine hQ D h2 tk ys ?_ sb (by simpa using hf) hD
    cases q : s.heap.get? D with
    | none => rfl
    | some o => rw [show h'.get? D = some o from st _ _ q] at nD; cases nD

/-- a comprehension over a range -/
theorem compRange {elt iter : Expr} {x : Str} {px : Pos} {ifs : List Expr} {scope : Scope} {cl : List (Str × Addr)} {pos : Pos} {c : Int} {tc : Tok} {Q : Value → Shared → Prop} (hh : A.handled = none) (h0 : 0 ≤ c) (h1 : c < 2 ^ 20)
    (Fact : Nat → List Value → Heap → Prop) (hF : ∀ i ys g g', St g g' → Fact i ys g → Fact i ys g') (hlen : ∀ i ys g, Fact i ys g → ys.length ≤ i)
    (hcell : ∀ y ∈ scope.names, y.2 ≠ .cell) (hkind : scope.kind = .function) (hx : scope.names.lookup x = some .local) (f0 : Fact 0 [] s.heap)
    (turn : CompTurn prog w A env scope cl x ifs elt c.toNat (fun i v => ∃ t, v = .int i t) Fact s.heap s)
    (hQ : ∀ D h' tk ys, s.heap.get? D = none → St s.heap h' → Fact c.toNat ys h' → h'.IsList D (List.toArray ys) → Q (.ref D) { s with heap := h', toks := tk }) :
    wpAny (model prog w) A (call (.type "range") [.int c tc]) (fun r s' => wpAny (model prog w) A (pyIter r) (fun it s₂ => wpAny (model prog w) A (newList []) (fun acc s₃ => wpAny (model prog w) A (newFunctionEnv scope env.globals cl [] env.qual none .none (some env)) (fun cenv s₄ =>
      codeAny (model prog w) A (.compStart (.ListComp elt [⟨.Name x px, iter, ifs, 0⟩] scope pos) 0 it acc { cenv with scope := relabel scope env }) (compPost (model prog w) A E none Q acc cenv.locals) s₄) E s₃) E s₂) E s') E s := by
  refine rangeL h0 (by omega) fun h' I tk st hI nI => ?_
  have I0 : s.heap.get? I = none := fresh_none nI
  have W := Walks.range (prog := prog) (w := w) (A := A) hh I 0 1 c.toNat
  refine compQ (s := { s with heap := h', toks := tk }) (base := s.heap) W Fact (by rw [sizeLine_eq]; omega) hF hlen hcell hkind hx (by simpa [Int.toNat_of_nonneg h0] using hI) ?_ (fun b hb => List.mem_singleton.mp hb ▸ ⟨_, hI⟩) (fun i h b hs hb => List.mem_singleton.mp hb ▸ ⟨_, hs⟩) ⟨st, fun b hb => by rw [List.mem_singleton.mp hb]; exact I0⟩ f0 ?_ ?_
  · intro b hb
    rw [List.mem_singleton.mp hb]
    exact Heap.lt_size hI
  · have e : (fun (i : Nat) v => ∃ t, v = Value.int (0 + (i : Int) * 1) t) = fun (i : Nat) v => ∃ t, v = Value.int (i : Int) t := by funext i v; simp
    rw [e]
    exact turn
  · intro D h2 tk ys nD sb hf hD _
    refine hQ D h2 tk ys ?_ sb hf hD
    cases q : s.heap.get? D with
    | none => rfl
    | some o => rw [show h'.get? D = some o from st _ _ q] at nD; cases nD

theorem takeE {value up : Expr} {p pos : Pos} {Q : Value → Shared → Prop}
    (h : wpAny (model prog w) A (eval value env) (fun o s₁ => wpAny (model prog w) A (eval up env) (fun u s₂ => ∃ l vs k t, o = .ref l ∧ u = .int k t ∧ 0 ≤ k ∧ s₂.heap.IsList l (List.toArray vs) ∧ vs.length ≤ sizeLine ∧
      ∀ h' D, St s₂.heap h' → h'.IsList D (vs.take k.toNat).toArray → s₂.heap.get? D = none → Q (.ref D) { s₂ with heap := h' }) E s₁) E s) (ht : ∀ o r, letTemporaryGo value o r = pure () := by intro _ _; rfl) :
    wpAny (model prog w) A (eval (.Subscript value (.Slice none (some up) none p) pos) env) Q E s := by
  refine wpAny_Subscript_Slice list_getitem_lookup (wpAny_mono h (fun o s₁ h₁ => wpAny_Slice (wpAny_pure (wpAny_mono h₁ (fun u s₂ h₂ => ?_) fun _ _ e => e))) fun _ _ e => e) ht
  obtain ⟨l, vs, k, t, rfl, rfl, h0, hl, hsz, hq⟩ := h₂
  refine wpAny_pure ⟨Heap.IsList.typeIs (s := { s₂ with heap := _ }) (hl.push _), wpAny_getItem_list_slice (hl.push _) (Heap.IsSliceOf.new ..) .none (.int k t) .none (by simp) ?_ (by simpa using hsz)⟩
  have e : slicePick vs.toArray none (some k) none = (vs.take k.toNat).toArray := by
    rw [show k = (k.toNat : Int) by omega, slicePick_upto']; rfl
  refine hq _ _ (fun _ _ e => Heap.get?_push_of_some _ (Heap.get?_push_of_some _ e)) ⟨_, Heap.get?_push_size _ rfl, rfl, 0, by show Data.seq _ 0 = _; rw [e]⟩ (fresh_none ?_)
  show s₂.heap.objs.size ≤ (s₂.heap.push _).objs.size
  rw [Heap.size_push]; exact Nat.le_succ _
theorem dropE {value lo : Expr} {p pos : Pos} {Q : Value → Shared → Prop}
    (h : wpAny (model prog w) A (eval value env) (fun o s₁ => wpAny (model prog w) A (eval lo env) (fun u s₂ => ∃ l vs k t, o = .ref l ∧ u = .int k t ∧ 0 ≤ k ∧ s₂.heap.IsList l (List.toArray vs) ∧ vs.length ≤ sizeLine ∧
      ∀ h' D, St s₂.heap h' → h'.IsList D (vs.drop k.toNat).toArray → s₂.heap.get? D = none → Q (.ref D) { s₂ with heap := h' }) E s₁) E s) (ht : ∀ o r, letTemporaryGo value o r = pure () := by intro _ _; rfl) :
    wpAny (model prog w) A (eval (.Subscript value (.Slice (some lo) none none p) pos) env) Q E s := by
  refine wpAny_Subscript_Slice list_getitem_lookup (wpAny_mono h (fun o s₁ h₁ => wpAny_Slice (wpAny_mono h₁ (fun u s₂ h₂ => ?_) fun _ _ e => e)) fun _ _ e => e) ht
  obtain ⟨l, vs, k, t, rfl, rfl, h0, hl, hsz, hq⟩ := h₂
  refine wpAny_pure (wpAny_pure ⟨Heap.IsList.typeIs (s := { s₂ with heap := _ }) (hl.push _), wpAny_getItem_list_slice (hl.push _) (Heap.IsSliceOf.new ..) (.int k t) .none .none (by simp) ?_ (by simpa using hsz)⟩)
  have e : slicePick vs.toArray (some k) none none = (vs.drop k.toNat).toArray := by
    rw [show k = (k.toNat : Int) by omega, slicePick_from']; rfl
  refine hq _ _ (fun _ _ e => Heap.get?_push_of_some _ (Heap.get?_push_of_some _ e)) ⟨_, Heap.get?_push_size _ rfl, rfl, 0, by show Data.seq _ 0 = _; rw [e]⟩ (fresh_none ?_)
  show s₂.heap.objs.size ≤ (s₂.heap.push _).objs.size
  rw [Heap.size_push]; exact Nat.le_succ _
end
end Mine
end
section
open PySem PySem.W PySem.Calls PyProof.Rows PySem.Spec
set_option maxRecDepth 100000
set_option maxHeartbeats 4000000
namespace Mine
def markOf (f : Bool) (d : Int) : Int := if f then -d else d
def spotOf (ps : List (Int × Int)) (b l : Int) : Nat := (ps.filter fun p => aheadW p.1 p.2 b l).length
def insP (ps : List (Int × Int)) (b l : Int) : List (Int × Int) := ps.take (spotOf ps b l) ++ [(b, l)] ++ ps.drop (spotOf ps b l)
def laidTo (f : Bool) (ds : List Int) : Nat → List (Int × Int)
  | 0 => []
  | k + 1 => insP (laidTo f ds k) (markOf f (ds.getD k 0)) k
theorem spotOf_le (ps : List (Int × Int)) (b l : Int) : spotOf ps b l ≤ ps.length := List.length_filter_le _ _
theorem insP_len (ps : List (Int × Int)) (b l : Int) : (insP ps b l).length = ps.length + 1 := by
  have := spotOf_le ps b l
  unfold insP
  simp only [List.length_append, List.length_take, List.length_drop, List.length_singleton]
  omega
theorem laidTo_len (f : Bool) (ds : List Int) : ∀ k, (laidTo f ds k).length = k
  | 0 => rfl
  | k + 1 => by rw [laidTo, insP_len, laidTo_len f ds k]
theorem Prs.st {h h' xs ps} (x : Prs h xs ps) (s : St h h') : Prs h' xs ps := ⟨x.len, fun i p e => let ⟨T, ta, tb, a, b⟩ := x.item i p e; ⟨T, ta, tb, a, Heap.IsTuple.at b fun o q => s _ o q⟩⟩
theorem Prs.nil {h : Heap} : Prs h [] [] := ⟨rfl, fun i p e => by simp at e⟩
theorem Prs.take {h xs ps} (x : Prs h xs ps) (k : Nat) : Prs h (xs.take k) (ps.take k) := by
  refine ⟨by simp [x.len], fun i p e => ?_⟩
  rw [List.getElem?_take] at e
  split at e
  · rename_i hlt
    obtain ⟨T, ta, tb, a, b⟩ := x.item i p e
    exact ⟨T, ta, tb, by rw [List.getElem?_take, if_pos hlt]; exact a, b⟩
  · cases e
theorem Prs.drop {h xs ps} (x : Prs h xs ps) (k : Nat) : Prs h (xs.drop k) (ps.drop k) := by
  refine ⟨by simp [x.len], fun i p e => ?_⟩
  rw [List.getElem?_drop] at e
  obtain ⟨T, ta, tb, a, b⟩ := x.item _ p e
  exact ⟨T, ta, tb, by rw [List.getElem?_drop]; exact a, b⟩
theorem Prs.append {h xs ps ys qs} (x : Prs h xs ps) (y : Prs h ys qs) : Prs h (xs ++ ys) (ps ++ qs) := by
  refine ⟨by simp [x.len, y.len], fun i p e => ?_⟩
  rw [List.getElem?_append] at e
  split at e
  · rename_i hlt
    obtain ⟨T, ta, tb, a, b⟩ := x.item _ p e
    exact ⟨T, ta, tb, by rw [List.getElem?_append, if_pos (by rw [x.len]; exact hlt)]; exact a, b⟩
  · rename_i hlt
    obtain ⟨T, ta, tb, a, b⟩ := y.item _ p e
    exact ⟨T, ta, tb, by rw [List.getElem?_append, if_neg (by rw [x.len]; exact hlt), x.len]; exact a, b⟩
theorem Prs.one {h : Heap} {T : Addr} {a b : Int} {ta tb : Tok} (x : IsTup h T #[.int a ta, .int b tb]) : Prs h [.ref T] [(a, b)] := by
  refine ⟨rfl, fun i p e => ?_⟩
  cases i with
  | zero => cases e; exact ⟨T, ta, tb, rfl, x⟩
  | succ i => simp at e

section
variable {prog : Program} {w : World} {A : Around} {E : Value → Shared → Prop} {s : Shared} {mg mb : Str → Option Value}
theorem lawLaid {lp : Addr} {vs : List Value} {ds : List Int} {f : Bool} {Q : Value → Shared → Prop} (G : Gd w mg mb s.heap) (hl : s.heap.IsList lp vs.toArray) (hi : IntsAre vs ds) (hlen : ds.length ≤ 100) (hroom : A.depth + 1 < recursionLimit) (hh : A.handled = none)
    (h : ∀ h' tk D ys, St s.heap h' → h'.IsList D (List.toArray ys) → IntsAre ys ((laidTo f ds ds.length).map (·.2)) → Q (.ref D) { s with heap := h', toks := tk }) : wpAny (model prog w) A (call (.ref 63) [.ref lp, .bool f]) Q E s := by
  have e63 : (hd.heap_39 w.params).lookup 63 = some (objAt w 63) := by kernel_rfl
  have hvl : vs.length = ds.length := hi.length
  refine callCells (args := ⟨[.ref lp, .bool f], []⟩) (binds := [(Str.ofString "places", .ref lp), (Str.ofString "falling", .bool f)]) G.nolim (G.K _ _ e63) rfl (codeRec_of G.K (by kernel_rfl)) (by omega) (BindsTo.of_eq rfl) ?_ (fun L h₁ tk₁ st nL ns cells above => ?_) rfl rfl rfl
  · intro n; exact kindsX rfl n
  have L0 : s.heap.get? L = none := fresh_none nL
  have hc1 : h₁.IsCell (L + 1) none := cells (Str.ofString "mark") (L + 1) (by kernel_rfl)
  have C0 : s.heap.get? (L + 1) = none := fresh_none (Nat.le_succ_of_le nL)
  have LC : L ≠ L + 1 := Nat.ne_of_lt (Nat.lt_succ_self _)
  refine wpAny_execs_cons (wpAny_Assign_Name (List_ (args_nil (nl (s := { s with heap := h₁, toks := _ }) fun h₂ pl₀ st₂ g₂ n₂ => ?_))))
  refine wpAny_storeName_local (by kernel_rfl) (Ns_st ns st₂) (fun h₃ ns₃ sb₃ => ?_) rfl
  have st3 : St s.heap h₃ := st_same (st.tr st₂) sb₃ L0
  refine wpAny_execs_cons (wpAny_For (Call_ (nameB G st3 rfl (by kernel_rfl) rfl rfl (v := .type "range") (by kernel_rfl) (by kernel_rfl) (by decide) ?_)))
  refine PyProof.Rows.callWith_type1 (args_cons (Call_ (nameB G st3 rfl (by kernel_rfl) rfl rfl (v := .builtin "len") (by kernel_rfl) (by kernel_rfl) (by decide) ?_)))
  refine PyProof.Rows.callWith_builtin1 (args_cons (nameL ns₃ (v := .ref lp) rfl rfl (by kernel_rfl) (args_nil ?_)))
  refine len_list (hl.at fun o e => st3 _ o e) (by rw [List.size_toArray, hvl]; omega) (args_nil ?_)
  refine rangeL (s := { s with heap := h₃, toks := _ }) (Int.natCast_nonneg _) (by rw [List.size_toArray, hvl]; omega) fun h₄ I tk₄ st₄ hI nI => ?_
  have I3 : h₃.get? I = none := fresh_none nI
  have IL : I ≠ L := fun e => by subst e; exact absurd ns₃.lt (Nat.not_lt.mpr nI)
  have hc3 : h₃.IsCell (L + 1) none := by
    obtain ⟨o, q, r⟩ := hc1
    exact ⟨o, (sb₃.2 _ LC.symm).trans (st₂ _ _ q), r⟩
  have IC : I ≠ L + 1 := fun e => by obtain ⟨o, q, _⟩ := hc3; rw [← e, I3] at q; cases q
  have I0 : s.heap.get? I = none := by
    cases q : s.heap.get? I with
    | none => rfl
    | some o => rw [st3 _ _ q] at I3; cases I3
  have pL : pl₀ ≠ L := fun e => by subst e; exact absurd ns.lt (Nat.not_lt.mpr n₂)
  have pC : pl₀ ≠ L + 1 := fun e => by
    obtain ⟨o, q, _⟩ := hc1
    rw [← e, fresh_none n₂] at q; cases q
  have gp3 : h₃.get? pl₀ = some (seqObj "list" ([] : List Value).toArray 0) := (sb₃.2 _ pL).trans g₂
  have pI : pl₀ ≠ I := fun e => by rw [← e, gp3] at I3; cases I3
  have lv4 : Lv [L, L + 1, I] s.heap h₄ := ⟨st3.tr st₄, by
    intro b hb
    simp only [List.mem_cons, List.not_mem_nil, or_false] at hb
    rcases hb with rfl | rfl | rfl
    · exact L0
    · exact C0
    · exact I0⟩
  have hsz : vs.toArray.size = ds.length := by simpa using hvl
  rw [hsz] at hI
  refine forW (s := { s with heap := h₄, toks := tk₄ }) (Walks.range (A := A.deeper _) hh I 0 1 ds.length)
    (fun k h' => ∃ m pl xs g, h'.Ns L m ∧ m (Str.ofString "places") = some (.ref lp) ∧ m (Str.ofString "falling") = some (.bool f) ∧ m (Str.ofString "pairs") = some (.ref pl) ∧ (∃ ov, h'.IsCell (L + 1) ov) ∧ Lv [L, L + 1, I] g h' ∧ St s.heap g ∧ g.IsList pl (List.toArray xs) ∧ Prs g xs (laidTo f ds k)) [L, L + 1] ?fp (by simpa using hI) ?j0 ?hJ ?step ?fin
  case fp =>
    intro b hb
    rw [List.mem_singleton.mp hb]
    simp [IL, IC]
  case j0 =>
    refine ⟨_, pl₀, [], hideAll h₄ [L, L + 1, I], Ns_st ns₃ st₄, rfl, rfl, rfl, ⟨none, let ⟨o, q, r⟩ := hc3; ⟨o, st₄ _ _ q, r⟩⟩, Lv.now _ _, lv4.up, ⟨_, hidden (st₄ _ _ gp3) (by simp [pL, pC, pI]), rfl, _, rfl⟩, Prs.nil⟩
  case hJ =>
    rintro k h h' ⟨m, pl, xs, g, ns, m1, m2, m3, ⟨ov, o, q, r⟩, lv, rest⟩ sb
    exact ⟨m, pl, xs, g, ns.at' fun o e => sb _ o (by simpa using IL.symm) e, m1, m2, m3, ⟨ov, o, sb _ _ (by simpa using IC.symm) q, r⟩, lv.sb (sb.mono (by simp)), rest⟩
  case step =>
    rintro k v h' tk hk ⟨tv, rfl⟩ ⟨m, pl, xs, g, ns', m1, m2, m3, ⟨ov, hc⟩, lv, sg, hpl, prs⟩ - hIk
    have ek : (0 + (k : Int) * 1) = (k : Int) := by omega
    rw [ek]
    have hplen : xs.length = k := by rw [prs.len, laidTo_len]
    refine wpAny_assign_Name (wpAny_storeName_local (by kernel_rfl) ns' (fun ha nsa sba => ?_) rfl)
    have lva := lv.same sba (.head _)
    have hca : ha.IsCell (L + 1) ov := let ⟨o, q, r⟩ := hc; ⟨o, (sba.2 _ LC.symm).trans q, r⟩
    have dk : ds[k]? = some ds[k] := List.getElem?_eq_getElem hk
    obtain ⟨td, ev⟩ := IntsAre.get hi k _ dk
    have hla : ha.IsList lp vs.toArray := hl.at fun o e => lva.st _ o (sg _ _ e)
    have ma1 : (fun y => if y = Str.ofString "k" then some (Value.int k tv) else m y) (Str.ofString "places") = some (.ref lp) := m1
    have ma2 : (fun y => if y = Str.ofString "k" then some (Value.int k tv) else m y) (Str.ofString "falling") = some (.bool f) := m2
    have ma3 : (fun y => if y = Str.ofString "k" then some (Value.int k tv) else m y) (Str.ofString "pairs") = some (.ref pl) := m3
    have hmk : markOf f (ds.getD k 0) = if f then -ds[k] else ds[k] := by
      unfold markOf
      rw [List.getD_eq_getElem?_getD, dk]; rfl
    refine wpAny_execs_cons (wpAny_Assign_Name (Tuple_ (args_cons (wpAny_mono (Q := fun v s' => ∃ t tk', v = .int (markOf f (ds.getD k 0)) t ∧ s' = { s with heap := ha, toks := tk' }) ?ev (fun v s' q => ?rest) fun _ _ e => e))))
    case ev =>
      refine wpAny_IfExp (isTrue_plain (nameL nsa ma2 rfl (by kernel_rfl) (wpAny_truthy_bool ?_)))
      rw [hmk]
      cases f with
      | false =>
        rw [if_neg Bool.false_ne_true]
        refine Subscript_ (nameL nsa ma1 rfl (by kernel_rfl) (nameL nsa (v := .int k tv) rfl rfl (by kernel_rfl) (item_list hla (by omega) (by omega) (by simpa using ev) ⟨td, _, rfl, rfl⟩)))
      | true =>
        rw [if_pos rfl]
        refine wpAny_UnaryOp (Subscript_ (nameL nsa ma1 rfl (by kernel_rfl) (nameL nsa (v := .int k tv) rfl rfl (by kernel_rfl) (item_list hla (by omega) (by omega) (by simpa using ev) (PyProof.Rows.neg_int ⟨_, _, rfl, rfl⟩)))))
    case rest =>
      obtain ⟨tm, tk', rfl, rfl⟩ := q
      generalize hmv : markOf f (ds.getD k 0) = mk at hmk
      refine args_cons (nameL nsa (v := .int k tv) rfl rfl (by kernel_rfl) (args_nil (nt (s := { s with heap := ha, toks := _ }) fun hb T stb gT nT => ?_)))
      have hT : IsTup hb T #[.int mk tm, .int k tv] := ⟨_, gT, rfl, _, rfl⟩
      have Ta : ha.get? T = none := fresh_none nT
      have TL : T ≠ L := fun e => absurd (nsa.lt : L < ha.objs.size) (Nat.not_lt.mpr (e ▸ nT))
      have TC : T ≠ L + 1 := fun e => by obtain ⟨o, q, _⟩ := hca; rw [← e, Ta] at q; cases q
      have hcb : hb.IsCell (L + 1) ov := let ⟨o, q, r⟩ := hca; ⟨o, stb _ _ q, r⟩
      refine wpAny_storeName_cell rfl (by kernel_rfl) (c := L + 1) (by kernel_rfl) hcb fun hc' hcc sbc => ?_
      have lvb : Lv [L, L + 1, I] g hb := ⟨lva.st.tr stb, lva.no⟩
      have lvc := lvb.same sbc (by simp)
      have nsc := (Ns_st nsa stb).sameBut sbc LC
      have hTc : IsTup hc' T #[.int mk tm, .int k tv] := Heap.IsTuple.at hT fun o e => (sbc.2 _ TC).trans e
      refine wpAny_execs_cons (wpAny_Assign_Name (Call_ (nameB G (sg.tr lvc.st) rfl (by kernel_rfl) rfl rfl (v := .builtin "len") (by kernel_rfl) (by kernel_rfl) (by decide) ?_)))
      refine PyProof.Rows.callWith_builtin1 (args_cons ?_)
      rw [eval_ListComp]
      refine wpAny_comprehension_free (use := none) (cl := [(Str.ofString "mark", L + 1)]) rfl (by intro _; rfl) ?clos rfl ?names ?it
      case clos => kernel_rfl
      case names =>
        intro y hy _
        simp only [List.mem_cons, List.not_mem_nil, or_false] at hy
        rcases hy with rfl | rfl | rfl | rfl <;> first | rfl | (rename_i q; cases q)
      case it =>
        refine nameL nsc ma3 rfl (by kernel_rfl) ?_
        refine compList (s := { s with heap := hc', toks := _ }) (vs := xs) hh (fun i ys _ => ys.length = (((laidTo f ds k).take i).filter fun p => aheadW p.1 p.2 mk k).length) (by rw [sizeLine_eq]; omega) (fun _ _ _ _ _ q => q) (fun i ys g q => ?_) (kinds_no (by kernel_rfl)) rfl (by kernel_rfl) (hpl.at fun o e => lvc.st _ o e) (by simp) ?turn ?done
        case turn =>
          intro C W i v ys gg hh' mm tkk hi' hv nsC mv lvW live sbase hf
          have hik : i < k := by rw [hplen] at hi'; exact hi'
          obtain ⟨pp, pit⟩ : ∃ pp, (laidTo f ds k)[i]? = some pp := ⟨_, List.getElem?_eq_getElem (by rw [laidTo_len]; exact hik)⟩
          obtain ⟨U, tu1, tu2, eU, hU⟩ := prs.item i _ pit
          have ev' : v = .ref U := by
            have hv' : xs[i]? = some v := hv
            rw [hv'] at eU; exact Option.some.inj eU
          subst ev'
          have base2 : St hc' hh' := sbase.tr lvW.st
          have e58 : (hd.heap_39 w.params).lookup 58 = some (objAt w 58) := by kernel_rfl
          refine wFL (wIP rfl (wpAny_bind (isTrue_plain ?_)))
          refine Call_ (nameG G ((sg.tr lvc.st).tr base2) rfl (by kernel_rfl) rfl (v := .ref 58) (by kernel_rfl) ?_)
          refine callWith_def (o := objAt w 58) rfl (args_cons (nameL nsC mv rfl (by kernel_rfl) (args_cons (wpAny_Name (wpAny_loadName_cell rfl (by kernel_rfl) (c := L + 1) (by kernel_rfl) (let ⟨o, q, r⟩ := hcc; ⟨o, base2 _ _ q, r⟩) (args_nil ⟨base2 _ _ (lvc.st _ _ (sg _ _ (G.K _ _ e58))), ?_⟩))))))
          refine wpAny_call (lawAhead (s := { s with heap := hh', toks := _ }) (G.st ((sg.tr lvc.st).tr base2)) (Heap.IsTuple.at hU fun o e => base2 _ o (lvc.st _ o e)) (Heap.IsTuple.at hTc fun o e => base2 _ o e) hroom fun h5 tk5 r er st5 => ?_)
          refine wpAny_truthy_bool (wpAny_pure ?_)
          refine wFN ⟨h5, _, rfl, st5, ?_⟩
          have etake : (laidTo f ds k).take (i + 1) = (laidTo f ds k).take i ++ [pp] := by
            rw [List.take_add_one, pit]; rfl
          have hr : aheadW pp.1 pp.2 mk k = r := er.symm
          cases r with
          | true =>
            rw [if_pos rfl]
            refine nameL (Ns_st nsC st5) mv rfl (by kernel_rfl) ⟨h5, _, rfl, St.refl _, ?_⟩
            show (ys ++ [Value.ref U]).length = _
            rw [etake, List.filter_append, List.length_append, List.length_append, hf]
            simp [List.filter_cons, hr]
          | false =>
            rw [if_neg Bool.false_ne_true]
            show ys.length = _
            rw [etake, List.filter_append, List.length_append, hf]
            simp [List.filter_cons, hr]
        case done =>
          intro D h5 tk5 ys nD st5 hf hD
          have hys : ys.length = spotOf (laidTo f ds k) mk k := by
            rw [hf]
            unfold spotOf
            rw [List.take_of_length_le (by rw [laidTo_len, hplen]; exact Nat.le_refl _)]
          have hspk : spotOf (laidTo f ds k) mk k ≤ k := by
            have := spotOf_le (laidTo f ds k) mk k
            rw [laidTo_len] at this; exact this
          have lv5 : Lv [L, L + 1, I] g h5 := ⟨lvc.st.tr st5, lvc.no⟩
          refine args_nil (len_list hD (by rw [List.size_toArray]; omega) ?_)
          rw [List.size_toArray, hys]
          refine wpAny_storeName_local (by kernel_rfl) (Ns_st nsc st5) (fun h6 ns6 sb6 => ?_) rfl
          have lv6 := lv5.same sb6 (.head _)
          have hc6 : h6.IsCell (L + 1) (some (.ref T)) := let ⟨o, q, r⟩ := hcc; ⟨o, (sb6.2 _ LC.symm).trans (st5 _ _ q), r⟩
          have hT6 : IsTup h6 T #[.int mk tm, .int k tv] := Heap.IsTuple.at hTc fun o e => (sb6.2 _ TL).trans (st5 _ _ e)
          have hI6 : ∃ o, h6.get? I = some o := ⟨_, (sb6.2 _ IL).trans (st5 _ _ ((sbc.2 _ IC).trans (stb _ _ ((sba.2 _ IL).trans hIk))))⟩
          have TI : T ≠ I := fun e => by rw [e, show ha.get? I = some _ from (sba.2 _ IL).trans hIk] at Ta; cases Ta
          generalize hsp : spotOf (laidTo f ds k) mk k = sp at hspk
          rw [hsp] at ns6
          refine wpAny_execs_cons (wpAny_Assign_Name (wpAny_BinOp (wpAny_BinOp (takeE (nameL ns6 ma3 rfl (by kernel_rfl) (nameL ns6 (v := .int sp _) rfl rfl (by kernel_rfl) ⟨pl, xs, sp, _, rfl, rfl, Int.natCast_nonneg _, hpl.at fun o e => lv6.st _ o e, by rw [sizeLine_eq]; omega, fun h7 D7 st7 hD7 nD7 => ?_⟩))))))
          have hc7 : h7.IsCell (L + 1) (some (.ref T)) := let ⟨o, q, r⟩ := hc6; ⟨o, st7 _ _ q, r⟩
          refine List_ (args_cons (wpAny_Name (wpAny_loadName_cell rfl (by kernel_rfl) (c := L + 1) (by kernel_rfl) hc7 (args_nil (nl (s := { s with heap := h7, toks := _ }) fun h8 D8 st8 g8 n8 => ?_)))))
          refine addL (s := { s with heap := h8, toks := _ }) (vs := xs.take (sp : Int).toNat) (ws := [.ref T]) (hD7.at fun o e => st8 _ o e) ⟨_, g8, rfl, _, rfl⟩ (fun h9 D9 st9 g9 n9 => ?_) (by rw [sizeLine_eq, List.length_take]; simp; omega)
          have st69 := (st7.tr st8).tr st9
          refine dropE (nameL (Ns_st ns6 st69) ma3 rfl (by kernel_rfl) (nameL (Ns_st ns6 st69) (v := .int sp _) rfl rfl (by kernel_rfl) ⟨pl, xs, sp, _, rfl, rfl, Int.natCast_nonneg _, hpl.at fun o e => st69 _ o (lv6.st _ o e), by rw [sizeLine_eq]; omega, fun hA DA stA hDA nDA => ?_⟩))
          refine addL (s := { s with heap := hA, toks := _ }) (vs := xs.take (sp : Int).toNat ++ [.ref T]) (ws := xs.drop (sp : Int).toNat) ⟨_, stA _ _ g9, rfl, _, rfl⟩ hDA (fun hB DB stB gB nB => ?_) (by rw [sizeLine_eq, List.length_append, List.length_take, List.length_drop]; simp; omega)
          have st6B := (st69.tr stA).tr stB
          have DB6 : h6.get? DB = none := by
            cases q : h6.get? DB with
            | none => rfl
            | some o => exact absurd (Heap.lt_size ((st69.tr stA) _ _ q)) (Nat.not_lt.mpr nB)
          refine wpAny_storeName_local (by kernel_rfl) (Ns_st ns6 st6B) (fun hE nsE sbE => ?_) rfl
          have lvB : Lv [L, L + 1, I] g hB := ⟨lv6.st.tr st6B, lv6.no⟩
          have lvE := lvB.same sbE (.head _)
          have DBL : DB ≠ L := fun e => absurd (ns6.lt : L < h6.objs.size) (fun q => by
            obtain ⟨o, _, _, q', _⟩ := (show h6.Ns L _ from ns6)
            rw [e, q'] at DB6; cases DB6)
          have DBW : DB ∉ [L, L + 1, I] := by
            simp only [List.mem_cons, List.not_mem_nil, or_false, not_or]
            refine ⟨DBL, fun e => ?_, fun e => ?_⟩
            · obtain ⟨o, q, _⟩ := hc6; rw [e, q] at DB6; cases DB6
            · obtain ⟨o, q⟩ := hI6; rw [e, q] at DB6; cases DB6
          refine wpAny_execs_nil ⟨hE, _, rfl, ⟨_, DB, xs.take sp ++ [.ref T] ++ xs.drop sp, hideAll hE [L, L + 1, I], nsE, ma1, ma2, rfl, ⟨_, let ⟨o, q, r⟩ := hc6; ⟨o, (sbE.2 _ LC.symm).trans (st6B _ _ q), r⟩⟩, Lv.now _ _, sg.tr lvE.up, ⟨_, hidden ((sbE.2 _ DBL).trans gB) DBW, rfl, _, rfl⟩, ?_⟩, ?_⟩
          · have hTE : IsTup (hideAll hE [L, L + 1, I]) T #[.int mk tm, .int k tv] := by
              obtain ⟨o, q, r⟩ := hT6
              exact ⟨o, hidden ((sbE.2 _ TL).trans (st6B _ _ q)) (by simp [TL, TC, TI]), r⟩
            show Prs _ _ (insP (laidTo f ds k) (markOf f (ds.getD k 0)) k)
            rw [hmv]
            unfold insP
            rw [hsp]
            exact (((prs.st lvE.up).take sp).append (Prs.one hTE)).append ((prs.st lvE.up).drop sp)
          · exact ((((((Sb.ofSame sba (.head _)).tr (.ofSt stb)).tr (.ofSame sbc (by simp))).tr (.ofSt st5)).tr (.ofSame sb6 (.head _))).tr (.ofSt st6B)).tr (.ofSame sbE (.head _))
        · rw [q]
          exact Nat.le_trans (List.length_filter_le _ _) (by rw [List.length_take]; exact Nat.min_le_left _ _)
  case fin =>
    rintro h' tk ⟨m, pl, xs, g, ns', m1, m2, m3, ⟨ov, hc⟩, lv, sg, hpl, prs⟩ -
    have hplen : xs.length = ds.length := by rw [prs.len, laidTo_len]
    refine wpAny_execs_cons (wpAny_Return_some ?_)
    rw [eval_ListComp]
    refine wpAny_comprehension_free (use := none) (cl := []) rfl (by intro _; rfl) ?clos rfl ?names ?it
    case clos => kernel_rfl
    case names =>
      intro y hy _
      simp only [List.mem_cons, List.not_mem_nil, or_false] at hy
      rcases hy with rfl | rfl <;> rfl
    case it =>
      refine nameL ns' m3 rfl (by kernel_rfl) ?_
      refine compList (s := { s with heap := h', toks := _ }) (vs := xs) hh (fun i ys _ => IntsAre ys (((laidTo f ds ds.length).map (fun x : Int × Int => x.2)).take i)) (by rw [sizeLine_eq]; omega) (fun _ _ _ _ _ q => q) (fun i ys g q => ?_) (kinds_no (by kernel_rfl)) rfl (by kernel_rfl) (hpl.at fun o e => lv.st _ o e) (by simpa using IntsAre.nil) ?turn ?done
      case turn =>
        intro C W i v ys gg hh' mm tkk hi' hv nsC mv lvW live sbase hf
        have hik : i < ds.length := by rw [hplen] at hi'; exact hi'
        obtain ⟨pp, pit⟩ : ∃ pp, (laidTo f ds ds.length)[i]? = some pp := ⟨_, List.getElem?_eq_getElem (by rw [laidTo_len]; exact hik)⟩
        obtain ⟨U, tu1, tu2, eU, hU⟩ := prs.item i _ pit
        have ev' : v = .ref U := by
          have hv' : xs[i]? = some v := hv
          rw [hv'] at eU; exact Option.some.inj eU
        subst ev'
        have base2 : St h' hh' := sbase.tr lvW.st
        refine wFN ⟨hh', tkk, rfl, St.refl _, ?_⟩
        rw [if_pos rfl]
        refine Subscript_ (nameL nsC mv rfl (by kernel_rfl) (wpAny_Constant_int (item_tuple (Heap.IsTuple.at hU fun o e => base2 _ o (lv.st _ o e)) (by decide) (by decide) rfl rfl ⟨hh', _, rfl, St.refl _, ?_⟩)))
        show IntsAre (ys ++ [.int pp.2 tu2]) _
        have etake : ((laidTo f ds ds.length).map (fun x : Int × Int => x.2)).take (i + 1) = ((laidTo f ds ds.length).map (fun x : Int × Int => x.2)).take i ++ [pp.2] := by
          rw [List.take_add_one, List.getElem?_map, pit]; rfl
        rw [etake]
        exact ksk_snoc hf
      case done =>
        intro D h5 tk5 ys nD st5 hf hD
        refine h _ _ D ys ((sg.tr lv.st).tr st5) hD ?_
        rw [hplen, List.take_of_length_le (by rw [List.length_map, laidTo_len]; exact Nat.le_refl _)] at hf
        exact hf
      · have := q.length
        rw [List.length_take] at this
        omega
end
end Mine
end
section
open PySem PySem.W PySem.Calls PyProof.Rows PySem.Spec
set_option maxRecDepth 100000
set_option maxHeartbeats 4000000
namespace Mine
abbrev zipO (f0 : Value) (b : Bool) (TI TO : Addr) : Obj := { cls := .type "zip", dict := none, data := .fields #[f0, .bool b, .bool false, .ref TI, .ref TO], slots := #[] }
section
variable {prog : Program} {w : World} {A : Around} {E : Value → Shared → Prop} {s : Shared}
theorem wFA {M : Model} {β γ : Type} {l : List γ} {b : β} {f : γ → β → Sem (ForInStep β)} {Q : β → Shared → Prop} (h : wpAny M A (forIn l b f) Q E s) : wpAny M A (forIn l.toArray b f) Q E s := by rw [List.forIn_toArray]; exact h
theorem ownedNot {z T0 TI TO : Addr} {b : Bool} {o : Obj} {Q : Bool → Shared → Prop} (hz : s.heap.get? z = some (zipO (rawInt T0) b TI TO)) (h0 : s.heap.get? T0 = some o)
    (h : ∀ h', h'.get? z = some (zipO (rawInt T0) true TI TO) → Heap.SameBut z s.heap h' → Q false { s with heap := h' }) : wpAny (model prog w) A (Builtin.SmallTypes.ownedTupleIsFree (.ref z)) Q E s := by
  unfold Builtin.SmallTypes.ownedTupleIsFree
  refine wpAny_bind (wpAny_field hz rfl (x := rawInt T0) rfl ?_)
  show wpAny _ _ (loadIfAlive T0 >>= _) _ _ _
  refine wpAny_bind (kdx_alive h0 ?_)
  refine wpAny_ite_split (fun q => by cases q) (fun _ => ?_)
  refine wpAny_bind (wpAny_field hz rfl (x := .bool b) rfl ?_)
  cases b with
  | true =>
    refine wpAny_ite_split (fun q => absurd q (by decide)) (fun _ => wpAny_pure (h _ hz (Heap.SameBut.refl ..)))
  | false =>
    refine wpAny_ite_split (fun _ => ?_) (fun q => absurd rfl q)
    exact wpAny_bind (wpAny_setField_rec hz (by simp) fun h' hz' hs' => wpAny_pure (h h' hz' hs'))

theorem zipNext2 {z T0 TI TO i1 i2 l1 l2 : Addr} {k1 k2 : Nat} {xs ys : Array Value} {x y : Value} {b : Bool} {o : Obj} {Q : Option Value → Shared → Prop} (D : ZipApart z TI TO i1 i2 l1 l2)
    (hz : s.heap.get? z = some (zipO (rawInt T0) b TI TO)) (h0 : s.heap.get? T0 = some o) (hTI : IsPair s.heap TI (.ref i1) (.ref i2))
    (h1 : s.heap.IsListIter i1 l1 k1) (h2 : s.heap.IsListIter i2 l2 k2) (hl1 : s.heap.IsList l1 xs) (hl2 : s.heap.IsList l2 ys) (hx : xs[k1]? = some x) (hy : ys[k2]? = some y)
    (hQ : ∀ h' T, h'.get? z = some (zipO (rawInt T0) true TI TO) → h'.IsListIter i1 l1 (k1 + 1) → h'.IsListIter i2 l2 (k2 + 1) → IsPair h' T x y → s.heap.get? T = none → Sb [z, i1, i2] s.heap h' → Q (some (.ref T)) { s with heap := h' }) :
    wpAny (model prog w) A (pyNext (.ref z)) Q E s := by
  have hT : s.TypeIs (.ref z) "zip" := ⟨_, hz, rfl⟩
  unfold pyNext
  refine wpAny_bind (wpAny_attempt (wpAny_callSpecial?_slot (name := Str.ofString "__next__") hT F.slot_zip_next
    (wpAny_call_entry F.slot_zip_next hT F.entry_zip_next ?_ (F.args_zip_next_1 _))))
  show wpAny _ _ (field (.ref z) 2 >>= _) _ _ _
  refine wpAny_bind (wpAny_field hz rfl (x := .bool false) rfl ?_)
  show wpAny _ _ (field (.ref z) 3 >>= _) _ _ _
  refine wpAny_bind (wpAny_field hz rfl (x := .ref TI) rfl ?_)
  refine wpAny_bind (wpAny_seqItems hTI rfl ?_)
  show wpAny _ _ (Builtin.SmallTypes.ownedTupleIsFree (.ref z) >>= _) _ _ _
  refine wpAny_bind (ownedNot hz h0 fun h₁ hz₁ hs₁ => ?_)
  refine wpAny_ite_split (fun q => by cases q) (fun _ => ?_)
  refine wpAny_bind (wFA (l := [Value.ref i1, Value.ref i2]) (wFL ?_))
  refine wpAny_bind (wpAny_holding ?_)
  show wpAny _ _ (Builtin.SmallTypes.nextOf (.ref i1) >>= _) _ _ _
  refine wpAny_bind (wpAny_nextOf_list_item (h1.extBut hs₁.extBut D.i1z) (hl1.extBut hs₁.extBut D.l1z) hx fun h₂ h1₂ hs₂ => wpAny_pure (wpAny_pure ?_))
  refine wFL ?_
  refine wpAny_bind (wpAny_holding ?_)
  show wpAny _ _ (Builtin.SmallTypes.nextOf (.ref i2) >>= _) _ _ _
  refine wpAny_bind (wpAny_nextOf_list_item ((h2.extBut hs₁.extBut D.i2z).extBut hs₂.extBut D.i12.symm) ((hl2.extBut hs₁.extBut D.l2z).extBut hs₂.extBut D.l2i1) hy fun h₃ h2₃ hs₃ => wpAny_pure (wpAny_pure ?_))
  refine wFN ?_
  refine wpAny_bind (wpAny_newTuple ?_ (by simp [sizeLine_eq]))
  have sb3 : Sb [z, i1, i2] s.heap h₃ := ((Sb.ofSame hs₁ (by simp)).tr (.ofSame hs₂ (by simp))).tr (.ofSame hs₃ (by simp))
  have hsz : h₃.objs.size = s.heap.objs.size := by rw [hs₃.1, hs₂.1, hs₁.1]
  refine wpAny_pure ⟨_, rfl, wpAny_pure (hQ _ _ (Heap.get?_push_of_some _ ?_) ?_ ?_ (Heap.get?_push_size _ rfl) (fresh_none (Nat.le_of_eq hsz.symm)) (sb3.tr (.ofSt fun _ _ e => Heap.get?_push_of_some _ e)))⟩
  · exact (hs₃.2 _ D.i2z.symm).trans ((hs₂.2 _ D.i1z.symm).trans hz₁)
  · exact (h1₂.extBut hs₃.extBut D.i12).at fun o e => Heap.get?_push_of_some _ e
  · exact h2₃.at fun o e => Heap.get?_push_of_some _ e

theorem zipEnd2 {z T0 TI TO i1 i2 l1 l2 : Addr} {k1 k2 : Nat} {xs ys : Array Value} {b : Bool} {o : Obj} {Q : Option Value → Shared → Prop} (hh : A.handled = none) (D : ZipApart z TI TO i1 i2 l1 l2)
    (hz : s.heap.get? z = some (zipO (rawInt T0) b TI TO)) (h0 : s.heap.get? T0 = some o) (hTI : IsPair s.heap TI (.ref i1) (.ref i2))
    (h1 : s.heap.IsListIter i1 l1 k1) (h2 : s.heap.IsListIter i2 l2 k2) (hl1 : s.heap.IsList l1 xs) (hl2 : s.heap.IsList l2 ys) (hend : xs[k1]? = none ∨ ys[k2]? = none)
    (hQ : ∀ h', Sb [z, i1, i2] s.heap h' → Q none { s with heap := h' }) :
    wpAny (model prog w) A (pyNext (.ref z)) Q E s := by
  have hT : s.TypeIs (.ref z) "zip" := ⟨_, hz, rfl⟩
  unfold pyNext
  refine wpAny_bind (wpAny_attempt (wpAny_callSpecial?_slot (name := Str.ofString "__next__") hT F.slot_zip_next
    (wpAny_call_entry F.slot_zip_next hT F.entry_zip_next ?_ (F.args_zip_next_1 _))))
  show wpAny _ _ (field (.ref z) 2 >>= _) _ _ _
  refine wpAny_bind (wpAny_field hz rfl (x := .bool false) rfl ?_)
  show wpAny _ _ (field (.ref z) 3 >>= _) _ _ _
  refine wpAny_bind (wpAny_field hz rfl (x := .ref TI) rfl ?_)
  refine wpAny_bind (wpAny_seqItems hTI rfl ?_)
  show wpAny _ _ (Builtin.SmallTypes.ownedTupleIsFree (.ref z) >>= _) _ _ _
  refine wpAny_bind (ownedNot hz h0 fun h₁ hz₁ hs₁ => ?_)
  refine wpAny_ite_split (fun q => by cases q) (fun _ => ?_)
  refine wpAny_bind (wFA (l := [Value.ref i1, Value.ref i2]) (wFL ?_))
  refine wpAny_bind (wpAny_holding ?_)
  show wpAny _ _ (Builtin.SmallTypes.nextOf (.ref i1) >>= _) _ _ _
  have stop : ∀ (h' : Heap) (e : Addr), (∃ o, h'.get? e = some o ∧ o.cls = .type "StopIteration") → Sb [z, i1, i2] s.heap h' → wpAny (model prog w) A (do
      let x ← isInstance (.ref e) (.type "StopIteration")
      if x = true then pure none else throw (.ref e)) Q E { s with heap := h' } := by
    rintro h' e ⟨o, ho, hc⟩ sb
    refine wpAny_bind (wpAny_isInstance (T := "StopIteration") (b := true) ⟨o, ho, hc⟩ isSubtype_stop ?_)
    exact wpAny_pure (hQ _ sb)
  cases hx : xs[k1]? with
  | none =>
    refine wpAny_bind (wpAny_nextOf_list_end hh (h1.extBut hs₁.extBut D.i1z) (hl1.extBut hs₁.extBut D.l1z) hx fun h₂ e hs₂ he => ?_)
    exact stop h₂ e he (Sb.tr (.ofSame hs₁ (by simp)) fun b o nb q => hs₂ b o (fun r => nb (by simp [r])) q)
  | some x =>
    have hy : ys[k2]? = none := by rcases hend with h | h; rw [hx] at h; cases h; exact h
    refine wpAny_bind (wpAny_nextOf_list_item (h1.extBut hs₁.extBut D.i1z) (hl1.extBut hs₁.extBut D.l1z) hx fun h₂ h1₂ hs₂ => wpAny_pure (wpAny_pure ?_))
    refine wFL ?_
    refine wpAny_bind (wpAny_holding ?_)
    show wpAny _ _ (Builtin.SmallTypes.nextOf (.ref i2) >>= _) _ _ _
    refine wpAny_bind (wpAny_nextOf_list_end hh ((h2.extBut hs₁.extBut D.i2z).extBut hs₂.extBut D.i12.symm) ((hl2.extBut hs₁.extBut D.l2z).extBut hs₂.extBut D.l2i1) hy fun h₃ e hs₃ he => ?_)
    exact stop h₃ e he (((Sb.ofSame hs₁ (by simp)).tr (.ofSame hs₂ (by simp))).tr fun b o nb q => hs₃ b o (fun r => nb (by simp [r])) q)

theorem zip_no_len : typeLookup (.type "zip") "__len__" = pure none := by rw [typeLookup_type, builtinLookup_eq_fast]; kernel_rfl
theorem zip_no_hint : typeLookup (.type "zip") "__length_hint__" = pure none := by rw [typeLookup_type, builtinLookup_eq_fast]; kernel_rfl
theorem hintZip {I : Addr} {Q : Bool → Shared → Prop} (hT : s.TypeIs (.ref I) "zip") (h : ∀ b, Q b s) : wpAny (model prog w) A (Builtin.List.listLengthHint (.ref I)) Q E s := by
  unfold Builtin.List.listLengthHint
  refine wpAny_bind (wpAny_specialOf hT zip_no_len ?_)
  show wpAny _ _ (specialOf (Value.ref I) (Str.ofString "__length_hint__") >>= _) _ _ _
  refine wpAny_bind (wpAny_specialOf hT zip_no_hint ?_)
  exact wpAny_pure (h _)

/-- the items of a list are the pairs of two lists -/
structure Zipped (h : Heap) (xs ys zs : List Value) (n : Nat) : Prop where
  len : zs.length = n
  item : ∀ i : Nat, i < n → ∃ T x y, zs[i]? = some (Value.ref T) ∧ xs[i]? = some x ∧ ys[i]? = some y ∧ IsPair h T x y
theorem Zipped.st {h h' xs ys zs n} (z : Zipped h xs ys zs n) (s : St h h') : Zipped h' xs ys zs n := ⟨z.len, fun i hi => let ⟨T, x, y, a, b, c, d⟩ := z.item i hi; ⟨T, x, y, a, b, c, s _ _ d⟩⟩
theorem Zipped.snoc {h xs ys zs n T x y} (z : Zipped h xs ys zs n) (hx : xs[n]? = some x) (hy : ys[n]? = some y) (hT : IsPair h T x y) : Zipped h xs ys (zs ++ [.ref T]) (n + 1) := by
  refine ⟨by simp [z.len], fun i hi => ?_⟩
  by_cases q : i = n
  · subst q
    refine ⟨T, x, y, ?_, hx, hy, hT⟩
    rw [List.getElem?_append, if_neg (by rw [z.len]; exact Nat.lt_irrefl _), z.len, Nat.sub_self]; rfl
  · obtain ⟨T', x', y', a, b, c, d⟩ := z.item i (by omega)
    refine ⟨T', x', y', ?_, b, c, d⟩
    rw [List.getElem?_append, if_pos (by rw [z.len]; omega)]; exact a

theorem listZip {l1 l2 : Addr} {xs ys : List Value} {n : Nat} {Q : Value → Shared → Prop} (hh : A.handled = none) (hl1 : s.heap.IsList l1 xs.toArray) (hl2 : s.heap.IsList l2 ys.toArray) (hn : n = min xs.length ys.length) (h1 : 1 ≤ n) (hsz : n ≤ sizeLine)
    (h : ∀ D h' tk zs, St s.heap h' → h'.IsList D (List.toArray zs) → Zipped h' xs ys zs n → s.heap.get? D = none → Q (.ref D) { s with heap := h', toks := tk }) :
    wpAny (model prog w) A (call (.type "zip") [.ref l1, .ref l2]) (fun r s' => wpAny (model prog w) A (call (.type "list") [r]) Q E s') E s := by
  have hlt1 : l1 < s.heap.objs.size := let ⟨_, g, _⟩ := hl1; Heap.lt_size g
  have hlt2 : l2 < s.heap.objs.size := let ⟨_, g, _⟩ := hl2; Heap.lt_size g
  have D := ktu_apart s.heap.objs.size l1 l2 hlt1 hlt2
  refine call_zip_2 hl1 hl2 fun H hz hTI hTO hi1 hi2 hHs hk => ?_
  have nz : s.heap.get? (s.heap.objs.size + 4) = none := fresh_none (Nat.le_add_right _ _)
  have nTO : s.heap.get? (s.heap.objs.size + 3) = none := fresh_none (Nat.le_add_right _ _)
  have ni1 : s.heap.get? s.heap.objs.size = none := fresh_none (Nat.le_refl _)
  have ni2 : s.heap.get? (s.heap.objs.size + 1) = none := fresh_none (Nat.le_add_right _ _)
  have ne5 : ∀ S, s.heap.objs.size + 5 ≤ S → S ≠ s.heap.objs.size + 4 ∧ S ≠ s.heap.objs.size + 3 ∧ S ≠ s.heap.objs.size ∧ S ≠ s.heap.objs.size + 1 := fun S hS =>
    ⟨Nat.ne_of_gt (Nat.lt_of_lt_of_le (Nat.add_lt_add_left (by decide) _) hS), Nat.ne_of_gt (Nat.lt_of_lt_of_le (Nat.add_lt_add_left (by decide) _) hS), Nat.ne_of_gt (Nat.lt_of_lt_of_le (Nat.lt_add_of_pos_right (by decide)) hS), Nat.ne_of_gt (Nat.lt_of_lt_of_le (Nat.add_lt_add_left (by decide) _) hS)⟩
  have f5 : ∀ S, s.heap.objs.size + 5 ≤ S → s.heap.get? S = none := fun S hS => fresh_none (Nat.le_trans (Nat.le_add_right _ _) hS)
  rw [← hHs] at ne5 f5
  generalize s.heap.objs.size + 4 = z at D hz nz ne5
  generalize s.heap.objs.size + 3 = TO at D hz hTO nTO ne5
  generalize s.heap.objs.size + 2 = TI at D hz hTI
  generalize s.heap.objs.size + 1 = i2 at D hTI hi2 ni2 ne5
  generalize s.heap.objs.size = i1 at D hTI hi1 ni1 ne5
  have W0 : ∀ S, s.heap.get? S = none → ∀ b ∈ [z, TO, i1, i2, S], s.heap.get? b = none := by
    intro S hS b hb
    simp only [List.mem_cons, List.not_mem_nil, or_false] at hb
    rcases hb with rfl | rfl | rfl | rfl | rfl
    · exact nz
    · exact nTO
    · exact ni1
    · exact ni2
    · exact hS
  refine listIter (s := { s with heap := H }) (T := "zip") (n := n)
    (fun S i acc h => S ≠ z ∧ S ≠ TO ∧ S ≠ i1 ∧ S ≠ i2 ∧ s.heap.get? S = none ∧ ∃ g, Lv [z, TO, i1, i2, S] g h ∧ St s.heap g ∧ IsPair g TI (.ref i1) (.ref i2) ∧ Zipped g xs ys acc.toList i ∧ h.IsListIter i1 l1 i ∧ h.IsListIter i2 l2 i ∧ (∃ o, h.get? TO = some o) ∧
      ((i = 0 ∧ IsZip h z TI TO .none ∧ ∃ a b, IsPair h TO a b) ∨ ∃ (T0 : Addr) (b : Bool) (o : Obj), h.get? z = some (zipO (rawInt T0) b TI TO) ∧ g.get? T0 = some o)) hsz ?hsz (Heap.lt_size hz) ⟨_, hz, rfl⟩ (by decide +kernel) (by decide +kernel) ?self ?hint ?j0 ?item ?done
  case hsz => rintro S i acc h ⟨-, -, -, -, -, g, -, -, -, zp, -⟩; simpa using zp.len
  case self =>
    intro A s' Q E hT hq
    refine wpAny_pyIter_slot hT F.slot_zip_iter (wpAny_call_entry F.slot_zip_iter hT F.entry_zip_iter ?_ (F.args_zip_iter_1 _))
    show wpAny _ _ (ret (.ref z)) _ _ s'
    exact wpAny_pure ⟨_, rfl, "zip", _, hT, F.slot_zip_next.lookup, hq⟩
  case hint => exact fun A s' Q E hT hq => hintZip hT hq
  case j0 =>
    intro S h hS st
    obtain ⟨s1, s2, s3, s4⟩ := ne5 S hS
    have S0 := f5 S hS
    have lv : Lv [z, TO, i1, i2, S] s.heap h := ⟨fun b o e => st _ _ (hk _ _ e), W0 S S0⟩
    have TIW : TI ∉ [z, TO, i1, i2, S] := by
      simp only [List.mem_cons, List.not_mem_nil, or_false, not_or]
      refine ⟨D.TIz, D.TITO, D.TIi1, D.TIi2, fun e => ?_⟩
      have := Heap.lt_size hTI
      rw [e] at this
      exact absurd this (Nat.not_lt.mpr hS)
    exact ⟨s1, s2, s3, s4, S0, hideAll h [z, TO, i1, i2, S], Lv.now _ _, lv.up, hidden (st _ _ hTI) TIW, ⟨rfl, fun i hi => absurd hi (Nat.not_lt_zero _)⟩, hi1.at fun o e => st _ _ e, hi2.at fun o e => st _ _ e, ⟨_, st _ _ hTO⟩, .inl ⟨rfl, st _ _ hz, _, _, st _ _ hTO⟩⟩
  case item =>
    rintro S i acc h tk c hi ⟨s1, s2, s3, s4, S0, g, lv, sg, gTI, zp, j1, j2, lTO, hz'⟩ gS
    have hix : i < xs.length := by omega
    have hiy : i < ys.length := by omega
    have hx : xs.toArray[i]? = some xs[i] := by simp [hix]
    have hy : ys.toArray[i]? = some ys[i] := by simp [hiy]
    have L1 := hl1.at fun o e => lv.st _ o (sg _ _ e)
    have L2 := hl2.at fun o e => lv.st _ o (sg _ _ e)
    have last : ∀ (h' : Heap) (T : Addr), IsPair h' T xs[i] ys[i] → h.get? T = none → Sb [z, TO, i1, i2] h h' → h'.IsListIter i1 l1 (i + 1) → h'.IsListIter i2 l2 (i + 1) → (∃ (T0 : Addr) (b : Bool), h'.get? z = some (zipO (rawInt T0) b TI TO) ∧ (T0 = T ∨ ∃ o, g.get? T0 = some o)) → (∃ o, h'.get? TO = some o) → (∀ b ∈ [z, TO, i1, i2], ∃ o, h.get? b = some o) →
        ∃ v h'' tk', some (Value.ref T) = some v ∧ ({ s with heap := h', toks := tk } : Shared) = { s with heap := h'', toks := tk' } ∧ h''.get? S = some (seqObj "list" acc c) ∧ ∀ h3, Heap.SameBut S h'' h3 → (S ≠ z ∧ S ≠ TO ∧ S ≠ i1 ∧ S ≠ i2 ∧ s.heap.get? S = none ∧ ∃ g, Lv [z, TO, i1, i2, S] g h3 ∧ St s.heap g ∧ IsPair g TI (.ref i1) (.ref i2) ∧ Zipped g xs ys (acc.push v).toList (i + 1) ∧ h3.IsListIter i1 l1 (i + 1) ∧ h3.IsListIter i2 l2 (i + 1) ∧ (∃ o, h3.get? TO = some o) ∧
          ((i + 1 = 0 ∧ IsZip h3 z TI TO .none ∧ ∃ a b, IsPair h3 TO a b) ∨ ∃ (T0 : Addr) (b : Bool) (o : Obj), h3.get? z = some (zipO (rawInt T0) b TI TO) ∧ g.get? T0 = some o)) := by
      intro h' T gT nT sb k1 k2 ⟨T0, b0, gz, hT0⟩ ⟨oTO, gTO⟩ live
      have SW : S ∉ [z, TO, i1, i2] := by simp [s1, s2, s3, s4]
      have TW : T ∉ [z, TO, i1, i2, S] := fun hm => by
        rw [show [z, TO, i1, i2, S] = [z, TO, i1, i2] ++ [S] from rfl, List.mem_append] at hm
        rcases hm with q | q
        · obtain ⟨o, q'⟩ := live _ q; rw [nT] at q'; cases q'
        · rw [List.mem_singleton.mp q, gS] at nT; cases nT
      refine ⟨.ref T, h', tk, rfl, rfl, sb _ _ SW gS, fun h3 hs3 => ⟨s1, s2, s3, s4, S0, hideAll h' [z, TO, i1, i2, S], (Lv.now _ _).same hs3 (by simp), ?_⟩⟩
      have up : St g (hideAll h' [z, TO, i1, i2, S]) := (lv.sb (sb.mono (by simp))).up
      refine ⟨sg.tr up, up _ _ gTI, ?_, k1.at fun o e => (hs3.2 _ s3.symm).trans e, k2.at fun o e => (hs3.2 _ s4.symm).trans e, ⟨oTO, (hs3.2 _ s2.symm).trans gTO⟩, .inr ⟨T0, b0, ?_⟩⟩
      · rw [Array.toList_push]
        exact (zp.st up).snoc (List.getElem?_eq_getElem hix) (List.getElem?_eq_getElem hiy) (hidden gT TW)
      · rcases hT0 with rfl | ⟨o, q⟩
        · exact ⟨_, (hs3.2 _ s1.symm).trans gz, hidden gT TW⟩
        · exact ⟨o, (hs3.2 _ s1.symm).trans gz, up _ _ q⟩
    have live : ∀ b ∈ [z, TO, i1, i2], ∃ o, h.get? b = some o := by
      intro b hb
      simp only [List.mem_cons, List.not_mem_nil, or_false] at hb
      rcases hb with rfl | rfl | rfl | rfl
      · rcases hz' with ⟨_, q, _⟩ | ⟨_, _, _, q, _⟩
        · exact ⟨_, q⟩
        · exact ⟨_, q⟩
      · exact lTO
      · obtain ⟨o, q, _⟩ := j1; exact ⟨o, q⟩
      · obtain ⟨o, q, _⟩ := j2; exact ⟨o, q⟩
    rcases hz' with ⟨_, z0, a0, b0, t0⟩ | ⟨T0, b0, o0, z0, t0⟩
    · refine wpAny_pyNext_zip_item (s := { s with heap := h, toks := tk }) D z0 (lv.st _ _ gTI) t0 j1 j2 L1 L2 hx hy fun h' a1 a2 a3 a4 a5 a6 hk' => ?_
      refine last h' _ a5 (fresh_none (Nat.le_refl _)) (fun b o nb e => ?_) a3 a4 ⟨_, false, a1, .inl rfl⟩ ⟨_, a2⟩ live
      simp only [List.mem_cons, List.not_mem_nil, or_false, not_or] at nb
      exact hk' b o nb.1 nb.2.1 nb.2.2.1 nb.2.2.2 e
    · refine zipNext2 (s := { s with heap := h, toks := tk }) D z0 (lv.st _ _ t0) (lv.st _ _ gTI) j1 j2 L1 L2 hx hy fun h' T a1 a2 a3 a4 a5 sb => ?_
      exact last h' T a4 a5 (sb.mono (by simp)) a2 a3 ⟨T0, true, a1, .inr ⟨o0, t0⟩⟩ (let ⟨o, q⟩ := lTO; ⟨o, sb _ _ (by simp [D.TOz, D.TOi1, D.TOi2]) q⟩) live
  case done =>
    rintro S acc g' tk c ⟨s1, s2, s3, s4, S0, g, lv, sg, gTI, zp, j1, j2, lTO, hz'⟩ gS
    have L1 := hl1.at fun o e => lv.st _ o (sg _ _ e)
    have L2 := hl2.at fun o e => lv.st _ o (sg _ _ e)
    rcases hz' with ⟨q, _⟩ | ⟨T0, b0, o0, z0, t0⟩
    · omega
    refine zipEnd2 (s := { s with heap := g', toks := tk }) hh D z0 (lv.st _ _ t0) (lv.st _ _ gTI) j1 j2 L1 L2 ?_ fun h' sb => ⟨rfl, ?_⟩
    · rcases Nat.le_total xs.length ys.length with q | q
      · left; simp; omega
      · right; simp; omega
    have st' : St g h' := (lv.sb (sb.mono (by simp))).st
    refine h S h' tk acc.toList (sg.tr st') ⟨_, sb _ _ (by simp [s1, s3, s4]) gS, rfl, c, by simp [seqObj]⟩ (zp.st st') S0
end
end Mine
end
section
open PySem PySem.W PyProof.Rows
set_option maxRecDepth 100000
set_option maxHeartbeats 1000000
namespace Mine
theorem R.asym {d i j} (a : R d i j) (b : R d j i) : False := by unfold R at *; omega
theorem nodup_len : ∀ (n : Nat) (q : List Nat), q.Nodup → (∀ x ∈ q, x < n) → q.length ≤ n
  | 0, q, _, h => by
    cases q with
    | nil => exact Nat.le_refl _
    | cons x r => exact absurd (h x (.head _)) (Nat.not_lt_zero _)
  | n + 1, q, hn, h => by
    by_cases hm : n ∈ q
    · have h1 := nodup_len n (q.erase n) (hn.erase n) fun x hx => by
        rw [hn.mem_erase_iff] at hx
        have := h x hx.2
        have := hx.1
        omega
      rw [List.length_erase_of_mem hm] at h1
      omega
    · have h1 := nodup_len n q hn fun x hx => by
        have := h x hx
        have : x ≠ n := fun e => hm (e ▸ hx)
        omega
      omega
theorem sorted_nodup {d : Nat → Int} {q : List Nat} (h : q.Pairwise (R d)) : q.Nodup := h.imp fun {a b} r e => by subst e; exact r.asym r
theorem Ord.all {n d q} (o : Ord n d q) {i : Nat} (hi : i < n) : i ∈ q := by
  refine Decidable.byContradiction fun hm => ?_
  have h1 := nodup_len n (i :: q) (List.nodup_cons.mpr ⟨hm, sorted_nodup o.up⟩) fun x hx => by
    rcases List.mem_cons.mp hx with rfl | hx
    · exact hi
    · exact o.low x hx
  rw [List.length_cons, o.len] at h1
  omega
theorem sorted_eq {d : Nat → Int} : ∀ {q q' : List Nat}, q.Pairwise (R d) → q'.Pairwise (R d) → (∀ x, x ∈ q ↔ x ∈ q') → q = q'
  | [], [], _, _, _ => rfl
  | [], b :: r, _, _, h => absurd ((h b).mpr (.head _)) (by simp)
  | a :: r, [], _, _, h => absurd ((h a).mp (.head _)) (by simp)
  | a :: r, b :: r', p, p', h => by
    have pa := List.pairwise_cons.mp p
    have pb := List.pairwise_cons.mp p'
    have e : a = b := by
      rcases List.mem_cons.mp ((h a).mp (.head _)) with q | q
      · exact q
      · rcases List.mem_cons.mp ((h b).mpr (.head _)) with q' | q'
        · exact q'.symm
        · exact ((pb.1 a q).asym (pa.1 b q')).elim
    subst e
    rw [sorted_eq pa.2 pb.2 fun x => ?_]
    constructor
    · intro hx
      rcases List.mem_cons.mp ((h x).mp (.tail _ hx)) with q | q
      · subst q; exact ((pa.1 x hx).asym (pa.1 x hx)).elim
      · exact q
    · intro hx
      rcases List.mem_cons.mp ((h x).mpr (.tail _ hx)) with q | q
      · subst q; exact ((pb.1 x hx).asym (pb.1 x hx)).elim
      · exact q
theorem Ord.unique {n d q q'} (o : Ord n d q) (o' : Ord n d q') : q = q' :=
  sorted_eq o.up o'.up fun x => ⟨fun h => o'.all (o.low x h), fun h => o.all (o'.low x h)⟩

/-- in a list that is in order the ones ahead stand first -/
theorem filter_prefix {p : Nat → Bool} : ∀ {q : List Nat}, q.Pairwise (fun a b => p b = true → p a = true) → q.filter p = q.take (q.filter p).length
  | [], _ => rfl
  | a :: r, h => by
    have h' := List.pairwise_cons.mp h
    rw [List.filter_cons]
    split
    · rw [List.length_cons, List.take_succ_cons, ← filter_prefix h'.2]
    · rename_i ha
      have : r.filter p = [] := by
        rw [List.filter_eq_nil_iff]
        intro x hx hp
        exact ha (h'.1 x hx hp)
      rw [this]; rfl
theorem laid_step {dd : Nat → Int} {k : Nat} {q : List Nat} (o : Ord k dd q) : Ord (k + 1) dd (q.take (q.filter fun i => aheadW (dd i) i (dd k) k).length ++ [k] ++ q.drop (q.filter fun i => aheadW (dd i) i (dd k) k).length) ∧ True := by
  have hah : ∀ i, i < k → (aheadW (dd i) i (dd k) k = true ↔ R dd i k) := by
    intro i hi
    unfold aheadW R
    simp only [Bool.or_eq_true, decide_eq_true_eq, Bool.and_eq_true, beq_iff_eq]
    omega
  have hpre := filter_prefix (p := fun i => aheadW (dd i) i (dd k) k) (q := q) (o.up.imp_of_mem fun {a b} ha hb r hp => (hah a (o.low a ha)).mpr (r.tr ((hah b (o.low b hb)).mp hp)))
  generalize hsp : (q.filter fun i => aheadW (dd i) i (dd k) k).length = sp at hpre
  have hle : sp ≤ q.length := by rw [← hsp]; exact List.length_filter_le _ _
  have htake : ∀ x ∈ q.take sp, R dd x k := by
    intro x hx
    rw [← hpre] at hx
    have := List.mem_filter.mp hx
    exact (hah x (o.low x this.1)).mp this.2
  have hsplit : q.take sp ++ q.drop sp = q := List.take_append_drop sp q
  have hdrop : ∀ x ∈ q.drop sp, R dd k x := by
    intro x hx
    have hxq : x ∈ q := List.mem_of_mem_drop hx
    have hxk := o.low x hxq
    have hnot : ¬ aheadW (dd x) x (dd k) k = true := by
      intro hp
      have hxf : x ∈ q.take sp := by rw [← hpre]; exact List.mem_filter.mpr ⟨hxq, hp⟩
      have hpw : (q.take sp ++ q.drop sp).Pairwise (R dd) := by rw [hsplit]; exact o.up
      have := (List.pairwise_append.mp hpw).2.2 x hxf x hx
      exact this.asym this
    rw [hah x hxk] at hnot
    unfold R at hnot ⊢
    omega
  refine ⟨⟨?_, ?_, ?_⟩, trivial⟩
  · have := o.len
    simp only [List.length_append, List.length_take, List.length_drop, List.length_singleton]
    omega
  · intro i hi
    simp only [List.mem_append, List.mem_singleton] at hi
    rcases hi with (hi | hi) | hi
    · exact Nat.lt_succ_of_lt (o.low i (List.mem_of_mem_take hi))
    · omega
    · exact Nat.lt_succ_of_lt (o.low i (List.mem_of_mem_drop hi))
  · rw [List.pairwise_append, List.pairwise_append]
    have hpw : (q.take sp ++ q.drop sp).Pairwise (R dd) := by rw [hsplit]; exact o.up
    have h3 := List.pairwise_append.mp hpw
    refine ⟨⟨h3.1, List.pairwise_singleton _ _, fun a ha b hb => ?_⟩, h3.2.1, fun a ha b hb => ?_⟩
    · rw [List.mem_singleton.mp hb]; exact htake a ha
    · rcases List.mem_append.mp ha with ha | ha
      · exact h3.2.2 a ha b hb
      · rw [List.mem_singleton.mp ha]; exact hdrop b hb
theorem laid_ok (f : Bool) (ds : List Int) : ∀ k, ∃ q, Ord k (turnD f fun i => ds.getD i 0) q ∧ laidTo f ds k = q.map fun i => (turnD f (fun i => ds.getD i 0) i, (i : Int))
  | 0 => ⟨[], ⟨rfl, fun i h => by simp at h, List.Pairwise.nil⟩, rfl⟩
  | k + 1 => by
    obtain ⟨q, o, e⟩ := laid_ok f ds k
    refine ⟨_, (laid_step o).1, ?_⟩
    have hm : markOf f (ds.getD k 0) = turnD f (fun i => ds.getD i 0) k := rfl
    have hs : spotOf (laidTo f ds k) (markOf f (ds.getD k 0)) k = (q.filter fun i => aheadW (turnD f (fun i => ds.getD i 0) i) i (turnD f (fun i => ds.getD i 0) k) k).length := by
      unfold spotOf
      rw [e, List.filter_map, List.length_map, hm]
      rfl
    show insP (laidTo f ds k) (markOf f (ds.getD k 0)) k = _
    unfold insP
    rw [hs, e, hm, List.map_append, List.map_append, List.map_take, List.map_drop]
    rfl
/-- what laid gives is the one order -/
theorem laid_eq {f : Bool} {ds : List Int} {q : List Nat} (o : Ord ds.length (turnD f fun i => ds.getD i 0) q) : (laidTo f ds ds.length).map (·.2) = q.map fun i => ((i : Nat) : Int) := by
  obtain ⟨q', o', e⟩ := laid_ok f ds ds.length
  rw [e, o.unique o', List.map_map]
  rfl
end Mine
end
section
open PySem PySem.W PyProof.Rows
set_option maxRecDepth 100000
set_option maxHeartbeats 1000000
namespace Mine
/-- the counts that the law can draw -/
def shapes : List (List Int) := [[3, 2], [2, 3, 2], [3, 3, 2], [2, 2, 3, 2], [2, 3, 3, 2], [3, 2, 3, 2], [3, 3, 3, 2]]
def placesOk (sz : List Int) : Bool := (mirr sz).map (fun e => foldOn 0 (e.zip sz)) == (List.range (mirr sz).length).map fun i => ((i : Nat) : Int)
def cmpOk (sz : List Int) : Bool := (List.range (mirr sz).length).all fun i => (List.range (mirr sz).length).all fun j => decide (cmpW 0 ((mirr sz).getD i []) ((mirr sz).getD j []) < 0) == decide (i < j)
def lenOk (sz : List Int) : Bool := decide (6 ≤ (mirr sz).length) && decide ((mirr sz).length ≤ 54)
theorem shapes_len : shapes.all lenOk = true := by decide +kernel
theorem shapes_places : shapes.all placesOk = true := by decide +kernel
theorem cmpA : cmpOk [3, 2] = true := by decide +kernel
theorem cmpB : cmpOk [2, 3, 2] = true := by decide +kernel
theorem cmpC : cmpOk [3, 3, 2] = true := by decide +kernel
theorem cmpD : cmpOk [2, 2, 3, 2] = true := by decide +kernel
theorem cmpE : cmpOk [2, 3, 3, 2] = true := by decide +kernel
theorem cmpF : cmpOk [3, 2, 3, 2] = true := by decide +kernel
theorem cmpG : cmpOk [3, 3, 3, 2] = true := by decide +kernel
theorem shapes_cmp : shapes.all cmpOk = true := by simp only [shapes, List.all_cons, List.all_nil, cmpA, cmpB, cmpC, cmpD, cmpE, cmpF, cmpG, Bool.and_self, Bool.and_true]
theorem shape_len {sz : List Int} (h : sz ∈ shapes) : 6 ≤ (mirr sz).length ∧ (mirr sz).length ≤ 54 := by
  have := List.all_eq_true.mp shapes_len sz h
  simpa [lenOk] using this
theorem shape_places {sz : List Int} (h : sz ∈ shapes) : (mirr sz).map (fun e => foldOn 0 (e.zip sz)) = (List.range (mirr sz).length).map fun i => ((i : Nat) : Int) := by
  have := List.all_eq_true.mp shapes_places sz h
  simpa [placesOk] using this
theorem shape_cmp {sz : List Int} (h : sz ∈ shapes) {i j : Nat} (hi : i < (mirr sz).length) (hj : j < (mirr sz).length) : decide (cmpW 0 ((mirr sz).getD i []) ((mirr sz).getD j []) < 0) = decide (i < j) := by
  have h1 := List.all_eq_true.mp shapes_cmp sz h
  have h2 := List.all_eq_true.mp h1 i (List.mem_range.mpr hi)
  have h3 := List.all_eq_true.mp h2 j (List.mem_range.mpr hj)
  exact beq_iff_eq.mp h3
/-- the counts of the law -/
def sizesOf (ns : List Int) : List Int := (ns.take 2).map (fun x => x.fmod 2 + 2) ++ [3, 2]
theorem two (x : Int) : x.fmod 2 + 2 = 2 ∨ x.fmod 2 + 2 = 3 := by
  rw [Int.fmod_eq_emod_of_nonneg _ (by decide)]
  omega
theorem sizes_shape (ns : List Int) : sizesOf ns ∈ shapes := by
  unfold sizesOf
  match ns with
  | [] => simp [shapes]
  | [x] =>
    rcases two x with e | e <;> simp [shapes, e]
  | x :: y :: r =>
    rcases two x with e | e <;> rcases two y with e' | e' <;> simp [shapes, e, e']
def drawnOf (ns : List Int) (n : Nat) : List Int := ((ns.drop 2).take 6).map (fun y => y.fmod n) ++ [4, 1, 4]
theorem drawn_len (ns : List Int) (n : Nat) : 3 ≤ (drawnOf ns n).length ∧ (drawnOf ns n).length ≤ 9 := by
  unfold drawnOf
  simp only [List.length_append, List.length_map, List.length_take, List.length_cons, List.length_nil]
  omega
theorem drawn_low {ns : List Int} {n : Nat} (hn : 6 ≤ n) : ∀ y ∈ drawnOf ns n, 0 ≤ y ∧ y < n := by
  intro y hy
  unfold drawnOf at hy
  rcases List.mem_append.mp hy with hy | hy
  · obtain ⟨x, _, rfl⟩ := List.mem_map.mp hy
    rw [Int.fmod_eq_emod_of_nonneg _ (by omega)]
    exact ⟨Int.emod_nonneg _ (by omega), Int.emod_lt_of_pos _ (by omega)⟩
  · simp only [List.mem_cons, List.not_mem_nil, or_false] at hy
    omega
end Mine
end
section
open PySem PySem.W PySem.Calls PyProof.Rows PySem.Spec
set_option maxRecDepth 100000
set_option maxHeartbeats 4000000
namespace Mine
theorem Tabs.mono {g h h' ps} (T : Tabs g h ps) (s : St h h') : Tabs g h' ps :=
  ⟨⟨T.1.keep.tr s, T.1.nP, s _ _ T.1.tab, T.1.trip, T.1.cd⟩, T.2.imp id fun ⟨cc, t, qs, a1, a2, a3, a4, a5, a6⟩ => ⟨cc, t, qs, a1, a2, a3, a4, s _ _ a5, a6⟩⟩
theorem codeHd_hide {g : Heap} {c P : Addr} {W : List Addr} (x : CodeHd g c P) (hW : ∀ b ∈ W, ∀ o, g.get? b = some o → ∀ vs, o.data ≠ .fields vs) : CodeHd (hideAll g W) c P := by
  obtain ⟨o, vs, a1, a2, a3, a4, a5, a6, a7, e, r1, r2, r3⟩ := x
  exact ⟨o, vs, a1, a2, a3, a4, a5, a6, a7, hidden e (fun m => hW c m o e vs r2), r1, r2, r3⟩
theorem Tabs.hide {g h ps} {W : List Addr} (T : Tabs g h ps) (hW : ∀ b ∈ W, ∀ o, g.get? b = some o → ∀ vs, o.data ≠ .fields vs) : Tabs (hideAll g W) h ps := by
  have no : ∀ {b}, g.get? b = none → (hideAll g W).get? b = none := fun {b} n => by
    cases q : (hideAll g W).get? b with
    | none => rfl
    | some o => rw [of_hideAll _ q] at n; cases n
  refine ⟨⟨fun b o e => T.1.keep _ _ (of_hideAll _ e), no T.1.nP, T.1.tab, T.1.trip, codeHd_hide T.1.cd hW⟩, T.2.imp id fun ⟨cc, t, qs, a1, a2, a3, a4, a5, a6, a7⟩ => ⟨cc, t, qs, a1, codeHd_hide a2 hW, no a3, a4, a5, a6, fun x hx => ?_⟩⟩
  obtain ⟨cv, b1, c, o, vs, t, rfl, e, r1, r2⟩ := a7 x hx
  exact ⟨_, b1, c, o, vs, t, rfl, hidden e (fun m => hW c m o e vs r1), r1, r2⟩
/-- the ghost that holds all of h but the tables -/
theorem Tabs.full {g h ps} (T : Tabs g h ps) : ∃ g', St g g' ∧ Tabs g' h ps ∧ ∀ b o, h.get? b = some o → (∀ qs, o ≠ tabObj qs) → g'.get? b = some o := by
  rcases T.2 with hn | ⟨cc, t, qs, a1, a2, a3, a4, a5, a6, a7⟩
  · have up : St g (hideAll h [16]) := fun b o e => hidden (T.1.keep _ _ e) (fun m => by rw [List.mem_singleton.mp m, T.1.nP] at e; cases e)
    refine ⟨hideAll h [16], up, ⟨⟨fun b o e => of_hideAll _ e, hideAll_none _ (.head _), T.1.tab, T.1.trip, T.1.cd.keeps up⟩, .inl hn⟩, fun b o e n => hidden e fun m => ?_⟩
    rw [List.mem_singleton.mp m, T.1.tab] at e
    exact n _ (Option.some.inj e).symm
  · have up : St g (hideAll h [16, t]) := fun b o e => hidden (T.1.keep _ _ e) (fun m => by
      simp only [List.mem_cons, List.not_mem_nil, or_false] at m
      rcases m with rfl | rfl
      · rw [T.1.nP] at e; cases e
      · rw [a3] at e; cases e)
    refine ⟨hideAll h [16, t], up, ⟨⟨fun b o e => of_hideAll _ e, hideAll_none _ (.head _), T.1.tab, T.1.trip, T.1.cd.keeps up⟩, .inr ⟨cc, t, qs, a1, a2.keeps up, hideAll_none _ (.tail _ (.head _)), a4, a5, a6, fun x hx => (a7 x hx).st up⟩⟩, fun b o e n => hidden e fun m => ?_⟩
    simp only [List.mem_cons, List.not_mem_nil, or_false] at m
    rcases m with rfl | rfl
    · rw [T.1.tab] at e; exact n _ (Option.some.inj e).symm
    · rw [a5] at e; exact n _ (Option.some.inj e).symm
theorem Tabs.same {g h h' ps} {a : Addr} {o : Obj} (T : Tabs g h ps) (sb : Heap.SameBut a h h') (n : g.get? a = none) (e : h.get? a = some o) (ho : ∀ qs, o ≠ tabObj qs) : Tabs g h' ps := by
  have ne : ∀ {p qs}, h.get? p = some (tabObj qs) → p ≠ a := fun {p qs} q r => by rw [r, e] at q; exact ho _ (Option.some.inj q)
  exact ⟨⟨st_same T.1.keep sb n, T.1.nP, (sb.2 _ (ne T.1.tab)).trans T.1.tab, T.1.trip, T.1.cd⟩, T.2.imp id fun ⟨cc, t, qs, a1, a2, a3, a4, a5, a6⟩ => ⟨cc, t, qs, a1, a2, a3, a4, (sb.2 _ (ne a5)).trans a5, a6⟩⟩

abbrev WL (L : Addr) : List Addr := [L, L + 1, L + 2, L + 3]
/-- the state of the law's call: the frame, the three cells, the tables -/
structure LT (L : Addr) (g h : Heap) (ps : Array Value) (m : Str → Option Value) (a b c : Option Value) : Prop where
  T : Tabs g h ps
  no : ∀ p ∈ WL L, g.get? p = none
  ns : h.Ns L m
  ca : h.IsCell (L + 1) a
  cb : h.IsCell (L + 2) b
  cc : h.IsCell (L + 3) c
theorem LT.st {L g h ps m a b c} (x : LT L g h ps m a b c) : St g h := x.T.1.keep
theorem not_tab_dict {o : Obj} {es ep} (h : o.data = .dict es ep) (qs : Array Value) : o ≠ tabObj qs := fun e => by rw [e] at h; cases h
theorem not_tab_cell {o : Obj} {v} (h : o.data = .cell v) (qs : Array Value) : o ≠ tabObj qs := fun e => by rw [e] at h; cases h
theorem LT.obj {L g h ps m a b c} (x : LT L g h ps m a b c) : ∀ p ∈ WL L, ∃ o, h.get? p = some o ∧ (∀ vs, o.data ≠ .fields vs) := by
  intro p hp
  simp only [List.mem_cons, List.not_mem_nil, or_false] at hp
  rcases hp with rfl | rfl | rfl | rfl
  · obtain ⟨o, _, _, q, d, _⟩ := x.ns; exact ⟨o, q, fun vs e => by rw [d] at e; cases e⟩
  · obtain ⟨o, q, d⟩ := x.ca; exact ⟨o, q, fun vs e => by rw [d] at e; cases e⟩
  · obtain ⟨o, q, d⟩ := x.cb; exact ⟨o, q, fun vs e => by rw [d] at e; cases e⟩
  · obtain ⟨o, q, d⟩ := x.cc; exact ⟨o, q, fun vs e => by rw [d] at e; cases e⟩
theorem LT.grow {L g h h' ps m a b c} (x : LT L g h ps m a b c) (s : St h h') : ∃ g', St g g' ∧ LT L g' h' ps m a b c ∧ ∀ p o, h'.get? p = some o → h.get? p = none → (∀ qs, o ≠ tabObj qs) → g'.get? p = some o := by
  obtain ⟨gF, s1, T1, f1⟩ := (x.T.mono s).full
  refine ⟨hideAll gF (WL L), fun p o e => hidden (s1 _ _ e) (fun m => by rw [x.no p m] at e; cases e), ⟨T1.hide fun p hp o e vs => ?_, fun p hp => hideAll_none _ hp, Ns_st x.ns s, x.ca.keeps s, x.cb.keeps s, x.cc.keeps s⟩, fun p o e n ho => hidden (f1 _ _ e ho) fun hm => ?_⟩
  · obtain ⟨o', q, r⟩ := x.obj p hp
    have := T1.1.keep _ _ e
    rw [s _ _ q] at this
    cases this
    exact r vs
  · obtain ⟨o', q, _⟩ := x.obj p hm
    rw [n] at q; cases q
theorem LT.local {L g h h' ps m m' a b c} (x : LT L g h ps m a b c) (ns : h'.Ns L m') (sb : Heap.SameBut L h h') : LT L g h' ps m' a b c := by
  obtain ⟨o, _, _, q, d, _⟩ := x.ns
  have f : ∀ {k v}, k ≠ L → h.IsCell k v → h'.IsCell k v := fun {k v} n ⟨o, q, d⟩ => ⟨o, (sb.2 _ n).trans q, d⟩
  exact ⟨x.T.same sb (x.no _ (.head _)) q (not_tab_dict d), x.no, ns, f (Nat.ne_of_gt (Nat.lt_add_of_pos_right (by decide))) x.ca, f (Nat.ne_of_gt (Nat.lt_add_of_pos_right (by decide))) x.cb, f (Nat.ne_of_gt (Nat.lt_add_of_pos_right (by decide))) x.cc⟩
theorem LT.cellA {L g h h' ps m a b c a'} (x : LT L g h ps m a b c) (ce : h'.IsCell (L + 1) a') (sb : Heap.SameBut (L + 1) h h') : LT L g h' ps m a' b c := by
  obtain ⟨o, q, d⟩ := x.ca
  have f : ∀ {k v}, k ≠ L + 1 → h.IsCell k v → h'.IsCell k v := fun {k v} n ⟨o, q, d⟩ => ⟨o, (sb.2 _ n).trans q, d⟩
  exact ⟨x.T.same sb (x.no _ (.tail _ (.head _))) q (not_tab_cell d), x.no, x.ns.sameBut sb (Nat.ne_of_lt (Nat.lt_succ_self _)), ce, f (Nat.ne_of_gt (Nat.add_lt_add_left (by decide) _)) x.cb, f (Nat.ne_of_gt (Nat.add_lt_add_left (by decide) _)) x.cc⟩
theorem LT.cellB {L g h h' ps m a b c b'} (x : LT L g h ps m a b c) (ce : h'.IsCell (L + 2) b') (sb : Heap.SameBut (L + 2) h h') : LT L g h' ps m a b' c := by
  obtain ⟨o, q, d⟩ := x.cb
  have f : ∀ {k v}, k ≠ L + 2 → h.IsCell k v → h'.IsCell k v := fun {k v} n ⟨o, q, d⟩ => ⟨o, (sb.2 _ n).trans q, d⟩
  exact ⟨x.T.same sb (x.no _ (.tail _ (.tail _ (.head _)))) q (not_tab_cell d), x.no, x.ns.sameBut sb (Nat.ne_of_lt (Nat.lt_add_of_pos_right (by decide))), f (Nat.ne_of_lt (Nat.add_lt_add_left (by decide) _)) x.ca, ce, f (Nat.ne_of_gt (Nat.add_lt_add_left (by decide) _)) x.cc⟩
theorem LT.cellC {L g h h' ps m a b c c'} (x : LT L g h ps m a b c) (ce : h'.IsCell (L + 3) c') (sb : Heap.SameBut (L + 3) h h') : LT L g h' ps m a b c' := by
  obtain ⟨o, q, d⟩ := x.cc
  have f : ∀ {k v}, k ≠ L + 3 → h.IsCell k v → h'.IsCell k v := fun {k v} n ⟨o, q, d⟩ => ⟨o, (sb.2 _ n).trans q, d⟩
  exact ⟨x.T.same sb (x.no _ (.tail _ (.tail _ (.tail _ (.head _))))) q (not_tab_cell d), x.no, x.ns.sameBut sb (Nat.ne_of_lt (Nat.lt_add_of_pos_right (by decide))), f (Nat.ne_of_lt (Nat.add_lt_add_left (by decide) _)) x.ca, f (Nat.ne_of_lt (Nat.add_lt_add_left (by decide) _)) x.cb, ce⟩

section
variable {prog : Program} {w : World} {A : Around} {E : Value → Shared → Prop} {s : Shared} {mg mb : Str → Option Value}
/-- cmp_to_key in the law's call -/
theorem LT.makeK {L g ps m a b c} {cv : Value} {Q : Value → Shared → Prop} (x : LT L g s.heap ps m a b c) (G : Gd w mg mb g) (hroom : A.depth + 10 < recursionLimit)
    (h : ∀ C h' tk ps' g', St g g' → LT L g' h' ps' m a b c → KClass w cv h' C → Q (.ref C) { s with heap := h', toks := tk }) : wpAny (model prog w) A (call (.ref 21) [cv]) Q E s := by
  obtain ⟨gA, s1, T1, f1⟩ := x.T.full
  refine cmpToKey (G.st s1) T1 hroom fun C gF h' tk ps' s2 T2 _ k => ?_
  have s3 : St gA h' := s2.tr T2.1.keep
  have at' : ∀ p ∈ WL L, ∃ o, gF.get? p = some o ∧ (∀ vs, o.data ≠ .fields vs) := fun p hp => by
    obtain ⟨o, q, r⟩ := x.obj p hp
    exact ⟨o, s2 _ _ (f1 _ _ q fun qs e => r _ (by rw [e])), r⟩
  have gL : ∀ {p o}, s.heap.get? p = some o → (∀ qs, o ≠ tabObj qs) → h'.get? p = some o := fun {p o} q n => s3 _ _ (f1 _ _ q n)
  refine h C h' tk ps' (hideAll gF (WL L)) (fun p o e => hidden (s2 _ _ (s1 _ _ e)) fun hm => by rw [x.no p hm] at e; cases e) ⟨T2.hide fun p hp o e => ?_, fun p hp => hideAll_none _ hp, ?_, ?_, ?_, ?_⟩ (k.st T2.1.keep)
  · obtain ⟨o', q, r⟩ := at' p hp
    rw [q] at e; cases e; exact r
  · obtain ⟨o, es, ep, q, d, r⟩ := x.ns; exact ⟨o, es, ep, gL q (not_tab_dict d), d, r⟩
  · obtain ⟨o, q, d⟩ := x.ca; exact ⟨o, gL q (not_tab_cell d), d⟩
  · obtain ⟨o, q, d⟩ := x.cb; exact ⟨o, gL q (not_tab_cell d), d⟩
  · obtain ⟨o, q, d⟩ := x.cc; exact ⟨o, gL q (not_tab_cell d), d⟩
end
end Mine
end
section
open PySem PySem.W PySem.Calls PyProof.Rows PySem.Spec
set_option maxRecDepth 100000
set_option maxHeartbeats 4000000
namespace Mine
noncomputable def lawFn (w : World) : Arguments × List Stmt × Scope := match (objAt w 68).data with
  | .func fd => (match fd.body with
    | .stmts b => (fd.params, b, fd.scope)
    | _ => (fd.params, [], fd.scope))
  | _ => (⟨[], [], none, [], [], none, []⟩, [], ⟨.module, [], false, false, []⟩)
theorem litL {w : World} {P : Arguments → List Stmt → Scope → Prop} {p b sc} (e : lawFn w = (p, b, sc)) (h : P p b sc) : P (lawFn w).1 (lawFn w).2.1 (lawFn w).2.2 := by rw [e]; exact h
/-- the things: pairs of a word and a place -/
structure Ths (h : Heap) (tv : List Value) (n : Nat) : Prop where
  len : tv.length = n
  item : ∀ i, i < n → ∃ T l t, tv[i]? = some (Value.ref T) ∧ IsTup h T #[.ref l, .int (i : Nat) t]
theorem Ths.st {h h' tv n} (x : Ths h tv n) (s : St h h') : Ths h' tv n := ⟨x.len, fun i hi => let ⟨T, l, t, a, b⟩ := x.item i hi; ⟨T, l, t, a, Heap.IsTuple.at b fun o q => s _ o q⟩⟩
section
variable {prog : Program} {w : World} {A : Around} {E : Value → Shared → Prop} {s : Shared} {mg mb : Str → Option Value} {env : Env}
theorem turn_snd {x : Str} {scope : Scope} {p1 p2 p3 : Pos} {kk : Nat} {xs : List Value} {ks : List Int} {base : Heap} (hkf : scope.kind = .function) (hk : scope.names.lookup x = some .local) (hd : (x == ("__debug__" : Str)) = false) (len : xs.length = ks.length)
    (item : ∀ (i : Nat) (k : Int), ks[i]? = some k → ∃ T v t, xs[i]? = some (Value.ref T) ∧ IsTup base T #[v, .int k t]) :
    CompTurn prog w A env scope [] x [] (.Subscript (.Name x p1) (.Constant (.int 1) kk p2) p3) xs.length (fun i v => xs[i]? = some v) (fun i ys _ => IntsAre ys (ks.take i)) base s := by
  intro C W i v ys gg hh' mm tkk hi' hv nsC mv lvW live sbase hf
  have hv' : xs[i]? = some v := hv
  obtain ⟨k, ek⟩ : ∃ k, ks[i]? = some k := ⟨_, List.getElem?_eq_getElem (by rw [← len]; exact hi')⟩
  obtain ⟨T, u, t, eT, hT⟩ := item i k ek
  rw [hv'] at eT
  cases eT
  refine wFN ⟨hh', tkk, rfl, St.refl _, ?_⟩
  rw [if_pos rfl]
  refine Subscript_ (nameL (env := compEnvC scope [] C env) nsC mv hkf (lookup_relabel_local hk) (wpAny_Constant_int (item_tuple (Heap.IsTuple.at hT fun o e => lvW.st _ o (sbase _ _ e)) (by decide) (by decide) rfl rfl ⟨hh', _, rfl, St.refl _, ?_⟩)) hd)
  show IntsAre (ys ++ [.int k t]) _
  rw [List.take_add_one, ek]
  exact ksk_snoc hf
theorem ths_order {h : Heap} {tv : List Value} {n : Nat} {q : List Nat} (x : Ths h tv n) (hq : ∀ i ∈ q, i < n) : ∀ (i : Nat) (k : Int), (q.map fun i => ((i : Nat) : Int))[i]? = some k → ∃ T v t, (q.map fun i => tv.getD i .none)[i]? = some (Value.ref T) ∧ IsTup h T #[v, .int k t] := by
  intro i k e
  rw [List.getElem?_map] at e
  cases hqi : q[i]? with
  | none => rw [hqi] at e; cases e
  | some j =>
    rw [hqi] at e
    cases e
    obtain ⟨T, l, t, a, b⟩ := x.item j (hq j (List.mem_of_getElem? hqi))
    refine ⟨T, .ref l, t, ?_, b⟩
    rw [List.getElem?_map, hqi]
    show some (tv.getD j .none) = _
    rw [List.getD_eq_getElem?_getD, a]; rfl

theorem stageF {g : Heap} {L fa Dd Dt Du : Addr} {cd : Value} {ps : Array Value} {m : Str → Option Value} {a b : Option Value} {dv tv : List Value} {ds : List Int} {q q' : List Nat} {Q : Flow → Shared → Prop} (G : Gd w mg mb g) (lt : LT L g s.heap ps m a b (some (.ref Dd)))
    (mt : m (Str.ofString "told") = some (.ref Dt)) (mu : m (Str.ofString "turned") = some (.ref Du)) (hdl : g.IsList Dd dv.toArray) (hi : IntsAre dv ds) (hth : Ths g tv ds.length) (hlen : ds.length ≤ 9)
    (ht : g.IsList Dt (q.map fun i => tv.getD i .none).toArray) (ot : Ord ds.length (turnD false fun i => ds.getD i 0) q) (hu' : g.IsList Du (q'.map fun i => tv.getD i .none).toArray) (ou : Ord ds.length (turnD true fun i => ds.getD i 0) q')
    (hroom : A.depth + 30 < recursionLimit) (hh : A.handled = none) (hu : A.units + 64 < cLine) (hQ : ∀ g' h' tk ps m' a b c, St g g' → LT L g' h' ps m' a b c → Q (.ret (.bool true)) { s with heap := h', toks := tk }) :
    wpAny (model prog w) A (execs ((lawFn w).2.1.drop 7) (envOfC (Str.ofString "law") (lawFn w).2.2 L fa cd)) Q (fun _ _ => False) s := by
  refine litL (w := w) (P := fun p b sc => wpAny (model prog w) A (execs (b.drop 7) (envOfC (Str.ofString "law") sc L fa cd)) Q (fun _ _ => False) s) rfl ?_
  refine wpAny_execs_cons (wpAny_If (wpAny_isTrue_Compare1 ?_))
  rw [eval_ListComp]
  refine wpAny_comprehension_free (use := none) (cl := []) rfl (by intro _; rfl) ?clos rfl ?names ?it
  case clos => kernel_rfl
  case names =>
    intro y hy _
    simp only [List.mem_cons, List.not_mem_nil, or_false] at hy
    rcases hy with rfl | rfl <;> rfl
  case it =>
    refine nameL lt.ns mt rfl (by kernel_rfl) ?_
    refine compList (vs := q.map fun i => tv.getD i .none) hh (fun i ys _ => IntsAre ys ((q.map fun i => ((i : Nat) : Int)).take i)) (by rw [sizeLine_eq, List.length_map, ot.len]; omega) (fun _ _ _ _ _ q => q) (fun i ys g q => ?_) (kinds_no (by kernel_rfl)) rfl (by kernel_rfl) (ht.at fun o e => lt.st _ o e) (by simpa using IntsAre.nil) (turn_snd rfl (by kernel_rfl) (by decide) (by simp) (ths_order (hth.st lt.st) ot.low)) fun D1 h1 tk1 ys nD1 st1 hf hD1 => ?_
    · have := q.length
      rw [List.length_take] at this
      omega
    rw [List.take_of_length_le (by simp)] at hf
    obtain ⟨g1, sg1, lt1, _⟩ := lt.grow st1
    refine Call_ (nameG G (lt.st.tr st1) rfl (by kernel_rfl) rfl (v := .ref 63) (by kernel_rfl) ?_)
    have e63 : (Mine.hd.heap_39 w.params).lookup 63 = some (objAt w 63) := by kernel_rfl
    refine callWith_def (o := objAt w 63) rfl (args_cons (wpAny_Name (wpAny_loadName_cell rfl (by kernel_rfl) (c := L + 3) (by kernel_rfl) lt1.cc (args_cons (wpAny_Constant_bool (args_nil ⟨(lt.st.tr st1) _ _ (G.K _ _ e63), ?_⟩))))))
    refine lawLaid (s := { s with heap := h1, toks := _ }) (f := false) (G.st (lt.st.tr st1)) (hdl.at fun o e => (lt.st.tr st1) _ o e) hi (by omega) (by omega) hh fun h2 tk2 D2 zs st2 hD2 hz => ?_
    refine ke_ne_ints (hD1.at fun o e => st2 _ o e) hD2 hf hz hu ?_
    rw [laid_eq ot, decide_eq_true rfl]
    refine wpAny_truthy_bool ?_
    rw [if_neg (by decide)]
    refine wpAny_execs_nil ?_
    obtain ⟨g2, sg2, lt2, _⟩ := lt1.grow st2
    have s02 := st1.tr st2
    refine wpAny_execs_cons (wpAny_Return_some (wpAny_Compare1 ?_))
    rw [eval_ListComp]
    refine wpAny_comprehension_free (use := none) (cl := []) rfl (by intro _; rfl) ?clos2 rfl ?names2 ?it2
    case clos2 => kernel_rfl
    case names2 =>
      intro y hy _
      simp only [List.mem_cons, List.not_mem_nil, or_false] at hy
      rcases hy with rfl | rfl <;> rfl
    case it2 =>
      refine nameL lt2.ns mu rfl (by kernel_rfl) ?_
      refine compList (s := { s with heap := h2, toks := _ }) (vs := q'.map fun i => tv.getD i .none) hh (fun i ys _ => IntsAre ys ((q'.map fun i => ((i : Nat) : Int)).take i)) (by rw [sizeLine_eq, List.length_map, ou.len]; omega) (fun _ _ _ _ _ q => q) (fun i ys g q => ?_) (kinds_no (by kernel_rfl)) rfl (by kernel_rfl) (hu'.at fun o e => s02 _ o (lt.st _ o e)) (by simpa using IntsAre.nil) (turn_snd rfl (by kernel_rfl) (by decide) (by simp) (ths_order (hth.st (lt.st.tr s02)) ou.low)) fun D3 h3 tk3 ys3 nD3 st3 hf3 hD3 => ?_
      · have := q.length
        rw [List.length_take] at this
        omega
      rw [List.take_of_length_le (by simp)] at hf3
      obtain ⟨g3, sg3, lt3, _⟩ := lt2.grow st3
      have s03 := s02.tr st3
      refine Call_ (nameG G (lt.st.tr s03) rfl (by kernel_rfl) rfl (v := .ref 63) (by kernel_rfl) ?_)
      refine callWith_def (o := objAt w 63) rfl (args_cons (wpAny_Name (wpAny_loadName_cell rfl (by kernel_rfl) (c := L + 3) (by kernel_rfl) lt3.cc (args_cons (wpAny_Constant_bool (args_nil ⟨(lt.st.tr s03) _ _ (G.K _ _ e63), ?_⟩))))))
      refine lawLaid (s := { s with heap := h3, toks := _ }) (f := true) (G.st (lt.st.tr s03)) (hdl.at fun o e => (lt.st.tr s03) _ o e) hi (by omega) (by omega) hh fun h4 tk4 D4 zs4 st4 hD4 hz4 => ?_
      refine ke_eq_ints (hD3.at fun o e => st4 _ o e) hD4 hf3 hz4 hu ?_
      rw [laid_eq ou, decide_eq_true rfl]
      obtain ⟨g4, sg4, lt4, _⟩ := lt3.grow st4
      exact hQ g4 h4 _ ps m a b _ (((sg1.tr sg2).tr sg3).tr sg4) lt4
end
end Mine
end
section
open PySem PySem.W PySem.Calls PyProof.Rows PySem.Spec
set_option maxRecDepth 100000
set_option maxHeartbeats 4000000
namespace Mine
/-- the things, with their words -/
structure ThW (h : Heap) (tv : List Value) (n : Nat) (W : Nat → List Int) : Prop where
  len : tv.length = n
  item : ∀ i, i < n → ∃ T l t ys, tv[i]? = some (Value.ref T) ∧ IsTup h T #[.ref l, .int (i : Nat) t] ∧ h.IsList l (List.toArray ys) ∧ IntsAre ys (W i)
theorem ThW.st {h h' tv n W} (x : ThW h tv n W) (s : St h h') : ThW h' tv n W := ⟨x.len, fun i hi => let ⟨T, l, t, ys, a, b, c, d⟩ := x.item i hi; ⟨T, l, t, ys, a, Heap.IsTuple.at b fun o q => s _ o q, c.at fun o q => s _ o q, d⟩⟩
theorem ThW.ths {h tv n W} (x : ThW h tv n W) : Ths h tv n := ⟨x.len, fun i hi => let ⟨T, l, t, _, a, b, _⟩ := x.item i hi; ⟨T, l, t, a, b⟩⟩
section
variable {prog : Program} {w : World} {A : Around} {E : Value → Shared → Prop} {s : Shared} {mg mb : Str → Option Value} {env : Env}
theorem ThW.stand {h : Heap} {tv n W C} {pp : Program} {loose : List Str} (x : ThW h tv n W) (G : Gd w mg mb h) (TR : TopRead pp loose mg mb h) (K : KClass w (.ref 51) h C) : Stand w pp loose mg mb h C tv W :=
  ⟨G, TR, K, fun i hi => let ⟨T, l, t, ys, a, b, c, d⟩ := x.item i (by rw [← x.len]; exact hi); ⟨T, _, a, l, ys, b, c, d⟩⟩
theorem CallK_ {func : Expr} {args : List Expr} {kws : List Keyword} {pos : Pos} {Q : Value → Shared → Prop}
    (h : wpAny (model prog w) A (eval func env) (fun f s₁ => wpAny (model prog w) A (callWith pos f [] (backTo pos (starEach args env)) (backToKw pos (keywordEach kws env))) Q E s₁) E s)
    (he : eval (.Call func args kws pos) env = (do callWith pos (← eval func env) [] (backTo pos (starEach args env)) (backToKw pos (keywordEach kws env))) := by rfl) :
    wpAny (model prog w) A (eval (.Call func args kws pos) env) Q E s := by
  rw [he]; exact wpAny_bind h

theorem stageE {pp : Program} {loose : List Str} {g : Heap} {L fa Dd Dt Dth : Addr} {cd : Value} {ps : Array Value} {m : Str → Option Value} {a b : Option Value} {dv tv : List Value} {ds : List Int} {q : List Nat} {W : Nat → List Int} {Q : Flow → Shared → Prop} (G : Gd w mg mb g) (TR : TopRead pp loose mg mb g) (lt : LT L g s.heap ps m a b (some (.ref Dd)))
    (mt : m (Str.ofString "told") = some (.ref Dt)) (mth : m (Str.ofString "things") = some (.ref Dth)) (hdl : g.IsList Dd dv.toArray) (hi : IntsAre dv ds) (hth : ThW g tv ds.length W) (htl : g.IsList Dth tv.toArray) (h3 : 3 ≤ ds.length) (hlen : ds.length ≤ 9)
    (hcm : ∀ i j, i < ds.length → j < ds.length → decide (cmpW 0 (W i) (W j) < 0) = decide (ds.getD i 0 < ds.getD j 0))
    (ht : g.IsList Dt (q.map fun i => tv.getD i .none).toArray) (ot : Ord ds.length (turnD false fun i => ds.getD i 0) q)
    (hroom : A.depth + 30 < recursionLimit) (hh : A.handled = none) (hu : A.units + 64 < cLine) (hQ : ∀ g' h' tk ps m' a b c, St g g' → LT L g' h' ps m' a b c → Q (.ret (.bool true)) { s with heap := h', toks := tk }) :
    wpAny (model prog w) A (execs ((lawFn w).2.1.drop 6) (envOfC (Str.ofString "law") (lawFn w).2.2 L fa cd)) Q (fun _ _ => False) s := by
  refine litL (w := w) (P := fun p b sc => wpAny (model prog w) A (execs (b.drop 6) (envOfC (Str.ofString "law") sc L fa cd)) Q (fun _ _ => False) s) rfl ?_
  refine wpAny_execs_cons (wpAny_Assign_Name (CallK_ (nameB G lt.st rfl (by kernel_rfl) rfl rfl (v := .builtin "sorted") (by kernel_rfl) (by kernel_rfl) (by decide) ?_)))
  refine callWith_kw (args_cons (nameL lt.ns mth rfl (by kernel_rfl) (args_nil (kws_cons (Call_ (nameG G lt.st rfl (by kernel_rfl) rfl (v := .ref 21) (by kernel_rfl) ?_))))))
  have e21 : (Mine.hd.heap_39 w.params).lookup 21 = some (objAt w 21) := by kernel_rfl
  refine callWith_def (o := objAt w 21) rfl (args_cons (nameG G lt.st rfl (by kernel_rfl) rfl (v := .ref 51) (by kernel_rfl) (args_nil ⟨lt.st _ _ (G.K _ _ e21), ?_⟩)))
  refine lt.makeK (s := s) G (by omega) fun C h1 tk1 ps1 g1 sg1 lt1 K => ?_
  refine kws_cons (wpAny_Constant_bool (kws_nil ?_))
  show wpAny _ _ (call (.builtin "sorted") [.ref Dth] [(Str.ofString "key", .ref C), (Str.ofString "reverse", .bool true)]) _ _ _
  have s1 : St g h1 := sg1.tr lt1.st
  refine kSorted (s := { s with heap := h1, toks := _ }) (b := true) (d := fun i => ds.getD i 0) ((hth.st s1).stand (G.st s1) (TR.keeps s1) K) (htl.at fun o e => s1 _ o e) (ksk_s2 _ _ _) (fun x => ksk_l2 _ _ _) (fun x => ksk_t2 C x true) (by rw [hth.len]; omega) (by rw [hth.len]; omega) (by omega) hh (by omega) (by rw [hth.len]; exact hcm) fun Du h2 tk2 q' ou st2 hDu nDu => ?_
  rw [hth.len] at ou
  obtain ⟨g2, sg2, lt2, f2⟩ := lt1.grow st2
  have hDu2 : g2.IsList Du (q'.map fun i => tv.getD i .none).toArray := by
    obtain ⟨o, e, c, n, d⟩ := hDu
    exact ⟨o, f2 _ _ e nDu (fun qs r => by rw [r] at c; cases c), c, n, d⟩
  refine wpAny_storeName_local (by kernel_rfl) lt2.ns (fun h3 ns3 sb3 => ?_) rfl
  have lt3 := lt2.local ns3 sb3
  have s2 : St g g2 := sg1.tr sg2
  exact stageF (s := { s with heap := h3, toks := _ }) (G.st s2) lt3 mt rfl (hdl.at fun o e => s2 _ o e) hi (hth.st s2).ths hlen (ht.at fun o e => s2 _ o e) ot hDu2 ou hroom hh hu fun g' h' tk ps m' a b c sg' lt' => hQ g' h' tk ps m' a b c (s2.tr sg') lt'
end
end Mine
end
section
open PySem PySem.W PySem.Calls PyProof.Rows PySem.Spec
set_option maxRecDepth 100000
set_option maxHeartbeats 4000000
namespace Mine
/-- all lists and tuples are kept -/
def Seqs (h h' : Heap) : Prop := ∀ p o xs k, h.get? p = some o → o.data = .seq xs k → h'.get? p = some o
theorem LT.step {L g h h' ps m m' a b c} (x : LT L g h ps m a b c) (s : Sb [L] h h') (ns : h'.Ns L m') : ∃ g', St g g' ∧ LT L g' h' ps m' a b c ∧ Seqs h' g' := by
  have nL : g.get? L = none := x.no _ (.head _)
  have keep : St g h' := fun p o e => s p o (fun m => by rw [List.mem_singleton.mp m, nL] at e; cases e) (x.st _ _ e)
  obtain ⟨oL, _, _, qL, dL, _⟩ := x.ns
  have neL : ∀ {p qs}, h.get? p = some (tabObj qs) → p ∉ [L] := fun {p qs} q m => by rw [List.mem_singleton.mp m, qL] at q; exact not_tab_dict dL _ (Option.some.inj q)
  have T0 : Tabs g h' ps := ⟨⟨keep, x.T.1.nP, s _ _ (neL x.T.1.tab) x.T.1.tab, x.T.1.trip, x.T.1.cd⟩, x.T.2.imp id fun ⟨cc, t, qs, a1, a2, a3, a4, a5, a6⟩ => ⟨cc, t, qs, a1, a2, a3, a4, s _ _ (neL a5) a5, a6⟩⟩
  have f : ∀ {k v}, L < k → h.IsCell k v → h'.IsCell k v := fun {k v} n ⟨o, q, d⟩ => ⟨o, s _ _ (by simpa using Nat.ne_of_gt n) q, d⟩
  have lt0 : LT L g h' ps m' a b c := ⟨T0, x.no, ns, f (Nat.lt_add_of_pos_right (by decide)) x.ca, f (Nat.lt_add_of_pos_right (by decide)) x.cb, f (Nat.lt_add_of_pos_right (by decide)) x.cc⟩
  obtain ⟨gF, s1, T1, f1⟩ := T0.full
  refine ⟨hideAll gF (WL L), fun p o e => hidden (s1 _ _ e) (fun m => by rw [x.no p m] at e; cases e), ⟨T1.hide fun p hp o e vs => ?_, fun p hp => hideAll_none _ hp, lt0.ns, lt0.ca, lt0.cb, lt0.cc⟩, fun p o xs k e d => hidden (f1 _ _ e fun qs r => by rw [r] at d; cases d) fun hm => ?_⟩
  · obtain ⟨o', q, r⟩ := lt0.obj p hp
    have := T1.1.keep _ _ e
    rw [q] at this
    cases this
    exact r vs
  · simp only [List.mem_cons, List.not_mem_nil, or_false] at hm
    rcases hm with rfl | rfl | rfl | rfl
    · obtain ⟨o', _, _, q, d', _⟩ := ns; rw [e] at q; cases q; rw [d] at d'; cases d'
    · obtain ⟨o', q, d'⟩ := lt0.ca; rw [e] at q; cases q; rw [d] at d'; cases d'
    · obtain ⟨o', q, d'⟩ := lt0.cb; rw [e] at q; cases q; rw [d] at d'; cases d'
    · obtain ⟨o', q, d'⟩ := lt0.cc; rw [e] at q; cases q; rw [d] at d'; cases d'
theorem LT.seqs {L g h h' ps m a b c} (x : LT L g h ps m a b c) (s : St h h') : ∃ g', St g g' ∧ LT L g' h' ps m a b c ∧ Seqs h' g' := x.step (.ofSt s) (Ns_st x.ns s)
theorem Seqs.list {h h' : Heap} {l : Addr} {xs : Array Value} (s : Seqs h h') (x : h.IsList l xs) : h'.IsList l xs := let ⟨o, e, c, n, d⟩ := x; ⟨o, s _ _ _ _ e d, c, n, d⟩
theorem Seqs.tup {h h' : Heap} {l : Addr} {xs : Array Value} (s : Seqs h h') (x : IsTup h l xs) : IsTup h' l xs := let ⟨o, e, c, n, d⟩ := x; ⟨o, s _ _ _ _ e d, c, n, d⟩
theorem Seqs.wds {h h' : Heap} {xs ws} (s : Seqs h h') (x : Wds h xs ws) : Wds h' xs ws := ⟨x.len, fun i v e => let ⟨l, ys, a, b, c⟩ := x.item i v e; ⟨l, ys, a, s.list b, c⟩⟩
theorem Seqs.thw {h h' : Heap} {tv n W} (s : Seqs h h') (x : ThW h tv n W) : ThW h' tv n W := ⟨x.len, fun i hi => let ⟨T, l, t, ys, a, b, c, d⟩ := x.item i hi; ⟨T, l, t, ys, a, s.tup b, s.list c, d⟩⟩
theorem Seqs.tr {a b c : Heap} (x : Seqs a b) (y : Seqs b c) : Seqs a c := fun p o xs k e d => y p o xs k (x p o xs k e d) d

section
variable {prog : Program} {w : World} {A : Around} {E : Value → Shared → Prop} {s : Shared} {env : Env}
theorem midE {value lo up : Expr} {p pos : Pos} {Q : Value → Shared → Prop}
    (h : wpAny (model prog w) A (eval value env) (fun o s₁ => wpAny (model prog w) A (eval lo env) (fun u s₂ => wpAny (model prog w) A (eval up env) (fun u' s₃ => ∃ l vs j k t t', o = .ref l ∧ u = .int (j : Nat) t ∧ u' = .int (k : Nat) t' ∧ j ≤ k ∧ s₃.heap.IsList l (List.toArray vs) ∧ vs.length ≤ sizeLine ∧
      ∀ h' D, St s₃.heap h' → h'.IsList D ((vs.drop j).take (k - j)).toArray → s₃.heap.get? D = none → Q (.ref D) { s₃ with heap := h' }) E s₂) E s₁) E s) (ht : ∀ o r, letTemporaryGo value o r = pure () := by intro _ _; rfl) :
    wpAny (model prog w) A (eval (.Subscript value (.Slice (some lo) (some up) none p) pos) env) Q E s := by
  refine wpAny_Subscript_Slice list_getitem_lookup (wpAny_mono h (fun o s₁ h₁ => wpAny_Slice (wpAny_mono h₁ (fun u s₂ h₂ => wpAny_mono h₂ (fun u' s₃ h₃ => ?_) fun _ _ e => e) fun _ _ e => e)) fun _ _ e => e) ht
  obtain ⟨l, vs, j, k, t, t', rfl, rfl, rfl, hjk, hl, hsz, hq⟩ := h₃
  refine wpAny_pure ⟨Heap.IsList.typeIs (s := { s₃ with heap := _ }) (hl.push _), wpAny_getItem_list_slice (hl.push _) (Heap.IsSliceOf.new ..) (.int j t) (.int k t') .none (by simp) ?_ (by simpa using hsz)⟩
  have e : slicePick vs.toArray (some (j : Int)) (some (k : Int)) none = ((vs.drop j).take (k - j)).toArray := by
    rw [slicePick_plain]
    simp only [Option.elim, clipAt_nat, List.size_toArray]
    congr 1
    rcases Nat.le_total j vs.length with q | q
    · rw [Nat.min_eq_left q]
      rcases Nat.le_total k vs.length with q' | q'
      · rw [Nat.min_eq_left q']
      · rw [Nat.min_eq_right q', List.take_of_length_le (by simp), List.take_of_length_le (by simp; omega)]
    · rw [Nat.min_eq_right q, List.drop_of_length_le (by simp), List.drop_of_length_le q]; simp
  refine hq _ _ (fun _ _ e => Heap.get?_push_of_some _ (Heap.get?_push_of_some _ e)) ⟨_, Heap.get?_push_size _ rfl, rfl, 0, by show Data.seq _ 0 = _; rw [e]⟩ (fresh_none ?_)
  show s₃.heap.objs.size ≤ (s₃.heap.push _).objs.size
  rw [Heap.size_push]; exact Nat.le_succ _
end
end Mine
end
section
open PySem PySem.W PySem.Calls PyProof.Rows PySem.Spec
set_option maxRecDepth 100000
set_option maxHeartbeats 4000000
namespace Mine
section
variable {prog : Program} {w : World} {A : Around} {E : Value → Shared → Prop} {s : Shared} {env : Env} {mg mb : Str → Option Value}
/-- a comprehension over a range that is bound to a local name at once -/
theorem compRangeA {elt iter : Expr} {x y : Str} {px py : Pos} {ifs : List Expr} {scope : Scope} {cl : List (Str × Addr)} {pos : Pos} {c : Int} {tc : Tok} {m : Str → Option Value} {Q : Value → Shared → Prop} (hh : A.handled = none) (h0 : 0 ≤ c) (h1 : c < 2 ^ 20)
    (Fact : Nat → List Value → Heap → Prop) (hF : ∀ i ys g g', St g g' → Fact i ys g → Fact i ys g') (hlen : ∀ i ys g, Fact i ys g → ys.length ≤ i)
    (hcell : ∀ y ∈ scope.names, y.2 ≠ .cell) (hkind : scope.kind = .function) (hx : scope.names.lookup x = some .local) (f0 : Fact 0 [] s.heap)
    (turn : CompTurn prog w A env scope cl x ifs elt c.toNat (fun i v => ∃ t, v = .int i t) Fact s.heap s) (hy : env.kindOf y = some .local) (hp : (env.scope.kind == .class || (env.scope.kind == .module && env.locals != env.globals)) = false) (ns : s.heap.Ns env.locals m)
    (hQ : ∀ D hF h3 tk ys, Fact c.toNat ys hF → Seqs hF h3 → Sb [env.locals] s.heap h3 → h3.Ns env.locals (fun z => if z = y then some (.ref D) else m z) → h3.IsList D (List.toArray ys) → Q .none { s with heap := h3, toks := tk }) :
    wpAny (model prog w) A (call (.type "range") [.int c tc]) (fun r s' => wpAny (model prog w) A (pyIter r) (fun it s₂ => wpAny (model prog w) A (newList []) (fun acc s₃ => wpAny (model prog w) A (newFunctionEnv scope env.globals cl [] env.qual none .none (some env)) (fun cenv s₄ =>
      codeAny (model prog w) A (.compStart (.ListComp elt [⟨.Name x px, iter, ifs, 0⟩] scope pos) 0 it acc { cenv with scope := relabel scope env }) (compPost (model prog w) A E (some (assign (.Name y py) env)) Q acc cenv.locals) s₄) E s₃) E s₂) E s') E s := by
  refine rangeL h0 (by omega) fun h' I tk st hI nI => ?_
  have I0 : s.heap.get? I = none := fresh_none nI
  have W := Walks.range (prog := prog) (w := w) (A := A) hh I 0 1 c.toNat
  refine compBlock (s := { s with heap := h', toks := tk }) (RR := fun acc C => compPost (model prog w) A E (some (assign (.Name y py) env)) Q acc C) (base := s.heap) W Fact (by rw [sizeLine_eq]; omega) hF hlen hcell hkind hx (by simpa [Int.toNat_of_nonneg h0] using hI) ?_ (fun b hb => List.mem_singleton.mp hb ▸ ⟨_, hI⟩) (fun i h b hs hb => List.mem_singleton.mp hb ▸ ⟨_, hs⟩) ⟨st, fun b hb => by rw [List.mem_singleton.mp hb]; exact I0⟩ f0 ?_ ?_
  · intro b hb
    rw [List.mem_singleton.mp hb]
    exact Heap.lt_size hI
  · have e : (fun (i : Nat) v => ∃ t, v = Value.int (0 + (i : Int) * 1) t) = fun (i : Nat) v => ∃ t, v = Value.int (i : Int) t := by funext i v; simp
    rw [e]
    exact turn
  · intro D C h2 tk2 ys m' nD nC hDC hn pl ⟨g, lv, sg, hf⟩ sb
    have nsL : h2.Ns env.locals m := by
      obtain ⟨o, es, ep, q, r⟩ := ns
      exact ⟨o, es, ep, sb _ _ (fun m => by rw [List.mem_singleton.mp m, I0] at q; cases q) (st _ _ q), r⟩
    have LC : env.locals ≠ C := fun e => by obtain ⟨o, _, _, q, _⟩ := ns; rw [e] at q; have := st _ _ q; rw [show h'.get? C = none from nC] at this; cases this
    have dat : ∀ {p o xs k m₀}, h2.Ns p m₀ → ∀ {p'}, h2.get? p' = some o → o.data = .seq xs k → p' ≠ p := fun {p o xs k m₀} n {p'} q d e => by
      obtain ⟨o', _, _, q', d', _⟩ := n
      rw [e, q'] at q; cases q; rw [d] at d'; cases d'
    show wpAny _ A (assign (.Name y py) env (.ref D)) _ _ _
    refine wpAny_assign_Name (wpAny_storeName_local hy nsL (fun h4 ns4 sb4 => ?_) hp)
    refine ⟨m', hn.sameBut sb4 LC.symm, fun h5 hs5 => ?_⟩
    have sq : Seqs h2 h5 := fun p o xs k e d => (hs5.2 _ (dat hn e d)).trans ((sb4.2 _ (dat nsL e d)).trans e)
    refine hQ D h2 h5 _ ys (hF _ _ _ _ lv.st hf) sq (fun b o nb e => ?_) (ns4.sameBut hs5 LC) ?_
    · refine (hs5.2 b fun q => ?_).trans ((sb4.2 b fun q => nb (by rw [q]; exact .head _)).trans (sb b o (fun m => ?_) (st _ _ e)))
      · rw [q] at e; have := st _ _ e; rw [show h'.get? C = none from nC] at this; cases this
      · rw [List.mem_singleton.mp m, I0] at e; cases e
    · obtain ⟨o, k, e, cc, _, d⟩ := pl
      exact ⟨o, sq _ _ _ _ e d, cc, k, d⟩

theorem stageD {pp : Program} {loose : List Str} {g : Heap} {L fa Dd Dth : Addr} {cd : Value} {ps : Array Value} {m : Str → Option Value} {a b : Option Value} {dv tv : List Value} {ds : List Int} {W : Nat → List Int} {Q : Flow → Shared → Prop} (G : Gd w mg mb g) (TR : TopRead pp loose mg mb g) (lt : LT L g s.heap ps m a b (some (.ref Dd)))
    (mth : m (Str.ofString "things") = some (.ref Dth)) (hdl : g.IsList Dd dv.toArray) (hi : IntsAre dv ds) (hth : ThW g tv ds.length W) (htl : g.IsList Dth tv.toArray) (h3 : 3 ≤ ds.length) (hlen : ds.length ≤ 9)
    (hcm : ∀ i j, i < ds.length → j < ds.length → decide (cmpW 0 (W i) (W j) < 0) = decide (ds.getD i 0 < ds.getD j 0))
    (hroom : A.depth + 30 < recursionLimit) (hh : A.handled = none) (hu : A.units + 64 < cLine) (hQ : ∀ g' h' tk ps m' a b c, St g g' → LT L g' h' ps m' a b c → Q (.ret (.bool true)) { s with heap := h', toks := tk }) :
    wpAny (model prog w) A (execs ((lawFn w).2.1.drop 5) (envOfC (Str.ofString "law") (lawFn w).2.2 L fa cd)) Q (fun _ _ => False) s := by
  refine litL (w := w) (P := fun p b sc => wpAny (model prog w) A (execs (b.drop 5) (envOfC (Str.ofString "law") sc L fa cd)) Q (fun _ _ => False) s) rfl ?_
  refine wpAny_execs_cons (wpAny_Assign_Name (CallK_ (nameB G lt.st rfl (by kernel_rfl) rfl rfl (v := .builtin "sorted") (by kernel_rfl) (by kernel_rfl) (by decide) ?_)))
  refine callWith_kw (args_cons (nameL lt.ns mth rfl (by kernel_rfl) (args_nil (kws_cons (Call_ (nameG G lt.st rfl (by kernel_rfl) rfl (v := .ref 21) (by kernel_rfl) ?_))))))
  have e21 : (Mine.hd.heap_39 w.params).lookup 21 = some (objAt w 21) := by kernel_rfl
  refine callWith_def (o := objAt w 21) rfl (args_cons (nameG G lt.st rfl (by kernel_rfl) rfl (v := .ref 51) (by kernel_rfl) (args_nil ⟨lt.st _ _ (G.K _ _ e21), ?_⟩)))
  refine lt.makeK (s := s) G (by omega) fun C h1 tk1 ps1 g1 sg1 lt1 K => ?_
  refine kws_nil ?_
  show wpAny _ _ (call (.builtin "sorted") [.ref Dth] [(Str.ofString "key", .ref C)]) _ _ _
  have s1 : St g h1 := sg1.tr lt1.st
  refine kSorted (s := { s with heap := h1, toks := _ }) (b := false) (d := fun i => ds.getD i 0) ((hth.st s1).stand (G.st s1) (TR.keeps s1) K) (htl.at fun o e => s1 _ o e) (ksk_s1 _ _) (fun x => ksk_l1 _ _) (fun x => ksk_t1 C x) (by rw [hth.len]; omega) (by rw [hth.len]; omega) (by omega) hh (by omega) (by rw [hth.len]; exact hcm) fun Dt h2 tk2 q ot st2 hDt nDt => ?_
  rw [hth.len] at ot
  obtain ⟨g2, sg2, lt2, f2⟩ := lt1.seqs st2
  refine wpAny_storeName_local (by kernel_rfl) lt2.ns (fun hE ns3 sb3 => ?_) rfl
  have lt3 := lt2.local ns3 sb3
  have s2 : St g g2 := sg1.tr sg2
  exact stageE (s := { s with heap := hE, toks := _ }) (G.st s2) (TR.keeps s2) lt3 rfl mth (hdl.at fun o e => s2 _ o e) hi (hth.st s2) (htl.at fun o e => s2 _ o e) h3 hlen hcm (f2.list hDt) ot hroom hh hu fun g' h' tk ps m' a b c sg' lt' => hQ g' h' tk ps m' a b c (s2.tr sg') lt'
end
end Mine
end
section
open PySem PySem.W PySem.Calls PyProof.Rows PySem.Spec
set_option maxRecDepth 100000
set_option maxHeartbeats 4000000
namespace Mine
section
variable {prog : Program} {w : World} {A : Around} {E : Value → Shared → Prop} {s : Shared} {env : Env} {mg mb : Str → Option Value}
theorem getD_some {α : Type} (l : List α) (i : Nat) (d : α) (h : i < l.length) : l[i]? = some (l.getD i d) := by simp [h]
theorem ThW.snoc {h : Heap} {tv n W T l t ys} (x : ThW h tv n W) (hT : IsTup h T #[.ref l, .int (n : Nat) t]) (hl : h.IsList l (List.toArray ys)) (hi : IntsAre ys (W n)) : ThW h (tv ++ [.ref T]) (n + 1) W := by
  refine ⟨by simp [x.len], fun i hi' => ?_⟩
  by_cases q : i = n
  · subst q
    exact ⟨T, l, t, ys, by rw [List.getElem?_append, if_neg (by rw [x.len]; exact Nat.lt_irrefl _), x.len, Nat.sub_self]; rfl, hT, hl, hi⟩
  · obtain ⟨T', l', t', ys', a, b, c, d⟩ := x.item i (by omega)
    exact ⟨T', l', t', ys', by rw [List.getElem?_append, if_pos (by rw [x.len]; omega)]; exact a, b, c, d⟩
/-- a comprehension that is bound to a name at once -/
theorem assignComp {elt iter : Expr} {x y : Str} {px py : Pos} {ifs : List Expr} {scope : Scope} {cl : List (Str × Addr)} {pos spos : Pos} {Q : Flow → Shared → Prop}
    (hsw : swapsWith (.ListComp elt [⟨.Name x px, iter, ifs, 0⟩] scope pos) (some (.Name y py)) spos.line env = pure true) (hclos : closureFor scope env = pure cl) (hkind : scope.kind = .function)
    (hnames : ∀ z ∈ scope.names, z.2 = .local → scope.names.lookup z.1 = some .local)
    (h : wpAny (model prog w) A (eval iter env) (fun xv s₁ => wpAny (model prog w) A (pyIter xv) (fun it s₂ => wpAny (model prog w) A (newList []) (fun acc s₃ => wpAny (model prog w) A (newFunctionEnv scope env.globals cl [] env.qual none .none (some env)) (fun cenv s₄ =>
      codeAny (model prog w) A (.compStart (.ListComp elt [⟨.Name x px, iter, ifs, 0⟩] scope pos) 0 it acc { cenv with scope := relabel scope env }) (compPost (model prog w) A E (some (assign (.Name y py) env)) (fun _ s' => Q .next s') acc cenv.locals) s₄) E s₃) E s₂) E s₁) E s)
    (hs : ∀ x, foldedSetIterable iter env x = pure x := by intro _; rfl) :
    wpAny (model prog w) A (exec (.Assign [.Name y py] (.ListComp elt [⟨.Name x px, iter, ifs, 0⟩] scope pos) spos) env) Q E s := by
  rw [exec_Assign_Name_used _ _ _ _ hsw]
  refine wpAny_bind (wpAny_standAt (wpAny_bind ?_))
  show wpAny _ A (do let _ ← comprehension (.ListComp elt [⟨.Name x px, iter, ifs, 0⟩] scope pos) scope env _ (newList []) false (eval iter env) (some (assign (.Name y py) env))) _ _ s
  exact wpAny_bind (wpAny_mono (wpAny_comprehension_free (use := some (assign (.Name y py) env)) (Q := fun _ s' => Q .next s') rfl hs hclos hkind hnames h) (fun _ s' hq => wpAny_pure (wpAny_pure hq)) fun _ _ e => e)

theorem stageC {pp : Program} {loose : List Str} {g : Heap} {L fa lp Dt : Addr} {cd : Value} {ps : Array Value} {m : Str → Option Value} {a : Option Value} {vs xs : List Value} {ns : List Int} {ws : List (List Int)} {Q : Flow → Shared → Prop} (G : Gd w mg mb g) (TR : TopRead pp loose mg mb g) (lt : LT L g s.heap ps m a (some (.ref Dt)) none)
    (ms : m (Str.ofString "script") = some (.ref lp)) (hl : g.IsList lp vs.toArray) (hi : IntsAre vs ns) (hlen : ns.length ≤ 63) (htb : g.IsList Dt xs.toArray) (wds : Wds g xs ws) (hw6 : 6 ≤ ws.length) (hw54 : ws.length ≤ 54)
    (hcmp : ∀ i j, i < ws.length → j < ws.length → decide (cmpW 0 (ws.getD i []) (ws.getD j []) < 0) = decide (i < j))
    (hroom : A.depth + 30 < recursionLimit) (hh : A.handled = none) (hu : A.units + 64 < cLine) (hQ : ∀ g' h' tk ps m' a b c, St g g' → LT L g' h' ps m' a b c → Q (.ret (.bool true)) { s with heap := h', toks := tk }) :
    wpAny (model prog w) A (execs ((lawFn w).2.1.drop 3) (envOfC (Str.ofString "law") (lawFn w).2.2 L fa cd)) Q (fun _ _ => False) s := by
  refine litL (w := w) (P := fun p b sc => wpAny (model prog w) A (execs (b.drop 3) (envOfC (Str.ofString "law") sc L fa cd)) Q (fun _ _ => False) s) rfl ?_
  have hvl : vs.length = ns.length := hi.length
  have hxl : xs.length = ws.length := wds.len
  -- drawn
  refine wpAny_execs_cons (wpAny_Assign_Name (wpAny_BinOp ?_))
  rw [eval_ListComp]
  refine wpAny_comprehension_free (use := none) (cl := [(Str.ofString "table", L + 2)]) rfl (by intro _; rfl) ?clos rfl ?names ?it
  case clos => kernel_rfl
  case names =>
    intro y hy _
    simp only [List.mem_cons, List.not_mem_nil, or_false] at hy
    rcases hy with rfl | rfl | rfl | rfl <;> first | rfl | (rename_i q; cases q)
  case it =>
    refine midE (nameL lt.ns ms rfl (by kernel_rfl) (wpAny_Constant_int (wpAny_Constant_int ⟨lp, vs, 2, 8, _, _, rfl, rfl, rfl, by decide, hl.at fun o e => lt.st _ o e, by rw [sizeLine_eq]; omega, fun h₁ D₁ st₁ hD₁ nD₁ => ?_⟩)))
    have hi26 : IntsAre ((vs.drop 2).take (8 - 2)) ((ns.drop 2).take 6) := (hi.drop 2).take 6
    obtain ⟨g1, sg1, lt1, f1⟩ := lt.seqs st₁
    refine compList (s := { s with heap := h₁, toks := _ }) (vs := (vs.drop 2).take (8 - 2)) hh (fun i ys _ => IntsAre ys ((((ns.drop 2).take 6).map fun y : Int => y.fmod (ws.length : Int)).take i)) (by rw [sizeLine_eq, List.length_take]; omega) (fun _ _ _ _ _ q => q) (fun i ys g q => ?_) (kinds_no (by kernel_rfl)) rfl (by kernel_rfl) hD₁ (by simpa using IntsAre.nil) ?turn ?done
    case turn =>
      intro C W i v ys gg hh' mm tkk hi' hv nsC mv lvW live sbase hf
      have hv' : ((vs.drop 2).take (8 - 2))[i]? = some v := hv
      obtain ⟨n, t, rfl, en⟩ := IntsAre.at hi26 i v hv'
      have b2 : St h₁ hh' := sbase.tr lvW.st
      refine wFN ⟨hh', tkk, rfl, St.refl _, ?_⟩
      rw [if_pos rfl]
      refine wpAny_BinOp (nameL nsC mv rfl (by kernel_rfl) (Call_ (nameB G ((sg1.tr lt1.st).tr b2) rfl (by kernel_rfl) rfl rfl (v := .builtin "len") (by kernel_rfl) (by kernel_rfl) (by decide) ?_)))
      refine PyProof.Rows.callWith_builtin1 (args_cons (wpAny_Name (wpAny_loadName_cell rfl (by kernel_rfl) (c := L + 2) (by kernel_rfl) (lt1.cb.keeps b2) (args_nil ?_))))
      refine len_list (htb.at fun o e => ((sg1.tr lt1.st).tr b2) _ o e) (by rw [List.size_toArray]; omega) ?_
      rw [List.size_toArray, hxl]
      refine PyProof.Rows.mod_int' (by omega) ⟨hh', _, rfl, St.refl _, ?_⟩
      show IntsAre (ys ++ [_]) _
      rw [List.take_add_one, List.getElem?_map, en]
      exact ksk_snoc hf
    case done =>
      intro D₂ h₂ tk₂ ys nD₂ st₂ hf hD₂
      rw [List.take_of_length_le (by rw [List.length_map, List.length_take, List.length_take, List.length_drop, List.length_drop, hvl]; exact Nat.le_refl _)] at hf
      have hyl : ys.length ≤ 6 := by rw [hf.length, List.length_map, List.length_take]; omega
      refine List_ (args_cons (wpAny_Constant_int (args_cons (wpAny_Constant_int (args_cons (wpAny_Constant_int (args_nil (nl (s := { s with heap := h₂, toks := _ }) fun h₃ D₃ st₃ g₃ n₃ => ?_))))))))
      refine addL (s := { s with heap := h₃, toks := _ }) (vs := ys) (hD₂.at fun o e => st₃ _ o e) ⟨_, g₃, rfl, _, rfl⟩ (fun h₄ D₄ st₄ g₄ n₄ => ?_) (by rw [sizeLine_eq]; simp; omega)
      obtain ⟨g2, sg2, lt2, f2⟩ := lt1.seqs ((st₂.tr st₃).tr st₄)
      obtain ⟨zs, hzs, isz⟩ : ∃ zs, g2.IsList D₄ (List.toArray zs) ∧ IntsAre zs (drawnOf ns ws.length) := ⟨_, f2.list ⟨_, g₄, rfl, _, rfl⟩, IntsAre.append hf (.cons 4 _ (.cons 1 _ (.cons 4 _ .nil)))⟩
      have hdl := drawn_len ns ws.length
      have hdlow := drawn_low (ns := ns) hw6
      generalize drawnOf ns ws.length = ds at isz hdl hdlow
      have hzl : zs.length = ds.length := isz.length
      refine wpAny_storeName_cell rfl (by kernel_rfl) (c := L + 3) (by kernel_rfl) lt2.cc fun h₅ ce₅ sb₅ => ?_
      have lt3 := lt2.cellC ce₅ sb₅
      have s2 : St g g2 := sg1.tr sg2
      clear f1 f2 sb₅ ce₅ g₄ n₄ st₄ g₃ n₃ st₃ hf hD₂ st₂ nD₂
      -- things
      have hwt : ∀ j, j < ds.length → (ds.getD j 0).toNat < ws.length := fun j hj => by
        have e : ds.getD j 0 = ds[j] := by simp [hj]
        have := hdlow _ (List.getElem_mem hj)
        rw [e]; omega
      have tb5 : h₅.IsList Dt xs.toArray := htb.at fun o e => lt3.st _ o (s2 _ _ e)
      have dz5 : h₅.IsList D₄ zs.toArray := hzs.at fun o e => lt3.st _ o e
      have wd5 : Wds h₅ xs ws := wds.st (s2.tr lt3.st)
      have G5 := G.st s2
      refine wpAny_execs_cons (assignComp (cl := [(Str.ofString "table", L + 2), (Str.ofString "drawn", L + 3)]) (by kernel_rfl) (by kernel_rfl) rfl ?names2 ?it2)
      case names2 =>
        intro y hy _
        simp only [List.mem_cons, List.not_mem_nil, or_false] at hy
        rcases hy with rfl | rfl | rfl | rfl <;> first | rfl | (rename_i q; cases q)
      case it2 =>
        refine Call_ (nameB G5 lt3.st rfl (by kernel_rfl) rfl rfl (v := .type "range") (by kernel_rfl) (by kernel_rfl) (by decide) ?_)
        refine PyProof.Rows.callWith_type1 (args_cons (Call_ (nameB G5 lt3.st rfl (by kernel_rfl) rfl rfl (v := .builtin "len") (by kernel_rfl) (by kernel_rfl) (by decide) ?_)))
        refine PyProof.Rows.callWith_builtin1 (args_cons (wpAny_Name (wpAny_loadName_cell rfl (by kernel_rfl) (c := L + 3) (by kernel_rfl) lt3.cc (args_nil ?_))))
        refine len_list dz5 (by rw [List.size_toArray]; omega) (args_nil ?_)
        rw [List.size_toArray, hzl]
        refine compRangeA (s := { s with heap := h₅, toks := _ }) (m := m) hh (Int.natCast_nonneg _) (by omega) (fun i ys h => ThW h ys i fun j => ws.getD (ds.getD j 0).toNat []) (fun i ys g g' st q => q.st st) (fun i ys g q => Nat.le_of_eq q.len) (kinds_no (by kernel_rfl)) rfl (by kernel_rfl) ⟨rfl, fun i hi => absurd hi (Nat.not_lt_zero _)⟩ ?turn2 (by kernel_rfl) rfl lt3.ns ?done2
        case turn2 =>
          rintro C Wd i v ys gg hh' mm tkk hi' ⟨tv, rfl⟩ nsC mv lvW live sbase hf
          have hid : i < ds.length := by simpa using hi'
          have b2 : St h₅ hh' := sbase.tr lvW.st
          have edi : ds[i]? = some (ds.getD i 0) := getD_some ds i 0 hid
          have hnn := hdlow _ (List.mem_of_getElem? edi)
          have hwi := hwt i hid
          have ewi : ws[(ds.getD i 0).toNat]? = some (ws.getD (ds.getD i 0).toNat []) := getD_some ws _ [] hwi
          obtain ⟨td, ez⟩ := isz.get i _ edi
          obtain ⟨l, yl, ex, hyl, hyi⟩ := wd5.item _ _ ewi
          have ez' : zs.toArray[((i : Nat) : Int).toNat]? = some (Value.int (ds.getD i 0) td) := by rw [Int.toNat_natCast, List.getElem?_toArray]; exact ez
          have ex' : xs.toArray[(ds.getD i 0).toNat]? = some (Value.ref l) := by rw [List.getElem?_toArray]; exact ex
          have hb63 : ds.getD i 0 < 2 ^ 63 := Int.lt_trans hnn.2 (by omega)
          have hn0 : 0 ≤ ds.getD i 0 := hnn.1
          refine wFN ⟨hh', tkk, rfl, St.refl _, ?_⟩
          rw [if_pos rfl]
          refine Tuple_ (args_cons (Subscript_ (wpAny_Name (wpAny_loadName_cell rfl (by kernel_rfl) (c := L + 2) (by kernel_rfl) (lt3.cb.keeps b2) ?_))))
          refine Subscript_ (wpAny_Name (wpAny_loadName_cell rfl (by kernel_rfl) (c := L + 3) (by kernel_rfl) (lt3.cc.keeps b2) (nameL nsC mv rfl (by kernel_rfl) ?_)))
          refine item_list (dz5.at fun o e => b2 _ o e) (Int.natCast_nonneg _) (by omega) ez' ?_
          refine item_list (tb5.at fun o e => b2 _ o e) hn0 hb63 ex' ?_
          refine args_cons (nameL nsC mv rfl (by kernel_rfl) (args_nil (nt (s := { s with heap := hh', toks := _ }) fun h6 T st6 gT nT => ⟨h6, _, rfl, st6, ?_⟩)))
          have lv6 : Lv Wd gg h6 := ⟨lvW.st.tr st6, lvW.no⟩
          have TW : T ∉ Wd := fun hm => by
            obtain ⟨o, q⟩ := live T hm
            rw [fresh_none nT] at q; cases q
          exact (hf.st lv6.up).snoc ⟨_, hidden gT TW, rfl, _, rfl⟩ (hyl.at fun o e => lv6.up _ o (sbase _ _ e)) hyi
        case done2 =>
          intro D hF h6 tk6 tv hf sq sb6 ns6 hD
          have hf' : ThW hF tv ds.length fun j => ws.getD (ds.getD j 0).toNat [] := by simpa using hf
          obtain ⟨g3, sg3, lt4, f3⟩ := lt3.step sb6 ns6
          refine stageD (s := { s with heap := h6, toks := _ }) (G5.st sg3) ((TR.keeps s2).keeps sg3) lt4 rfl (hzs.at fun o e => sg3 _ o e) isz (f3.thw (sq.thw hf')) (f3.list hD) hdl.1 hdl.2 (fun i j hi hj => ?_) hroom hh hu fun g' h' tk ps m' a b c sg' lt' => hQ g' h' tk ps m' a b c ((s2.tr sg3).tr sg') lt'
          rw [hcmp _ _ (hwt i hi) (hwt j hj)]
          have hi0 := hdlow _ (List.getElem_mem hi)
          have hj0 := hdlow _ (List.getElem_mem hj)
          have ei : ds.getD i 0 = ds[i] := by simp [hi]
          have ej : ds.getD j 0 = ds[j] := by simp [hj]
          rw [ei, ej]
          exact decide_eq_decide.mpr (by omega)
    · have := q.length
      rw [List.length_take] at this
      omega
end
end Mine
end
section
open PySem PySem.W PySem.Calls PyProof.Rows PySem.Spec
set_option maxRecDepth 100000
set_option maxHeartbeats 4000000
namespace Mine
theorem zip_prs {h : Heap} {xs ys zs : List Value} {ns ms : List Int} {n : Nat} (z : Zipped h xs ys zs n) (hi : IntsAre xs ns) (hj : IntsAre ys ms) (hn : n = min ns.length ms.length) : Prs h zs (ns.zip ms) := by
  refine ⟨by rw [z.len, hn, List.length_zip], fun i p e => ?_⟩
  have hin : i < n := by
    have := (List.getElem?_eq_some_iff.mp e).1
    rw [List.length_zip] at this; omega
  obtain ⟨T, x, y, a, b, c, d⟩ := z.item i hin
  obtain ⟨n1, t1, rfl, e1⟩ := IntsAre.at hi i x b
  obtain ⟨n2, t2, rfl, e2⟩ := IntsAre.at hj i y c
  have : p = (n1, n2) := by
    rw [List.getElem?_zip_eq_some] at e
    rw [e1, e2] at e
    obtain ⟨q1, q2⟩ := e
    cases p; cases q1; cases q2; rfl
  subst this
  exact ⟨T, t1, t2, a, _, d, rfl, _, rfl⟩
theorem range_ints {acc : Array Value} {n : Nat} (h : ItemsOf (fun i v => ∃ t, v = Value.int (0 + (i : Int) * 1) t) acc n) : IntsAre acc.toList ((List.range n).map fun i => ((i : Nat) : Int)) := by
  have key : ∀ (l : List Value) (k : Nat), (∀ j v, l[j]? = some v → ∃ t, v = Value.int ((k + j : Nat) : Int) t) → IntsAre l ((List.range' k l.length).map fun i => ((i : Nat) : Int)) := by
    intro l
    induction l with
    | nil => intro k _; exact .nil
    | cons v r ih =>
      intro k hk
      obtain ⟨t, rfl⟩ := hk 0 v rfl
      refine .cons _ t ?_
      refine ih (k + 1) fun j v hv => ?_
      obtain ⟨t', e⟩ := hk (j + 1) v (by simpa using hv)
      exact ⟨t', by rw [e]; congr 1; omega⟩
  have h2 := key acc.toList 0 fun j v hv => by
    obtain ⟨t, e⟩ := h.2 j v (by simpa using hv)
    exact ⟨t, by rw [e]; congr 1; omega⟩
  rw [Array.length_toList, h.1] at h2
  rw [List.range_eq_range']
  exact h2
section
variable {prog : Program} {w : World} {A : Around} {E : Value → Shared → Prop} {s : Shared} {env : Env} {mg mb : Str → Option Value}
theorem listZipE {l1 l2 : Addr} {xs ys : List Value} {n : Nat} {pos : Pos} {Q : Value → Shared → Prop} (hh : A.handled = none) (hl1 : s.heap.IsList l1 xs.toArray) (hl2 : s.heap.IsList l2 ys.toArray) (hn : n = min xs.length ys.length) (h1 : 1 ≤ n) (hsz : n ≤ sizeLine)
    (h : ∀ D h' tk zs, St s.heap h' → h'.IsList D (List.toArray zs) → Zipped h' xs ys zs n → s.heap.get? D = none → Q (.ref D) { s with heap := h', toks := tk }) :
    wpAny (model prog w) A (call (.type "zip") [.ref l1, .ref l2]) (fun r s' => wpAny (model prog w) A (spliced (backTo pos (starEach [] env))) (fun vs s₂ => wpAny (model prog w) A (call (.type "list") (r :: vs)) Q E s₂) E s') E s :=
  wpAny_mono (listZip hh hl1 hl2 hn h1 hsz h) (fun r s' q => args_nil q) fun _ _ e => e
theorem listRangeE {c : Int} {tc : Tok} {n : Nat} {pos : Pos} {Q : Value → Shared → Prop} (hh : A.handled = none) (hc : c = (n : Nat)) (hn : n ≤ 2 ^ 20)
    (h : ∀ D h' tk ys, St s.heap h' → h'.IsList D (List.toArray ys) → IntsAre ys ((List.range n).map fun i => ((i : Nat) : Int)) → Q (.ref D) { s with heap := h', toks := tk }) :
    wpAny (model prog w) A (call (.type "range") [.int c tc]) (fun r s' => wpAny (model prog w) A (spliced (backTo pos (starEach [] env))) (fun vs s₂ => wpAny (model prog w) A (call (.type "list") (r :: vs)) Q E s₂) E s') E s := by
  subst hc
  refine call_range_1 (args_nil ?_)
  refine call_list_range hh (IsRange.new ..) (small_one (by decide) (by decide) (by omega) (by omega)) (n := n) (by rw [rangeSize_one]; split <;> omega) (by omega) fun h' tk acc c' st g hacc => ?_
  refine h _ h' tk acc.toList (fun b o e => st _ _ (Heap.get?_push_of_some _ e)) ⟨_, g, rfl, c', by simp⟩ (range_ints hacc)

theorem stageB {pp : Program} {loose : List Str} {g : Heap} {L fa lp Dt Dz : Addr} {cd : Value} {ps : Array Value} {m : Str → Option Value} {vs xs zs : List Value} {ns sz : List Int} {Q : Flow → Shared → Prop} (G : Gd w mg mb g) (TR : TopRead pp loose mg mb g) (lt : LT L g s.heap ps m (some (.ref Dz)) (some (.ref Dt)) none)
    (ms : m (Str.ofString "script") = some (.ref lp)) (hl : g.IsList lp vs.toArray) (hi : IntsAre vs ns) (hlen : ns.length ≤ 63) (hzl : g.IsList Dz zs.toArray) (hzi : IntsAre zs sz) (hsh : sz ∈ shapes) (htb : g.IsList Dt xs.toArray) (wds : Wds g xs (mirr sz))
    (hroom : A.depth + 30 < recursionLimit) (hh : A.handled = none) (hu : A.units + 64 < cLine) (hQ : ∀ g' h' tk ps m' a b c, St g g' → LT L g' h' ps m' a b c → Q (.ret (.bool true)) { s with heap := h', toks := tk }) :
    wpAny (model prog w) A (execs ((lawFn w).2.1.drop 2) (envOfC (Str.ofString "law") (lawFn w).2.2 L fa cd)) Q (fun _ _ => False) s := by
  refine litL (w := w) (P := fun p b sc => wpAny (model prog w) A (execs (b.drop 2) (envOfC (Str.ofString "law") sc L fa cd)) Q (fun _ _ => False) s) rfl ?_
  have hlen' := shape_len hsh
  have hxl : xs.length = (mirr sz).length := wds.len
  have hszl : 1 ≤ sz.length ∧ sz.length ≤ 9 ∧ ∀ c ∈ sz, -9 < c ∧ c < 9 := by
    simp only [shapes, List.mem_cons, List.not_mem_nil, or_false] at hsh
    rcases hsh with rfl | rfl | rfl | rfl | rfl | rfl | rfl <;> simp
  refine wpAny_execs_cons (wpAny_If (wpAny_isTrue_Compare1 ?_))
  rw [eval_ListComp]
  refine wpAny_comprehension_free (use := none) (cl := [(Str.ofString "sizes", L + 1)]) rfl (by intro _; rfl) ?clos rfl ?names ?it
  case clos => kernel_rfl
  case names =>
    intro y hy _
    simp only [List.mem_cons, List.not_mem_nil, or_false] at hy
    rcases hy with rfl | rfl | rfl | rfl | rfl | rfl | rfl <;> first | rfl | (rename_i q; cases q)
  case it =>
    refine wpAny_Name (wpAny_loadName_cell rfl (by kernel_rfl) (c := L + 2) (by kernel_rfl) lt.cb ?_)
    refine compList (vs := xs) hh (fun i ys _ => IntsAre ys (((mirr sz).map fun e : List Int => foldOn 0 (e.zip sz)).take i)) (by rw [sizeLine_eq]; omega) (fun _ _ _ _ _ q => q) (fun i ys g q => ?_) (kinds_no (by kernel_rfl)) rfl (by kernel_rfl) (htb.at fun o e => lt.st _ o e) (by simpa using IntsAre.nil) ?turn ?done
    case turn =>
      intro C W i v ys gg hh' mm tkk hi' hv nsC mv lvW live sbase hf
      have hv' : xs[i]? = some v := hv
      have him : i < (mirr sz).length := by rw [← hxl]; exact hi'
      obtain ⟨x, ex⟩ : ∃ x, (mirr sz)[i]? = some x := ⟨_, List.getElem?_eq_getElem him⟩
      obtain ⟨l, yl, el, hyl, hyi⟩ := wds.item i x ex
      rw [hv'] at el
      cases el
      have b2 : St s.heap hh' := sbase.tr lvW.st
      have s2 : St g hh' := lt.st.tr b2
      have hxlen : x.length = sz.length := mirr_word sz x (List.mem_of_getElem? ex)
      refine wFN ⟨hh', tkk, rfl, St.refl _, ?_⟩
      rw [if_pos rfl]
      have e30 : (Mine.hd.heap_39 w.params).lookup 30 = some (objAt w 30) := by kernel_rfl
      refine Call_ (nameG G s2 rfl (by kernel_rfl) rfl (v := .ref 30) (by kernel_rfl) ?_)
      refine callWith_def (o := objAt w 30) rfl (args_cons (nameG G s2 rfl (by kernel_rfl) rfl (v := .ref 44) (by kernel_rfl) (args_cons (Call_ (nameB G s2 rfl (by kernel_rfl) rfl rfl (v := .type "list") (by kernel_rfl) (by kernel_rfl) (by decide) ?_)))))
      refine PyProof.Rows.callWith_type1 (args_cons (Call_ (nameB G s2 rfl (by kernel_rfl) rfl rfl (v := .type "zip") (by kernel_rfl) (by kernel_rfl) (by decide) ?_)))
      refine PyProof.Rows.callWith_type1 (args_cons (nameL nsC mv rfl (by kernel_rfl) (args_cons (wpAny_Name (wpAny_loadName_cell rfl (by kernel_rfl) (c := L + 1) (by kernel_rfl) (lt.ca.keeps b2) (args_nil ?_))))))
      refine listZipE (s := { s with heap := hh', toks := _ }) (n := sz.length) hh (hyl.at fun o e => s2 _ o e) (hzl.at fun o e => s2 _ o e) (by rw [hyi.length, hzi.length, hxlen, Nat.min_self]) hszl.1 (by rw [sizeLine_eq]; omega) fun D3 h3 tk3 z3 st3 hD3 hz3 nD3 => ?_
      refine args_cons (wpAny_Constant_int (args_nil ⟨(s2.tr st3) _ _ (G.K _ _ e30), ?_⟩))
      refine wpAny_call (lawReduce (s := { s with heap := h3, toks := _ }) (G.st (s2.tr st3)) hD3 (zip_prs hz3 hyi hzi (by rw [hxlen, Nat.min_self])) (fun p hp => ?_) (by omega) hh fun h4 tk4 t4 r4 er st4 => ⟨h4, _, rfl, st3.tr st4, ?_⟩)
      · obtain ⟨p1, p2⟩ := p
        exact hszl.2.2 p2 (List.of_mem_zip hp).2
      show IntsAre (ys ++ [_]) _
      rw [List.take_add_one, List.getElem?_map, ex, er]
      exact ksk_snoc hf
    case done =>
      intro D1 h1 tk1 ys nD1 st1 hf hD1
      rw [List.take_of_length_le (by rw [List.length_map, hxl]; exact Nat.le_refl _), shape_places hsh] at hf
      obtain ⟨g1, sg1, lt1, _⟩ := lt.seqs st1
      have s1 : St g h1 := lt.st.tr st1
      refine Call_ (nameB G s1 rfl (by kernel_rfl) rfl rfl (v := .type "list") (by kernel_rfl) (by kernel_rfl) (by decide) ?_)
      refine PyProof.Rows.callWith_type1 (args_cons (Call_ (nameB G s1 rfl (by kernel_rfl) rfl rfl (v := .type "range") (by kernel_rfl) (by kernel_rfl) (by decide) ?_)))
      refine PyProof.Rows.callWith_type1 (args_cons (Call_ (nameB G s1 rfl (by kernel_rfl) rfl rfl (v := .builtin "len") (by kernel_rfl) (by kernel_rfl) (by decide) ?_)))
      refine PyProof.Rows.callWith_builtin1 (args_cons (wpAny_Name (wpAny_loadName_cell rfl (by kernel_rfl) (c := L + 2) (by kernel_rfl) lt1.cb (args_nil ?_))))
      refine len_list (htb.at fun o e => s1 _ o e) (by rw [List.size_toArray]; omega) (args_nil ?_)
      refine listRangeE (s := { s with heap := h1, toks := _ }) (n := (mirr sz).length) hh (by rw [List.size_toArray, hxl]) (by omega) fun D2 h2 tk2 y2 st2 hD2 hy2 => ?_
      refine ke_ne_ints (hD1.at fun o e => st2 _ o e) hD2 hf hy2 hu ?_
      rw [decide_eq_true rfl]
      refine wpAny_truthy_bool ?_
      rw [if_neg (by decide)]
      refine wpAny_execs_nil ?_
      obtain ⟨g2, sg2, lt2, _⟩ := lt1.seqs st2
      have s2 : St g g2 := sg1.tr sg2
      exact stageC (s := { s with heap := h2, toks := _ }) (G.st s2) (TR.keeps s2) lt2 ms (hl.at fun o e => s2 _ o e) hi hlen (htb.at fun o e => s2 _ o e) (wds.st s2) hlen'.1 hlen'.2 (fun i j hi hj => shape_cmp hsh hi hj) hroom hh hu fun g' h' tk ps m' a b c sg' lt' => hQ g' h' tk ps m' a b c (s2.tr sg') lt'
    · have := q.length
      rw [List.length_take] at this
      omega
end
end Mine
end
section
open PySem PySem.W PySem.Calls PyProof.Rows PySem.Spec
set_option maxRecDepth 100000
set_option maxHeartbeats 4000000
namespace Mine
section
variable {prog : Program} {w : World} {A : Around} {E : Value → Shared → Prop} {s : Shared} {env : Env} {mg mb : Str → Option Value}
theorem lawBody {pp : Program} {loose : List Str} {g0 : Heap} {L fa lp : Addr} {cd : Value} {vs : List Value} {ns : List Int} {m : Str → Option Value} {Q : Flow → Shared → Prop} (G : Gd w mg mb g0) (TR : TopRead pp loose mg mb g0) (lt : LT L g0 s.heap #[] m none none none) (ms : m (Str.ofString "script") = some (.ref lp)) (hl : g0.IsList lp vs.toArray) (hi : IntsAre vs ns) (hlen : ns.length ≤ 63)
    (hroom : A.depth + 30 < recursionLimit) (hh : A.handled = none) (hu : A.units + 64 < cLine) (hQ : ∀ g h' tk ps m' a b c, St g0 g → LT L g h' ps m' a b c → Q (.ret (.bool true)) { s with heap := h', toks := tk }) :
    wpAny (model prog w) A (execs (lawFn w).2.1 (envOfC (Str.ofString "law") (lawFn w).2.2 L fa cd)) Q (fun _ _ => False) s := by
  refine litL (w := w) (P := fun p b sc => wpAny (model prog w) A (execs b (envOfC (Str.ofString "law") sc L fa cd)) Q (fun _ _ => False) s) rfl ?_
  have hvl : vs.length = ns.length := hi.length
  -- sizes
  refine wpAny_execs_cons (wpAny_Assign_Name (wpAny_BinOp ?_))
  rw [eval_ListComp]
  refine wpAny_comprehension_free (use := none) (cl := []) rfl (by intro _; rfl) ?clos rfl ?names ?it
  case clos => kernel_rfl
  case names =>
    intro y hy _
    simp only [List.mem_cons, List.not_mem_nil, or_false] at hy
    rcases hy with rfl | rfl <;> rfl
  case it =>
    refine takeE (nameL lt.ns ms rfl (by kernel_rfl) (wpAny_Constant_int ⟨lp, vs, 2, _, rfl, rfl, by decide, hl.at fun o e => lt.st _ o e, by rw [sizeLine_eq]; omega, fun h₁ D₁ st₁ hD₁ nD₁ => ?_⟩))
    refine compList (s := { s with heap := h₁, toks := _ }) (vs := vs.take 2) hh (fun i ys _ => IntsAre ys (((ns.take 2).map fun x : Int => x.fmod 2 + 2).take i)) (by rw [sizeLine_eq, List.length_take]; omega) (fun _ _ _ _ _ q => q) (fun i ys g q => ?_) (kinds_no (by kernel_rfl)) rfl (by kernel_rfl) hD₁ (by simpa using IntsAre.nil) ?turn ?done
    case turn =>
      intro C W i v ys gg hh' mm tkk hi' hv nsC mv lvW live sbase hf
      have hv' : (vs.take 2)[i]? = some v := hv
      obtain ⟨n, t, rfl, en⟩ := IntsAre.at (hi.take 2) i v hv'
      refine wFN ⟨hh', tkk, rfl, St.refl _, ?_⟩
      rw [if_pos rfl]
      refine wpAny_BinOp (wpAny_BinOp (nameL nsC mv rfl (by kernel_rfl) (wpAny_Constant_int (PyProof.Rows.mod_int' (by decide) (wpAny_Constant_int (PyProof.Rows.add_int ⟨hh', _, rfl, St.refl _, ?_⟩))))))
      show IntsAre (ys ++ [_]) _
      rw [List.take_add_one, List.getElem?_map, en]
      exact ksk_snoc hf
    case done =>
      intro D₂ h₂ tk₂ ys nD₂ st₂ hf hD₂
      rw [List.take_of_length_le (by rw [List.length_map, List.length_take, List.length_take, hvl]; exact Nat.le_refl _)] at hf
      have hyl : ys.length ≤ 2 := by rw [hf.length, List.length_map, List.length_take]; omega
      refine List_ (args_cons (wpAny_Constant_int (args_cons (wpAny_Constant_int (args_nil (nl (s := { s with heap := h₂, toks := _ }) fun h₃ D₃ st₃ g₃ n₃ => ?_))))))
      refine addL (s := { s with heap := h₃, toks := _ }) (vs := ys) (hD₂.at fun o e => st₃ _ o e) ⟨_, g₃, rfl, _, rfl⟩ (fun h₄ D₄ st₄ g₄ n₄ => ?_) (by rw [sizeLine_eq]; simp; omega)
      obtain ⟨g1, sg1, lt1, f1⟩ := lt.seqs (((st₁.tr st₂).tr st₃).tr st₄)
      obtain ⟨zs, hzs, isz⟩ : ∃ zs, g1.IsList D₄ (List.toArray zs) ∧ IntsAre zs (sizesOf ns) := ⟨_, f1.list ⟨_, g₄, rfl, _, rfl⟩, IntsAre.append hf (.cons 3 _ (.cons 2 _ .nil))⟩
      have hsh := sizes_shape ns
      generalize sizesOf ns = sz at isz hsh
      have hszl : sz.length ≤ 9 ∧ ∀ c ∈ sz, 0 ≤ c ∧ c ≤ 3 := by
        have hsh' := hsh
        simp only [shapes, List.mem_cons, List.not_mem_nil, or_false] at hsh'
        rcases hsh' with rfl | rfl | rfl | rfl | rfl | rfl | rfl <;> simp
      refine wpAny_storeName_cell rfl (by kernel_rfl) (c := L + 1) (by kernel_rfl) lt1.ca fun h₅ ce₅ sb₅ => ?_
      have lt2 := lt1.cellA ce₅ sb₅
      clear f1 sb₅ ce₅ g₄ n₄ st₄ g₃ n₃ st₃ hf hD₂ st₂ nD₂
      -- table
      have e37 : (Mine.hd.heap_39 w.params).lookup 37 = some (objAt w 37) := by kernel_rfl
      have G1 := G.st sg1
      refine wpAny_execs_cons (wpAny_Assign_Name (Call_ (nameG G1 lt2.st rfl (by kernel_rfl) rfl (v := .ref 37) (by kernel_rfl) ?_)))
      refine callWith_def (o := objAt w 37) rfl (args_cons (wpAny_Name (wpAny_loadName_cell rfl (by kernel_rfl) (c := L + 1) (by kernel_rfl) lt2.ca (args_nil ⟨lt2.st _ _ (G1.K _ _ e37), ?_⟩))))
      refine wpAny_call (lawMirrored (s := { s with heap := h₅, toks := _ }) (G1.st lt2.st) (hzs.at fun o e => lt2.st _ o e) isz hszl.2 hszl.1 (by omega) hh fun h₆ tk₆ D₆ xs st₆ hD₆ wd₆ => ?_)
      obtain ⟨g2, sg2, lt3, f2⟩ := lt2.seqs st₆
      refine wpAny_storeName_cell rfl (by kernel_rfl) (c := L + 2) (by kernel_rfl) lt3.cb fun h₇ ce₇ sb₇ => ?_
      have lt4 := lt3.cellB ce₇ sb₇
      have s2 : St g0 g2 := sg1.tr sg2
      exact stageB (s := { s with heap := h₇, toks := _ }) (G.st s2) (TR.keeps s2) lt4 ms (hl.at fun o e => s2 _ o e) hi hlen (hzs.at fun o e => sg2 _ o e) isz hsh (f2.list hD₆) (f2.wds wd₆) hroom hh hu fun g' h' tk ps m' a b c sg' lt' => hQ g' h' tk ps m' a b c (s2.tr sg') lt'
    · have := q.length
      rw [List.length_take] at this
      omega
end
end Mine
end
open PySem PySem.W PySem.Calls PyProof.Rows PySem.Spec
set_option maxRecDepth 100000
set_option maxHeartbeats 8000000
theorem PySem.Challenge.cw_mr0005_01_holds : PySem.Challenge.rw_mr0005_01.Holds :=
  Mine.hd (by
  k_go0
  rename Fr _ _ _ _ => F'
  rename News _ _ _ _ => N'
  rename IntsAre _ _ => hI
  rename Top topProg _ _ _ _ _ => T'
  rename Frag.In _ _ => X'
  have TR := topRead_of T'
  have G : Mine.Gd _ _ _ _ := ⟨X', T'.g, T'.b, T'.builtins, T'.nolimit, by
    obtain ⟨bm, ob, e1, e2, e3, e4, e5, e6⟩ := T'.bmain
    have e4' := mg_of (n := Str.ofString "__builtins__") (v := .ref 4) X' T'.g (by kernel_rfl)
    rw [show ("__builtins__" : Str) = Str.ofString "__builtins__" from rfl] at e1
    rw [e4'] at e1
    cases e1
    exact ⟨ob, e3, e4, e5, e6⟩⟩
  have fresh : ∀ k, (ghostOf _ [(20, 16)]).get? (_ + k) = none := fun k => Mine.fresh_none (Nat.le_trans F'.above (Nat.le_add_right _ k))
  rename_i h₁ tk₁ c3 c2 c1 d3 d2 d1 X0 K0 l0
  have lt : Mine.LT _ _ h₁ #[] _ none none none := {
    T := ⟨⟨F'.keep, hideAll_none _ (.head _), (N' (16, tabObj #[]) (by simp)).1, trivial, codeHd⟩, .inl rfl⟩
    no := by
      intro p hp
      simp only [List.mem_cons, List.not_mem_nil, or_false] at hp
      rcases hp with rfl | rfl | rfl | rfl
      · exact fresh 0
      · exact fresh 1
      · exact fresh 2
      · exact fresh 3
    ns := F'.ns
    ca := ⟨c1, (N' _ (.tail _ (.tail _ (.head _)))).1, d1⟩
    cb := ⟨c2, (N' _ (.tail _ (.head _))).1, d2⟩
    cc := ⟨c3, (N' _ (.head _)).1, d3⟩ }
  refine wpAny_mono (Mine.lawBody G TR lt ?ms lifted hI ?len ?room ?hh ?hu ?hQ) (fun _ _ q => q) fun _ _ e => e.elim
  case ms => rfl
  case len => omega
  case room => simp only [depth_deeper, depth_caller]; decide
  case hh => rfl
  case hu => first | (simp only [units_deeper, units_caller]; decide) | exact (by decide : (0 : Nat) + 64 < cLine) | kernel_rfl
  case hQ =>
    intro g h' tk ps m' a b c sg lt'
    refine ⟨goodW_bool ⟨lt'.ns, sg.tr lt'.st, F'.above⟩ (by assumption) (fun _ => rfl) (by first | kernel_rfl | (simp; done)), ⟨ps, lt'.T.1.tab⟩, trivial⟩)
