import PyProof.Rows.All
import Wide.All
import OpenK.AllK
import Wide.FinOn
import PySem.Challenge.RW_bb6044_01

set_option Elab.async false

section
open PySem PySem.W PyProof.Rows
namespace Mine
set_option maxRecDepth 100000 in
set_option maxHeartbeats 8000000 in
open_top hd for PySem.Challenge.rw_bb6044_01
end Mine
end

section
open PySem PySem.W PySem.Spec PySem.Calls PyProof.Rows
namespace Mine

/-- a call of one of the text's defs gives a value that R tells of; the frame and the ledger are as they were -/
def Told (w : World) (f : Addr) (vs : List Value) (R : Value → Prop) : Prop :=
  ∀ (p : Program) (loose : List Str) (mean : ExcName → Option Value) (mg mb : Str → Option Value) (dp un : Nat) (gd : Option (List Code)) (cn : Str) (cs : Scope) (a : Addr) (ccd : Value) (cl : List (Str × Addr)) (outer : List Env) (A₀ : Around) (base h₀ : Heap) (L : Addr) (m : Str → Option Value) (news : List (Addr × Obj)) (s : Shared) (Q E : Value → Shared → Prop),
    Below A₀ base outer h₀ → Fr h₀ L s.heap m → (hd.heap_39 w.params).In h₀ → News h₀ L s.heap news → Top p loose mean mg mb h₀ → cs.kind = .function → dp + 8 < recursionLimit → un + 64 < cLine →
    (∀ v h' tk', R v → Fr h₀ L h' m → News h₀ L h' news → Q v { s with heap := h', toks := tk' }) →
    wpAny (model PySem.Challenge.rw_bb6044_01.row.prog w) (ktrTop dp un gd cn cs L a ccd cl outer) (call (.ref f) vs) Q E s

/-- the same of a call that the law itself makes -/
def ToldL (w : World) (f : Addr) (vs : List Value) (R : Value → Prop) : Prop :=
  ∀ (p : Program) (loose : List Str) (mean : ExcName → Option Value) (mg mb : Str → Option Value) (cn : Str) (cs : Scope) (a : Addr) (ccd : Value) (h₀ : Heap) (L : Addr) (m : Str → Option Value) (news : List (Addr × Obj)) (s : Shared) (Q E : Value → Shared → Prop),
    Below callerA h₀ [] h₀ → Fr h₀ L s.heap m → (hd.heap_39 w.params).In h₀ → News h₀ L s.heap news → Top p loose mean mg mb h₀ → cs.kind = .function →
    (∀ v h' tk', R v → Fr h₀ L h' m → News h₀ L h' news → Q v { s with heap := h', toks := tk' }) →
    wpAny (model PySem.Challenge.rw_bb6044_01.row.prog w) (callerA.deeper (envOf cn cs L a ccd)) (call (.ref f) vs) Q E s

/-- the same of a call that reaches a generator expression: the code table 81 lies in the ledger -/
def ToldT (w : World) (f : Addr) (vs : List Value) (R : Value → Prop) : Prop :=
  ∀ (p : Program) (loose : List Str) (mean : ExcName → Option Value) (mg mb : Str → Option Value) (cn : Str) (cs : Scope) (a : Addr) (ccd : Value) (h₀ : Heap) (L : Addr) (m : Str → Option Value) (news : List (Addr × Obj)) (ps : Array Value) (s : Shared) (Q E : Value → Shared → Prop),
    Below callerA h₀ [] h₀ → Fr h₀ L s.heap m → (hd.heap_39 w.params).In h₀ → News h₀ L s.heap ((81, tabObj ps) :: news) → (∀ p ∈ news, p.1 ≠ 81) → TriplesOk ps.toList → AllBare s.gens → CodeHd h₀ 85 81 → Top p loose mean mg mb h₀ → cs.kind = .function →
    (∀ v h' d' g' tk' ps', R v → Fr h₀ L h' m → News h₀ L h' ((81, tabObj ps') :: news) → TriplesOk ps'.toList → AllBare g' → Q v { s with heap := h', gens := g', drawn := d', toks := tk' }) →
    wpAny (model PySem.Challenge.rw_bb6044_01.row.prog w) (callerA.deeper (envOf cn cs L a ccd)) (call (.ref f) vs) Q E s

def months : List Str := ["Pop", "Wo'", "Zip", "Sotz'", "Sek", "Xul", "Yaxk'in'", "Mol", "Ch'en", "Yax", "Sak'", "Keh", "Mak", "K'ank'in", "Muwan'", "Pax", "K'ayab", "Kumk'u", "Wayeb'"].map Str.ofString
def names : List Str := ["Imix'", "Ik'", "Ak'b'al", "K'an", "Chikchan", "Kimi", "Manik'", "Lamat", "Muluk", "Ok", "Chuwen", "Eb'", "B'en", "Ix", "Men", "K'ib'", "Kab'an", "Etz'nab'", "Kawak", "Ajaw"].map Str.ofString
end Mine
end

section
open PySem PySem.W PySem.Spec PySem.Calls PyProof.Rows
namespace Mine

def haabVals : List Value := months.zipIdx.map fun p => .str p.1 (391 + p.2)
def namVals : List Value := names.zipIdx.map fun p => .str p.1 (411 + p.2)

theorem strsAre_zip (b : Nat) : ∀ (l : List Str) (i : Nat), StrsAre ((l.zipIdx i).map fun p => .str p.1 (b + p.2)) l
  | [], _ => .nil
  | _ :: l, i => .cons _ _ (strsAre_zip b l (i + 1))
theorem haab_strs : StrsAre haabVals months := strsAre_zip 391 months 0
theorem nam_strs : StrsAre namVals names := strsAre_zip 411 names 0

theorem haab_in (P : Params) : (hd.heap_39 P).lookup 50 = some ⟨.type "list", none, .seq haabVals.toArray 0, #[]⟩ := by kernel_rfl
theorem nam_in (P : Params) : (hd.heap_39 P).lookup 51 = some ⟨.type "list", none, .seq namVals.toArray 0, #[]⟩ := by kernel_rfl

section
variable {w : World} {h₀ h : Heap} {L : Addr} {m : Str → Option Value}
theorem haab_at (X : (hd.heap_39 w.params).In h₀) (F : Fr h₀ L h m) : h.get? 50 = some ⟨.type "list", none, .seq haabVals.toArray 0, #[]⟩ := F.keep _ _ (X _ _ (haab_in _))
theorem nam_at (X : (hd.heap_39 w.params).In h₀) (F : Fr h₀ L h m) : h.get? 51 = some ⟨.type "list", none, .seq namVals.toArray 0, #[]⟩ := F.keep _ _ (X _ _ (nam_in _))
theorem haab_list (X : (hd.heap_39 w.params).In h₀) (F : Fr h₀ L h m) : h.IsList 50 haabVals.toArray := ⟨_, haab_at X F, rfl, 0, rfl⟩
theorem nam_list (X : (hd.heap_39 w.params).In h₀) (F : Fr h₀ L h m) : h.IsList 51 namVals.toArray := ⟨_, nam_at X F, rfl, 0, rfl⟩
end

/-- the place of a text in a list of texts -/
theorem isStrOf_at (k : Str) : ∀ {vs : List Value} {ws : List Str}, StrsAre vs ws → ∀ (j : Nat) (h1 : j < vs.length) (h2 : j < ws.length), isStrOf k vs[j] = (ws[j] == k)
  | _, _, .cons n t _, 0, _, _ => rfl
  | _, _, .cons n t r, j + 1, h1, h2 => isStrOf_at k r j (Nat.lt_of_succ_lt_succ h1) (Nat.lt_of_succ_lt_succ h2)
theorem strs_len : ∀ {vs : List Value} {ws : List Str}, StrsAre vs ws → vs.length = ws.length
  | _, _, .nil => rfl
  | _, _, .cons _ _ r => congrArg (· + 1) (strs_len r)

section
open PySem.SeqAt
variable {prog : Program} {w : World} {A : Around} {E : Value → Shared → Prop} {s : Shared} {h₀ : Heap} {L : Addr} {m : Str → Option Value}

theorem index_strs {l : Addr} {vs : List Value} {ws : List Str} {x : Str} {t : Tok} {j : Nat} {Q : Value → Shared → Prop} (hl : s.heap.IsList l vs.toArray) (hw : StrsAre vs ws)
    (hj : j < ws.length) (hx : ws[j]? = some x) (hno : ∀ i, i < j → ws[i]? ≠ some x) (hfit : ws.length < 2 ^ 62) (h : Q (.int (j : Nat) s.toks) { s with toks := s.toks + 1 }) :
    wpAny (model prog w) A (call (.builtin "list.index") [.ref l, .str x t]) Q E s := by
  obtain ⟨⟨cls, dd, data, sl⟩, ho, hc, n, hd⟩ := id hl
  simp only at hc hd
  subst hc hd
  have hlen := strs_len hw
  refine call_meets PySem.F.slot_list_index ⟨_, ho, rfl⟩ PySem.F.entry_list_index (PySem.F.args_list_index_2 _ _)
    (list_indexAt l vs.toArray n dd sl (.str x t) (isStrOf x) j (by simpa [hlen] using hj) (by omega) ?_ ?_) ⟨ho, fun y hy => (eq_isStrOf x t hw y (by simpa using hy)).at _ _, h⟩
  · show isStrOf x vs[j] = true
    rw [isStrOf_at x hw _ (by omega) hj]
    rw [List.getElem?_eq_getElem hj] at hx
    rw [Option.some.inj hx]
    exact beq_self_eq_true x
  · intro i hi hlt
    have hiv : i < vs.length := by simpa using hi
    show isStrOf x vs[i] = false
    rw [isStrOf_at x hw i hiv (by omega)]
    have := hno i hlt
    rw [List.getElem?_eq_getElem (by omega : i < ws.length)] at this
    exact beq_eq_false_iff_ne.mpr fun e => this (by rw [e])

end

theorem months_nodup : ∀ j, j < 19 → ∀ i, i < j → months[i]? ≠ months[j]? := by decide +kernel
theorem names_nodup : ∀ j, j < 20 → ∀ i, i < j → names[i]? ≠ names[j]? := by decide +kernel
theorem months_get {k : Nat} (hk : k < 19) : months[k]? = some (months.getD k Str.empty) := by
  rw [List.getD_eq_getElem?_getD, List.getElem?_eq_getElem (show k < months.length from hk)]; rfl
theorem names_get {k : Nat} (hk : k < 20) : names[k]? = some (names.getD k Str.empty) := by
  rw [List.getD_eq_getElem?_getD, List.getElem?_eq_getElem (show k < names.length from hk)]; rfl

section
variable {prog : Program} {w w' : World} {A : Around} {E : Value → Shared → Prop} {s : Shared} {h₀ : Heap} {L : Addr} {m : Str → Option Value}
theorem haab_method {pl : Sem Bool} {Q : Value × List Value → Shared → Prop} (X : (hd.heap_39 w'.params).In h₀) (F : Fr h₀ L s.heap m) (h : Q (.builtin "list.index", [.ref 50]) s) :
    wpAny (model prog w) A (getMethod (.ref 50) (Str.ofString "index") pl) Q E s :=
  getMethod_list_of PySem.F.slot_list_index PySem.F.type_list_index (haab_list X F) ⟨_, haab_at X F, rfl⟩ h
theorem nam_method {pl : Sem Bool} {Q : Value × List Value → Shared → Prop} (X : (hd.heap_39 w'.params).In h₀) (F : Fr h₀ L s.heap m) (h : Q (.builtin "list.index", [.ref 51]) s) :
    wpAny (model prog w) A (getMethod (.ref 51) (Str.ofString "index") pl) Q E s :=
  getMethod_list_of PySem.F.slot_list_index PySem.F.type_list_index (nam_list X F) ⟨_, nam_at X F, rfl⟩ h
theorem haab_index {k : Nat} {t : Tok} {Q : Value → Shared → Prop} (X : (hd.heap_39 w'.params).In h₀) (F : Fr h₀ L s.heap m) (hk : k < 19) (h : ∀ t' tk', Q (.int (k : Nat) t') { s with toks := tk' }) :
    wpAny (model prog w) A (call (.builtin "list.index") [.ref 50, .str (months.getD k Str.empty) t]) Q E s :=
  index_strs (haab_list X F) haab_strs hk (months_get hk) (fun i hi => by rw [← months_get hk]; exact months_nodup k hk i hi) (by decide) (h _ _)
theorem nam_index {k : Nat} {t : Tok} {Q : Value → Shared → Prop} (X : (hd.heap_39 w'.params).In h₀) (F : Fr h₀ L s.heap m) (hk : k < 20) (h : ∀ t' tk', Q (.int (k : Nat) t') { s with toks := tk' }) :
    wpAny (model prog w) A (call (.builtin "list.index") [.ref 51, .str (names.getD k Str.empty) t]) Q E s :=
  index_strs (nam_list X F) nam_strs hk (names_get hk) (fun i hi => by rw [← names_get hk]; exact names_nodup k hk i hi) (by decide) (h _ _)
end
end Mine
end

section
open PySem PySem.W PySem.Spec PySem.Calls PyProof.Rows
namespace Mine
section
variable {M : Model} {A : Around} {E : Value → Shared → Prop} {s : Shared}
theorem raiseStr_exc {α : Type} {X N I : String} (hc : ExcClass X N I) {msg : Str} {Q : α → Shared → Prop} (hh : A.handled = none)
    (h : ∀ h' tk e, Heap.NewExc s.heap h' e X → E (.ref e) { s with heap := h', toks := tk }) (hm : msg.length ≤ sizeLine) :
    wpAny M A (PySem.Builtin.List.listRaiseStr X msg : Sem α) Q E s := by
  unfold PySem.Builtin.List.listRaiseStr
  refine wpAny_bind (wpAny_mkStr (wpAny_bind ?_) hm)
  unfold newExc newTuple
  refine wpAny_bind (wpAny_newObj_type ?_ (by size_fits))
  refine wpAny_bind (m := firstArgMember _ _) (wpAny_of_eq (a := Value.none) (by simp only [firstArgMember, hc.noFirst]; rfl) ?_)
  rw [hc.noOwn]
  refine wpAny_newObj_type ?_ (by size_fits)
  unfold raiseNew
  refine wpAny_bind (wpAny_handled ?_)
  rw [hh]
  first
    | refine wpAny_throw ?_
    | refine wpAny_bind (wpAny_pure (wpAny_throw ?_))
  exact h _ _ _ ⟨fun b o hb => Heap.get?_push_of_some _ (Heap.get?_push_of_some _ hb), Heap.get?_none_of_le (by simp), _, .ref s.heap.objs.size, Heap.get?_push_size _ rfl, rfl, by simp⟩
end

section
open PySem.SeqAt MeetsSeq
open AutoSeq1 (wpAny_loadPart')
theorem index_loop_none (l : Addr) (items : Array Value) (n : Nat) (dd : Option Addr) (sl : Array (Option Value)) (x : Str) (t : Tok) (e : Value → Bool) (upto : Int)
    (hno : ∀ m (hm : m < items.size), e items[m] = false) (hsz : ((reprText x) ++ (" is not in list" : String)).length ≤ sizeLine) (hsz' : (reprText x).length ≤ sizeLine) (k : Nat) :
    ∀ i : Nat, items.size - i = k → Meets (Builtin.«list.index.loop» ⟨[.ref l, .str x t, rawInt i, rawInt upto], []⟩)
      (fun A R s => A.handled = none ∧ s.heap.get? l = some { cls := .type "list", dict := dd, data := .seq items n, slots := sl } ∧ (∀ y, y ∈ items → EqAt A.in1 s y (.str x t) (e y)) ∧
        ∀ h' tk e, Heap.NewExc s.heap h' e "ValueError" → R (.error (.ref e)) { s with heap := h', toks := tk }) := by
  have fin : ∀ i : Nat, (if (i : Int) < upto then items[((i : Nat) : Int).toNat]? else none) = none → Meets (Builtin.«list.index.loop» ⟨[.ref l, .str x t, rawInt i, rawInt upto], []⟩)
      (fun A R s => A.handled = none ∧ s.heap.get? l = some { cls := .type "list", dict := dd, data := .seq items n, slots := sl } ∧ (∀ y, y ∈ items → EqAt A.in1 s y (.str x t) (e y)) ∧
        ∀ h' tk e, Heap.NewExc s.heap h' e "ValueError" → R (.error (.ref e)) { s with heap := h', toks := tk }) := by
    intro i hi prog w A R s h
    obtain ⟨hp, g, d, tk, os⟩ := s; obtain ⟨hh, hl, he, h⟩ := h
    wp_walk using wpAny_loadPart' hl
    rw [hi]
    refine wpAny_bind (wpAny_rule ?_)
    refine wpAny_bind (wpAny_pyRepr_str ?_ hsz')
    dsimp only
    with_reducible show wpAny _ A.in1 (PySem.Builtin.List.listRaiseStr "ValueError" _) _ _ _
    with_reducible refine raiseStr_exc (A := A.in1) (X := "ValueError") (msg := reprText x ++ (" is not in list" : String)) excClass_ValueError ?_ ?_ ?_
    · exact hh
    · intro h' tk e hx
      exact h h' tk e hx
    · exact hsz
  induction k with
  | zero =>
    intro i hk
    exact fin i (by
      split
      · simp; omega
      · rfl)
  | succ k ih =>
    intro i hk
    by_cases hst : (i : Int) < upto
    · intro prog w A R s h
      obtain ⟨hp, g, d, tk, os⟩ := s; obtain ⟨hh, hl, he, h⟩ := h
      have hlt : i < items.size := by omega
      wp_walk using wpAny_loadPart' hl
      have hi : (if (i : Int) < upto then items[((i : Nat) : Int).toNat]? else none) = some items[i] := by simp [hst, hlt]
      have hc : ((i : Int) + 1) = ((i + 1 : Nat) : Int) := by push_cast; rfl
      rw [hi]
      refine wpAny_bind (he _ (Array.getElem_mem hlt) prog w _ _ ?_)
      rw [hno i hlt]
      wp_walk
      rw [hc]
      exact ⟨plainId_quiet plain_index_loop _, codeAny_builtin entry_index_loop (by
        rw [Around.under_plainId plain_index_loop _]
        exact ih (i + 1) (by omega) prog w A R _ ⟨hh, hl, he, h⟩)⟩
    · exact fin i (by simp [hst])

theorem list_index_none (l : Addr) (items : Array Value) (n : Nat) (dd : Option Addr) (sl : Array (Option Value)) (x : Str) (t : Tok) (e : Value → Bool)
    (hno : ∀ m (hm : m < items.size), e items[m] = false) (hsz : ((reprText x) ++ (" is not in list" : String)).length ≤ sizeLine) (hsz' : (reprText x).length ≤ sizeLine) :
    Meets (Builtin.«list.index» ⟨[.ref l, .str x t], []⟩)
      (fun A R s => A.handled = none ∧ s.heap.get? l = some { cls := .type "list", dict := dd, data := .seq items n, slots := sl } ∧ (∀ y, y ∈ items → EqAt A.in1 s y (.str x t) (e y)) ∧
        ∀ h' tk e, Heap.NewExc s.heap h' e "ValueError" → R (.error (.ref e)) { s with heap := h', toks := tk }) := by
  intro prog w A R s h
  obtain ⟨hp, g, d, tk, os⟩ := s; obtain ⟨hh, hl, he, h⟩ := h
  wp_walk using wpAny_loadPart' hl
  have a1 : ((fun i : Int => if i < 0 then max 0 (i + (items.size : Int)) else i) ((none : Option Int).getD 0)) = ((0 : Nat) : Int) := by simp
  rw [a1]
  exact ⟨plainId_quiet plain_index_loop _, codeAny_builtin entry_index_loop (by
    rw [Around.under_plainId plain_index_loop _]
    exact index_loop_none l items n dd sl x t e _ hno hsz hsz' _ 0 rfl prog w A R _ ⟨hh, hl, he, h⟩)⟩

variable {prog : Program} {w : World} {A : Around} {E : Value → Shared → Prop} {s : Shared}
theorem index_strs_none {l : Addr} {vs : List Value} {ws : List Str} {x : Str} {t : Tok} {Q : Value → Shared → Prop} (hl : s.heap.IsList l vs.toArray) (hw : StrsAre vs ws)
    (hx : x ∉ ws) (hh : A.handled = none) (hsz : ((reprText x) ++ (" is not in list" : String)).length ≤ sizeLine) (hsz' : (reprText x).length ≤ sizeLine)
    (h : ∀ h' tk e, Heap.NewExc s.heap h' e "ValueError" → E (.ref e) { s with heap := h', toks := tk }) :
    wpAny (model prog w) A (call (.builtin "list.index") [.ref l, .str x t]) Q E s := by
  obtain ⟨⟨cls, dd, data, sl⟩, ho, hc, n, hd⟩ := id hl
  simp only at hc hd
  subst hc hd
  have hlen := strs_len hw
  refine call_meets PySem.F.slot_list_index ⟨_, ho, rfl⟩ PySem.F.entry_list_index (PySem.F.args_list_index_2 _ _)
    (list_index_none l vs.toArray n dd sl x t (isStrOf x) ?_ hsz hsz') ⟨hh, ho, fun y hy => (eq_isStrOf x t hw y (by simpa using hy)).at _ _, h⟩
  intro i hi
  have hiv : i < vs.length := by simpa using hi
  show isStrOf x vs[i] = false
  rw [isStrOf_at x hw i hiv (by omega)]
  exact beq_eq_false_iff_ne.mpr fun e => hx (e ▸ List.getElem_mem (by omega))

/-- what a text must be for the refusals' messages to be made -/
structure Short (x : Str) : Prop where
  len : x.length ≤ 100
  rep : (reprText x).length ≤ 1000
theorem Short.r1 {x : Str} (h : Short x) : ((reprText x) ++ (" is not in list" : String)).length ≤ sizeLine := by
  have := h.rep
  rw [PySem.Str.length_append, sizeLine_eq]
  have : (Str.ofString " is not in list").length = 15 := by decide +kernel
  omega
theorem Short.r2 {x : Str} (h : Short x) : (reprText x).length ≤ sizeLine := by
  have := h.rep
  rw [sizeLine_eq]
  omega
variable {h₀ : Heap} {L : Addr} {m : Str → Option Value} {w' : World}
theorem haab_index_none {x : Str} {t : Tok} {Q : Value → Shared → Prop} (X : (hd.heap_39 w'.params).In h₀) (F : Fr h₀ L s.heap m) (hs : Short x) (hx : x ∉ months) (hh : A.handled = none)
    (h : ∀ h' tk e, Heap.NewExc s.heap h' e "ValueError" → E (.ref e) { s with heap := h', toks := tk }) :
    wpAny (model prog w) A (call (.builtin "list.index") [.ref 50, .str x t]) Q E s :=
  index_strs_none (haab_list X F) haab_strs hx hh hs.r1 hs.r2 h
theorem nam_index_none {x : Str} {t : Tok} {Q : Value → Shared → Prop} (X : (hd.heap_39 w'.params).In h₀) (F : Fr h₀ L s.heap m) (hs : Short x) (hx : x ∉ names) (hh : A.handled = none)
    (h : ∀ h' tk e, Heap.NewExc s.heap h' e "ValueError" → E (.ref e) { s with heap := h', toks := tk }) :
    wpAny (model prog w) A (call (.builtin "list.index") [.ref 51, .str x t]) Q E s :=
  index_strs_none (nam_list X F) nam_strs hx hh hs.r1 hs.r2 h
end
end Mine
end

section
open PySem PySem.W PySem.Spec PySem.Calls PyProof.Rows
namespace Mine

/-- what stands where the frames' own objects are hidden -/
structure Hidden (base g h : Heap) (env : Env) (outer : List Env) (L : Addr) (news : List (Addr × Obj)) (B : Heap) : Prop where
  low : base.StaysIn B
  sub : B.StaysIn h
  grd : ∀ b o, g.get? b = some o → b ∉ outer.filterMap (·.frame) → B.get? b = some o
  nws : ∀ q ∈ news, B.get? q.1 = some q.2 ∧ g.get? q.1 = none ∧ base.get? q.1 = none
  frs : h.FunFrames B (env :: outer)
  loc : B.get? L = none

theorem fmem {env : Env} {outer : List Env} {L b : Addr} (hf : env.frame = some L) (hm : b ∈ (env :: outer).filterMap (·.frame)) : b = L ∨ b ∈ outer.filterMap (·.frame) := by
  obtain ⟨e, he, hb⟩ := List.mem_filterMap.mp hm
  rcases List.mem_cons.mp he with rfl | he
  · rw [hf] at hb; exact .inl (Option.some.inj hb).symm
  · exact .inr (List.mem_filterMap.mpr ⟨e, he, hb⟩)

section
variable {A A₀ : Around} {base g h h₅ B : Heap} {env : Env} {outer : List Env} {L : Addr} {m : Str → Option Value} {news : List (Addr × Obj)}

theorem hidden_of (Kg : Below A₀ base outer g) (hf : env.frame = some L) (hk : env.scope.kind = .function) (F : Fr g L h m) (N : News g L h news) :
    Hidden base g h env outer L news (hideAll h ((env :: outer).filterMap (·.frame))) := by
  have K' : Below (A₀.deeper env) base (env :: outer) h := pushX Kg F hf hk
  have hin : ∀ e ∈ (env :: outer), ∀ b, e.frame = some b → b ∈ (env :: outer).filterMap (·.frame) := fun e he b hb => List.mem_filterMap.mpr ⟨e, he, hb⟩
  refine ⟨fun b o q => hideAll_get _ (K'.stays b o q) fun hm => ?_, fun b o q => of_hideAll _ q, fun b o q nm => hideAll_get _ (F.keep b o q) fun hm => ?_, fun q hq => ⟨hideAll_get _ (N q hq).1 fun hm => ?_, (N q hq).2.2, fresh_of_stays Kg.stays (N q hq).2.2⟩,
    funFrames_hide K'.frames hin, hideAll_none _ (List.mem_filterMap.mpr ⟨env, .head _, hf⟩)⟩
  · rw [(K'.frames.mem hm).1] at q; cases q
  · rcases fmem hf hm with z | z
    · rw [z, kts_self F] at q; cases q
    · exact nm z
  · rcases fmem hf hm with z | z
    · exact (N q hq).2.1 z
    · obtain ⟨_, o, ho, _⟩ := Kg.frames.mem z
      rw [(N q hq).2.2] at ho; cases ho

/-- the frame's facts anew, behind a raise that has marked the frames -/
theorem reground (Kg : Below A₀ base outer g) (hf : env.frame = some L) (F : Fr g L h m) (H : Hidden base g h env outer L news B) (hB : B.StaysIn h₅) (hsm : h.UpToSlots h₅) :
    ∃ g', KtsTurn (outer.filterMap (·.frame)) g g' ∧ Fr g' L h₅ m ∧ Below A₀ base outer g' ∧ News g' L h₅ news := by
  obtain ⟨T, S⟩ := kts_turn_at (h := h₅) (fs := outer.filterMap (·.frame)) (g := g)
    (fun b hb => let ⟨_, o, ho, _⟩ := Kg.frames.mem hb; ⟨o, ho⟩)
    (fun b o e nm => hB b o (H.grd b o e nm))
    (fun b o e hm => by
      obtain ⟨_, o', ho', hd⟩ := Kg.frames.mem hm
      rw [e] at ho'
      cases ho'
      exact hsm b o (F.keep b o e) hd)
  refine ⟨_, T, ⟨hsm.ns F.ns, S, by rw [T.size]; exact F.above⟩, ⟨Kg.stack, fun b o e => T.other b o (Kg.stays b o e) (fun hm => by
    rw [(Kg.frames.mem hm).1] at e
    cases e), Kg.frames.of_keeps fun b o e _ => ?_⟩, fun q hq => ⟨hB _ _ (H.nws q hq).1, fun z => ?_, T.none_ _ (H.nws q hq).2.1⟩⟩
  · obtain ⟨sl, hs⟩ := T.up e
    exact ⟨_, hs, rfl⟩
  · have := (H.nws q hq).1
    rw [z, H.loc] at this
    cases this
end

/-- an exception with one entry of its traceback: fl is the frame's mark in it -/
structure Marked (B : Heap) (l : List Env) (e : Addr) (cls : Value) (vs : Array Value) (fl : Value) (h : Heap) : Prop where
  low : B.StaysIn h
  frs : h.FunFrames B l
  none_ : B.get? e = none
  there : ∃ oe T oT ts, h.get? e = some oe ∧ oe.cls = cls ∧ oe.data = .fields (vs.setIfInBounds 1 (.ref T)) ∧ B.get? T = none ∧ T ≠ e ∧ h.get? T = some oT ∧ oT.data = .fields ts ∧ ts[3]? = some fl
  one : 1 < vs.size

section
variable {M : Model} {A : Around} {E : Value → Shared → Prop} {s : Shared} {B : Heap} {env : Env} {outer l : List Env} {L e : Addr} {oe : Obj} {vs : Array Value} {cls fl : Value} {Q : Unit → Shared → Prop}

theorem note_first (hfr : A.frames = some (env :: outer)) (hl : s.heap.FunFrames B (env :: outer)) (hf : env.frame = some L) (he : s.heap.get? e = some oe) (hkb : B.StaysIn s.heap) (hen : B.get? e = none)
    (hd : oe.data = .fields vs) (h1 : vs[1]? = some .none)
    (h : ∀ h', Marked B (env :: outer) e oe.cls vs (rawInt L) h' → s.heap.UpToSlots h' → Q () { s with heap := h' }) : wpAny M A (noteFrame (.ref e) env) Q E s := by
  have hene : e ∉ (env :: outer).filterMap (·.frame) := fun hm => by
    obtain ⟨_, o, ho, hnf⟩ := hl.mem hm
    rw [he] at ho; injection ho with ho; subst ho; exact hnf vs hd
  have hsz := (Array.getElem?_eq_some_iff.mp h1).1
  unfold noteFrame
  simp only [hf]
  refine wpAny_bind (wpAny_field he hd h1 ?_)
  rw [if_neg (by decide)]
  refine wpAny_bind (wpAny_frameOf_fun hfr hl hf fun h₁ hs₁ => ?_)
  refine wpAny_bind (wpAny_entryPlaceOf fun pl hpl => ?_)
  unfold EntryCells.newEntry newFields
  refine wpAny_bind (wpAny_newObj_type ?_ (hpl.sizeOk5 _ _ _ _ _))
  have he₁ : h₁.get? e = some oe := (hs₁.2.1 e hene).trans he
  have kb₁ : B.StaysIn h₁ := fun b o hbo => (hs₁.2.1 b fun hm => by rw [(hl.mem hm).1] at hbo; cases hbo).trans (hkb b o hbo)
  have he₂ := Heap.get?_push_of_some (h := h₁) { cls := .type "traceback", dict := none, data := .fields ([Value.none, .ref L, .none, rawInt L, .none] ++ (if pl.isEmpty then List.replicate 6 Value.none else pl)).toArray } he₁
  refine wpAny_setField he₂ hd hsz (h _ ?_ ?_)
  all_goals
    have hTe : h₁.objs.size ≠ e := Nat.ne_of_gt (Heap.lt_size he₁)
    have hd₃ := Obj.data_mapFields hd (·.setIfInBounds 1 (Value.ref h₁.objs.size))
    have he₃ := Heap.get?_update_self (Obj.mapFields (·.setIfInBounds 1 (Value.ref h₁.objs.size))) he₂ (Obj.isFreed_of_fields hd₃)
    have hT₃ := (Heap.get?_update_other (h₁.push { cls := .type "traceback", dict := none, data := .fields ([Value.none, .ref L, .none, rawInt L, .none] ++ (if pl.isEmpty then List.replicate 6 Value.none else pl)).toArray })
      (Obj.mapFields (·.setIfInBounds 1 (Value.ref h₁.objs.size))) (Ne.symm hTe)).trans (Heap.get?_push_size h₁ rfl)
    have keep : ∀ b o, b ≠ e → h₁.get? b = some o →
        ((h₁.push { cls := .type "traceback", dict := none, data := .fields ([Value.none, .ref L, .none, rawInt L, .none] ++ (if pl.isEmpty then List.replicate 6 Value.none else pl)).toArray }).update e (Obj.mapFields (·.setIfInBounds 1 (Value.ref h₁.objs.size)))).get? b = some o :=
      fun b o hbe hb => by
        rw [Heap.get?_update_other _ _ (Ne.symm hbe)]
        exact Heap.get?_push_of_some _ hb
    have noRecord : ∀ b o, s.heap.get? b = some o → (∀ vs, o.data ≠ .fields vs) → b ≠ e := fun b o hb hnf q => by
      rw [q, he] at hb; injection hb with hb; subst hb; exact hnf vs hd
  · refine ⟨fun b o hbo => keep b o (fun q => by rw [q, hen] at hbo; cases hbo) (kb₁ b o hbo), hl.of_keeps fun b o hb hnf => ?_, hen, ?_, hsz⟩
    · obtain ⟨sl, hs⟩ := hs₁.2.2 b o hb
      exact ⟨_, keep b _ (noRecord b o hb hnf) hs, rfl⟩
    · exact ⟨_, h₁.objs.size, _, _, he₃, Obj.cls_mapFields _ _, hd₃, kb₁.fresh, hTe, hT₃, rfl, by first | (simp; done) | (rcases hpl with rfl | ⟨_, _, _, _, _, _, _, rfl⟩ <;> simp)⟩
  · intro b o hb hnf
    obtain ⟨sl, hs⟩ := hs₁.2.2 b o hb
    exact ⟨sl, keep b _ (noRecord b o hb hnf) hs⟩

theorem note_again (hf : env.frame = some L) (H : Marked B l e cls vs (rawInt L) s.heap) (h : Q () s) : wpAny M A (noteFrame (.ref e) env) Q E s := by
  obtain ⟨oe, T, oT, ts, he, hcls, hd, hnT, hTe, hT, hdT, h3⟩ := H.there
  have hsz := H.one
  unfold noteFrame
  simp only [hf]
  refine wpAny_bind (wpAny_field he hd (x := .ref T) (by simp [hsz]) ?_)
  rw [if_pos (show (Value.ref T != Value.none) = true from by simp)]
  refine wpAny_bind (wpAny_field hT hdT h3 ?_)
  rw [if_pos (show (rawInt L == rawInt L) = true from by simp)]
  exact wpAny_pure h

theorem set_mark {fr : Option Addr} (H : Marked B l e cls vs fl s.heap)
    (h : ∀ h', Marked B l e cls vs (fr.elim .none fun f => rawInt f) h' → s.heap.UpToSlots h' → Q () { s with heap := h' }) : wpAny M A (setFlight (.ref e) fr) Q E s := by
  obtain ⟨oe, T, oT, ts, he, hcls, hd, hnT, hTe, hT, hdT, h3⟩ := H.there
  have hsz := H.one
  have hsz3 : 3 < ts.size := (Array.getElem?_eq_some_iff.mp h3).1
  have other : ∀ b, b ≠ T → (s.heap.update T (Obj.mapFields (·.setIfInBounds 3 (fr.elim Value.none fun f => rawInt f)))).get? b = s.heap.get? b :=
    fun b hb => Heap.get?_update_other _ _ (Ne.symm hb)
  have noRecord : ∀ b o, s.heap.get? b = some o → (∀ vs, o.data ≠ .fields vs) → b ≠ T := fun b o hb hnf q => by
    rw [q, hT] at hb; injection hb with hb; subst hb; exact hnf ts hdT
  unfold setFlight
  refine wpAny_bind (wpAny_field he hd (x := .ref T) (by simp [hsz]) ?_)
  rw [if_pos (show (Value.ref T != Value.none) = true from by simp)]
  refine wpAny_setField hT hdT hsz3 (h _ ⟨fun b o hbo => (other b fun q => by rw [q, hnT] at hbo; cases hbo).trans (H.low b o hbo),
    H.frs.of_keeps fun b o hb hnf => ⟨o, (other b (noRecord b o hb hnf)).trans hb, rfl⟩, H.none_, ?_, hsz⟩ fun b o hb hnf => ⟨o.slots, (other b (noRecord b o hb hnf)).trans hb⟩)
  exact ⟨oe, T, _, _, (other e (Ne.symm hTe)).trans he, hcls, hd, hnT, hTe, Heap.get?_update_self _ hT (Obj.isFreed_of_fields (Obj.data_mapFields hdT _)), Obj.data_mapFields hdT _, by simp [hsz3]⟩
end
end Mine
end

section
open PySem PySem.W PySem.Spec PySem.Calls PyProof.Rows
namespace Mine
section
variable {prog : Program} {w : World} {A₀ : Around} {E : Value → Shared → Prop} {s' : Shared} {base g h : Heap} {outer : List Env} {L a e : Addr} {m : Str → Option Value} {name : Str} {scope : Scope} {cd : Value} {cl : List (Str × Addr)}
  {n : Str} {b₀ : Stmt} {suite : List Stmt} {pos np : Pos} {rest : List ExceptHandler} {Q : Flow → Shared → Prop} {news : List (Addr × Obj)} {KF : Frag}
  {p : Program} {loose : List Str} {mean : ExcName → Option Value} {mg mb : Str → Option Value} {x : Str} {X T' : String}

/-- the frame's own try takes a built-in exception that was raised in the frame, at any depth -/
theorem caught_own {env : Env} (henv : env = envX name scope L a cd cl) (hx : Heap.NewExc h s'.heap e X) (F : Fr g L h m) (N : News g L h news) (K : Below A₀ base outer g) (XB : KF.In base) (TB : Top p loose mean mg mb base)
    (ex : nsIn KF mainGlobals x = some none) (hv : bootBuiltins x = some (.type T')) (hn' : x ≠ "__name__")
    (hexc : isSubtype (.type T') (.type "BaseException") = pure true) (hnt : isSubtype (.type ((Manifest.find? T').elim "type" fun y => y.metatype)) (.type "tuple") = pure false) (hsub : isSubtype (.type X) (.type T') = pure true)
    (k : ∀ h' g' tk oe vs, KtsTurn (outer.filterMap (·.frame)) g g' → Fr g' L h' (fun y => if y = n then some (.ref e) else m y) → News g' L h' ((e, oe) :: news) → oe.cls = .type X → oe.data = .fields vs → vs[2]? = some .none →
      Below A₀ base outer g' → KF.In g' → Top p loose mean mg mb g' → (∀ p ∈ news, p.1 ≠ e) →
      wpAny (model prog w) ((A₀.deeper env).mark (some (.ref e))) (execs (b₀ :: suite) env)
        (fun f s₄ => wpAny (model prog w) (A₀.deeper env) (do bindName env n .none; unbindBehindTheSuite env n pos) (fun _ s₅ => Q f s₅) E s₄)
        (AsSuiteRaised (model prog w) ((A₀.deeper env).mark (some (.ref e))) env n pos (notedBy (model prog w) ((A₀.deeper env).mark (some (.ref e))) env (cameBackBy (model prog w) (A₀.deeper env) env E)))
        { s' with heap := h', toks := tk })
    (hk : scope.kind = .function := by rfl) (hlo : env.kindOf n = some .local := by rfl) (hxk : env.kindOf x = some .globalImplicit := by rfl) (hd : (x == ("__debug__" : Str)) = false := by decide) :
    wpAny (model prog w) (A₀.deeper env) (noteFrame (.ref e) env)
      (fun _ s₂ => wpAny (model prog w) (A₀.deeper env) (setFlight (.ref e) none) (fun _ s₃ =>
        wpAny (model prog w) (A₀.deeper env) (handleBy (.ref e) env (.ExceptHandler (some (.Name x np)) (some n) (b₀ :: suite) pos :: rest)) Q E s₃) E s₂) E s' := by
  subst henv
  have H := hidden_of K (env := envX name scope L a cd cl) rfl hk F N
  obtain ⟨ob, tp, he, hcls, hdt⟩ := hx.there
  have hen : (hideAll h ((envX name scope L a cd cl :: outer).filterMap (·.frame))).get? e = none := by
    cases q : (hideAll h ((envX name scope L a cd cl :: outer).filterMap (·.frame))).get? e with
    | none => rfl
    | some o => have := H.sub _ _ q; rw [hx.new] at this; cases this
  refine note_first (Around.frames_deeper K.stack) (H.frs.of_keeps fun b o hb _ => ⟨o, hx.keeps b o hb, rfl⟩) rfl he (fun b o q => hx.keeps b o (H.sub b o q)) hen hdt rfl fun h₂ M₂ u₂ => ?_
  refine set_mark (fr := none) M₂ fun h₃ M₃ u₃ => ?_
  have u3 : h.UpToSlots h₃ := (Heap.UpToSlots.of_keeps hx.keeps).trans (u₂.trans u₃)
  obtain ⟨g₃, T₃, F₃, K₃, N₃⟩ := reground K rfl F H M₃.low u3
  obtain ⟨oe₃, _, _, _, he₃, hc₃, _⟩ := M₃.there
  refine wpAny_handleBy_builtin_as (X := X) (T := T') (b := true) hexc hnt hsub (nameX_B F₃ (XB.keeps K₃.stays) (topRead_of (TB.keeps K₃.stays)) ex hv hn' ⟨rfl, ⟨oe₃, he₃, hc₃.trans hcls⟩, ?_⟩ hk hxk hd)
  refine set_mark (fr := none) M₃ fun h₆ M₆ u₆ => ?_
  obtain ⟨g₆, T₆, F₆, K₆, N₆⟩ := reground K rfl F H M₆.low (u3.trans u₆)
  obtain ⟨oe, T, _, _, he₆, hc₆, hd₆, _⟩ := M₆.there
  have hge : g.get? e = none := kts_none F.keep hx.new
  have heL : e ≠ L := fun z => by
    obtain ⟨o, es, ep, ho, _⟩ := F.ns
    rw [← z, hx.new] at ho; cases ho
  have N₆' : News g₆ L h₆ ((e, oe) :: news) := fun q hq => by
    rcases List.mem_cons.mp hq with rfl | hq
    · exact ⟨he₆, heL, T₆.none_ _ hge⟩
    · exact N₆ q hq
  refine storeX_L F₆ N₆' (fun h₇ F₇ N₇ => ?_) hk hlo
  exact k h₇ g₆ _ oe _ T₆ F₇ N₇ (hc₆.trans hcls) hd₆ (by simp) K₆ (XB.keeps K₆.stays) (TB.keeps K₆.stays) fun q hq z => by
    have := (N q hq).1
    rw [z, hx.new] at this; cases this
end
end Mine
end

section
open PySem PySem.W PySem.Spec PySem.Calls PyProof.Rows
namespace Mine
section
variable {prog : Program} {w : World} {A : Around} {E : Value → Shared → Prop} {s : Shared}

theorem entry_unchain : entryFor table "proto.unchain" = some Builtin.«proto.unchain» := entryFor_of_tree (by kernel_rfl)

theorem unchain_none {v slow : Value} {a : Addr} {o : Obj} {vs : Array Value} {b : Bool} {Q : Value → Shared → Prop} (ho : s.heap.get? a = some o) (hd : o.data = .fields vs) (h2 : vs[2]? = some .none) (h : Q .none s) :
    wpAny (model prog w) A (runValue (.builtin "proto.unchain" ⟨[v, .ref a, slow, .bool b], []⟩)) Q E s := by
  refine wpAny_runValue (codeAny_builtin entry_unchain ?_)
  unfold Builtin.«proto.unchain»
  dsimp only
  refine wpAny_bind (wpAny_field ho hd h2 ?_)
  rw [if_pos (by rfl)]
  exact wpAny_pure h

/-- an exception of a built-in class, at hand -/
theorem not_type {M : Model} {A : Around} {e : Addr} {ob : Obj} {vs : Array Value} {Q : Bool → Shared → Prop} (ha : s.heap.get? e = some ob) (hd : ob.data = .fields vs) (hq : Q false s) : wpAny M A (isType (.ref e)) Q E s := by
  simp only [isType, loadHead]
  refine wpAny_bind (wpAny_loadPart ha ?_)
  rw [hd]; exact wpAny_pure hq
theorem exc_from {M : Model} {A : Around} {X N I : String} (hc : ExcClass X N I) {e : Addr} {ob : Obj} {vs : Array Value} {c : String} {Q : Value → Shared → Prop} (ha : s.heap.get? e = some ob) (hcls : ob.cls = .type X) (hd : ob.data = .fields vs) (hq : Q (.ref e) s) :
    wpAny M A (excFromValue (.ref e) c) Q E s := by
  unfold excFromValue isExcClass
  refine wpAny_bind (wpAny_bind (not_type ha hd ?_))
  simp only [Bool.false_eq_true, if_false]
  refine wpAny_pure ?_
  simp only [Bool.false_eq_true, if_false]
  refine wpAny_bind (wpAny_isInstance ⟨ob, ha, hcls⟩ hc.base ?_)
  simp only [if_true]
  exact wpAny_pure hq
theorem raised_inst {M : Model} {A : Around} {X N I : String} (hc : ExcClass X N I) {e : Addr} {ob : Obj} {Q : Value → Shared → Prop} (ha : s.heap.get? e = some ob) (hcls : ob.cls = .type X) (hq : Q (.ref e) s) :
    wpAny M A (raisedInstance (.ref e)) Q E s := by
  unfold raisedInstance
  refine wpAny_bind (wpAny_typeOf ⟨ob, ha, hcls⟩ (wpAny_bind (m := typeOf (.type X)) (wpAny_pure ?_)))
  rw [if_pos hc.metaType]
  exact wpAny_pure hq
end

/-- what the expression of a «raise .. from ..» gives: a new exception -/
def RfPost (X : String) (g : Heap) (L : Addr) (m : Str → Option Value) (led : List (Addr × Obj)) (k : Addr → Heap → Shared → Prop) (xv : Value) (s₁ : Shared) : Prop :=
  ∃ e₂ h, xv = .ref e₂ ∧ Heap.NewExc h s₁.heap e₂ X ∧ Fr g L h m ∧ News g L h led ∧ k e₂ h s₁

section
variable {prog : Program} {w : World} {A : Around} {E : Value → Shared → Prop} {s : Shared} {env : Env} {X N I : String} {e : Addr} {oe : Obj} {vs : Array Value} {h : Heap}

/-- raise e₂ from e, where e is the one that is handled -/
theorem raise_from {X' N' I' : String} {exc cause : PySem.Expr} {pos : Pos} {Q : Flow → Shared → Prop} (hc : ExcClass X N I) (hc' : ExcClass X' N' I') (hh : A.handled = some (.ref e)) (hcls : oe.cls = .type X') (hd : oe.data = .fields vs) (h2 : vs[2]? = some .none)
    (h : wpAny (model prog w) A (eval exc env) (fun xv s₁ => ∃ e₂ h, xv = .ref e₂ ∧ Heap.NewExc h s₁.heap e₂ X ∧ h.get? e = some oe ∧
      (∀ Q' : Value → Shared → Prop, Q' (.ref e) s₁ → wpAny (model prog w) A (eval cause env) Q' E s₁) ∧
      ∀ h' ob ws, (∀ b o, h.get? b = some o → h'.get? b = some o) → h.get? e₂ = none → h'.get? e₂ = some ob → ob.cls = .type X → ob.data = .fields ws → ws[1]? = some .none → (∃ a0, ws[0]? = some a0) → E (.ref e₂) { s₁ with heap := h' }) E s) :
    wpAny (model prog w) A (exec (.Raise (some exc) (some cause) pos) env) Q E s := by
  show wpAny _ _ (do standAt pos; raiseStmt env (some (do let v ← eval exc env; standAt pos; pure v)) (some (do let c ← eval cause env; standAt pos; pure c))) Q E s
  refine wpAny_bind (wpAny_standAt ?_)
  unfold raiseStmt
  dsimp only
  refine wpAny_bind (wpAny_bind (wpAny_mono h (fun v s₁ h₁ => wpAny_bind (wpAny_standAt (wpAny_pure ?_))) fun _ _ x => x))
  obtain ⟨e₂, h, rfl, hx, he, hcause, hE⟩ := h₁
  obtain ⟨ob, tp, he₂, hcls₂, hd₂⟩ := hx.there
  have hne : e₂ ≠ e := fun z => by rw [z] at hx; rw [hx.new] at he; cases he
  have he1 := hx.keeps _ _ he
  refine wpAny_bind (wpAny_holding (wpAny_bind (hcause _ (wpAny_bind (wpAny_standAt (wpAny_pure ?_))))))
  refine wpAny_bind (wpAny_pure ?_)
  dsimp only
  refine wpAny_bind (wpAny_holding (exc_from hc he₂ hcls₂ hd₂ ?_))
  rw [if_neg (by simp)]
  refine wpAny_bind (wpAny_holding (exc_from hc' he1 hcls hd ?_))
  refine wpAny_bind (wpAny_setField he₂ hd₂ (by simp) ?_)
  have d1 := Obj.data_mapFields hd₂ (·.setIfInBounds 3 (Value.ref e))
  have g1 := Heap.get?_update_self (Obj.mapFields (·.setIfInBounds 3 (Value.ref e))) he₂ (Obj.isFreed_of_fields d1)
  refine wpAny_bind (wpAny_setField g1 d1 (by simp) ?_)
  have d2 := Obj.data_mapFields d1 (·.setIfInBounds 4 (Value.bool true))
  have g2 := Heap.get?_update_self (Obj.mapFields (·.setIfInBounds 4 (Value.bool true))) g1 (Obj.isFreed_of_fields d2)
  refine wpAny_bind (not_type g2 d2 ?_)
  simp only [Bool.false_eq_true, if_false]
  refine wpAny_bind (raised_inst hc g2 (by rw [Obj.cls_mapFields, Obj.cls_mapFields]; exact hcls₂) ?_)
  have ge : ((s₁.heap.update e₂ (Obj.mapFields (·.setIfInBounds 3 (Value.ref e)))).update e₂ (Obj.mapFields (·.setIfInBounds 4 (Value.bool true)))).get? e = some oe :=
    (Heap.get?_update_other _ _ hne).trans ((Heap.get?_update_other _ _ hne).trans he1)
  unfold setFlight
  refine wpAny_bind (wpAny_bind (wpAny_field g2 d2 (x := .none) (by simp) ?_))
  rw [if_neg (by decide)]
  refine wpAny_pure ?_
  unfold raiseNew
  refine wpAny_bind (wpAny_handled ?_)
  rw [hh]
  dsimp only
  rw [if_pos (show (Value.ref e != Value.ref e₂) = true from by simp; exact Ne.symm hne)]
  refine wpAny_bind (wpAny_holding (unchain_none ge hd h2 ?_))
  refine wpAny_bind (m := setField (.ref e₂) 2 (.ref e)) (wpAny_setField g2 d2 (by simp) ?_)
  have d3 := Obj.data_mapFields d2 (·.setIfInBounds 2 (Value.ref e))
  have g3 := Heap.get?_update_self (Obj.mapFields (·.setIfInBounds 2 (Value.ref e))) g2 (Obj.isFreed_of_fields d3)
  refine wpAny_throw (hE _ _ _ (fun b o q => ?_) hx.new g3 (by rw [Obj.cls_mapFields, Obj.cls_mapFields, Obj.cls_mapFields]; exact hcls₂) d3 (by simp) ⟨tp, by simp⟩)
  have hb : e₂ ≠ b := fun z => by rw [← z, hx.new] at q; cases q
  exact (Heap.get?_update_other _ _ hb).trans ((Heap.get?_update_other _ _ hb).trans ((Heap.get?_update_other _ _ hb).trans (hx.keeps b o q)))
end
end Mine
end

section
open PySem PySem.W PySem.Spec PySem.Calls PyProof.Rows
namespace Mine

theorem funFrames_same {base h h' : Heap} {L : Addr} {o' : Obj} (hs : Heap.SameBut L h h') (ho : h'.get? L = some o') (hn : ∀ vs, o'.data ≠ .fields vs) : ∀ {l : List Env}, h.FunFrames base l → h'.FunFrames base l
  | [], _ => trivial
  | _ :: _, ⟨hk, ⟨L₁, o, hf, hb, hg, hd⟩, hr⟩ => by
    refine ⟨hk, ?_, funFrames_same hs ho hn hr⟩
    by_cases z : L₁ = L
    · subst z; exact ⟨L₁, o', hf, hb, ho, hn⟩
    · exact ⟨L₁, o, hf, hb, (hs.2 L₁ z).trans hg, hd⟩

theorem marked_same {B h h' : Heap} {l : List Env} {e L : Addr} {cls fl : Value} {vs : Array Value} {m m' : Str → Option Value} (H : Marked B l e cls vs fl h) (hs : Heap.SameBut L h h') (hn : h.Ns L m) (hn' : h'.Ns L m') (hL : B.get? L = none) : Marked B l e cls vs fl h' := by
  obtain ⟨oe, T, oT, ts, he, hc, hd, hnT, hTe, hT, hdT, h3⟩ := H.there
  obtain ⟨o, es, ep, ho, hod, _⟩ := hn
  obtain ⟨o', es', ep', ho', hod', _⟩ := hn'
  have ne : ∀ {b : Addr} {x : Obj} {ws : Array Value}, h.get? b = some x → x.data = .fields ws → b ≠ L := fun hb hx z => by
    rw [z, ho] at hb; cases hb; rw [hod] at hx; cases hx
  exact ⟨fun b x q => (hs.2 b fun z => by rw [z, hL] at q; cases q).trans (H.low b x q), funFrames_same hs ho' (fun vs q => by rw [hod'] at q; cases q) H.frs, H.none_,
    ⟨oe, T, oT, ts, (hs.2 e (ne he hd)).trans he, hc, hd, hnT, hTe, (hs.2 T (ne hT hdT)).trans hT, hdT, h3⟩, H.one⟩

/-- an exception that leaves the suite of the frame's own handler: it is marked in the frame -/
def RaisedM (base g : Heap) (env : Env) (outer : List Env) (L : Addr) (news : List (Addr × Obj)) (e : Addr) (cls : String) (h : Heap) : Prop :=
  ∃ B vs a0, base.StaysIn B ∧ (∀ b o, g.get? b = some o → b ∉ outer.filterMap (·.frame) → B.get? b = some o) ∧ (∀ q ∈ news, B.get? q.1 = some q.2 ∧ g.get? q.1 = none ∧ base.get? q.1 = none) ∧
    Marked B (env :: outer) e (.type cls) vs (rawInt L) h ∧ vs[0]? = some a0

section
variable {prog : Program} {w : World} {A₀ : Around} {E : Value → Shared → Prop} {s : Shared} {base g h : Heap} {outer : List Env} {L a e e₂ : Addr} {m : Str → Option Value} {name : Str} {scope : Scope} {cd : Value} {cl : List (Str × Addr)}
  {n : Str} {pos np : Pos} {news led : List (Addr × Obj)} {X : String} {vs : Array Value} {ob oe : Obj}

theorem suite_raised (K : Below A₀ base outer g) (F : Fr g L h m) (N : News g L h led) (hk : scope.kind = .function) (hlo : (envX name scope L a cd cl).kindOf n = some .local)
    (kh : ∀ b o, h.get? b = some o → s.heap.get? b = some o) (hnew : h.get? e₂ = none) (he : s.heap.get? e₂ = some ob) (hc : ob.cls = .type X) (hd : ob.data = .fields vs) (h1 : vs[1]? = some .none) {a0 : Value} (h0 : vs[0]? = some a0)
    (hQ : ∀ h' tk, RaisedM base g (envX name scope L a cd cl) outer L led e₂ X h' → g.UpToSlots h' → E (.ref e₂) { s with heap := h', toks := tk }) :
    AsSuiteRaised (model prog w) ((A₀.deeper (envX name scope L a cd cl)).mark (some (.ref e))) (envX name scope L a cd cl) n pos
      (notedBy (model prog w) ((A₀.deeper (envX name scope L a cd cl)).mark (some (.ref e))) (envX name scope L a cd cl) (cameBackBy (model prog w) (A₀.deeper (envX name scope L a cd cl)) (envX name scope L a cd cl) E)) (.ref e₂) s := by
  have H := hidden_of K (env := envX name scope L a cd cl) rfl hk F N
  have hen : (hideAll h ((envX name scope L a cd cl :: outer).filterMap (·.frame))).get? e₂ = none := by
    cases q : (hideAll h ((envX name scope L a cd cl :: outer).filterMap (·.frame))).get? e₂ with
    | none => rfl
    | some o => have := H.sub _ _ q; rw [hnew] at this; cases this
  have hp : ((envX name scope L a cd cl).scope.kind == .class || ((envX name scope L a cd cl).scope.kind == .module && (envX name scope L a cd cl).locals != (envX name scope L a cd cl).globals)) = false := by
    show (scope.kind == .class || (scope.kind == .module && L != mainGlobals)) = false
    rw [hk]; rfl
  show wpAny _ _ (noteFrame (.ref e₂) _) _ _ s
  refine note_first (Around.frames_deeper K.stack) (H.frs.of_keeps fun b o hb _ => ⟨o, kh b o hb, rfl⟩) rfl he (fun b o q => kh b o (H.sub b o q)) hen hd h1 fun h₂ M₂ u₂ => ?_
  have uh : h.UpToSlots h₂ := (Heap.UpToSlots.of_keeps kh).trans u₂
  have n₂ := uh.ns F.ns
  refine wpAny_nameGoes hlo n₂ hp fun h₃ m₃ n₃ hs₃ => ?_
  have M₃ := marked_same M₂ hs₃ n₂ n₃ H.loc
  have ug : g.UpToSlots h₃ := fun b o q nf => by
    obtain ⟨sl, hsl⟩ := uh b o (F.keep b o q) nf
    exact ⟨sl, (hs₃.2 b fun z => by rw [z, kts_self F] at q; cases q).trans hsl⟩
  have hnone : ∀ {A : Around} {s₁ : Shared} {fl : Value} {Q : Value → Shared → Prop}, Marked (hideAll h ((envX name scope L a cd cl :: outer).filterMap (·.frame))) (envX name scope L a cd cl :: outer) e₂ ob.cls vs fl s₁.heap → (∀ T, Q (.ref T) s₁) → ∀ {E'}, wpAny (model prog w) A (field (.ref e₂) 1) Q E' s₁ := fun M hq => by
    obtain ⟨oe, T, _, _, he, _, hd, _⟩ := M.there
    exact wpAny_field he hd (x := .ref T) (by simp [M.one]) (hq T)
  unfold PySem.passOn
  refine wpAny_bind (hnone (s₁ := { s with heap := h₃, toks := s.toks + 1 }) M₃ fun T => ?_)
  rw [if_neg (by simp)]
  refine wpAny_bind (set_mark (fr := some L) M₃ fun h₄ M₄ u₄ => ?_)
  refine wpAny_throw ?_
  show wpAny _ _ (noteFrame (.ref e₂) _) _ _ _
  refine note_again rfl M₄ ?_
  show wpAny _ _ (do
    if (← field (.ref e₂) 1) == .none then unsupported "frame.own-activation:exception-without-traceback"
    setFlight (.ref e₂) (some L)) _ _ _
  refine wpAny_bind (hnone (s₁ := { s with heap := h₄, toks := s.toks + 1 }) M₄ fun T => ?_)
  rw [if_neg (by simp)]
  refine set_mark (fr := some L) M₄ fun h₅ M₅ u₅ => ?_
  exact hQ h₅ _ ⟨_, vs, a0, H.low, H.grd, H.nws, hc ▸ M₅, h0⟩ (ug.trans (u₄.trans u₅))

/-- raise .. from the handled one, within the suite of the frame's own handler -/
theorem raise_own {env : Env} (henv : env = envX name scope L a cd cl) {X' : String} {N I N' I' : String} {vs' : Array Value} {exc : PySem.Expr} {rpos : Pos} {Q : Flow → Shared → Prop} (K : Below A₀ base outer g) (ec : ExcClass X N I) (ec' : ExcClass X' N' I') (hcls : oe.cls = .type X') (hd : oe.data = .fields vs') (h2 : vs'[2]? = some .none)
    (h : wpAny (model prog w) ((A₀.deeper env).mark (some (.ref e))) (eval exc env) (fun xv s₁ => ∃ e₂ h m, xv = .ref e₂ ∧ Heap.NewExc h s₁.heap e₂ X ∧ Fr g L h m ∧ News g L h led ∧ (e, oe) ∈ led ∧ m n = some (.ref e) ∧
      ∀ h' tk, RaisedM base g env outer L led e₂ X h' → g.UpToSlots h' → E (.ref e₂) { s₁ with heap := h', toks := tk })
      (AsSuiteRaised (model prog w) ((A₀.deeper env).mark (some (.ref e))) env n pos
        (notedBy (model prog w) ((A₀.deeper env).mark (some (.ref e))) env (cameBackBy (model prog w) (A₀.deeper env) env E))) s)
    (hk : scope.kind = .function := by rfl) (hlo : env.kindOf n = some .local := by rfl) (hdb : (n == ("__debug__" : Str)) = false := by decide) :
    wpAny (model prog w) ((A₀.deeper env).mark (some (.ref e))) (exec (.Raise (some exc) (some (.Name n np)) rpos) env) Q
      (AsSuiteRaised (model prog w) ((A₀.deeper env).mark (some (.ref e))) env n pos
        (notedBy (model prog w) ((A₀.deeper env).mark (some (.ref e))) env (cameBackBy (model prog w) (A₀.deeper env) env E))) s := by
  subst henv
  refine raise_from ec ec' rfl hcls hd h2 (wpAny_mono h (fun xv s₁ hh => ?_) fun _ _ x => x)
  obtain ⟨e₂, h, m, rfl, hx, F, Nw, hm, hmn, hQ⟩ := hh
  refine ⟨e₂, h, rfl, hx, (Nw _ hm).1, fun Q' hq => nameX_L (F.keeps hx.keeps) hmn hq hk hlo hdb, fun h' ob ws k1 k2 k3 k4 k5 k6 k7 => ?_⟩
  obtain ⟨a0, k7⟩ := k7
  exact suite_raised (s := { s₁ with heap := h' }) K F Nw hk hlo k1 k2 k3 k4 k5 k6 k7 hQ

theorem leave_own {env : Env} (henv : env = envX name scope L a cd cl) {g₀ : Heap} {Q : Unit → Shared → Prop} (T : KtsTurn (outer.filterMap (·.frame)) g₀ g) (R : RaisedM base g env outer L led e X s.heap) (U : g.UpToSlots s.heap) (hsub : ∀ q ∈ news, q ∈ led)
    (hQ : ∀ h', RaisedSN base g₀ outer e (.type X) news h' → RaisedN base outer e (.type X) news h' → g₀.UpToSlots h' → Q () { s with heap := h' }) :
    wpAny (model prog w) (A₀.deeper env) (leaving env (.ref e)) Q E s := by
  subst henv
  obtain ⟨B, vs, a0, hlow, hgrd, hnws, M, h0⟩ := R
  unfold leaving
  refine wpAny_bind (note_again rfl M ?_)
  refine set_mark (fr := none) M fun h' M' u' => ?_
  obtain ⟨oe, T', oT, ts, he, hc, hd, hnT, hTe, hT, hdT, h3⟩ := M'.there
  have none₀ : ∀ b, g.get? b = none → g₀.get? b = none := fun b q => by
    cases q' : g₀.get? b with
    | none => rfl
    | some o => obtain ⟨sl, z⟩ := T.up q'; rw [q] at z; cases z
  have hfl : Heap.FlyingW B outer e (.type X) a0 h' := ⟨M'.low, M'.none_, M'.frs.2.2, oe, _, T', oT, ts, he, ⟨hc, by rw [Array.getElem?_setIfInBounds_ne (by decide)]; exact h0⟩, hd, by simp [M'.one], hnT, hTe, hT, hdT, h3⟩
  have R' : RaisedSN base g₀ outer e (.type X) news h' := ⟨B, a0, hlow, fun b o q nm => hgrd b o (T.other b o q nm) nm, fun q hq => ⟨(hnws q (hsub q hq)).1, none₀ _ (hnws q (hsub q hq)).2.1, (hnws q (hsub q hq)).2.2⟩, hfl⟩
  refine hQ h' R' R'.toN fun b o q nf => ?_
  obtain ⟨sl, z⟩ := T.up q
  obtain ⟨sl', z'⟩ := (U.trans u') b _ z (by exact nf)
  exact ⟨sl', z'⟩
end
end Mine
end

section
open PySem PySem.W PySem.Spec PySem.Calls PyProof.Rows
namespace Mine
open Builtin Builtin.Str
theorem field_man {prog : Program} {w : World} {A : Around} {E : Value → Shared → Prop} {s : Shared} {id : String} {a : Array Value} {byName : PySem.Str → Sem Value} {v : Value} {num : Numbering} {Q : Value × Numbering → Shared → Prop} (hn : num = .unset) (ha : a[0]? = some v)
    (h : Q (v, .manual) s) : wpAny (model prog w) A (fieldObject id (some a) byName [48] num) Q E s := by
  subst hn
  unfold fieldObject
  refine wpAny_bind (wpAny_of_eq (a := some 0) rfl ?_)
  refine wpAny_bind (wpAny_of_eq (a := (some 0, .manual)) rfl ?_)
  simp only [ha, pure_bind]
  rw [KPc.range_list]
  exact wpAny_bind (wpAny_pure (wpAny_pure h))
end Mine
end

section
open PySem PySem.W PySem.Spec PySem.Calls PyProof.Rows
namespace Mine
section
variable {M : Model} {A : Around} {E : Value → Shared → Prop} {s : Shared} {c P : Addr} {ps : Array Value}

/-- the code of a generator expression: found in the def's table, or made and laid there -/
theorem gen_code {env : Env} {pos : Pos} {q : Str} {scope : Scope} {Q : Value → Shared → Prop} (hc : env.code = .ref c) (C : CodeHd s.heap c P) (hP : s.heap.get? P = some (tabObj ps)) (ht : TriplesOk ps.toList)
    (hQ : ∀ cv h' tk ps', Heap.ExtBut P s.heap h' → s.heap.objs.size ≤ h'.objs.size → h'.get? P = some (tabObj ps') → TriplesOk ps'.toList → Q cv { s with heap := h', toks := tk }) :
    wpAny M A (genexprCode env pos q scope) Q E s := by
  cases hf : codeAmong pos ps.toList with
  | none =>
    refine wpAny_genexprCodeX hc (C.code hP ht) (C.tab hP) hf fun c' h' tk hx hge hlt _ _ htb _ => ?_
    refine hQ _ h' tk _ hx (Nat.le_trans hge (Nat.le_of_lt hlt)) htb.2 ?_
    have : (ps ++ #[rawInt pos.line, rawInt pos.col, Value.ref c']).toList = ps.toList ++ [rawInt pos.line, rawInt pos.col, Value.ref c'] := by simp
    rw [this]
    exact TriplesOk_snoc _ _ _ _ ht
  | some cv =>
    obtain ⟨o, vs, file, tf, flags, tg, inF, text, tt, ho, _, hd, _, h11, _⟩ := C
    unfold genexprCode codeAt
    rw [hc, if_neg (show ¬ ((Value.ref c == Value.none) = true) from Bool.false_ne_true)]
    refine wpAny_bind (wpAny_fieldsOf ho hd ?_)
    rw [h11]
    refine wpAny_bind (wpAny_fieldsOf hP rfl ?_)
    rw [hf]
    exact wpAny_pure (hQ cv s.heap s.toks ps (fun b o _ e => e) (Nat.le_refl _) hP ht)
end

section
variable {prog : Program} {w : World} {A : Around} {E : Value → Shared → Prop} {s : Shared} {g : Heap} {c P L : Addr} {m mg : Str → Option Value} {cl₀ : List (Str × Addr)} {name : Str} {scope₀ : Scope} {a : Addr}

/-- what the source of the generator expression (a range) leaves to be shown -/
def GPost (prog : Program) (w : World) (A : Around) (g : Heap) (P L cy : Addr) (m : Str → Option Value) (d : Int) (Q : Value → Shared → Prop) (xv : Value) (s₁ : Shared) : Prop :=
  ∃ r lo hi st t u v n led gg ps td co, xv = .ref r ∧ IsRange s₁.heap r lo hi st t u v ∧ Builtin.Range.small lo hi st = true ∧ Builtin.Range.rangeSize lo hi st = ((n : Nat) : Int) ∧
    Fr g L s₁.heap m ∧ News g L s₁.heap led ∧ UpdF P (tabObj ps) led gg ∧ TriplesOk ps.toList ∧ AllBare s₁.gens ∧ (cy, co) ∈ led ∧ co.data = .cell (some (.int d td)) ∧ cy ≠ P ∧
    ∀ ga (h' : Heap) (g' : Array GenState) tk' ps', Fr g L h' m → News g L h' (gg (tabObj ps')) → TriplesOk ps'.toList → AllBare g' → (∀ p ∈ gg (tabObj ps'), p.1 < ga) →
      Gen prog w A (s₁.heap.objs.size - 1) ga n (fun i y => ∃ t, y = .int (lo + (i : Int) * st + d) t) { s₁ with heap := h', gens := g', toks := tk' } → (∀ b, b < s₁.heap.objs.size → b ≤ s₁.heap.objs.size - 1) → (∀ p ∈ gg (tabObj ps'), p.1 < s₁.heap.objs.size) → L < s₁.heap.objs.size →
      Q (.ref ga) { s₁ with heap := h', gens := g', toks := tk' }

theorem keeps_refl (s : Shared) (tk : Nat) : Keeps s { s with toks := tk } := ⟨s.heap, tk, rfl, fun _ _ e => e⟩

theorem passing_true (n : Nat) : passing (fun _ => true) n 0 = List.range n := by
  simp [passing]

theorem gen_range {mean : ExcName → Option Value} {p : Program} {loose : List Str} {mb : Str → Option Value} {x y : Str} {px p1 p2 p3 pos : Pos} {iter : PySem.Expr} {scope : Scope} {clo : List (Str × Addr)} {cy : Addr} {d : Int} {Q : Value → Shared → Prop}
    (C : CodeHd g c P) (T : Top p loose mean mg mb g) (hgP : mainGlobals ≠ P)
    (hh : A.handled = none) (hco : scope.isCoroutine = false) (hclos : closureFor scope (envX name scope₀ L a (.ref c) cl₀) = pure clo) (hcell : ∀ z ∈ scope.names, z.2 ≠ .cell) (h0 : scope.names.lookup (".0" : Str) = some NameKind.local)
    (hx : scope.names.lookup x = some .local) (hy : scope.names.lookup y = some .free) (hcy : clo.lookup y = some cy) (hkind : scope.kind = .function) (hroom : A.depth < recursionLimit)
    (hxd : (x == ("__debug__" : Str)) = false) (hyd : (y == ("__debug__" : Str)) = false) (hyc : (y == ("__classdict__" : Str)) = false)
    (hs : ∀ z, genFold iter (envX name scope₀ L a (.ref c) cl₀) z = pure z)
    (h : wpAny (model prog w) A (eval iter (envX name scope₀ L a (.ref c) cl₀)) (GPost prog w A g P L cy m d Q) E s) :
    wpAny (model prog w) A (eval (.GeneratorExp (.BinOp (.Name x p1) .Add (.Name y p2) p3) [⟨.Name x px, iter, [], 0⟩] scope pos) (envX name scope₀ L a (.ref c) cl₀)) Q E s := by
  refine wpAny_GeneratorExp_walksQD hh hco hclos hcell h0 hx hkind hroom (wpAny_mono h (fun xv s₁ hG => ?_) fun _ _ e => e) hs
  obtain ⟨r, lo, hi, st, t, u, v, n, led, gg, ps, td, co, rfl, hr, hsm, hn, F, N, U, ht, AB, hcm, hcd, hcP, hQ⟩ := hG
  obtain ⟨pre, post, hled, hgg, ap1, ap2⟩ := U.split
  have hPm : s₁.heap.get? P = some (tabObj ps) := (N (P, tabObj ps) (by rw [hled]; simp)).1
  have hPg : g.get? P = none := (N (P, tabObj ps) (by rw [hled]; simp)).2.2
  have hLP : P ≠ L := (N (P, tabObj ps) (by rw [hled]; simp)).2.1
  have hLs : L < s₁.heap.objs.size := F.ns.lt
  refine wpAny_pyIter_range hr hsm ⟨(T.nolimit.keeps F.keep).push _, ?_⟩
  have k1 : ∀ b o, s₁.heap.get? b = some o → (s₁.heap.push { cls := .type "range_iterator", data := .fields #[rawInt lo, rawInt (Builtin.Range.rangeSize lo hi st), rawInt st] }).get? b = some o := fun b o e => Heap.get?_push_of_some _ e
  refine gen_code rfl (C.keeps fun b o e => k1 b o (F.keep b o e)) (k1 _ _ hPm) ht fun cv h₃ tk₃ ps' hx₃ hge hP₃ ht' => ?_
  have k3 : ∀ b o, b ≠ P → s₁.heap.get? b = some o → h₃.get? b = some o := fun b o hb e => hx₃ b o hb (k1 b o e)
  have kg : ∀ b o, g.get? b = some o → h₃.get? b = some o := fun b o e => k3 b o (fun z => by rw [z, hPg] at e; cases e) (F.keep b o e)
  obtain ⟨bm, ob, b1, b2, b3, b4, b5, b6⟩ := T.bmain
  refine wpAny_builtinsFor (s := { s₁ with heap := h₃, toks := tk₃ }) (T.g.keeps kg) b1 b2 (kg _ _ b3) b4 b5 b6 ?_
  have hsz : s₁.heap.objs.size < h₃.objs.size := Nat.lt_of_lt_of_le (by rw [Heap.size_push]; exact Nat.lt_succ_self _) hge
  have hcs : h₃.get? cy = some co := k3 _ _ hcP (N _ hcm).1
  have hI : IsRangeIter h₃ s₁.heap.objs.size lo n st := by
    have e1 : (s₁.heap.push { cls := .type "range_iterator", data := .fields #[rawInt lo, rawInt (Builtin.Range.rangeSize lo hi st), rawInt st] }).get? s₁.heap.objs.size = some { cls := .type "range_iterator", data := .fields #[rawInt lo, rawInt (Builtin.Range.rangeSize lo hi st), rawInt st] } := Heap.get?_push_size _ rfl
    have := hx₃ s₁.heap.objs.size _ (fun z => by have q := Heap.lt_size hPm; rw [← z] at q; exact Nat.lt_irrefl _ q) e1
    rw [hn] at this
    exact this
  have hgl : h₃.NoLimit := T.nolimit.keeps kg
  refine ⟨s₁.heap.objs.size, [s₁.heap.objs.size], [s₁.heap.objs.size], n, _, _, (fun _ => true), (fun i y => ∃ t, y = .int (lo + (i : Int) * st + d) t), rfl, (fun A' hA => Walks.range hA _ lo st n), (by simpa using hI), ?_, hgl, ?_, ?_, ?_⟩
  · intro b hb
    cases hb with
    | head => exact hsz
    | tail _ q => cases q
  · intro q
    obtain ⟨mc, hm1, _⟩ := T.nolimit
    have := (hm1.keeps F.keep).lt
    rw [List.mem_singleton.mp q] at this
    exact Nat.lt_irrefl _ this
  · intro href hk
    refine ⟨fun A' E' i v u m₂ hA hD hU hP hns hm hkp => ?_, fun A' E' i v u m₂ hA hD hU hP _ hns hm hkp => ?_⟩
    · show wpAny _ _ (pure true) _ _ _
      exact wpAny_pure ⟨rfl, u.heap, u.toks, rfl, fun _ _ e => e⟩
    · obtain ⟨tv, rfl⟩ := hP
      have hcu : u.heap.get? cy = some co := by
        refine hkp cy (List.mem_range.mpr (Heap.lt_size hcs)) (fun q => ?_) co (hk _ _ hcs)
        cases q with
        | head => exact Nat.lt_irrefl _ (Heap.lt_size (N _ hcm).1)
        | tail _ q => cases q
      refine wpAny_BinOp (wpAny_Name (wpAny_loadName_local hkind hx hns hm ?_) hxd)
      refine wpAny_Name (wpAny_loadName_free hkind hy hcy ⟨co, hcu, hcd⟩ ?_ hyc) hyd
      refine PyProof.Rows.add_int ⟨⟨_, rfl⟩, u.heap, _, rfl, fun _ _ e => e⟩
  · intro ga h₅ tk gs hgb hag hsz₅ hk₅ W hat
    have hpas := passing_true n
    have kgg : ∀ q ∈ gg (tabObj ps'), h₅.get? q.1 = some q.2 ∧ q.1 ≠ L ∧ g.get? q.1 = none ∧ q.1 < s₁.heap.objs.size := by
      intro q hq
      rw [hgg] at hq
      have old : q ∈ led → q.1 ≠ P → h₅.get? q.1 = some q.2 ∧ q.1 ≠ L ∧ g.get? q.1 = none ∧ q.1 < s₁.heap.objs.size := fun hm hne =>
        ⟨hk₅ _ _ (k3 _ _ hne (N q hm).1), (N q hm).2.1, (N q hm).2.2, Heap.lt_size (N q hm).1⟩
      rcases List.mem_append.mp hq with hq | hq
      · exact old (by rw [hled]; exact List.mem_append_left _ hq) (ap1 q hq)
      · rcases List.mem_cons.mp hq with rfl | hq
        · exact ⟨hk₅ _ _ hP₃, hLP, hPg, Heap.lt_size hPm⟩
        · exact old (by rw [hled]; exact List.mem_append_right _ (List.mem_cons_of_mem _ hq)) (ap2 q hq)
    refine hQ ga h₅ _ tk ps' ⟨F.ns.at' fun o e => hk₅ _ _ (k3 _ _ (Ne.symm hLP) e), fun b o e => hk₅ _ _ (kg b o e), F.above⟩ (fun q hq => ⟨(kgg q hq).1, (kgg q hq).2.1, (kgg q hq).2.2.1⟩) ht' (AB.push hgb)
      (fun q hq => Nat.lt_trans (kgg q hq).2.2.2 (Nat.lt_trans hsz hag)) ?_ (fun b hb => by omega) (fun q hq => (kgg q hq).2.2.2) hLs
    have W' := W.imp (P' := fun i y => ∃ t, y = .int (lo + (i : Int) * st + d) t) (fun i y hy => by
      obtain ⟨j, hj, hy⟩ := hy
      rw [hpas] at hj
      obtain ⟨hlt, e⟩ := List.getElem?_eq_some_iff.mp hj
      rw [List.getElem_range] at e
      subst e
      exact hy)
    rw [hpas, List.length_range] at W'
    refine ⟨_, _, _, _, W', hat, (fun i s' st => st.1.typeIs), List.mem_cons_self, ?_, ?_⟩
    · intro b hb
      show b < h₅.objs.size
      rw [hsz₅]
      rcases List.mem_cons.mp hb with rfl | hb
      · exact Nat.lt_succ_self _
      · rcases List.mem_cons.mp hb with rfl | hb
        · exact Nat.lt_succ_of_lt hag
        · exact Nat.lt_succ_of_lt (Nat.lt_trans (List.mem_range.mp hb) hag)
    · intro b hb
      rcases List.mem_cons.mp hb with rfl | hb
      · exact Nat.lt_of_le_of_lt (Nat.sub_le _ _) hsz
      · rw [List.mem_singleton.mp hb]
        exact Nat.sub_lt (Nat.lt_of_le_of_lt (Nat.zero_le _) hLs) Nat.one_pos
theorem gen_rangeK {mean : ExcName → Option Value} {p : Program} {loose : List Str} {mb : Str → Option Value} {x y : Str} {px p1 p2 p3 pos : Pos} {iter : PySem.Expr} {scope : Scope} {clo : List (Str × Addr)} {cy : Addr} {d : Int} {Q : Value → Shared → Prop}
    {led0 : List (Addr × Obj)} {co0 : Obj} {td0 : Tok} (F0 : Fr g L s.heap m) (N0 : News g L s.heap led0) (C : CodeHd g c P) (T : Top p loose mean mg mb g) (hgP : mainGlobals ≠ P)
    (hh : A.handled = none) (hco : scope.isCoroutine = false) (hclos : closureFor scope (envX name scope₀ L a (.ref c) cl₀) = pure clo) (hcell : ∀ z ∈ scope.names, z.2 ≠ .cell) (h0 : scope.names.lookup (".0" : Str) = some NameKind.local)
    (hx : scope.names.lookup x = some .local) (hy : scope.names.lookup y = some .free) (hcy : clo.lookup y = some cy) (m0 : (cy, co0) ∈ led0) (D0 : co0.data = .cell (some (.int d td0))) (hkind : scope.kind = .function) (hroom : A.depth < recursionLimit)
    (hxd : (x == ("__debug__" : Str)) = false) (hyd : (y == ("__debug__" : Str)) = false) (hyc : (y == ("__classdict__" : Str)) = false)
    (hs : ∀ z, genFold iter (envX name scope₀ L a (.ref c) cl₀) z = pure z)
    (h : wpAny (model prog w) A (eval iter (envX name scope₀ L a (.ref c) cl₀)) (GPost prog w A g P L cy m d Q) E s) :
    wpAny (model prog w) A (eval (.GeneratorExp (.BinOp (.Name x p1) .Add (.Name y p2) p3) [⟨.Name x px, iter, [], 0⟩] scope pos) (envX name scope₀ L a (.ref c) cl₀)) Q E s :=
  gen_range C T hgP hh hco hclos hcell h0 hx hy hcy hkind hroom hxd hyd hyc hs h
end
end Mine
end

section
open PySem PySem.W PySem.Spec PySem.Calls PyProof.Rows
namespace Mine
theorem sub_gen_set : isSubtype (.type "generator") (.type "set") = pure false := by rw [isSubtype_type]; kernel_rfl
theorem sub_gen_frozenset : isSubtype (.type "generator") (.type "frozenset") = pure false := by rw [isSubtype_type]; kernel_rfl

section
variable {prog : Program} {w : World} {A : Around} {E : Value → Shared → Prop} {s : Shared}
variable {I : Addr} {fp wr : List Addr} {G : Array GenState → Array GenState → Prop} {n : Nat} {P : Nat → Value → Prop} {St : Nat → Shared → Prop}
set_option maxRecDepth 100000 in
set_option maxHeartbeats 3200000 in
theorem call_set_gen {val : Nat → Int} {Q : Value → Shared → Prop} (W : WalksS prog w A.in1.in1.in1 I fp wr G n P St) (hT : ∀ i s, St i s → s.TypeIs (.ref I) "generator") (hst : St 0 s) (hfp : ∀ b ∈ fp, b < s.heap.objs.size) (hI : I ∈ fp)
    (hval : ∀ i v, P i v → ∃ t, v = .int (val i) t) (hb : n + 1 < scanBound)
    (h : ∀ s' (led : Bool), Moved (s.heap.objs.size :: wr) G { s with heap := s.heap.push { cls := .type "set", dict := none, data := .set #[] 0 (.fresh 0 0 led) } } s' →
      s'.heap.SetOf (intKind prog w) s.heap.objs.size (fun k' => (firstMet val n).any (· == k')) (firstMet val n).length → Q (.ref s.heap.objs.size) s') :
    wpAny (model prog w) A (call (.type "set") [.ref I]) Q E s := by
  obtain ⟨c, tl, hmro⟩ := F.called_set.mro
  have hmade := F.called_set.made
  have hsub := F.called_set.sub
  refine wpAny_call (codeAny_of_tree ?_)
  show wpAny _ _ (callAny (.type "set") _) _ _ _
  refine wpAny_pure ⟨Code.quiet_builtin _ (by decide +kernel), codeAny_builtin F.entry_type_call ?_⟩
  rw [Around.under_plain (weight_type_call_type "set" [.ref I] []) rfl]
  have h1 := F.called_set.notType
  have h2 := F.called_set.canCreate
  have hct := F.typeCall_set_1 (.ref I)
  repeat (any_goals (first | assumption | wp_step))
  refine codeAny_mono (code_set_new_1 (.ref I) (E := E) (Q₁ := fun obj s₁ => ∃ led : Bool, obj = .ref s.heap.objs.size ∧ s₁ = { s with heap := s.heap.push { cls := .type "set", dict := none, data := .set #[] 0 (.fresh 0 0 led) } }) fun led => ⟨led, rfl, rfl⟩) fun r s₁ hr => ?_
  cases r with
  | error e => exact hr
  | ok fl =>
    cases fl with
    | ret obj =>
      obtain ⟨led, rfl, rfl⟩ := hr
      have hS : (s.heap.push { cls := .type "set", dict := none, data := .set #[] 0 (.fresh 0 0 led) }).get? s.heap.objs.size = some { cls := .type "set", dict := none, data := .set #[] 0 (.fresh 0 0 led) } := Heap.get?_push_size _ rfl
      have hT1 : Shared.TypeIs { s with heap := s.heap.push { cls := .type "set", dict := none, data := .set #[] 0 (.fresh 0 0 led) } } (.ref s.heap.objs.size) "set" := ⟨_, hS, rfl⟩
      have hli := F.called_set.init.lookup
      have hbi := F.called_set.init.bind (.ref s.heap.objs.size)
      repeat (any_goals (first | assumption | wp_step))
      refine codeAny_mono (codeAny_call_builtin (R := wants (fun r s₂ => r = .none ∧ Moved (s.heap.objs.size :: wr) G { s with heap := s.heap.push { cls := .type "set", dict := none, data := .set #[] 0 (.fresh 0 0 led) } } s₂ ∧
          s₂.heap.SetOf (intKind prog w) s.heap.objs.size (fun k' => (firstMet val n).any (· == k')) (firstMet val n).length) E) F.called_set.init.plain F.entry_set_init (check_set_init_1 hT1 ?_)) fun r₂ s₂ hr₂ => ?_
      · have hst1 : St 0 { s with heap := s.heap.push { cls := .type "set", dict := none, data := .set #[] 0 (.fresh 0 0 led) } } := W.frame 0 s _ s.toks hst (Nat.le_refl _) fun b _ o e => Heap.get?_push_of_some _ e
        obtain ⟨og, hog, hcg⟩ := hT 0 _ hst1
        obtain ⟨ocls, odict, odata, oslots⟩ := og
        simp only at hcg
        subst hcg
        have hsls := sub_gen_set
        have hslf := sub_gen_frozenset
        have hne : (Value.type "generator" == Value.type "dict") = false := by decide
        have hSf : s.heap.objs.size ∉ fp := fun hm => Nat.lt_irrefl _ (hfp _ hm)
        unfold Builtin.«set.__init__» noKeywords Builtin.Frozenset.updateFrom
        generalize hPI : pyIter = PI
        wp_walk
        subst hPI
        refine (WalksS.of_in1 W).self 0 _ _ _ hst1 ?_
        refine wpAny_bind (wpAny_runValue ?_)
        refine codeAny_set_update_loopS W s.heap.objs.size hSf val hval hb (n - 0) 0 _ (by omega) (Nat.zero_le _) hst1 ?hS0 ?hR
        case hS0 => exact SetOf_congr ((setObjOf_fresh (knd := intKind prog w) led).setOf hS (by unfold scanBound; omega)) (fun _ => rfl) rfl
        case hR =>
          intro s' hm hS'
          show wpAny _ _ _ _ _ _
          refine wpAny_pure ?_
          show wpAny _ _ (ret Value.none) _ _ _
          exact wpAny_pure ⟨rfl, hm, hS'⟩
      · cases r₂ with
        | error e => exact hr₂
        | ok fl₂ =>
          cases fl₂ with
          | ret r =>
            obtain ⟨rfl, hm, hS'⟩ := hr₂
            repeat (any_goals (first | assumption | wp_step))
            exact h _ _ hm hS'
          | _ => exact hr₂.elim
    | _ => exact hr.elim

variable {g : Heap} {L K : Addr} {m : Str → Option Value} {led : List (Addr × Obj)}
theorem set_gen {val : Nat → Int} {ga : Addr} {Q : Value → Shared → Prop} (F : Fr g L s.heap m) (N : News g L s.heap led) (AB : AllBare s.gens) (X : Gen prog w A K ga n (fun i y => ∃ t, y = .int (val i) t) s)
    (hK : ∀ p ∈ led, p.1 ≤ K) (hLK : L ≤ K) (hb : n + 1 < scanBound)
    (h : ∀ D h' g' tk o, Fr g L h' m → News g L h' ((D, o) :: led) → o.SetObjOf (intKind prog w) (fun k => (firstMet val n).any (· == k)) (firstMet val n).length → AllBare g' → (∀ p ∈ led, p.1 < D) →
      Q (.ref D) { s with heap := h', gens := g', toks := tk }) :
    wpAny (model prog w) A (call (.type "set") [.ref ga]) Q E s := by
  obtain ⟨fp, wr, gi, St, W, hst, hT, hI, hfp, hwr⟩ := X
  refine call_set_gen W.in4_3 hT hst hfp hI (fun i v hv => hv) hb fun s' b hm hS => ?_
  obtain ⟨o, ho, hso⟩ := hS.objOf
  have hsz := F.ns.lt
  have hw : ∀ p : Addr, p ≤ K → p < s.heap.objs.size → p ∉ s.heap.objs.size :: wr := fun p hp hl q => by
    rcases List.mem_cons.mp q with rfl | q
    · exact Nat.lt_irrefl _ hl
    · exact Nat.lt_irrefl _ (Nat.lt_of_lt_of_le (hwr p q) hp)
  have kp : ∀ b o, b ≤ K → s.heap.get? b = some o → s'.heap.get? b = some o := fun b o hb e => hm.heap b o (hw b hb (Heap.lt_size e)) (Heap.get?_push_of_some _ e)
  obtain ⟨h', g', d', tk', os'⟩ := s'
  have ed : d' = s.drawn := hm.drawn
  have eo : os' = s.os := hm.os
  subst ed; subst eo
  refine h s.heap.objs.size h' g' tk' o ⟨F.ns.at' fun o e => kp _ _ hLK e, fun b o e => kp b o (Nat.le_of_lt (Nat.lt_of_lt_of_le (Heap.lt_size e) (Nat.le_trans F.above hLK))) (F.keep b o e), F.above⟩ (fun p hp => ?_) hso ?_ fun p hp => Heap.lt_size (N p hp).1
  · rcases List.mem_cons.mp hp with rfl | hp
    · refine ⟨ho, Nat.ne_of_gt hsz, ?_⟩
      cases hq : g.get? s.heap.objs.size with
      | none => rfl
      | some o' => exact absurd (Heap.lt_size (F.keep _ _ hq)) (Nat.lt_irrefl _)
    · exact ⟨kp _ _ (hK p hp) (N p hp).1, (N p hp).2.1, (N p hp).2.2⟩
  · have := AllBare.movedS (s := { s with heap := s.heap.push { cls := .type "set", dict := none, data := .set #[] 0 (.fresh 0 0 b) } }) AB hm
    exact this
end
end Mine
end

section
open PySem PySem.W PySem.Spec PySem.Calls PyProof.Rows
namespace Mine

theorem erase_perm {α : Type} : ∀ (l : List α) (i : Nat) (h : i < l.length), (l[i] :: l.eraseIdx i).Perm l
  | [], i, h => absurd h (Nat.not_lt_zero _)
  | x :: l, 0, h => List.Perm.refl _
  | x :: l, i + 1, h => by
    have ih := erase_perm l i (by simpa using h)
    show (l[i]'(by simpa using h) :: x :: l.eraseIdx i).Perm (x :: l)
    exact (List.Perm.swap _ _ _).trans (ih.cons x)
theorem pick_go {α : Type} (next : Nat → Nat) : ∀ (n k : Nat) (left : List α) (out : Array α), n = left.length → (pickOrder.go next n k left out).toList.Perm (out.toList ++ left) := by
  intro n
  induction n with
  | zero => intro k left out h; cases left with
    | nil => unfold pickOrder.go; simp
    | cons x l => simp at h
  | succ n ih =>
    intro k left out h
    have hlt : next k % left.length < left.length := Nat.mod_lt _ (by omega)
    unfold pickOrder.go
    rw [List.getElem?_eq_getElem hlt]
    dsimp only
    refine (ih (k + 1) _ _ (by rw [List.length_eraseIdx]; simp [hlt]; omega)).trans ?_
    rw [Array.toList_push, List.append_assoc]
    refine List.Perm.append_left _ ?_
    show ((left[next k % left.length] :: []) ++ left.eraseIdx _).Perm left
    exact erase_perm left _ hlt
theorem pick_perm {α : Type} (next : Nat → Nat) (xs : Array α) : (pickOrder next xs).toList.Perm xs.toList := by
  have := pick_go next xs.size 0 xs.toList #[] (by simp)
  simpa [pickOrder] using this

section
variable {prog : Program} {w : World} {A : Around} {E : Value → Shared → Prop} {s : Shared}

def IntsIn (s : Shared) (a : Addr) : Prop := ∃ o es ep t, s.heap.get? a = some o ∧ o.data = .set es ep t ∧ t.fits es.size = true ∧ ∀ e ∈ es.toList, ∃ k tk, e.2 = .int k tk
theorem IntsIn.of {S : Int → Bool} {n : Nat} {a : Addr} (h : s.heap.SetOf (intKind prog w) a S n) : IntsIn s a := by
  obtain ⟨o, es, ep, t, ho, _, hd, hel, _, _, hf, _⟩ := h
  refine ⟨o, es, ep, t, ho, hd, hf, fun e he => ?_⟩
  obtain ⟨⟨k, hk, _⟩, _⟩ := hel e he
  obtain ⟨t, ht⟩ := Value.isInt_shape hk
  exact ⟨k, t, ht⟩

theorem quiet_ints {sets : List Addr} {Q : Bool → Shared → Prop} (hs : ∀ a ∈ sets, IntsIn s a) (h : Q true s) : wpAny (model prog w) A (setsQuiet sets) Q E s := by
  unfold setsQuiet
  refine wpAny_bind (wpAny_forIn_list _ (fun rest b s' => b = (none, ()) ∧ s' = s ∧ ∀ a ∈ rest, IntsIn s a) _ ?_ ?_ _ _ ⟨rfl, rfl, hs⟩)
  · rintro a rest b s' ⟨rfl, rfl, hr⟩
    obtain ⟨o, es, ep, t, ho, hd, hf, hi⟩ := hr a List.mem_cons_self
    refine wpAny_bind (wpAny_setEntries_of ho hd hf ?_)
    refine wpAny_bind (wpAny_forIn_array' _ (fun rest b s₂ => b = (none, ()) ∧ s₂ = s' ∧ ∀ e ∈ rest, ∃ k tk, e.2 = Value.int k tk) _ ?_ ?_ _ _ ⟨rfl, rfl, hi⟩)
    · rintro ⟨h₀, x⟩ rest b s₂ ⟨rfl, rfl, hr2⟩
      obtain ⟨k, tk, hx⟩ := hr2 _ List.mem_cons_self
      have hx : x = Value.int k tk := hx
      subst hx
      exact wpAny_pure ⟨rfl, rfl, fun e he => hr2 e (List.mem_cons_of_mem _ he)⟩
    · rintro b s₂ ⟨rfl, rfl, _⟩
      exact wpAny_pure ⟨rfl, rfl, fun e he => hr e (List.mem_cons_of_mem _ he)⟩
  · rintro b s' ⟨rfl, rfl, _⟩
    exact wpAny_pure h

theorem walk_unseen {na da r : Addr} {o or : Obj} {es er : Array (Int × Value)} {ep epr : Nat} {t tr : SetTable} {Q : Array (Int × Value) → Shared → Prop}
    (ho : s.heap.get? na = some o) (hd : o.data = .set es ep t) (hf : t.fits es.size = true)
    (hor : s.heap.get? r = some or) (hdr : or.data = .set er epr tr) (hfr : tr.fits er.size = true) (hbr : er.size < scanBound)
    (hn : IntsIn s na) (hda : IntsIn s da) (hr : IntsIn s r)
    (h : ∀ es' h', es'.toList.Perm es.toList → (h' = s.heap ∨ ∃ t', t'.fits er.size = true ∧ h' = s.heap.update r (Obj.putSet er t')) → Q es' { s with heap := h' }) :
    wpAny (model prog w) A (setWalkUnseen na [da, r] (some r)) Q E s := by
  have hsame : ∀ es', es'.toList.Perm es.toList → Q es' s := fun es' p => by
    have := h es' s.heap p (.inl rfl)
    obtain ⟨hp, g, d, tk, os⟩ := s; exact this
  unfold setWalkUnseen setsByText
  refine wpAny_bind (wpAny_setState_of ho hd hf ?_)
  dsimp only
  refine wpAny_bind (wpAny_bind (wpAny_askSetting (wpAny_pure ?_)))
  dsimp only
  rw [show (model prog w).w.params = w.params from rfl]
  by_cases hb : (w.params.followText "set-order" || (t.led && t.plain) || decide (es.size ≤ 1)) = true
  · rw [if_pos hb]
    unfold setWalk setsByText
    refine wpAny_bind (wpAny_setState_of ho hd hf ?_)
    dsimp only
    refine wpAny_bind (wpAny_bind (wpAny_askSetting (wpAny_pure ?_)))
    dsimp only
    rw [show (model prog w).w.params = w.params from rfl]
    by_cases hbt : w.params.followText "set-order" = true
    · rw [if_pos hbt]
      refine wpAny_bind (wpAny_askSetting ?_)
      exact wpAny_pure (hsame _ (pick_perm _ _))
    · rw [if_neg hbt]
      have hb' : (t.led = true ∧ t.plain = true) ∨ es.size ≤ 1 := by
        rw [Bool.not_eq_true] at hbt
        rw [hbt] at hb
        simpa using hb
      split
      · rename_i hdr'
        have hdr' : (!t.plain && decide (es.size > 1)) = true := hdr'
        simp at hdr'
        rcases hb' with hb' | hb'
        · rw [hb'.2] at hdr'; simp at hdr'
        · omega
      · refine wpAny_bind ?_
        show wpAny _ _ (if (!t.led && decide (es.size > 1)) = true then _ else _) _ _ _
        rw [if_neg (by
          intro q; simp at q
          rcases hb' with hb' | hb'
          · rw [hb'.1] at q; simp at q
          · omega)]
        exact wpAny_pure (wpAny_pure (hsame _ (List.Perm.refl _)))
  · rw [if_neg hb]
    refine wpAny_bind (quiet_ints (by
      intro a ha
      rcases List.mem_cons.mp ha with rfl | ha
      · exact hn
      · rcases List.mem_cons.mp ha with rfl | ha
        · exact hda
        · rcases List.mem_cons.mp ha with rfl | ha
          · exact hr
          · cases ha) ?_)
    simp only [Bool.not_true, Bool.false_eq_true, ↓reduceIte]
    refine wpAny_bind (wpAny_rule ?_)
    refine wpAny_bind (wpAny_setState_of hor hdr hfr ?_)
    dsimp only
    split
    · refine wpAny_bind (wpAny_storeSet_of hor hdr ?_ (fits_of_scanBound hbr))
      exact wpAny_pure (h _ _ (List.Perm.refl _) (.inr ⟨{ tr with led := tr.led && t.led, plain := tr.plain && t.plain }, hfr, rfl⟩))
    · exact wpAny_pure (hsame _ (List.Perm.refl _))

theorem entry_set_intersection : entryFor table "set.intersection" = some Builtin.«frozenset.intersection» := entryFor_alias (id' := "frozenset.intersection") (by kernel_rfl) (by decide +kernel) (by decide +kernel) (by kernel_rfl)


theorem isAnySet_of {a : Addr} (hT : s.TypeIs (.ref a) "set") {Q : Bool → Shared → Prop} (h : Q true s) : wpAny (model prog w) A (Builtin.Frozenset.isAnySet (.ref a)) Q E s := by
  unfold Builtin.Frozenset.isAnySet
  refine wpAny_bind (wpAny_isInstance hT sub_set_self ?_)
  exact wpAny_pure h
theorem sizeOf_of {a : Addr} {S : Int → Bool} {n : Nat} (hS : s.heap.SetOf (intKind prog w) a S n) {Q : Nat → Shared → Prop} (h : Q n s) : wpAny (model prog w) A (Builtin.Frozenset.sizeOf a) Q E s := by
  obtain ⟨o, es, ep, t, ho, _, hd, _, _, _, hf, hn⟩ := hS
  unfold Builtin.Frozenset.sizeOf
  exact wpAny_bind (wpAny_setEntries_of ho hd hf (wpAny_pure (hn ▸ h)))

/-- the state of the walk: what is left of the walked set's elements, and whether the common one has been met -/
def Met (prog : Program) (w : World) (s : Shared) (p : Int) (T : Int → Bool) (rest : List (Int × Value)) (s' : Shared) : Prop :=
  ∃ (b : Bool) (h' : Heap) (tk : Nat), s' = { s with heap := h', toks := tk } ∧ (∀ b o, s.heap.get? b = some o → h'.get? b = some o) ∧
    h'.SetOf (intKind prog w) s.heap.objs.size (fun x => b && decide (x = p)) (if b then 1 else 0) ∧ (b = true ∨ ∃ e ∈ rest, e.2.isInt p = true) ∧
    ∀ e ∈ rest, ∃ k t, e = (hashInt k, .int k t) ∧ T k = true

set_option maxHeartbeats 1600000 in
theorem wpAny_intersection {id : String} {da na : Addr} {S T : Int → Bool} {n k : Nat} {p : Int} {Q : Value → Shared → Prop} (hS : s.heap.SetOf (intKind prog w) da S n) (hT : s.heap.SetOf (intKind prog w) na T k) (hlt : k < n)
    (hp : ∀ x, (S x && T x) = decide (x = p))
    (h : ∀ h' tk, (∀ b o, s.heap.get? b = some o → h'.get? b = some o) → h'.SetOf (intKind prog w) s.heap.objs.size (fun x => decide (x = p)) 1 → Q (.ref s.heap.objs.size) { s with heap := h', toks := tk }) :
    wpAny (model prog w) A (Builtin.Frozenset.intersection id da (.ref na)) Q E s := by
  have hne : (Value.ref na == Value.ref da) = false := by
    rw [beq_eq_false_iff_ne]; intro q; injection q with q; subst q
    obtain ⟨_, _, _, _, h1, _, h2, _, _, _, _, h3⟩ := hS
    obtain ⟨_, _, _, _, h4, _, h5, _, _, _, _, h6⟩ := hT
    rw [h1] at h4; cases h4; rw [h2] at h5; cases h5; omega
  unfold Builtin.Frozenset.intersection
  simp only [hne, Bool.false_eq_true, ↓reduceIte]
  unfold Builtin.Frozenset.baseOf
  refine wpAny_bind (wpAny_bind (wpAny_isInstance hS.typeIs sub_set_self ?_))
  simp only [↓reduceIte]
  refine wpAny_pure ?_
  refine wpAny_bind (wpAny_newSet_of (knd := intKind prog w) fun led hR => ?_)
  have kp : ∀ b o, s.heap.get? b = some o → (s.heap.push { cls := .type "set", dict := none, data := .set #[] 0 (.fresh 0 0 led) }).get? b = some o := fun b o e => Heap.get?_push_of_some _ e
  have hRg : (s.heap.push { cls := .type "set", dict := none, data := .set #[] 0 (.fresh 0 0 led) }).get? s.heap.objs.size = some { cls := .type "set", dict := none, data := .set #[] 0 (.fresh 0 0 led) } := Heap.get?_push_size _ rfl
  generalize (s.heap.push { cls := .type "set", dict := none, data := .set #[] 0 (.fresh 0 0 led) }) = h1 at hR kp hRg ⊢
  have hS1 : h1.SetOf (intKind prog w) da S n := let ⟨o, es, ep, t, ho, r⟩ := hS; ⟨o, es, ep, t, kp _ _ ho, r⟩
  have hT1 : h1.SetOf (intKind prog w) na T k := let ⟨o, es, ep, t, ho, r⟩ := hT; ⟨o, es, ep, t, kp _ _ ho, r⟩
  unfold Builtin.Frozenset.addrOf
  refine wpAny_bind (wpAny_pure ?_)
  refine wpAny_bind (wpAny_holding ?_)
  refine wpAny_bind (isAnySet_of (s := { s with heap := h1 }) hT1.typeIs ?_)
  simp only [↓reduceIte]
  refine wpAny_bind (wpAny_pure ?_)
  refine wpAny_bind (sizeOf_of (s := { s with heap := h1 }) hT1 ?_)
  refine wpAny_bind (sizeOf_of (s := { s with heap := h1 }) hS1 ?_)
  rw [if_neg (by omega)]
  dsimp only
  obtain ⟨o, es, ep, t, ho0, hex, hd, hel, hmem, hb, hf, hn⟩ := (have q := hT; q)
  have ho := kp _ _ ho0
  refine wpAny_bind (wpAny_setEpoch_of (s := { s with heap := h1 }) ho hd hf ?_)
  refine wpAny_bind (walk_unseen (s := { s with heap := h1 }) ho hd hf hRg rfl (by rfl) (by decide) (.of (s := { s with heap := h1 }) hT1) (.of (s := { s with heap := h1 }) hS1) (.of (s := { s with heap := h1 }) hR) fun es' h' hpm hh => ?_)
  have off : ∀ b o, s.heap.get? b = some o → b ≠ s.heap.objs.size := fun b o e => Nat.ne_of_lt (Heap.lt_size e)
  have epoch : ∀ (s' : Shared) (Q' : Unit → Shared → Prop), s'.heap.get? na = some o → Q' () s' → wpAny (model prog w) A (Builtin.Frozenset.unchanged id na ep) Q' E s' := fun s' Q' e q => by
    unfold Builtin.Frozenset.unchanged
    refine wpAny_bind (wpAny_setEpoch_of e hd hf ?_)
    rw [if_neg (by simp)]
    exact wpAny_pure q
  refine wpAny_bind (wpAny_forIn_array' _ (fun rest b s' => Met prog w s p T rest s') _ ?_ ?_ _ _ ?_)
  · rintro ⟨hx, x⟩ rest b s' ⟨b', h', tk, rfl, kp', hR', hmet, hrest⟩
    obtain ⟨k', t', he, hTk⟩ := hrest (hx, x) List.mem_cons_self
    injection he with e1 e2
    subst e1; subst e2
    have hS' : h'.SetOf (intKind prog w) da S n := let ⟨o, es, ep, t, ho, r⟩ := hS; ⟨o, es, ep, t, kp' _ _ ho, r⟩
    refine wpAny_bind (wpAny_holding (wpAny_bind (wpAny_setFind_of (knd := intKind prog w) (k := k') (s := { s with heap := h', toks := tk }) (intKind_is _ _ _ _) rfl hS' fun r hr => ?_)))
    have hpk := hp k'
    cases hSk : S k' with
    | true =>
      rw [hSk, hTk] at hpk
      have hkp : k' = p := by simpa using hpk.symm
      subst hkp
      rw [hr, hSk]
      simp only [↓reduceIte]
      refine wpAny_bind (wpAny_setAddHashed_of (knd := intKind prog w) (k := k') (s := { s with heap := h', toks := tk }) (intKind_is _ _ _ _) rfl hR' (by cases b' <;> simp [scanBound]) fun h'' hsb hS'' => wpAny_pure ?_)
      have kp'' : ∀ b o, s.heap.get? b = some o → h''.get? b = some o := fun b o e => by rw [hsb.2 b (off b o e)]; exact kp' b o e
      refine wpAny_bind (epoch _ _ (kp'' _ _ ho0) ?_)
      refine wpAny_pure ⟨true, h'', tk, rfl, kp'', SetOf_congr hS'' (fun x => by cases b' <;> simp) (by cases b' <;> simp), .inl rfl, fun e he => hrest e (List.mem_cons_of_mem _ he)⟩
    | false =>
      rw [hr, hSk]
      simp only [Bool.false_eq_true, ↓reduceIte]
      refine wpAny_pure ?_
      refine wpAny_bind (epoch _ _ (kp' _ _ ho0) ?_)
      refine wpAny_pure ⟨b', h', tk, rfl, kp', hR', ?_, fun e he => hrest e (List.mem_cons_of_mem _ he)⟩
      rcases hmet with q | ⟨e, he, hep⟩
      · exact .inl q
      · rcases List.mem_cons.mp he with rfl | he
        · have : k' = p := by simpa [Value.isInt] using hep
          subst this
          rw [hSk] at hpk; simp at hpk
        · exact .inr ⟨e, he, hep⟩
  · rintro b s' ⟨b', h', tk, rfl, kp', hR', hmet, _⟩
    have hb' : b' = true := hmet.elim (fun q => q) (fun ⟨e, he, _⟩ => by cases he)
    subst hb'
    exact wpAny_pure (wpAny_pure (h _ _ kp' (SetOf_congr hR' (fun x => by simp) rfl)))
  · have kpp : (∀ b o, s.heap.get? b = some o → h'.get? b = some o) ∧ h'.SetOf (intKind prog w) s.heap.objs.size (fun _ => false) 0 := by
      rcases hh with rfl | ⟨t', hf', rfl⟩
      · exact ⟨kp, hR⟩
      · have hsb := Heap.SameBut.update h1 s.heap.objs.size (Obj.putSet #[] t')
        refine ⟨fun b o e => by rw [hsb.2 b (off b o e)]; exact kp b o e, ?_⟩
        exact (SetOf_store (knd := intKind prog w) hRg ⟨rfl, rfl, rfl⟩ rfl (es' := #[]) (t' := t') (S' := fun _ => false) (fun e he => by simp at he) (fun k => by simp) (by decide) hf').2
    refine ⟨false, h', s.toks, rfl, kpp.1, SetOf_congr kpp.2 (fun x => by simp) rfl, .inr ?_, fun e he => ?_⟩
    · have : T p = true := by have := hp p; simp at this; exact this.2
      obtain ⟨e, he, hk⟩ := (hmem p).mp this
      exact ⟨e, hpm.mem_iff.mpr he, hk⟩
    · have he := hpm.mem_iff.mp he
      obtain ⟨⟨k', hk, hh⟩, _⟩ := hel e he
      obtain ⟨t, ht⟩ := Value.isInt_shape hk
      exact ⟨k', t, by rw [← ht, show hashInt k' = (intKind prog w).hash k' from rfl, ← hh], (hmem k').mpr ⟨e, he, hk⟩⟩

theorem call_intersection {da na : Addr} {S T : Int → Bool} {n k : Nat} {p : Int} {Q : Value → Shared → Prop} (hS : s.heap.SetOf (intKind prog w) da S n) (hT : s.heap.SetOf (intKind prog w) na T k) (hlt : k < n)
    (hp : ∀ x, (S x && T x) = decide (x = p))
    (h : ∀ h' tk, (∀ b o, s.heap.get? b = some o → h'.get? b = some o) → h'.SetOf (intKind prog w) s.heap.objs.size (fun x => decide (x = p)) 1 → Q (.ref s.heap.objs.size) { s with heap := h', toks := tk }) :
    wpAny (model prog w) A (call (.builtin "set.intersection") [.ref da, .ref na]) Q E s := by
  refine wpAny_call_entry F.slot_set_intersection hS.typeIs entry_set_intersection ?_ (F.args_set_intersection_2 _ _)
  unfold Builtin.«frozenset.intersection» Builtin.Frozenset.manyOthers Builtin.Frozenset.addrOf
  simp only [List.isEmpty_nil, Bool.not_true, Bool.false_eq_true, ↓reduceIte, List.isEmpty_cons, pure_bind, List.forIn_cons, List.forIn_nil]
  refine wpAny_bind (wpAny_bind (wpAny_bind (wpAny_holding (wpAny_intersection hS hT hlt hp fun h' tk kp hS' => ?_))))
  exact wpAny_pure (wpAny_pure (wpAny_pure ⟨_, rfl, h h' tk kp hS'⟩))

theorem wpAny_choose {M : Model} {src : Source} {n : Nat} {Q : Nat → Shared → Prop} (hn : n ≠ 0) (h : ∀ i d, i < n → Q i { s with drawn := d }) : wpAny M A (choose src n) Q E s := fun Γ p _ => by
  unfold choose; rw [Sem.wp_choose]; exact ⟨hn, h _ _ (Nat.mod_lt _ (Nat.pos_of_ne_zero hn))⟩
theorem call_pop {a : Addr} {p : Int} {Q : Value → Shared → Prop} (hS : s.heap.SetOf (intKind prog w) a (fun x => decide (x = p)) 1)
    (h : ∀ h' d t, Heap.SameBut a s.heap h' → Q (.int p t) { s with heap := h', drawn := d }) :
    wpAny (model prog w) A (call (.builtin "set.pop") [.ref a]) Q E s := by
  refine wpAny_call_entry F.slot_set_pop hS.typeIs F.entry_set_pop ?_ (F.args_set_pop_1 _)
  obtain ⟨o, es, ep, t, ho, hex, hd, hel, hmem, hb, hf, hn⟩ := hS
  unfold Builtin.«set.pop» Builtin.Frozenset.noArgs Builtin.Frozenset.addrOf setPop setsByText
  simp only [List.isEmpty_nil]
  obtain ⟨e, he, hk⟩ := (hmem p).mp (by simp)
  have hes : es = #[e] := by
    obtain ⟨l⟩ := es
    cases l with
    | nil => cases he
    | cons x l =>
      cases l with
      | nil => simp at he; rw [he]
      | cons y l => simp at hn
  obtain ⟨t', ht'⟩ := Value.isInt_shape hk
  have hpl : t.place.size = 1 := by simp only [SetTable.fits, Bool.and_eq_true, beq_iff_eq] at hf; omega
  have hpp : t.popPlace = some 0 := by
    unfold SetTable.popPlace
    rw [if_neg (by rw [Array.isEmpty_iff_size_eq_zero]; omega)]
    dsimp only
    split <;> simp <;> omega
  refine wpAny_bind (wpAny_pure ?_)
  refine wpAny_bind (wpAny_bind (wpAny_setState_of ho hd hf ?_))
  dsimp only
  rw [hpp]
  dsimp only
  refine wpAny_bind (wpAny_bind (wpAny_askSetting (wpAny_pure ?_)))
  have fin : ∀ (d : Drawn) (Q' : Option Value → Shared → Prop), (∀ h', Heap.SameBut a s.heap h' → Q' (some (.int p t')) { s with heap := h', drawn := d }) → wpAny (model prog w) A.in1 (do
      match es[(0 : Nat)]? with
        | some (_, x) => do
          storeSet a (SetTable.eraseAt es 0) (t.popped 0)
          pure (some x)
        | _ => unsupported "internal:set.pop") Q' E { s with drawn := d } := fun d Q' hq => by
    rw [hes]
    simp only [List.getElem?_toArray, List.getElem?_cons_zero]
    refine wpAny_bind (wpAny_storeSet_of (s := { s with drawn := d }) ho hd ?_ (by simp [SetTable.eraseAt, sizeLine]))
    rw [ht']
    exact wpAny_pure (hq _ (Heap.SameBut.update s.heap a _))
  split
  · refine wpAny_bind (wpAny_choose (by omega) fun i d hi => ?_)
    obtain rfl : i = 0 := by omega
    exact fin d _ fun h' hsb => wpAny_pure ⟨_, rfl, h h' d t' hsb⟩
  · refine wpAny_bind ?_
    show wpAny _ _ (if (!t.led && decide (es.size > 1)) = true then _ else _) _ _ _
    rw [if_neg (by rw [hn]; simp)]
    refine wpAny_pure ?_
    refine wpAny_bind (wpAny_pure ?_)
    exact fin s.drawn _ fun h' hsb => wpAny_pure ⟨_, rfl, h h' s.drawn t' hsb⟩
end
end Mine
end

section
open PySem PySem.W PySem.Spec PySem.Calls PyProof.Rows
namespace Mine

theorem firstMet_len (val : Nat → Int) : ∀ n, (∀ i j, i < j → j < n → val i ≠ val j) → (firstMet val n).length = n
  | 0, _ => rfl
  | n + 1, h => by
    rw [firstMet_succ, step_length]
    have ih := firstMet_len val n fun i j hi hj => h i j hi (Nat.lt_succ_of_lt hj)
    have : (firstMet val n).any (· == val n) = false := by
      rw [firstMet_any, List.any_eq_false]
      intro x hx
      obtain ⟨i, hi, rfl⟩ := List.mem_map.mp hx
      have := h i n (List.mem_range.mp hi) (Nat.lt_succ_self _)
      simpa using this
    rw [this, ih]; rfl
theorem firstMet_mem (val : Nat → Int) (n : Nat) (x : Int) : (firstMet val n).any (· == x) = true ↔ ∃ i, i < n ∧ val i = x := by
  rw [firstMet_any, List.any_eq_true]
  constructor
  · rintro ⟨y, hy, e⟩
    obtain ⟨i, hi, rfl⟩ := List.mem_map.mp hy
    exact ⟨i, List.mem_range.mp hi, by simpa using e⟩
  · rintro ⟨i, hi, e⟩
    exact ⟨val i, List.mem_map.mpr ⟨i, List.mem_range.mpr hi, rfl⟩, by simpa using e⟩

/-- the place in the cycle of 260 days: number d, name n -/
def placeOf (d n : Int) : Int := (40 * d + 221 * n - 1) % 260 + 1
theorem placeOf_spec (d n : Int) : 1 ≤ placeOf d n ∧ placeOf d n ≤ 260 ∧ placeOf d n % 13 = d % 13 ∧ placeOf d n % 20 = n % 20 := by
  unfold placeOf; omega
theorem placeOf_uniq {d n x : Int} (h1 : 1 ≤ x) (h2 : x ≤ 260) (h3 : x % 13 = d % 13) (h4 : x % 20 = n % 20) : x = placeOf d n := by
  unfold placeOf; omega

theorem common {d n : Int} (hd : 1 ≤ d ∧ d ≤ 13) (hn : 1 ≤ n ∧ n ≤ 20) (x : Int) :
    ((firstMet (fun i => 0 + (i : Int) * 13 + d) 20).any (· == x) && (firstMet (fun i => 0 + (i : Int) * 20 + n) 13).any (· == x)) = decide (x = placeOf d n) := by
  rw [Bool.eq_iff_iff, Bool.and_eq_true, firstMet_mem, firstMet_mem, decide_eq_true_eq]
  constructor
  · rintro ⟨⟨i, hi, e1⟩, ⟨j, hj, e2⟩⟩
    try dsimp only at e1 e2
    exact placeOf_uniq (by omega) (by omega) (by omega) (by omega)
  · intro e
    obtain ⟨p1, p2, p3, p4⟩ := placeOf_spec d n
    rw [← e] at p1 p2 p3 p4
    refine ⟨⟨((x - d) / 13).toNat, by omega, by (try dsimp only); omega⟩, ⟨((x - n) / 20).toNat, by omega, by (try dsimp only); omega⟩⟩
theorem len20 (d : Int) : (firstMet (fun i => 0 + (i : Int) * 13 + d) 20).length = 20 := firstMet_len _ _ fun i j _ _ => by (try dsimp only); omega
theorem len13 (n : Int) : (firstMet (fun i => 0 + (i : Int) * 20 + n) 13).length = 13 := firstMet_len _ _ fun i j _ _ => by (try dsimp only); omega

section
variable {prog : Program} {w : World} {A : Around} {E : Value → Shared → Prop} {s : Shared} {g : Heap} {L : Addr} {m : Str → Option Value} {led : List (Addr × Obj)}
variable {da na : Addr} {od on : Obj} {S T : Int → Bool} {n k : Nat} {p : Int}

theorem set_method {name : Str} {id : String} {pl : Sem Bool} {Q : Value × List Value → Shared → Prop} (slot : Slot "set" name id) (hty : typeOf (.builtin id) = pure (.type "method_descriptor")) (N : News g L s.heap led) (md : (da, od) ∈ led) (hS : od.SetObjOf (intKind prog w) S n)
    (h : Q (.builtin id, [.ref da]) s) : wpAny (model prog w) A (getMethod (.ref da) name pl) Q E s :=
  getMethod_builtin ⟨_, (N _ md).1, hS.1.1⟩ F.plainAttrs_set slot hty (fun b e => by injection e with e; subst e; exact ⟨_, (N _ md).1, hS.1.2.1⟩) h

theorem inter_led {d e : Int} {Q : Value → Shared → Prop} (F : Fr g L s.heap m) (N : News g L s.heap led) (md : (da, od) ∈ led) (mn : (na, on) ∈ led)
    (hS : od.SetObjOf (intKind prog w) (fun x => (firstMet (fun i => 0 + (i : Int) * 13 + d) 20).any (· == x)) (firstMet (fun i => 0 + (i : Int) * 13 + d) 20).length)
    (hT : on.SetObjOf (intKind prog w) (fun x => (firstMet (fun i => 0 + (i : Int) * 20 + e) 13).any (· == x)) (firstMet (fun i => 0 + (i : Int) * 20 + e) 13).length) (hd : 1 ≤ d ∧ d ≤ 13) (he : 1 ≤ e ∧ e ≤ 20)
    (h : ∀ R h' tk o, Fr g L h' m → News g L h' ((R, o) :: led) → o.SetObjOf (intKind prog w) (fun x => decide (x = placeOf d e)) 1 → (∀ p ∈ led, p.1 < R) → Q (.ref R) { s with heap := h', toks := tk }) :
    wpAny (model prog w) A (call (.builtin "set.intersection") [.ref da, .ref na]) Q E s := by
  rw [len20] at hS
  rw [len13] at hT
  refine call_intersection (hS.setOf (N _ md).1 (by decide)) (hT.setOf (N _ mn).1 (by decide)) (by decide) (fun x => common hd he x) fun h' tk kp hR => ?_
  obtain ⟨o, ho, hso⟩ := hR.objOf
  refine h _ h' tk o ⟨F.ns.at' fun o e => kp _ _ e, fun b o e => kp _ _ (F.keep b o e), F.above⟩ (fun p hp => ?_) hso fun p hp => Heap.lt_size (N p hp).1
  rcases List.mem_cons.mp hp with rfl | hp
  · refine ⟨ho, Nat.ne_of_gt F.ns.lt, ?_⟩
    cases hq : g.get? s.heap.objs.size with
    | none => rfl
    | some o' => exact absurd (Heap.lt_size (F.keep _ _ hq)) (Nat.lt_irrefl _)
  · exact ⟨kp _ _ (N p hp).1, (N p hp).2.1, (N p hp).2.2⟩

theorem pop_led {R : Addr} {o : Obj} {Q : Value → Shared → Prop} (F : Fr g L s.heap m) (N : News g L s.heap ((R, o) :: led)) (ap : ∀ p ∈ led, p.1 ≠ R) (hS : o.SetObjOf (intKind prog w) (fun x => decide (x = p)) 1)
    (h : ∀ h' d t, Fr g L h' m → News g L h' led → Q (.int p t) { s with heap := h', drawn := d }) :
    wpAny (model prog w) A (call (.builtin "set.pop") [.ref R]) Q E s := by
  have NR := N _ (List.mem_cons_self)
  refine call_pop (hS.setOf NR.1 (by decide)) fun h' d t hsb => ?_
  refine h h' d t ⟨F.ns.at' fun o e => by rw [hsb.2 _ (Ne.symm NR.2.1)]; exact e, fun b o e => by
      rw [hsb.2 _ (fun q : b = R => by rw [q, NR.2.2] at e; cases e)]; exact F.keep b o e, F.above⟩ fun p hp => ?_
  have Np := N p (List.mem_cons_of_mem _ hp)
  exact ⟨by rw [hsb.2 _ (ap p hp)]; exact Np.1, Np.2⟩
end
end Mine
end

section
open PySem PySem.W PySem.Spec PySem.Calls PyProof.Rows
namespace Mine
section
variable {A : Around} {M : Model} {E : Value → Shared → Prop} {s' : Shared} {base g h : Heap} {outer : List Env} {L a e : Addr} {m : Str → Option Value} {name : Str} {scope : Scope} {cd : Value} {cl : List (Str × Addr)} {Q : Unit → Shared → Prop} {news : List (Addr × Obj)}
/-- a new exception leaves a frame, also one with cells -/
theorem leave_newX {env : Env} (henv : env = envX name scope L a cd cl) {cls : String} (K : Below A base outer g) (hx : Heap.NewExc h s'.heap e cls) (F : Fr g L h m) (N : News g L h news)
    (hQ : ∀ h', RaisedSN base g outer e (.type cls) news h' → RaisedN base outer e (.type cls) news h' → g.UpToSlots h' → Q () { s' with heap := h' }) (hk : scope.kind = .function := by rfl) :
    wpAny M (A.deeper env) (leaving env (.ref e)) Q E s' := by
  have hf : env.frame = some L := by subst henv; rfl
  have hks : env.scope.kind = .function := by subst henv; exact hk
  have K' := pushX K F hf hks
  have hin : ∀ en ∈ (env :: outer), ∀ b, en.frame = some b → b ∈ (env :: outer).filterMap (·.frame) := fun en he b hb => List.mem_filterMap.mpr ⟨en, he, hb⟩
  have mem : ∀ b, b ∈ (env :: outer).filterMap (·.frame) → b = L ∨ b ∈ outer.filterMap (·.frame) := fun b hb => fmem hf hb
  have st : base.StaysIn (hideAll h ((env :: outer).filterMap (·.frame))) := fun b o q => hideAll_get _ (K'.stays b o q) fun hm => by
    rw [(K'.frames.mem hm).1] at q; cases q
  have sg : ∀ b o, g.get? b = some o → b ∉ outer.filterMap (·.frame) → (hideAll h ((env :: outer).filterMap (·.frame))).get? b = some o := fun b o q nm => hideAll_get _ (F.keep b o q) fun hm => by
    rcases mem b hm with z | z
    · rw [z, kts_self F] at q
      cases q
    · exact nm z
  have hl : ∀ q ∈ news, (hideAll h ((env :: outer).filterMap (·.frame))).get? q.1 = some q.2 ∧ g.get? q.1 = none ∧ base.get? q.1 = none := fun q hq => by
    refine ⟨hideAll_get _ (N q hq).1 fun hm => ?_, (N q hq).2.2, fresh_of_stays K.stays (N q hq).2.2⟩
    rcases mem _ hm with z | z
    · exact (N q hq).2.1 z
    · obtain ⟨o, ho, _⟩ := (K.frames.mem z).2
      rw [(N q hq).2.2] at ho; cases ho
  obtain ⟨ob, tp, he, hcls, hd⟩ := hx.there
  have hen : (hideAll h ((env :: outer).filterMap (·.frame))).get? e = none := by
    cases q : (hideAll h ((env :: outer).filterMap (·.frame))).get? e with
    | none => rfl
    | some o => have := of_hideAll _ q; rw [hx.new] at this; cases this
  refine wpAny_leaving_firstW (a0 := tp) K'.stack ((funFrames_hide K'.frames hin).of_keeps fun b o hb _ => ⟨o, hx.keeps b o hb, rfl⟩) hf he (fun b o hb => hx.keeps b o (of_hideAll _ hb)) hen hd rfl rfl fun h' hL => ?_
  obtain ⟨k1, ⟨_, _, k2⟩, k3, k4⟩ := hL
  have R : RaisedSN base g outer e (.type cls) news h' := ⟨_, tp, st, sg, hl, k1, hen, k2, by rw [← hcls]; exact k3⟩
  exact hQ h' R R.toN (((Heap.UpToSlots.of_keeps F.keep).trans (Heap.UpToSlots.of_keeps hx.keeps)).trans k4)
end
end Mine
end

section
open PySem PySem.W PySem.Spec PySem.Calls PyProof.Rows
namespace Mine
local macro_rules | `(tactic| walk_at "getMethod ref") => `(tactic| (k_here; (with_reducible show wpAny _ _ (getMethod (Value.ref 50) _ _) _ _ _); k_dflt (refine' haab_method ?X ?F ?_; (case X => k_asm); (case F => k_asm))))
local macro_rules | `(tactic| walk_at "call builtin:list.index") => `(tactic| (k_here; (with_reducible show wpAny _ _ (call (Value.builtin _) [Value.ref 50, Value.str (months.getD _ _) _]) _ _ _); k_dflt (refine' haab_index ?X ?F ?k ?_; (case X => k_asm); (case F => k_asm); (case k => assumption)); intro t' tk'))
set_option maxRecDepth 100000 in
set_option maxHeartbeats 8000000 in
theorem haab_told (w : World) (d : Int) (k : Nat) (t t' : Tok) (h0 : 0 ≤ d) (h1 : d ≤ 19) (hk : k < 19) :
    ToldL w 79 [.int d t, .str (months.getD k Str.empty) t'] (fun v => ∃ t, v = .int (min (20 * (k : Int)) 360 + d) t) := by
  unfold ToldL
  w_top off
  k_fill
  intro p loose mean mg mb cn cs a ccd h₀ L m news s Q E B F X N T hcs hret
  refine wpAny_call ?_
  k_dflt (refine' code_defS0 ?k1 ?k2 ?k3 ?k4 ?k5 ?kA ?k6 ?k7 ?k8 ?k9 ?kB ?_ ?cK ?c2 ?c3 ?c4 ?c5; (case kA => exact rfl); (case k2 => k_asm); (case k1 => k_asm); (case k3 => k_asm); (case k4 => k_asm); (case k5 => k_asm); (case k6 => k_is); (case k7 => k_is); (case k8 => k_room); (case k9 => exact BindsTo.of_eq rfl); (case kB => exact locs rfl); (case cK => exact hcs); (case c2 => exact rfl); (case c3 => exact rfl); (case c4 => exact rfl); (case c5 => decide); k_whole; intro g' L' h' FG' F' N' B' X' T' D'; (try dsimp only); (try k_lift B'); (try k_fold))
  k_steps
  all_goals (refine hret _ _ _ ⟨_, congrArg (Value.int · _) ?_⟩ (by k_asm) (by k_asm); first | omega | (split <;> omega))
end Mine
end

section
open PySem PySem.W PySem.Spec PySem.Calls PyProof.Rows
namespace Mine
local macro_rules | `(tactic| walk_at "pad") => `(tactic| skip)
local macro_rules | `(tactic| walk_at "pad") => `(tactic| skip)
local macro_rules | `(tactic| walk_at "getMethod ref") => `(tactic| (k_here; (with_reducible show wpAny _ _ (getMethod (Value.ref 50) _ _) _ _ _); k_dflt (refine' haab_method ?X ?F ?_; (case X => k_asm); (case F => k_asm))))
local macro_rules | `(tactic| walk_at "call builtin:list.index") => `(tactic| (k_here; (with_reducible show wpAny _ _ (call (Value.builtin _) [Value.ref 50, Value.str (months.getD _ _) _]) _ _ _); k_dflt (refine' haab_index ?X ?F ?k ?_; (case X => k_asm); (case F => k_asm); (case k => assumption)); intro t' tk'))
local macro_rules | `(tactic| walk_at "call builtin:list.index") => `(tactic| (k_here; (with_reducible show wpAny _ _ (call (Value.builtin _) [Value.ref 50, Value.str _ _]) _ _ _); k_dflt (refine' haab_index_none ?X ?F ?S ?x ?h ?_; (case X => k_asm); (case F => k_asm); (case S => assumption); (case x => assumption); (case h => exact rfl)); intro h' tk' e' hx'))
local macro_rules | `(tactic| walk_at "noteFrame ref") => `(tactic| (k_here; (with_reducible rename Heap.NewExc _ _ _ _ => neX); k_dflt (refine' caught_own (env := envOf _ _ _ _ _) (X := "ValueError") (T' := "ValueError") (x := Str.ofString "ValueError") rfl ?hx ?F ?N ?K ?XB ?TB ?ex PyProof.Rows.Boot.«ValueError» ?hn PySem.F.isExc_ValueError PySem.F.notTuple_ValueError ?hs ?_; (case hx => exact neX); (case F => k_asm); (case N => k_asm); (case K => k_asm); (case XB => k_asm); (case TB => k_asm); (case ex => k_is); (case hn => decide); (case hs => kts_sub)); intro h' g' tk' oe' vs' T' F' N' c1' c2' c3' K' X' P' ap'; clear neX))
local macro_rules | `(tactic| walk_at "exec Raise some some") => `(tactic| (k_here; k_dflt (refine' raise_own (env := envOf _ _ _ _ _) (X := "ValueError") (X' := "ValueError") rfl ?K excClass_ValueError excClass_ValueError ?c ?d ?e ?_; (case K => k_asm); (case c => assumption); (case d => assumption); (case e => assumption))))
local macro_rules | `(tactic| walk_at "eval Name") => `(tactic| (k_here; (with_reducible show wpAny _ _ (eval (PySem.Expr.Name (Str.ofString "ValueError") _) _) _ _ _); k_dflt (refine' name_B ?F ?X ?T ?e PyProof.Rows.Boot.«ValueError» ?n ?_; (case F => k_asm); (case X => k_asm); (case T => exact topRead_of (by assumption)); (case e => k_is); (case n => decide))))
local macro_rules | `(tactic| walk_at "call type:ValueError") => `(tactic| (k_here; (with_reducible show wpAny _ _ (call (Value.type "ValueError") [_]) _ _ _); k_dflt (refine' call_exc excClass_ValueError ?_ ?s; (case s => size_fits)); intro h' e' hx'))
local macro_rules | `(tactic| kfm_field) => `(tactic| (
  refine wpAny_bind (field_man (by rfl) (by rfl) ?_)
  refine wpAny_bind (wpAny_holding (wpAny_of_eq (a := _) rfl ?_))
  kpc_if
  refine wpAny_bind (wpAny_pure ?_)
  kfm_val
  refine wpAny_bind (wpAny_of_eq (a := some _) rfl ?_)
  refine wpAny_pure ?_
  refine KFm.after_field (by kpc_g) (by kpc_text) (by kpc_obj) (by kfm_len) (by kpc_obj) (by kfm_cat2) (by kfm_rest) ?_
  intro _ _))
local macro_rules | `(tactic| walk_at "Exists") => `(tactic| (k_here; (with_reducible rename Heap.NewExc _ _ _ _ => neX); k_dflt (refine' ⟨_, _, _, rfl, neX, ?F, ?N, ?mem, ?m, ?_⟩; (case F => k_asm); (case N => k_asm); (case mem => k_mem); (case m => rfl)); intro h' tk' R' U'; clear neX; (try dsimp only)))
local macro_rules | `(tactic| walk_at "leaving ref") => `(tactic| (k_here; (with_reducible rename RaisedM _ _ _ _ _ _ _ _ _ => rM); k_dflt (refine' leave_own (env := envOf _ _ _ _ _) rfl ?T rM ?U ?sub ?_; (case T => k_asm); (case U => k_asm); (case sub => exact fun q hq => List.mem_cons_of_mem _ hq)); clear rM; intro h' S' R' U'; (try dsimp only at S' R' U' ⊢)))
local macro_rules | `(tactic| walk_at "exec Raise some none") => `(tactic| (k_here; k_dflt (refine Raise_new rfl ?_)))
set_option maxRecDepth 100000 in
set_option maxHeartbeats 8000000 in
theorem haab_index_refused (w : World) (d : Int) (x : Str) (t t' : Tok) (h0 : d < 0 ∨ 19 < d) :
    ToldL w 121 [.int d t, .str x t'] (fun v => ∃ t, v = .str (Str.ofString "index") t) := by
  unfold ToldL
  w_top off
  k_fill
  intro p loose mean mg mb cn cs a ccd h₀ L m news s Q E B F X N T hk hret
  refine wpAny_call ?_
  k_dflt (refine' code_defS0 ?k1 ?k2 ?k3 ?k4 ?k5 ?kA ?k6 ?k7 ?k8 ?k9 ?kB ?_ ?cK ?c2 ?c3 ?c4 ?c5; (case kA => exact rfl); (case k2 => k_asm); (case k1 => k_asm); (case k3 => k_asm); (case k4 => k_asm); (case k5 => k_asm); (case k6 => k_is); (case k7 => k_is); (case k8 => k_room); (case k9 => exact BindsTo.of_eq rfl); (case kB => exact locs rfl); (case cK => exact hk); (case c2 => exact rfl); (case c3 => exact rfl); (case c4 => exact rfl); (case c5 => decide); k_whole; intro g' L' h' FG' F' N' B' X' T' D'; (try dsimp only); (try k_lift B'); (try k_fold))
  k_steps
  all_goals exact hret _ _ _ ⟨_, rfl⟩ (by k_asm) (by k_asm)
set_option maxRecDepth 100000 in
set_option maxHeartbeats 8000000 in
theorem haab_value_refused (w : World) (x : Str) (t t' : Tok) (hs : Short x) (hx : x ∉ months) :
    ToldL w 121 [.int 0 t, .str x t'] (fun v => ∃ t, v = .str (Str.ofString "value") t) := by
  have hlen := hs.len
  unfold ToldL
  w_top off
  k_fill
  intro p loose mean mg mb cn cs a ccd h₀ L m news s Q E B F X N T hk hret
  refine wpAny_call ?_
  k_dflt (refine' code_defS0 ?k1 ?k2 ?k3 ?k4 ?k5 ?kA ?k6 ?k7 ?k8 ?k9 ?kB ?_ ?cK ?c2 ?c3 ?c4 ?c5; (case kA => exact rfl); (case k2 => k_asm); (case k1 => k_asm); (case k3 => k_asm); (case k4 => k_asm); (case k5 => k_asm); (case k6 => k_is); (case k7 => k_is); (case k8 => k_room); (case k9 => exact BindsTo.of_eq rfl); (case kB => exact locs rfl); (case cK => exact hk); (case c2 => exact rfl); (case c3 => exact rfl); (case c4 => exact rfl); (case c5 => decide); k_whole; intro g' L' h' FG' F' N' B' X' T' D'; (try dsimp only); (try k_lift B'); (try k_fold))
  k_steps
  all_goals exact hret _ _ _ ⟨_, rfl⟩ (by k_asm) (by k_asm)
end Mine
end

section
open PySem PySem.W PySem.Spec PySem.Calls PyProof.Rows
namespace Mine
local macro_rules | `(tactic| walk_at "pad") => `(tactic| skip)
local macro_rules | `(tactic| walk_at "pad") => `(tactic| skip)
local macro_rules | `(tactic| walk_at "pad") => `(tactic| skip)
local macro_rules | `(tactic| walk_at "pad") => `(tactic| skip)
local macro_rules | `(tactic| walk_at "pad") => `(tactic| skip)
local macro_rules | `(tactic| walk_at "pad") => `(tactic| skip)
local macro_rules | `(tactic| walk_at "pad") => `(tactic| skip)
local macro_rules | `(tactic| walk_at "pad") => `(tactic| skip)
local macro_rules | `(tactic| walk_at "pad") => `(tactic| skip)
local macro_rules | `(tactic| walk_at "pad") => `(tactic| skip)
local macro_rules | `(tactic| walk_at "pad") => `(tactic| skip)
local macro_rules | `(tactic| walk_at "pad") => `(tactic| skip)
local macro_rules | `(tactic| walk_at "pad") => `(tactic| skip)
theorem allLt_ne {d e : Addr} {l : List (Addr × Obj)} (h : AllLt d l) (hd : @LE.le Nat _ d e) : ∀ p ∈ l, p.1 ≠ e := by
  induction l with
  | nil => exact List.forall_mem_nil _
  | cons q r ih => exact List.forall_mem_cons.mpr ⟨Nat.ne_of_lt (Nat.lt_of_lt_of_le h.1 hd), ih h.2⟩
theorem drop_news {g h : Heap} {L : Addr} {p : Addr × Obj} {l : List (Addr × Obj)} (N : News g L h (p :: l)) : News g L h l := fun q hq => N q (List.mem_cons_of_mem _ hq)
local macro_rules | `(tactic| k_all) => `(tactic| first | assumption | exact allLt_ne (by assumption) (by omega))
local macro_rules | `(tactic| walk_at "eval GeneratorExp") => `(tactic| (k_here; k_dflt (refine' gen_rangeK ?F0 ?N0 ?C ?T ?P ?hh rfl ?clo ?cell ?zero ?x ?y ?cy ?m0 ?D0 ?kind ?room ?xd ?yd ?yc ?fold ?_; (case F0 => k_asm); (case N0 => k_asm); (case C => exact CodeHd.keeps (by assumption) (Below.stays (by assumption))); (case T => assumption); (case P => decide); (case hh => rfl); (case clo => rfl); (case cell => decide); (case zero => rfl); (case x => rfl); (case y => rfl); (case cy => rfl); (case m0 => k_mem); (case D0 => assumption); (case kind => rfl); (case room => k_room); (case xd => rfl); (case yd => rfl); (case yc => rfl); (case fold => exact fun _ => rfl))))
local macro_rules | `(tactic| walk_at "GPost") => `(tactic| (k_here; k_dflt (refine' ⟨_, _, _, _, _, _, _, _, _, _, _, _, _, rfl, ?rng, ?sm, ?n, ?F, ?N, ?U, ?t, ?AB, ?mem, ?dat, ?ne, ?_⟩; (case rng => assumption); (case sm => rfl); (case n => first | exact (rfl : Builtin.Range.rangeSize 0 260 13 = ((20 : Nat) : Int)) | exact (rfl : Builtin.Range.rangeSize 0 260 20 = ((13 : Nat) : Int))); (case F => k_asm); (case N => k_asm); (case U => k_updF); (case t => assumption); (case AB => assumption); (case mem => k_mem); (case dat => assumption); (case ne => k_ne)); intro ga' h' g' tk' ps' F' N' t' AB' l' G' l2' l3' l4'; (try dsimp only at N' l' l3' l4'); (replace l3' := fun p hp => Nat.le_sub_one_of_lt (l3' p hp)); (replace l4' := Nat.le_sub_one_of_lt l4')))
local macro_rules | `(tactic| walk_at "call type:set") => `(tactic| (k_here; k_dflt (refine' set_gen ?F ?N ?AB ?G ?K ?L ?b ?_; (case F => k_asm); (case N => k_asm); (case AB => assumption); (case G => assumption); (case K => assumption); (case L => assumption); (case b => decide)); intro D' h' g' tk' o' F' N' so' AB' l'; (replace l' := allLt_of l'); (simp only [AllLt] at l'); (repeat (obtain ⟨_, l'⟩ := l')); clear l'))
local macro_rules | `(tactic| walk_at "getMethod ref") => `(tactic| (k_here; (with_reducible show wpAny _ _ (getMethod (Value.ref 51) _ _) _ _ _); k_dflt (refine' nam_method ?X ?F ?_; (case X => k_asm); (case F => k_asm))))
local macro_rules | `(tactic| walk_at "call builtin:list.index") => `(tactic| (k_here; (with_reducible show wpAny _ _ (call (Value.builtin _) [Value.ref 51, Value.str (names.getD _ _) _]) _ _ _); k_dflt (refine' nam_index ?X ?F ?k ?_; (case X => k_asm); (case F => k_asm); (case k => assumption)); intro t' tk'))
local macro_rules | `(tactic| walk_at "getMethod ref") => `(tactic| (k_here; k_dflt (refine' set_method PySem.F.slot_set_intersection PySem.F.type_set_intersection ?N ?m ?S ?_; (case N => k_asm); (case m => k_mem); (case S => assumption))))
local macro_rules | `(tactic| walk_at "getMethod ref") => `(tactic| (k_here; (with_reducible show wpAny _ _ (getMethod _ (Str.ofString "pop") _) _ _ _); k_dflt (refine' set_method PySem.F.slot_set_pop PySem.F.type_set_pop ?N ?m ?S ?_; (case N => k_asm); (case m => k_mem); (case S => assumption))))
local macro_rules | `(tactic| walk_at "call builtin:set.intersection") => `(tactic| (k_here; k_dflt (refine' inter_led ?F ?N ?m1 ?m2 ?S1 ?S2 ?d1 ?d2 ?_; (case F => k_asm); (case N => k_asm); (case m1 => k_mem); (case m2 => k_mem); (case S1 => assumption); (case S2 => assumption); (case d1 => constructor <;> omega); (case d2 => constructor <;> omega)); intro R' h' tk' o' F' N' so' l'; (replace l' := allLt_of l'); (simp only [AllLt] at l'); (repeat (obtain ⟨_, l'⟩ := l')); clear l'))
local macro_rules | `(tactic| walk_at "call builtin:set.pop") => `(tactic| (k_here; k_dflt (refine' pop_led ?F ?N ?ap ?S ?_; (case F => k_asm); (case N => k_asm); (case ap => k_all); (case S => assumption)); intro h' d' t' F' N'))
local macro_rules | `(tactic| walk_at "exec Try") => `(tactic| (k_here; (with_reducible show wpAny _ _ (exec (Stmt.Try _ (_ :: _) _ [] _) (envOfC _ _ _ _ _)) _ _ _); refine wpAny_Try_except ?_))
set_option maxRecDepth 100000 in
set_option maxHeartbeats 8000000 in
theorem tzolkin_told (w : World) (d : Int) (k : Nat) (t t' : Tok) (h0 : 1 ≤ d) (h1 : d ≤ 13) (hk : k < 20) :
    ToldT w 86 [.int d t, .str (names.getD k Str.empty) t'] (fun v => ∃ r t, v = .int r t ∧ 1 ≤ r ∧ r ≤ 260 ∧ r % 13 = d % 13 ∧ r % 20 = ((k : Int) + 1) % 20) := by
  unfold ToldT
  w_top off
  k_fill
  intro p loose mean mg mb cn cs a ccd h₀ L m news ps s Q E B F X N hn ht AB C T hcs hret
  refine wpAny_call ?_
  k_dflt (refine' code_defC ?k1 ?k2 ?k3 ?k4 ?k5 ?kA ?kF ?kK ?k6 ?k7 ?k8 ?k9 ?kB ?kD ?_ ?c2 ?c3 ?c4; (case kA => exact rfl); (case kF => exact rfl); (case kK => assumption); (case k1 => k_asm); (case k2 => k_asm); (case k3 => k_asm); (case k4 => k_asm); (case k5 => k_asm); (case k6 => k_is); (case k7 => k_is); (case k8 => k_room); (case k9 => exact BindsTo.of_eq rfl); (case kB => exact rfl); (case kD => decide +kernel); (case c2 => exact rfl); (case c3 => exact rfl); (case c4 => exact rfl); k_whole; intro g' L' h' tk' cells' FG' F' N' Y' B' X' T' l1; (obtain ⟨l1, l2⟩ := allLt_of l1); k_cells Y'; (try simp only [List.cons_append, List.nil_append] at N'); (try dsimp only); (try k_lift B'); (try k_fold))
  k_steps
  all_goals (refine hret _ _ _ _ _ _ ⟨_, _, rfl, (placeOf_spec d (1 + k)).1, (placeOf_spec d (1 + k)).2.1, (placeOf_spec d (1 + k)).2.2.1, ?_⟩ (by k_asm) ?_ (by assumption) (by assumption))
  · rw [(placeOf_spec d (1 + k)).2.2.2, Int.add_comm]
  · first | assumption | exact drop_news (by assumption) | exact drop_news (drop_news (by assumption)) | exact drop_news (drop_news (drop_news (by assumption))) | exact drop_news (drop_news (drop_news (drop_news (by assumption))))
end Mine
end

section
open PySem PySem.W PySem.Spec PySem.Calls PyProof.Rows
namespace Mine
local macro_rules | `(tactic| walk_at "pad") => `(tactic| skip)
local macro_rules | `(tactic| walk_at "pad") => `(tactic| skip)
local macro_rules | `(tactic| walk_at "pad") => `(tactic| skip)
local macro_rules | `(tactic| walk_at "pad") => `(tactic| skip)
local macro_rules | `(tactic| walk_at "pad") => `(tactic| skip)
local macro_rules | `(tactic| walk_at "pad") => `(tactic| skip)
local macro_rules | `(tactic| walk_at "pad") => `(tactic| skip)
local macro_rules | `(tactic| walk_at "pad") => `(tactic| skip)
local macro_rules | `(tactic| walk_at "pad") => `(tactic| skip)
local macro_rules | `(tactic| walk_at "pad") => `(tactic| skip)
local macro_rules | `(tactic| walk_at "pad") => `(tactic| skip)
local macro_rules | `(tactic| walk_at "pad") => `(tactic| skip)
local macro_rules | `(tactic| walk_at "pad") => `(tactic| skip)
local macro_rules | `(tactic| walk_at "pad") => `(tactic| skip)
local macro_rules | `(tactic| walk_at "pad") => `(tactic| skip)
local macro_rules | `(tactic| walk_at "pad") => `(tactic| skip)
local macro_rules | `(tactic| walk_at "pad") => `(tactic| skip)
local macro_rules | `(tactic| walk_at "pad") => `(tactic| skip)
local macro_rules | `(tactic| walk_at "pad") => `(tactic| skip)
local macro_rules | `(tactic| walk_at "pad") => `(tactic| skip)
local macro_rules | `(tactic| walk_at "pad") => `(tactic| skip)
local macro_rules | `(tactic| walk_at "pad") => `(tactic| skip)
local macro_rules | `(tactic| walk_at "pad") => `(tactic| skip)
local macro_rules | `(tactic| walk_at "pad") => `(tactic| skip)
local macro_rules | `(tactic| k_all) => `(tactic| first | assumption | exact allLt_ne (by assumption) (by omega))
local macro_rules | `(tactic| walk_at "eval GeneratorExp") => `(tactic| (k_here; k_dflt (refine' gen_rangeK ?F0 ?N0 ?C ?T ?P ?hh rfl ?clo ?cell ?zero ?x ?y ?cy ?m0 ?D0 ?kind ?room ?xd ?yd ?yc ?fold ?_; (case F0 => k_asm); (case N0 => k_asm); (case C => exact CodeHd.keeps (by assumption) (Below.stays (by assumption))); (case T => assumption); (case P => decide); (case hh => rfl); (case clo => rfl); (case cell => decide); (case zero => rfl); (case x => rfl); (case y => rfl); (case cy => rfl); (case m0 => k_mem); (case D0 => assumption); (case kind => rfl); (case room => k_room); (case xd => rfl); (case yd => rfl); (case yc => rfl); (case fold => exact fun _ => rfl))))
local macro_rules | `(tactic| walk_at "GPost") => `(tactic| (k_here; k_dflt (refine' ⟨_, _, _, _, _, _, _, _, _, _, _, _, _, rfl, ?rng, ?sm, ?n, ?F, ?N, ?U, ?t, ?AB, ?mem, ?dat, ?ne, ?_⟩; (case rng => assumption); (case sm => rfl); (case n => first | exact (rfl : Builtin.Range.rangeSize 0 260 13 = ((20 : Nat) : Int)) | exact (rfl : Builtin.Range.rangeSize 0 260 20 = ((13 : Nat) : Int))); (case F => k_asm); (case N => k_asm); (case U => k_updF); (case t => assumption); (case AB => assumption); (case mem => k_mem); (case dat => assumption); (case ne => k_ne)); intro ga' h' g' tk' ps' F' N' t' AB' l' G' l2' l3' l4'; (try dsimp only at N' l' l3' l4'); (replace l3' := fun p hp => Nat.le_sub_one_of_lt (l3' p hp)); (replace l4' := Nat.le_sub_one_of_lt l4')))
local macro_rules | `(tactic| walk_at "call type:set") => `(tactic| (k_here; k_dflt (refine' set_gen ?F ?N ?AB ?G ?K ?L ?b ?_; (case F => k_asm); (case N => k_asm); (case AB => assumption); (case G => assumption); (case K => assumption); (case L => assumption); (case b => decide)); intro D' h' g' tk' o' F' N' so' AB' l'; (replace l' := allLt_of l'); (simp only [AllLt] at l'); (repeat (obtain ⟨_, l'⟩ := l')); clear l'))
local macro_rules | `(tactic| walk_at "getMethod ref") => `(tactic| (k_here; (with_reducible show wpAny _ _ (getMethod (Value.ref 51) _ _) _ _ _); k_dflt (refine' nam_method ?X ?F ?_; (case X => k_asm); (case F => k_asm))))
local macro_rules | `(tactic| walk_at "call builtin:list.index") => `(tactic| (k_here; (with_reducible show wpAny _ _ (call (Value.builtin _) [Value.ref 51, Value.str _ _]) _ _ _); k_dflt (refine' nam_index_none ?X ?F ?S ?x ?h ?_; (case X => k_asm); (case F => k_asm); (case S => assumption); (case x => assumption); (case h => exact rfl)); intro h' tk' e' hx'))
local macro_rules | `(tactic| walk_at "getMethod ref") => `(tactic| (k_here; k_dflt (refine' set_method PySem.F.slot_set_intersection PySem.F.type_set_intersection ?N ?m ?S ?_; (case N => k_asm); (case m => k_mem); (case S => assumption))))
local macro_rules | `(tactic| walk_at "getMethod ref") => `(tactic| (k_here; (with_reducible show wpAny _ _ (getMethod _ (Str.ofString "pop") _) _ _ _); k_dflt (refine' set_method PySem.F.slot_set_pop PySem.F.type_set_pop ?N ?m ?S ?_; (case N => k_asm); (case m => k_mem); (case S => assumption))))
local macro_rules | `(tactic| walk_at "call builtin:set.intersection") => `(tactic| (k_here; k_dflt (refine' inter_led ?F ?N ?m1 ?m2 ?S1 ?S2 ?d1 ?d2 ?_; (case F => k_asm); (case N => k_asm); (case m1 => k_mem); (case m2 => k_mem); (case S1 => assumption); (case S2 => assumption); (case d1 => constructor <;> omega); (case d2 => constructor <;> omega)); intro R' h' tk' o' F' N' so' l'; (replace l' := allLt_of l'); (simp only [AllLt] at l'); (repeat (obtain ⟨_, l'⟩ := l')); clear l'))
local macro_rules | `(tactic| walk_at "call builtin:set.pop") => `(tactic| (k_here; k_dflt (refine' pop_led ?F ?N ?ap ?S ?_; (case F => k_asm); (case N => k_asm); (case ap => k_all); (case S => assumption)); intro h' d' t' F' N'))
local macro_rules | `(tactic| walk_at "exec Try") => `(tactic| (k_here; (with_reducible show wpAny _ _ (exec (Stmt.Try _ (_ :: _) _ [] _) (envOfC _ _ _ _ _)) _ _ _); refine wpAny_Try_except ?_))
local macro_rules | `(tactic| walk_at "noteFrame ref") => `(tactic| (k_here; (with_reducible rename Heap.NewExc _ _ _ _ => neX); k_dflt (refine' caught_own (env := envOf _ _ _ _ _) (X := "ValueError") (T' := "ValueError") (x := Str.ofString "ValueError") rfl ?hx ?F ?N ?K ?XB ?TB ?ex PyProof.Rows.Boot.«ValueError» ?hn PySem.F.isExc_ValueError PySem.F.notTuple_ValueError ?hs ?_; (case hx => exact neX); (case F => k_asm); (case N => k_asm); (case K => k_asm); (case XB => k_asm); (case TB => k_asm); (case ex => k_is); (case hn => decide); (case hs => kts_sub)); intro h' g' tk' oe' vs' T' F' N' c1' c2' c3' K' X' P' ap'; clear neX))
local macro_rules | `(tactic| walk_at "noteFrame ref") => `(tactic| (k_here; (with_reducible rename Heap.NewExc _ _ _ _ => neX); k_dflt (refine' caught_own (env := envOfC _ _ _ _ _) (X := "ValueError") (T' := "ValueError") (x := Str.ofString "ValueError") rfl ?hx ?F ?N ?K ?XB ?TB ?ex PyProof.Rows.Boot.«ValueError» ?hn PySem.F.isExc_ValueError PySem.F.notTuple_ValueError ?hs ?_; (case hx => exact neX); (case F => k_asm); (case N => k_asm); (case K => k_asm); (case XB => k_asm); (case TB => k_asm); (case ex => k_is); (case hn => decide); (case hs => kts_sub)); intro h' g' tk' oe' vs' T' F' N' c1' c2' c3' K' X' P' ap'; clear neX))
local macro_rules | `(tactic| walk_at "exec Raise some some") => `(tactic| (k_here; k_dflt (refine' raise_own (env := envOf _ _ _ _ _) (X := "ValueError") (X' := "ValueError") rfl ?K excClass_ValueError excClass_ValueError ?c ?d ?e ?_; (case K => k_asm); (case c => assumption); (case d => assumption); (case e => assumption))))
local macro_rules | `(tactic| walk_at "exec Raise some some") => `(tactic| (k_here; k_dflt (refine' raise_own (env := envOfC _ _ _ _ _) (X := "ValueError") (X' := "ValueError") rfl ?K excClass_ValueError excClass_ValueError ?c ?d ?e ?_; (case K => k_asm); (case c => assumption); (case d => assumption); (case e => assumption))))
local macro_rules | `(tactic| walk_at "eval Name") => `(tactic| (k_here; (with_reducible show wpAny _ _ (eval (PySem.Expr.Name (Str.ofString "ValueError") _) _) _ _ _); k_dflt (refine' name_B ?F ?X ?T ?e PyProof.Rows.Boot.«ValueError» ?n ?_; (case F => k_asm); (case X => k_asm); (case T => exact topRead_of (by assumption)); (case e => k_is); (case n => decide))))
local macro_rules | `(tactic| walk_at "call type:ValueError") => `(tactic| (k_here; (with_reducible show wpAny _ _ (call (Value.type "ValueError") [_]) _ _ _); k_dflt (refine' call_exc excClass_ValueError ?_ ?s; (case s => size_fits)); intro h' e' hx'))
local macro_rules | `(tactic| kfm_field) => `(tactic| (
  refine wpAny_bind (field_man (by rfl) (by rfl) ?_)
  refine wpAny_bind (wpAny_holding (wpAny_of_eq (a := _) rfl ?_))
  kpc_if
  refine wpAny_bind (wpAny_pure ?_)
  kfm_val
  refine wpAny_bind (wpAny_of_eq (a := some _) rfl ?_)
  refine wpAny_pure ?_
  refine KFm.after_field (by kpc_g) (by kpc_text) (by kpc_obj) (by kfm_len) (by kpc_obj) (by kfm_cat2) (by kfm_rest) ?_
  intro _ _))
local macro_rules | `(tactic| walk_at "Exists") => `(tactic| (k_here; (with_reducible rename Heap.NewExc _ _ _ _ => neX); k_dflt (refine' ⟨_, _, _, rfl, neX, ?F, ?N, ?mem, ?m, ?_⟩; (case F => k_asm); (case N => k_asm); (case mem => k_mem); (case m => rfl)); intro h' tk' R' U'; clear neX; (try dsimp only)))
local macro_rules | `(tactic| walk_at "leaving ref") => `(tactic| (k_here; (with_reducible rename RaisedM _ _ _ _ _ _ _ _ _ => rM); k_dflt (refine' leave_own (env := envOf _ _ _ _ _) rfl ?T rM ?U ?sub ?_; (case T => k_asm); (case U => k_asm); (case sub => exact fun q hq => List.mem_cons_of_mem _ hq)); clear rM; intro h' S' R' U'; (try dsimp only at S' R' U' ⊢)))
local macro_rules | `(tactic| walk_at "leaving ref") => `(tactic| (k_here; (with_reducible rename RaisedM _ _ _ _ _ _ _ _ _ => rM); k_dflt (refine' leave_own (env := envOfC _ _ _ _ _) rfl ?T rM ?U ?sub ?_; (case T => k_asm); (case U => k_asm); (case sub => exact fun q hq => List.mem_cons_of_mem _ hq)); clear rM; intro h' S' R' U'; (try dsimp only at S' R' U' ⊢)))
local macro_rules | `(tactic| walk_at "call ref") => `(tactic| (k_here; (with_reducible show wpAny _ _ (call (Value.ref 86) _) _ _ _); refine wpAny_call ?_; k_dflt (refine' code_defC ?k1 ?k2 ?k3 ?k4 ?k5 ?kA ?kF ?kK ?k6 ?k7 ?k8 ?k9 ?kB ?kD ?_ ?c2 ?c3 ?c4; (case kA => exact rfl); (case kF => exact rfl); (case kK => exact rfl); (case k1 => k_asm); (case k2 => k_asm); (case k3 => k_asm); (case k4 => k_asm); (case k5 => k_asm); (case k6 => k_is); (case k7 => k_is); (case k8 => k_room); (case k9 => exact BindsTo.of_eq rfl); (case kB => exact rfl); (case kD => decide +kernel); (case c2 => exact rfl); (case c3 => exact rfl); (case c4 => exact rfl); k_whole; intro g' L' h' tk' cells' FG' F' N' Y' B' X' T' l1; (obtain ⟨l1, l2⟩ := allLt_of l1); k_cells Y'; (try simp only [List.cons_append, List.nil_append] at N'); (try dsimp only); (try k_lift B'); (try k_fold))))
local macro_rules | `(tactic| walk_at "leaving ref") => `(tactic| (k_here; (with_reducible rename Heap.NewExc _ _ _ _ => neX); k_dflt (refine' leave_newX (env := envOfC _ _ _ _ _) rfl ?K neX ?F ?N ?_; (case K => k_asm); (case F => k_asm); (case N => k_asm)); clear neX; intro h' S' R' U'; (try dsimp only at S' R' U' ⊢)))
local macro_rules | `(tactic| walk_at "exec Raise some none") => `(tactic| (k_here; k_dflt (refine Raise_new rfl ?_)))
set_option maxRecDepth 100000 in
set_option maxHeartbeats 8000000 in
theorem tzolkin_index_refused (w : World) (d : Int) (x : Str) (t t' : Tok) (h0 : d < 1 ∨ 13 < d) :
    ToldT w 128 [.int d t, .str x t'] (fun v => ∃ t, v = .str (Str.ofString "index") t) := by
  unfold ToldT
  w_top off
  k_fill
  intro p loose mean mg mb cn cs a ccd h₀ L m news ps s Q E B F X N hn ht AB C T hcs hret
  refine wpAny_call ?_
  k_dflt (refine' code_defS0 ?k1 ?k2 ?k3 ?k4 ?k5 ?kA ?k6 ?k7 ?k8 ?k9 ?kB ?_ ?cK ?c2 ?c3 ?c4 ?c5; (case kA => exact rfl); (case k2 => k_asm); (case k1 => k_asm); (case k3 => k_asm); (case k4 => k_asm); (case k5 => k_asm); (case k6 => k_is); (case k7 => k_is); (case k8 => k_room); (case k9 => exact BindsTo.of_eq rfl); (case kB => exact locs rfl); (case cK => exact hcs); (case c2 => exact rfl); (case c3 => exact rfl); (case c4 => exact rfl); (case c5 => decide); k_whole; intro g' L' h' FG' F' N' B' X' T' D'; (try dsimp only); (try k_lift B'); (try k_fold))
  k_steps
  all_goals (refine hret _ _ _ _ _ ps ⟨_, rfl⟩ (by k_asm) ?_ ht (by assumption))
  all_goals first | assumption | exact drop_news (by assumption) | exact drop_news (drop_news (by assumption)) | exact drop_news (drop_news (drop_news (by assumption)))
set_option maxRecDepth 100000 in
set_option maxHeartbeats 8000000 in
theorem tzolkin_value_refused (w : World) (d : Int) (x : Str) (t t' : Tok) (h0 : 1 ≤ d) (h1 : d ≤ 13) (hs : Short x) (hx : x ∉ names) :
    ToldT w 128 [.int d t, .str x t'] (fun v => ∃ t, v = .str (Str.ofString "value") t) := by
  have hlen := hs.len
  unfold ToldT
  w_top off
  k_fill
  intro p loose mean mg mb cn cs a ccd h₀ L m news ps s Q E B F X N hn ht AB C T hcs hret
  refine wpAny_call ?_
  k_dflt (refine' code_defS0 ?k1 ?k2 ?k3 ?k4 ?k5 ?kA ?k6 ?k7 ?k8 ?k9 ?kB ?_ ?cK ?c2 ?c3 ?c4 ?c5; (case kA => exact rfl); (case k2 => k_asm); (case k1 => k_asm); (case k3 => k_asm); (case k4 => k_asm); (case k5 => k_asm); (case k6 => k_is); (case k7 => k_is); (case k8 => k_room); (case k9 => exact BindsTo.of_eq rfl); (case kB => exact locs rfl); (case cK => exact hcs); (case c2 => exact rfl); (case c3 => exact rfl); (case c4 => exact rfl); (case c5 => decide); k_whole; intro g' L' h' FG' F' N' B' X' T' D'; (try dsimp only); (try k_lift B'); (try k_fold))
  k_steps
  any_goals first | exact (0 : Nat) | exact Str.empty | exact Value.none
  refine hret _ _ _ _ _ _ ⟨_, rfl⟩ (by k_asm) ?_ (by assumption) (by assumption)
  all_goals first | assumption | exact drop_news (by assumption) | exact drop_news (drop_news (by assumption)) | exact drop_news (drop_news (drop_news (by assumption))) | exact drop_news (drop_news (drop_news (drop_news (by assumption))))
end Mine
end

section
open PySem PySem.W PySem.Spec PySem.Calls PyProof.Rows
namespace Mine
open PySem.Float64

theorem rep {n j : Nat} (h0 : 0 < n) (hn : n < 2 ^ 53) (h1 : 52 ≤ j) (h2 : j ≤ 1900) : ∃ t, t < infMag ∧ V t = n * 2 ^ j := by
  have hl1 : 2 ^ n.log2 ≤ n := Nat.log2_self_le (by omega)
  have hl2 : n < 2 ^ (n.log2 + 1) := Nat.lt_log2_self
  have hl : n.log2 ≤ 52 := by
    by_cases h : n.log2 ≤ 52
    · exact h
    · have := Nat.pow_le_pow_right (n := 2) (by decide) (show 53 ≤ n.log2 by omega)
      omega
  generalize n.log2 = l at *
  have e1 : (2 : Nat) ^ 52 = 2 ^ l * 2 ^ (52 - l) := by rw [← Nat.pow_add]; congr 1; omega
  have e2 : (2 : Nat) ^ 53 = 2 ^ (l + 1) * 2 ^ (52 - l) := by rw [← Nat.pow_add]; congr 1; omega
  have hp : 0 < (2 : Nat) ^ (52 - l) := Nat.two_pow_pos _
  have q1 : 2 ^ 52 ≤ n * 2 ^ (52 - l) := by rw [e1]; exact Nat.mul_le_mul_right _ hl1
  have q2 : n * 2 ^ (52 - l) < 2 ^ 53 := by rw [e2]; exact Nat.mul_lt_mul_of_pos_right hl2 hp
  refine ⟨(j - 52 + l) * 2 ^ 52 + n * 2 ^ (52 - l), ?_, ?_⟩
  · have hi : infMag = 2047 * 2 ^ 52 := rfl
    rw [hi]
    generalize n * 2 ^ (52 - l) = q at *
    have : (j - 52 + l) * 2 ^ 52 ≤ 1900 * 2 ^ 52 := Nat.mul_le_mul_right _ (by omega)
    omega
  · rw [V_at (Nat.le_of_lt q2) (.inl q1), Nat.mul_assoc, ← Nat.pow_add]
    congr 2; omega

theorem exact_right {r : UInt64} {neg : Bool} {W t0 : Nat} (h : Right r neg W 1) (hV : V t0 = W) (hW : 2 * W < (2 ^ 54 - 1) * 2 ^ 2045) : ∃ t, r = pack neg t ∧ t < infMag ∧ V t = W := by
  obtain ⟨t, e, hle, hov, hn⟩ := h
  have hlt : t < infMag := Nat.lt_of_le_of_ne hle fun q => by
    have := hov.mp q
    rw [Nat.one_mul] at this
    exact absurd hW (Nat.not_lt.mpr this)
  refine ⟨t, e, hlt, ?_⟩
  have := (hn hlt t0).1
  rw [Nat.one_mul, Nat.one_mul, hV] at this
  unfold Float64.dist at this
  omega

/-- x is a finite double of value n/2 -/
def Half (x : UInt64) (n : Int) : Prop := ∃ a m e, decode x = .fin a m e ∧ val x = n * ((2 ^ 1073 : Nat) : Int)

theorem room {n : Nat} (hn : n < 2 ^ 53) : 2 * (n * 2 ^ 1073) < (2 ^ 54 - 1) * 2 ^ 2045 := by
  have e1 : (2 : Nat) ^ 2045 = 2 ^ 972 * 2 ^ 1073 := by rw [← Nat.pow_add]
  have e2 : (2 : Nat) ^ 972 = 2 ^ 919 * 2 ^ 53 := by rw [← Nat.pow_add]
  have hK : 0 < (2 : Nat) ^ 1073 := Nat.two_pow_pos _
  have hJ : 0 < (2 : Nat) ^ 919 := Nat.two_pow_pos _
  rw [e1, e2]
  generalize (2 : Nat) ^ 1073 = K at *
  generalize (2 : Nat) ^ 919 = J at *
  rw [← Nat.mul_assoc, ← Nat.mul_assoc]
  refine Nat.mul_lt_mul_of_pos_right ?_ hK
  have : 2 * n < (2 ^ 54 - 1) * 2 ^ 53 := by omega
  refine Nat.lt_of_lt_of_le this (Nat.mul_le_mul_left _ ?_)
  omega

theorem half_pack {r : UInt64} {neg : Bool} {t : Nat} {n : Int} (hr : r = pack neg t) (ht : t < infMag) (hV : V t = n.natAbs * 2 ^ 1073) (hs : n = 0 ∨ neg = decide (n < 0)) : Half r n := by
  obtain ⟨m, e, hd, hv⟩ := decode_pack neg ht
  subst hr
  refine ⟨_, _, _, hd, ?_⟩
  rw [val_pack neg ht, hV]
  generalize (2 : Nat) ^ 1073 = K
  rcases hs with h | h
  · subst h
    cases neg <;> simp [sgn]
  · subst h
    unfold sgn
    by_cases hn : n < 0
    · rw [decide_eq_true hn, if_pos rfl, Int.natCast_mul, ← Int.neg_mul]; congr 1; omega
    · rw [decide_eq_false hn, if_neg (by decide), Int.natCast_mul]; congr 1; omega

theorem half_right {r : UInt64} {neg : Bool} {n : Int} (h : Right r neg (n.natAbs * 2 ^ 1073) 1) (hs : n = 0 ∨ neg = decide (n < 0)) (hn : n.natAbs < 2 ^ 53) : Half r n := by
  have ht0 : ∃ t0, V t0 = n.natAbs * 2 ^ 1073 := by
    by_cases h0 : n.natAbs = 0
    · exact ⟨0, by rw [V_zero, h0, Nat.zero_mul]⟩
    · obtain ⟨t, _, e⟩ := rep (j := 1073) (Nat.pos_of_ne_zero h0) hn (by decide) (by decide)
      exact ⟨t, e⟩
  obtain ⟨t0, hV⟩ := ht0
  obtain ⟨t, e, hlt, hv⟩ := exact_right h hV (room hn)
  exact half_pack e hlt hv hs

theorem half_zero (b : Bool) : Half (Float64.zero b) 0 := half_pack (neg := b) (t := 0) rfl (by decide) (by rw [V_zero, Int.natAbs_zero, Nat.zero_mul]) (.inl rfl)

theorem half_ofInt {i : Int} (h : i.natAbs < 2 ^ 52) : Half (ofInt i) (2 * i) := by
  refine half_right (neg := decide (i < 0)) ?_ ?_ (by omega)
  · have := ofInt_right i
    have hp : (2 : Nat) ^ 1074 = 2 ^ 1073 * 2 := Nat.pow_succ 2 1073
    rw [hp] at this
    have e : (2 * i).natAbs * 2 ^ 1073 = i.natAbs * (2 ^ 1073 * 2) := by
      generalize (2 : Nat) ^ 1073 = K
      rw [Int.natAbs_mul, Nat.mul_comm K 2, ← Nat.mul_assoc, Nat.mul_comm (Int.natAbs 2)]; rfl
    rw [e]; exact this
  · right; congr 1; apply propext; omega

theorem natAbs_scale (n : Int) (K : Nat) : (n * (K : Int)).natAbs = n.natAbs * K := by rw [Int.natAbs_mul, Int.natAbs_natCast]
theorem scale_lt {n : Int} {K : Nat} (hK : 0 < K) : (n * (K : Int) < 0) ↔ n < 0 := by
  have hpos : (0 : Int) < (K : Int) := by omega
  constructor
  · intro h
    by_cases h2 : n < 0
    · exact h2
    · have := Int.mul_nonneg (show 0 ≤ n by omega) (Int.le_of_lt hpos); omega
  · intro h; exact Int.mul_neg_of_neg_of_pos h hpos

theorem half_add {x y : UInt64} {a b : Int} (hx : Half x a) (hy : Half y b) (h : (a + b).natAbs < 2 ^ 53) : Half (add x y) (a + b) := by
  obtain ⟨sx, mx, ex, dx, vx⟩ := hx
  obtain ⟨sy, my, ey, dy, vy⟩ := hy
  obtain ⟨h1, h2⟩ := add_right dx dy
  have hs : val x + val y = (a + b) * ((2 ^ 1073 : Nat) : Int) := by rw [vx, vy, Int.add_mul]
  have hK : 0 < (2 : Nat) ^ 1073 := Nat.two_pow_pos _
  by_cases h0 : a + b = 0
  · rw [h1 (by rw [hs, h0, Int.zero_mul]), h0]
    exact half_zero _
  · have hne : val x + val y ≠ 0 := by
      rw [hs]
      intro q
      rcases Int.mul_eq_zero.mp q with q | q
      · exact h0 q
      · generalize (2 : Nat) ^ 1073 = K at *; omega
    have h3 := h2 hne
    rw [hs, natAbs_scale] at h3
    refine half_right h3 (.inr ?_) h
    congr 1; apply propext; exact scale_lt hK
theorem half_neg {x : UInt64} {a : Int} (hx : Half x a) : Half (Float64.neg x) (-a) := by
  obtain ⟨sx, mx, ex, dx, vx⟩ := hx
  exact ⟨_, _, _, neg_decode dx, by rw [neg_val dx, vx, Int.neg_mul]⟩
theorem half_sub {x y : UInt64} {a b : Int} (hx : Half x a) (hy : Half y b) (h : (a - b).natAbs < 2 ^ 53) : Half (Float64.sub x y) (a - b) := by
  unfold Float64.sub
  rw [Int.sub_eq_add_neg]
  exact half_add hx (half_neg hy) (by rwa [← Int.sub_eq_add_neg])

theorem half_fmod {x y : UInt64} {a b : Int} (hx : Half x a) (hy : Half y b) (ha : 0 ≤ a) (hb : 0 < b) (hb2 : b.natAbs < 2 ^ 53) : Half (fmod x y) (a % b) := by
  obtain ⟨sx, m, e, dx, vx⟩ := hx
  obtain ⟨sy, k, f, dy, vy⟩ := hy
  have he := decode_ge dx
  have hf := decode_ge dy
  have wx := val_natAbs dx
  have wy := val_natAbs dy
  rw [vx, natAbs_scale] at wx
  rw [vy, natAbs_scale] at wy
  have hK : 0 < (2 : Nat) ^ 1073 := Nat.two_pow_pos _
  have hk : k ≠ 0 := by
    rintro rfl
    rw [Nat.zero_mul] at wy
    rcases Nat.mul_eq_zero.mp wy with q | q <;> omega
  have hmod : fmod x y = ofBin sx ((m * 2 ^ (e - min e f).toNat) % (k * 2 ^ (f - min e f).toNat)) (min e f) := by
    unfold fmod
    rw [dx, dy]
    simp only
    rw [if_neg (by simpa using hk)]
    simp only [align, sgn, Bool.false_eq_true, if_false, Int.toNat_natCast]
  rw [hmod]
  have key : (m * 2 ^ (e - min e f).toNat) % (k * 2 ^ (f - min e f).toNat) * 2 ^ (min e f + 1074).toNat = (a % b).natAbs * 2 ^ 1073 := by
    have e1 : (e - min e f).toNat + (min e f + 1074).toNat = (e + 1074).toNat := by omega
    have e2 : (f - min e f).toNat + (min e f + 1074).toNat = (f + 1074).toNat := by omega
    have L : (m * 2 ^ (e - min e f).toNat) % (k * 2 ^ (f - min e f).toNat) * 2 ^ (min e f + 1074).toNat = (m * 2 ^ (e + 1074).toNat) % (k * 2 ^ (f + 1074).toNat) := by
      rw [← e1, ← e2, Nat.pow_add, Nat.pow_add, ← Nat.mul_assoc, ← Nat.mul_assoc, Nat.mul_mod_mul_right]
    rw [L, ← wx, ← wy]
    clear L wx wy
    generalize (2 : Nat) ^ 1073 = K
    rw [Nat.mul_mod_mul_right, Int.natAbs_emod_of_nonneg ha]
  refine half_right (neg := sx) ?_ ?_ ?_
  · rw [← key]
    unfold ofBin
    refine ofFrac_right (shift_pos _ _ _ (by decide)) ?_ (by decide)
    rw [Nat.mul_one]
    exact shift_one _ (min e f) 1074 (by omega)
  · have h1 := Int.emod_nonneg a (show b ≠ 0 by omega)
    cases sx with
    | false => right; symm; simpa using h1
    | true =>
      left
      rw [val_eq dx] at vx
      unfold sgn at vx
      rw [if_pos rfl] at vx
      have : (0 : Int) ≤ a * ((2 ^ 1073 : Nat) : Int) := Int.mul_nonneg ha (Int.natCast_nonneg _)
      have hz : a * ((2 ^ 1073 : Nat) : Int) = 0 := by
        have : (0 : Int) ≤ ((m * 2 ^ (e + 1074).toNat : Nat) : Int) := Int.natCast_nonneg _
        omega
      have ha0 : a = 0 := by
        rcases Int.mul_eq_zero.mp hz with q | q
        · exact q
        · generalize (2 : Nat) ^ 1073 = K at *; omega
      rw [ha0, Int.zero_emod]
  · have h1 := Int.emod_nonneg a (show b ≠ 0 by omega)
    have h2 := Int.emod_lt_of_pos a hb
    omega

theorem half_copysign {b : Bool} (y : UInt64) : Half (copysign (zero b) y) 0 := by
  have : copysign (zero b) y = zero (signBit y) := by
    unfold copysign
    cases b <;> cases signBit y <;> decide +kernel
  rw [this]
  exact half_zero _
theorem half_cmp {x y : UInt64} {a b : Int} (hx : Half x a) (hy : Half y b) : cmp x y = some (compare a b) := by
  obtain ⟨sx, m, e, dx, vx⟩ := hx
  obtain ⟨sy, k, f, dy, vy⟩ := hy
  rw [cmp_right dx dy, vx, vy]
  have hK : (0 : Int) < ((2 ^ 1073 : Nat) : Int) := Int.natCast_pos.mpr (Nat.two_pow_pos _)
  generalize ((2 ^ 1073 : Nat) : Int) = K at *
  congr 1
  rcases Int.lt_trichotomy a b with h | h | h
  · rw [Int.compare_eq_lt.mpr h, Int.compare_eq_lt.mpr (Int.mul_lt_mul_of_pos_right h hK)]
  · subst h; simp
  · rw [Int.compare_eq_gt.mpr h, Int.compare_eq_gt.mpr (Int.mul_lt_mul_of_pos_right h hK)]
theorem half_lt {x y : UInt64} {a b : Int} (hx : Half x a) (hy : Half y b) : Float64.lt x y = decide (a < b) := by
  unfold Float64.lt
  rw [half_cmp hx hy]
  by_cases h : a < b
  · rw [Int.compare_eq_lt.mpr h, decide_eq_true h]; rfl
  · rw [decide_eq_false h]
    rcases Int.lt_or_eq_of_le (Int.not_lt.mp h) with q | q
    · rw [Int.compare_eq_gt.mpr q]; rfl
    · rw [Int.compare_eq_eq.mpr q.symm]; rfl

theorem half_mod {x y : UInt64} {a b : Int} (hx : Half x a) (hy : Half y b) (ha : 0 ≤ a) (hb : 0 < b) (hb2 : b.natAbs < 2 ^ 53) : Half (divmod x y).2 (a % b) := by
  have hm := half_fmod hx hy ha hb hb2
  have h1 := Int.emod_nonneg a (show b ≠ 0 by omega)
  unfold divmod
  simp only
  split
  · rename_i hz
    have h0 : a % b = 0 := by
      obtain ⟨s, m, e, d, v⟩ := hm
      unfold isZero at hz
      rw [d] at hz
      have hm0 : m = 0 := by
        cases m with
        | zero => rfl
        | succ k => simp at hz
      subst hm0
      rw [val_eq d, Nat.zero_mul] at v
      have v' : (a % b) * ((2 ^ 1073 : Nat) : Int) = 0 := by rw [← v]; cases s <;> rfl
      rcases Int.mul_eq_zero.mp v' with q | q
      · exact q
      · have hK : 0 < (2 : Nat) ^ 1073 := Nat.two_pow_pos _
        generalize (2 : Nat) ^ 1073 = K at *; omega
    rw [h0]
    exact half_copysign _
  · rw [half_lt hy (half_zero false), half_lt hm (half_zero false), decide_eq_false (by omega), decide_eq_false (by omega)]
    exact hm

theorem trunc_of_val {r : UInt64} {s : Bool} {m : Nat} {e : Int} {q : Int} (hd : decode r = .fin s m e) (h0 : 0 ≤ q) (h1 : q * ((2 ^ 1074 : Nat) : Int) ≤ val r) (h2 : val r < (q + 1) * ((2 ^ 1074 : Nat) : Int)) : PySem.Flt.toInt truncOf r = q := by
  unfold PySem.Flt.toInt
  rw [hd]
  have he := decode_ge hd
  have hv := val_eq hd
  have hK : (0 : Int) < ((2 ^ 1074 : Nat) : Int) := Int.natCast_pos.mpr (Nat.two_pow_pos _)
  have core : ∀ M : Nat, ((M * 2 ^ (e + 1074).toNat : Nat) : Int) = val r → floorOf false M e = q := by
    intro M hM
    rw [← hM] at h1 h2
    unfold floorOf
    simp only [sgn, Bool.false_eq_true, if_false]
    split
    · rename_i hge
      have e1 : (e + 1074).toNat = e.toNat + 1074 := by omega
      rw [e1, Nat.pow_add, ← Nat.mul_assoc, Int.natCast_mul] at h1 h2
      have g1 := Int.le_of_mul_le_mul_right h1 hK
      have g2 := Int.lt_of_mul_lt_mul_right h2 (Int.le_of_lt hK)
      have e2 : (M : Int) * 2 ^ e.toNat = ((M * 2 ^ e.toNat : Nat) : Int) := by rw [Int.natCast_mul]; simp
      rw [e2]
      omega
    · rename_i hlt
      have e1 : 1074 = (e + 1074).toNat + (-e).toNat := by omega
      have hP : (0 : Int) < ((2 ^ (e + 1074).toNat : Nat) : Int) := Int.natCast_pos.mpr (Nat.two_pow_pos _)
      have hD : (0 : Int) < ((2 ^ (-e).toNat : Nat) : Int) := Int.natCast_pos.mpr (Nat.two_pow_pos _)
      have e3 : ((2 ^ 1074 : Nat) : Int) = ((2 ^ (-e).toNat : Nat) : Int) * ((2 ^ (e + 1074).toNat : Nat) : Int) := by
        rw [← Int.natCast_mul, ← Nat.pow_add, Nat.add_comm, ← e1]
      rw [e3, Int.natCast_mul, ← Int.mul_assoc] at h1 h2
      have g1 := Int.le_of_mul_le_mul_right h1 hP
      have g2 := Int.lt_of_mul_lt_mul_right h2 (Int.le_of_lt hP)
      have e4 : (2 : Int) ^ (-e).toNat = ((2 ^ (-e).toNat : Nat) : Int) := by simp
      rw [e4, Int.fdiv_eq_ediv_of_nonneg _ (Int.le_of_lt hD)]
      apply Int.le_antisymm
      · exact Int.lt_add_one_iff.mp ((Int.ediv_lt_iff_lt_mul hD).mpr g2)
      · exact (Int.le_ediv_iff_mul_le hD).mpr g1
  unfold truncOf
  simp only
  cases s with
  | false =>
    rw [if_neg (by decide)]
    exact core m (by rw [hv]; rfl)
  | true =>
    rw [if_pos rfl]
    have hz : (m * 2 ^ (e + 1074).toNat : Nat) = 0 := by
      unfold sgn at hv
      rw [if_pos rfl] at hv
      have := Int.mul_nonneg h0 (Int.le_of_lt hK)
      have : (0 : Int) ≤ ((m * 2 ^ (e + 1074).toNat : Nat) : Int) := Int.natCast_nonneg _
      omega
    have hm : m = 0 := by
      rcases Nat.mul_eq_zero.mp hz with q | q
      · exact q
      · exact absurd q (Nat.ne_of_gt (Nat.two_pow_pos _))
    subst hm
    have hc := core 0 (by rw [hv, hz]; rfl)
    have h00 : floorOf false 0 e = 0 := by unfold floorOf; split <;> simp [sgn]
    unfold ceilOf
    show -floorOf false 0 e = q
    rw [h00] at hc ⊢
    omega

theorem half_trunc {x : UInt64} {a : Int} (hx : Half x a) (ha : 0 ≤ a) : PySem.Flt.toInt truncOf x = a / 2 := by
  obtain ⟨s, m, e, d, v⟩ := hx
  have hK : (0 : Int) < ((2 ^ 1073 : Nat) : Int) := Int.natCast_pos.mpr (Nat.two_pow_pos _)
  have e1 : ((2 ^ 1074 : Nat) : Int) = 2 * ((2 ^ 1073 : Nat) : Int) := by
    rw [show (1074 : Nat) = 1073 + 1 from rfl, Nat.pow_succ, Int.natCast_mul, Int.mul_comm]; rfl
  refine trunc_of_val d (by omega) ?_ ?_
  · rw [v, e1, ← Int.mul_assoc]
    exact Int.mul_le_mul_of_nonneg_right (by omega) (Int.le_of_lt hK)
  · rw [v, e1, ← Int.mul_assoc]
    exact Int.mul_lt_mul_of_pos_right (by omega) hK
theorem half_finite {x : UInt64} {a : Int} (hx : Half x a) : isFinite x = true := by
  obtain ⟨s, m, e, d, v⟩ := hx
  unfold isFinite; rw [d]
theorem half_nan {x : UInt64} {a : Int} (hx : Half x a) : isNaN x = false := PySem.Flt.not_nan_of_finite (half_finite hx)
theorem half_inf {x : UInt64} {a : Int} (hx : Half x a) : isInf x = false := PySem.Flt.not_inf_of_finite (half_finite hx)

theorem quo20 {x : UInt64} {d : Int} (hx : Half x (2 * d)) (h0 : 0 ≤ d) (h1 : d < 365) : isFinite (Float64.div x (ofInt 20)) = true ∧ PySem.Flt.toInt truncOf (Float64.div x (ofInt 20)) = d / 20 := by
  obtain ⟨sx, m, e, dx, vx⟩ := hx
  obtain ⟨sy, k, f, dy, vy⟩ := half_ofInt (i := 20) (by decide)
  have hk : k ≠ 0 := by
    rintro rfl
    have wy := val_natAbs dy
    rw [vy, natAbs_scale, Nat.zero_mul] at wy
    have hK : 0 < (2 : Nat) ^ 1073 := Nat.two_pow_pos _
    rcases Nat.mul_eq_zero.mp wy with q | q <;> omega
  have hsy : sy = false := by
    cases sy with
    | false => rfl
    | true =>
      rw [val_eq dy] at vy
      unfold sgn at vy
      rw [if_pos rfl] at vy
      have hK : (0 : Int) < ((2 ^ 1073 : Nat) : Int) := Int.natCast_pos.mpr (Nat.two_pow_pos _)
      have : (0 : Int) ≤ ((k * 2 ^ (f + 1074).toNat : Nat) : Int) := Int.natCast_nonneg _
      omega
  have hR := div_right dx dy hk
  rw [vx, vy, natAbs_scale, natAbs_scale, hsy] at hR
  generalize hr : Float64.div x (ofInt 20) = r at *
  obtain ⟨dn, rfl⟩ := Int.eq_ofNat_of_zero_le h0
  have w1 : (2 * (dn : Int)).natAbs = 2 * dn := by omega
  have w2 : (2 * (20 : Int)).natAbs = 40 := by decide
  rw [w1, w2] at hR
  have hB : 0 < (2 : Nat) ^ 1069 := Nat.two_pow_pos _
  have p1 : (2 : Nat) ^ 1073 = 16 * 2 ^ 1069 := by rw [show (16 : Nat) = 2 ^ 4 from rfl, ← Nat.pow_add]
  have p2 : (2 : Nat) ^ 1074 = 32 * 2 ^ 1069 := by rw [show (32 : Nat) = 2 ^ 5 from rfl, ← Nat.pow_add]
  have p3 : (2 : Nat) ^ 2045 = 2 ^ 976 * 2 ^ 1069 := by rw [← Nat.pow_add]
  have hJ : 0 < (2 : Nat) ^ 976 := Nat.two_pow_pos _
  have hq2 : dn / 20 < 19 := by omega
  obtain ⟨tq, hVq⟩ : ∃ tq, V tq = dn / 20 * (32 * 2 ^ 1069) := by
    by_cases hz : dn / 20 = 0
    · exact ⟨0, by rw [V_zero, hz, Nat.zero_mul]⟩
    · obtain ⟨t, _, e⟩ := rep (n := dn / 20) (j := 1074) (by omega) (by omega) (by decide) (by decide)
      exact ⟨t, by rw [e, p2]⟩
  obtain ⟨tu, _, hVu⟩ := rep (n := 32 * (dn / 20) + 31) (j := 1069) (by omega) (by omega) (by decide) (by decide)
  obtain ⟨t, er, hle, hov, hn⟩ := hR
  have hval : (32 * (2 : Nat) ^ 1069) = 2 ^ 1074 := p2.symm
  rw [p1, p2] at hn hov
  rw [p3] at hov
  have goal : t < infMag ∧ dn / 20 * (32 * 2 ^ 1069) ≤ V t ∧ V t < (dn / 20 + 1) * (32 * 2 ^ 1069) := by
    clear hval p1 p2 p3 vx vy dx dy
    generalize (2 : Nat) ^ 1069 = B at *
    generalize (2 : Nat) ^ 976 = J at *
    have hS : 0 < B * B := Nat.mul_pos hB hB
    have eW : 2 * dn * (16 * B) * (32 * B) = 1024 * dn * (B * B) := by
      have : 1024 = 2 * 16 * 32 := by decide
      rw [this]; ac_rfl
    have hlt : t < infMag := Nat.lt_of_le_of_ne hle fun q => by
      have h := hov.mp q
      rw [eW] at h
      have e5 : 40 * (16 * B) * ((2 ^ 54 - 1) * (J * B)) = 640 * (2 ^ 54 - 1) * J * (B * B) := by
        have : 640 = 40 * 16 := by decide
        rw [this]; ac_rfl
      have e55 : 2 * (1024 * dn * (B * B)) = 2 * (1024 * dn) * (B * B) := (Nat.mul_assoc _ _ _).symm
      rw [e5, e55] at h
      have h := Nat.le_of_mul_le_mul_right h hS
      have hd : dn < 365 := by omega
      have hJ' : 640 * (2 ^ 54 - 1) * 1 ≤ 640 * (2 ^ 54 - 1) * J := Nat.mul_le_mul_left _ hJ
      omega
    refine ⟨hlt, ?_⟩
    have hq := (hn hlt tq).1
    have hu := (hn hlt tu).1
    rw [hVq, eW] at hq
    rw [hVu, eW] at hu
    generalize V t = v at *
    have e6 : 40 * (16 * B) * v = 640 * (B * v) := by
      have : 640 = 40 * 16 := by decide
      rw [this]; ac_rfl
    have e7 : 40 * (16 * B) * (dn / 20 * (32 * B)) = 20480 * (dn / 20) * (B * B) := by
      have : 20480 = 40 * 16 * 32 := by decide
      rw [this]; ac_rfl
    have e8 : 40 * (16 * B) * ((32 * (dn / 20) + 31) * B) = 640 * (32 * (dn / 20) + 31) * (B * B) := by
      have : 640 = 40 * 16 := by decide
      rw [this]; ac_rfl
    rw [e6, e7] at hq
    rw [e6, e8] at hu
    unfold Float64.dist at hq hu
    have hdn : 20 * (dn / 20) ≤ dn ∧ dn ≤ 20 * (dn / 20) + 19 := by omega
    generalize hqq : dn / 20 = q at *
    have a1 : 20480 * q * (B * B) ≤ 1024 * dn * (B * B) := Nat.mul_le_mul_right _ (by omega)
    have a2 : 1024 * dn * (B * B) ≤ 640 * (32 * q + 31) * (B * B) := Nat.mul_le_mul_right _ (by omega)
    constructor
    · refine Nat.not_lt.mp fun hlt' => ?_
      have : 640 * (B * v) < 20480 * q * (B * B) := by
        have h2 := Nat.mul_lt_mul_of_pos_left hlt' hB
        have e9 : 20480 * q * (B * B) = 640 * (B * (q * (32 * B))) := by
          have : 20480 = 640 * 32 := by decide
          rw [this]; ac_rfl
        rw [e9]; omega
      omega
    · refine Nat.not_le.mp fun hge => ?_
      have : 640 * (32 * q + 31) * (B * B) < 640 * (B * v) := by
        have h2 := Nat.mul_le_mul_left B hge
        have e9 : B * ((q + 1) * (32 * B)) = (32 * q + 32) * (B * B) := by
          have : 32 * q + 32 = (q + 1) * 32 := by omega
          rw [this]; ac_rfl
        rw [e9] at h2
        have e10 : 640 * (32 * q + 31) * (B * B) = 640 * ((32 * q + 31) * (B * B)) := Nat.mul_assoc _ _ _
        rw [e10]
        have : (32 * q + 31) * (B * B) < (32 * q + 32) * (B * B) := Nat.mul_lt_mul_of_pos_right (by omega) hS
        omega
      omega
  obtain ⟨hlt, g1, g2⟩ := goal
  rw [hval] at g1 g2
  obtain ⟨m', e', hd', hv'⟩ := decode_pack (sx != false) hlt
  rw [← er] at hd'
  have hvr : val r = sgn (sx != false) (V t) := by rw [er]; exact val_pack _ hlt
  have hsx : sx = false ∨ V t = 0 := by
    cases sx with
    | false => exact .inl rfl
    | true =>
      right
      have hz : dn = 0 := by
        have vx' := vx
        rw [val_eq dx] at vx'
        unfold sgn at vx'
        rw [if_pos rfl] at vx'
        have hK : (0 : Int) < ((2 ^ 1073 : Nat) : Int) := Int.natCast_pos.mpr (Nat.two_pow_pos _)
        have : (0 : Int) ≤ ((m * 2 ^ (e + 1074).toNat : Nat) : Int) := Int.natCast_nonneg _
        by_cases hz : dn = 0
        · exact hz
        · have := Int.mul_pos (show (0 : Int) < 2 * (dn : Int) by omega) hK
          omega
      have h := (hn hlt 0).1
      rw [V_zero, hz] at h
      simp only [Nat.mul_zero, Nat.zero_mul, Float64.dist, Nat.zero_sub, Nat.sub_zero, Nat.zero_add, Nat.le_zero, Nat.mul_eq_zero] at h
      omega
  have hvr2 : val r = ((V t : Nat) : Int) := by
    rw [hvr]
    rcases hsx with h | h
    · rw [h]; rfl
    · rw [h]; cases sx <;> rfl
  refine ⟨by unfold isFinite; rw [hd'], ?_⟩
  refine trunc_of_val hd' (by omega) ?_ ?_
  · rw [hvr2, show ((dn : Int) / 20) = ((dn / 20 : Nat) : Int) from by omega, ← Int.natCast_mul]
    exact Int.ofNat_le.mpr g1
  · rw [hvr2, show ((dn : Int) / 20 + 1) = ((dn / 20 + 1 : Nat) : Int) from by omega, ← Int.natCast_mul]
    exact Int.ofNat_lt.mpr g2
end Mine
end

section
open PySem PySem.W PySem.Spec PySem.Calls PyProof.Rows
namespace Mine
open PySem.Flt (Over)
theorem not_over {n : Int} (h : n.natAbs < 2 ^ 52) : ¬ Over n := fun q => by
  have e : (2 : Nat) ^ 1024 = 2 ^ 54 * 2 ^ 970 := by rw [← Nat.pow_add]
  have hK : 0 < (2 : Nat) ^ 970 := Nat.two_pow_pos _
  unfold Over at q
  rw [e] at q
  generalize (2 : Nat) ^ 970 = K at *
  have : (2 ^ 54 - 1) * K ≤ n.natAbs := by omega
  have : (2 ^ 54 - 1) * 1 ≤ (2 ^ 54 - 1) * K := Nat.mul_le_mul_left _ hK
  omega
section
variable {prog : Program} {w : World} {A : Around} {E : Value → Shared → Prop} {s : Shared} {x y : UInt64} {a b n d : Int} {t u : Tok} {Q : Value → Shared → Prop}
theorem add_hi (hA : A.handled = none) (hx : Half x a) (hn : -2 ^ 50 < n ∧ n < 2 ^ 50) (ha : -2 ^ 50 < a ∧ a < 2 ^ 50) (h : ∀ z t' tk, Half z (a + 2 * n) → Q (.float z t') { s with toks := tk }) : wpAny (model prog w) A (binaryOp .Add (.float x t) (.int n u)) Q E s :=
  add_fi_sharp hA (fun ho => absurd ho (not_over (by omega))) fun _ => h _ _ _ (half_add hx (half_ofInt (by omega)) (by omega))
theorem add_ih (hA : A.handled = none) (hx : Half x a) (hn : -2 ^ 50 < n ∧ n < 2 ^ 50) (ha : -2 ^ 50 < a ∧ a < 2 ^ 50) (h : ∀ z t' tk, Half z (2 * n + a) → Q (.float z t') { s with toks := tk }) : wpAny (model prog w) A (binaryOp .Add (.int n u) (.float x t)) Q E s :=
  add_if_sharp hA (fun ho => absurd ho (not_over (by omega))) fun _ => h _ _ _ (half_add (half_ofInt (by omega)) hx (by omega))
theorem sub_hh (hx : Half x a) (hy : Half y b) (ha : -2 ^ 50 < a ∧ a < 2 ^ 50) (hb : -2 ^ 50 < b ∧ b < 2 ^ 50) (h : ∀ z t' tk, Half z (a - b) → Q (.float z t') { s with toks := tk }) : wpAny (model prog w) A (binaryOp .Sub (.float x t) (.float y u)) Q E s :=
  sub_float (h _ _ _ (half_sub hx hy (by omega)))
theorem mod_hi (hA : A.handled = none) (hx : Half x a) (ha : 0 ≤ a) (hn : 0 < n ∧ n < 2 ^ 50) (h : ∀ z t' tk, Half z (a % (2 * n)) → 0 ≤ a % (2 * n) → Q (.float z t') { s with toks := tk }) : wpAny (model prog w) A (binaryOp .Mod (.float x t) (.int n u)) Q E s :=
  PySem.Flt.mod_fi hA (fun ho => absurd ho (not_over (by omega))) (fun h0 => absurd h0 (by omega)) fun _ _ => h _ _ _ (half_mod hx (half_ofInt (by omega)) ha (by omega) (by omega)) (Int.emod_nonneg _ (by omega))
theorem trunc_h (hA : A.handled = none) (hx : Half x a) (ha : 0 ≤ a) (h : ∀ t' tk, Q (.int (a / 2) t') { s with toks := tk }) : wpAny (model prog w) A (call (.builtin "math.trunc") [.float x t]) Q E s :=
  PySem.Flt.call_trunc_float hA (fun hf => by rw [half_nan hx] at hf; cases hf) (fun hf => by rw [half_inf hx] at hf; cases hf) fun _ => by rw [half_trunc hx ha]; exact h _ _
theorem int_h (hA : A.handled = none) (hx : Half x a) (ha : 0 ≤ a) (h : ∀ t' tk, Q (.int (a / 2) t') { s with toks := tk }) : wpAny (model prog w) A (call (.type "int") [.float x t]) Q E s :=
  PySem.Flt.call_int_float3 hA (fun hf => by rw [half_nan hx] at hf; cases hf) (fun hf => by rw [half_inf hx] at hf; cases hf) fun _ => by rw [half_trunc hx ha]; exact h _ _
/-- x is a finite double that lies in q .. q + 1 -/
def Quot (x : UInt64) (q : Int) : Prop := Float64.isFinite x = true ∧ PySem.Flt.toInt Float64.truncOf x = q
theorem div_20 (hA : A.handled = none) (hx : Half x a) (ha : 0 ≤ a ∧ a < 730 ∧ a % 2 = 0) (h : ∀ z t' tk, Quot z (a / 2 / 20) → Q (.float z t') { s with toks := tk }) : wpAny (model prog w) A (binaryOp .Div (.float x t) (.int 20 u)) Q E s :=
  PySem.Flt.truediv_fi hA (fun ho => absurd ho (not_over (by decide))) (fun h0 => absurd h0 (by decide)) fun _ _ => h _ _ _ (quo20 (d := a / 2) (by rw [show 2 * (a / 2) = a from by omega]; exact hx) (by omega) (by omega))
theorem trunc_q (hA : A.handled = none) (hx : Quot x b) (h : ∀ t' tk, Q (.int b t') { s with toks := tk }) : wpAny (model prog w) A (call (.builtin "math.trunc") [.float x t]) Q E s :=
  PySem.Flt.call_trunc_float hA (fun hf => by rw [PySem.Flt.not_nan_of_finite hx.1] at hf; cases hf) (fun hf => by rw [PySem.Flt.not_inf_of_finite hx.1] at hf; cases hf) fun _ => by rw [hx.2]; exact h _ _
end
theorem half_half : Half 4602678819172646912 1 := ⟨false, 2 ^ 52, -53, by kernel_rfl, by decide +kernel⟩
theorem half_epoch : Half 4693266160550936576 1168565 := by
  refine ⟨false, 5018948458250240, -33, by kernel_rfl, ?_⟩
  decide +kernel
theorem half_rest {a d : Int} (h : 0 < d) : (2 * a + 1) % (2 * d) / 2 = a.fmod d := by
  have e := Int.emod_add_mul_ediv a d
  have h1 := Int.emod_nonneg a (show d ≠ 0 by omega)
  have h2 := Int.emod_lt_of_pos a h
  have : (2 * a + 1) % (2 * d) = 2 * (a % d) + 1 := by
    have : 2 * a + 1 = 2 * (a % d) + 1 + 2 * d * (a / d) := by rw [Int.mul_assoc]; omega
    rw [this, Int.add_mul_emod_self_left]
    exact Int.emod_eq_of_lt (by omega) (by omega)
  rw [this, Int.fmod_eq_emod_of_nonneg _ (Int.le_of_lt h)]
  omega
theorem amod_spec (a d : Int) (h0 : d ≠ 0) : ((if a.fmod d = 0 then d else a.fmod d) - a).fmod d = 0 ∧ (0 < d → 1 ≤ (if a.fmod d = 0 then d else a.fmod d) ∧ (if a.fmod d = 0 then d else a.fmod d) ≤ d) ∧
    (d < 0 → d ≤ (if a.fmod d = 0 then d else a.fmod d) ∧ (if a.fmod d = 0 then d else a.fmod d) ≤ -1) := by
  have hdv : d ∣ (if a.fmod d = 0 then d else a.fmod d) - a := by
    split
    · rename_i h
      exact Int.dvd_sub (Int.dvd_refl d) (Int.dvd_of_fmod_eq_zero h)
    · rw [Int.fmod_def]
      exact ⟨-(a.fdiv d), by rw [Int.mul_neg]; omega⟩
  refine ⟨Int.fmod_eq_zero_of_dvd hdv, fun h => ?_, fun h => ?_⟩
  · have h1 := Int.fmod_nonneg_of_pos a h
    have h2 := Int.fmod_lt_of_pos a h
    split <;> omega
  · have h1 : a.fmod d = -((-a).fmod (-d)) := by rw [Int.neg_fmod_neg, Int.neg_neg]
    have h2 := Int.fmod_nonneg_of_pos (-a) (show 0 < -d by omega)
    have h3 := Int.fmod_lt_of_pos (-a) (show 0 < -d by omega)
    split <;> omega
end Mine
end

section
open PySem PySem.W PySem.Spec PySem.Calls PyProof.Rows
namespace Mine
local macro_rules | `(tactic| walk_at "pad") => `(tactic| skip)
local macro_rules | `(tactic| walk_at "pad") => `(tactic| skip)
local macro_rules | `(tactic| walk_at "pad") => `(tactic| skip)
local macro_rules | `(tactic| walk_at "pad") => `(tactic| skip)
local macro_rules | `(tactic| walk_at "pad") => `(tactic| skip)
local macro_rules | `(tactic| walk_at "pad") => `(tactic| skip)
local macro_rules | `(tactic| walk_at "pad") => `(tactic| skip)
local macro_rules | `(tactic| walk_at "pad") => `(tactic| skip)
local macro_rules | `(tactic| walk_at "pad") => `(tactic| skip)
local macro_rules | `(tactic| walk_at "pad") => `(tactic| skip)
local macro_rules | `(tactic| walk_at "pad") => `(tactic| skip)
local macro_rules | `(tactic| walk_at "pad") => `(tactic| skip)
local macro_rules | `(tactic| walk_at "pad") => `(tactic| skip)
local macro_rules | `(tactic| walk_at "pad") => `(tactic| skip)
local macro_rules | `(tactic| walk_at "pad") => `(tactic| skip)
local macro_rules | `(tactic| walk_at "pad") => `(tactic| skip)
local macro_rules | `(tactic| walk_at "pad") => `(tactic| skip)
local macro_rules | `(tactic| walk_at "pad") => `(tactic| skip)
local macro_rules | `(tactic| walk_at "pad") => `(tactic| skip)
local macro_rules | `(tactic| walk_at "pad") => `(tactic| skip)
local macro_rules | `(tactic| walk_at "pad") => `(tactic| skip)
local macro_rules | `(tactic| walk_at "pad") => `(tactic| skip)
local macro_rules | `(tactic| walk_at "pad") => `(tactic| skip)
local macro_rules | `(tactic| walk_at "pad") => `(tactic| skip)
local macro_rules | `(tactic| walk_at "pad") => `(tactic| skip)
local macro_rules | `(tactic| walk_at "pad") => `(tactic| skip)
local macro_rules | `(tactic| walk_at "pad") => `(tactic| skip)
local macro_rules | `(tactic| walk_at "pad") => `(tactic| skip)
local macro_rules | `(tactic| walk_at "pad") => `(tactic| skip)
local macro_rules | `(tactic| walk_at "pad") => `(tactic| skip)
local macro_rules | `(tactic| walk_at "pad") => `(tactic| skip)
local macro_rules | `(tactic| walk_at "pad") => `(tactic| skip)
local macro_rules | `(tactic| walk_at "pad") => `(tactic| skip)
local macro_rules | `(tactic| walk_at "pad") => `(tactic| skip)
local macro_rules | `(tactic| walk_at "pad") => `(tactic| skip)
local macro_rules | `(tactic| walk_at "pad") => `(tactic| skip)
local macro_rules | `(tactic| walk_at "pad") => `(tactic| skip)
local macro_rules | `(tactic| walk_at "pad") => `(tactic| skip)
local macro_rules | `(tactic| walk_at "pad") => `(tactic| skip)
local macro_rules | `(tactic| walk_at "pad") => `(tactic| skip)
local macro_rules | `(tactic| walk_at "pad") => `(tactic| skip)
local macro_rules | `(tactic| walk_at "pad") => `(tactic| skip)
local macro_rules | `(tactic| walk_at "pad") => `(tactic| skip)
local macro_rules | `(tactic| walk_at "pad") => `(tactic| skip)
local macro_rules | `(tactic| walk_at "pad") => `(tactic| skip)
local macro_rules | `(tactic| walk_at "pad") => `(tactic| skip)
local macro_rules | `(tactic| walk_at "pad") => `(tactic| skip)
local macro_rules | `(tactic| walk_at "pad") => `(tactic| skip)
set_option maxRecDepth 100000 in
set_option maxHeartbeats 8000000 in
theorem amod_ok_int (w : World) (a d : Int) (t1 t2 t3 : Tok) (h0 : d ≠ 0) :
    ToldL w 135 [.int a t1, .int a t2, .int d t3] (fun v => v = .bool true) := by
  have hsp := amod_spec a d h0
  unfold ToldL
  w_top off
  k_fill
  intro p loose mean mg mb cn cs aa ccd h₀ L m news s Q E B F X N T hk hret
  refine wpAny_call ?_
  k_dflt (refine' code_defS0 ?k1 ?k2 ?k3 ?k4 ?k5 ?kA ?k6 ?k7 ?k8 ?k9 ?kB ?_ ?cK ?c2 ?c3 ?c4 ?c5; (case kA => exact rfl); (case k2 => k_asm); (case k1 => k_asm); (case k3 => k_asm); (case k4 => k_asm); (case k5 => k_asm); (case k6 => k_is); (case k7 => k_is); (case k8 => k_room); (case k9 => exact BindsTo.of_eq rfl); (case kB => exact locs rfl); (case cK => exact hk); (case c2 => exact rfl); (case c3 => exact rfl); (case c4 => exact rfl); (case c5 => decide); k_whole; intro g' L' h' FG' F' N' B' X' T' D'; (try dsimp only); (try k_lift B'); (try k_fold))
  k_steps
  all_goals (refine hret _ _ _ (congrArg Value.bool ?_) (by assumption) (by assumption))
  all_goals (clear hret; generalize (if a.fmod d = 0 then d else a.fmod d) = r at *; obtain ⟨e1, e2, e3⟩ := hsp)
  all_goals first | (exact absurd e1 (by assumption)) | (refine decide_eq_true ?_; omega) | (exfalso; omega)
-- the float
local macro_rules | `(tactic| walk_at "binaryOp Mod float int") => `(tactic| (k_here; k_dflt (refine' mod_hi ?hA ?hx ?ha ?hn ?_; (case hA => rfl); (case hx => assumption); (case ha => omega); (case hn => omega)); intro z' t' tk' hz' hp'))
local macro_rules | `(tactic| walk_at "call type:int") => `(tactic| (k_here; k_dflt (refine' int_h ?hA ?hx ?ha ?_; (case hA => rfl); (case hx => assumption); (case ha => first | assumption | omega)); intro t' tk'))
set_option maxRecDepth 100000 in
set_option maxHeartbeats 8000000 in
theorem amod_ok_float (w : World) (x : UInt64) (a d : Int) (t1 t2 t3 : Tok) (hx : Half x (2 * a + 1)) (h0 : 0 < d ∧ d < 1000) (h1 : 0 ≤ a) :
    ToldL w 135 [.float x t1, .int a t2, .int d t3] (fun v => v = .bool true) := by
  unfold ToldL
  w_top off
  k_fill
  intro p loose mean mg mb cn cs aa ccd h₀ L m news s Q E B F X N T hk hret
  refine wpAny_call ?_
  k_dflt (refine' code_defS0 ?k1 ?k2 ?k3 ?k4 ?k5 ?kA ?k6 ?k7 ?k8 ?k9 ?kB ?_ ?cK ?c2 ?c3 ?c4 ?c5; (case kA => exact rfl); (case k2 => k_asm); (case k1 => k_asm); (case k3 => k_asm); (case k4 => k_asm); (case k5 => k_asm); (case k6 => k_is); (case k7 => k_is); (case k8 => k_room); (case k9 => exact BindsTo.of_eq rfl); (case kB => exact locs rfl); (case cK => exact hk); (case c2 => exact rfl); (case c3 => exact rfl); (case c4 => exact rfl); (case c5 => decide); k_whole; intro g' L' h' FG' F' N' B' X' T' D'; (try dsimp only); (try k_lift B'); (try k_fold))
  k_steps
  all_goals (refine hret _ _ _ (congrArg Value.bool ?_) (by assumption) (by assumption))
  all_goals (clear hret; have hr := half_rest (a := a) h0.1; generalize (2 * a + 1) % (2 * d) / 2 = r at *; subst hr; have hsp := amod_spec a d (by omega); by_cases hz : a.fmod d = 0)
  all_goals first | rw [if_pos hz] at hsp | rw [if_neg hz] at hsp
  all_goals (obtain ⟨e1, e2, e3⟩ := hsp; first | (exact absurd e1 (by assumption)) | (refine decide_eq_true ?_; omega) | (exfalso; omega))
-- the nought
local macro_rules | `(tactic| walk_at "eval Call") => `(tactic| (k_here; k_dflt (refine Call_ ?_)))
set_option maxRecDepth 100000 in
set_option maxHeartbeats 8000000 in
theorem zero_told (w : World) (a : Int) (t1 : Tok) :
    ToldL w 142 [.int a t1] (fun v => v = .bool true) := by
  unfold ToldL
  w_top off
  k_fill
  intro p loose mean mg mb cn cs aa ccd h₀ L m news s Q E B F X N T hk hret
  refine wpAny_call ?_
  k_dflt (refine' code_defS0 ?k1 ?k2 ?k3 ?k4 ?k5 ?kA ?k6 ?k7 ?k8 ?k9 ?kB ?_ ?cK ?c2 ?c3 ?c4 ?c5; (case kA => exact rfl); (case k2 => k_asm); (case k1 => k_asm); (case k3 => k_asm); (case k4 => k_asm); (case k5 => k_asm); (case k6 => k_is); (case k7 => k_is); (case k8 => k_room); (case k9 => exact BindsTo.of_eq rfl); (case kB => exact locs rfl); (case cK => exact hk); (case c2 => exact rfl); (case c3 => exact rfl); (case c4 => exact rfl); (case c5 => decide); k_whole; intro g' L' h' FG' F' N' B' X' T' D'; (try dsimp only); (try k_lift B'); (try k_fold))
  k_steps
  all_goals first | exact hret _ _ _ rfl (by assumption) (by assumption) | (exfalso; omega)
end Mine
end

section
open PySem PySem.W PySem.Spec PySem.Calls PyProof.Rows
namespace Mine
local macro_rules | `(tactic| walk_at "pad") => `(tactic| skip)
local macro_rules | `(tactic| walk_at "pad") => `(tactic| skip)
local macro_rules | `(tactic| walk_at "pad") => `(tactic| skip)
local macro_rules | `(tactic| walk_at "pad") => `(tactic| skip)
local macro_rules | `(tactic| walk_at "pad") => `(tactic| skip)
local macro_rules | `(tactic| walk_at "pad") => `(tactic| skip)
local macro_rules | `(tactic| walk_at "pad") => `(tactic| skip)
local macro_rules | `(tactic| walk_at "pad") => `(tactic| skip)
local macro_rules | `(tactic| walk_at "pad") => `(tactic| skip)
local macro_rules | `(tactic| walk_at "pad") => `(tactic| skip)
local macro_rules | `(tactic| walk_at "pad") => `(tactic| skip)
local macro_rules | `(tactic| walk_at "pad") => `(tactic| skip)
local macro_rules | `(tactic| walk_at "pad") => `(tactic| skip)
local macro_rules | `(tactic| walk_at "pad") => `(tactic| skip)
local macro_rules | `(tactic| walk_at "pad") => `(tactic| skip)
local macro_rules | `(tactic| walk_at "pad") => `(tactic| skip)
local macro_rules | `(tactic| walk_at "pad") => `(tactic| skip)
local macro_rules | `(tactic| walk_at "pad") => `(tactic| skip)
local macro_rules | `(tactic| walk_at "pad") => `(tactic| skip)
local macro_rules | `(tactic| walk_at "pad") => `(tactic| skip)
local macro_rules | `(tactic| walk_at "pad") => `(tactic| skip)
local macro_rules | `(tactic| walk_at "pad") => `(tactic| skip)
local macro_rules | `(tactic| walk_at "pad") => `(tactic| skip)
local macro_rules | `(tactic| walk_at "pad") => `(tactic| skip)
local macro_rules | `(tactic| walk_at "pad") => `(tactic| skip)
local macro_rules | `(tactic| walk_at "pad") => `(tactic| skip)
local macro_rules | `(tactic| walk_at "pad") => `(tactic| skip)
local macro_rules | `(tactic| walk_at "pad") => `(tactic| skip)
local macro_rules | `(tactic| walk_at "pad") => `(tactic| skip)
local macro_rules | `(tactic| walk_at "pad") => `(tactic| skip)
local macro_rules | `(tactic| walk_at "pad") => `(tactic| skip)
local macro_rules | `(tactic| walk_at "pad") => `(tactic| skip)
local macro_rules | `(tactic| walk_at "pad") => `(tactic| skip)
local macro_rules | `(tactic| walk_at "pad") => `(tactic| skip)
local macro_rules | `(tactic| walk_at "pad") => `(tactic| skip)
local macro_rules | `(tactic| walk_at "pad") => `(tactic| skip)
local macro_rules | `(tactic| walk_at "pad") => `(tactic| skip)
local macro_rules | `(tactic| walk_at "pad") => `(tactic| skip)
local macro_rules | `(tactic| walk_at "pad") => `(tactic| skip)
local macro_rules | `(tactic| walk_at "pad") => `(tactic| skip)
local macro_rules | `(tactic| walk_at "pad") => `(tactic| skip)
local macro_rules | `(tactic| walk_at "pad") => `(tactic| skip)
local macro_rules | `(tactic| walk_at "pad") => `(tactic| skip)
local macro_rules | `(tactic| walk_at "pad") => `(tactic| skip)
local macro_rules | `(tactic| walk_at "pad") => `(tactic| skip)
local macro_rules | `(tactic| walk_at "pad") => `(tactic| skip)
local macro_rules | `(tactic| walk_at "pad") => `(tactic| skip)
local macro_rules | `(tactic| walk_at "pad") => `(tactic| skip)
local macro_rules | `(tactic| walk_at "pad") => `(tactic| skip)
local macro_rules | `(tactic| walk_at "pad") => `(tactic| skip)
local macro_rules | `(tactic| walk_at "pad") => `(tactic| skip)
local macro_rules | `(tactic| walk_at "eval Call") => `(tactic| (k_here; k_dflt (refine Call_ ?_)))
local macro_rules | `(tactic| walk_at "binaryOp Add float int") => `(tactic| (k_here; k_dflt (refine' add_hi ?hA ?hx ?hn ?ha ?_; (case hA => rfl); (case hx => (first | assumption | exact half_epoch | exact half_half)); (case hn => omega); (case ha => omega)); intro z' t' tk' hz'))
local macro_rules | `(tactic| walk_at "binaryOp Add int float") => `(tactic| (k_here; k_dflt (refine' add_ih ?hA ?hx ?hn ?ha ?_; (case hA => rfl); (case hx => (first | assumption | exact half_epoch | exact half_half)); (case hn => omega); (case ha => omega)); intro z' t' tk' hz'))
local macro_rules | `(tactic| walk_at "binaryOp Sub float float") => `(tactic| (k_here; k_dflt (refine' sub_hh ?hx ?hy ?ha ?hb ?_; (case hx => (first | assumption | exact half_epoch | exact half_half)); (case hy => (first | assumption | exact half_epoch | exact half_half)); (case ha => omega); (case hb => omega)); intro z' t' tk' hz'))
local macro_rules | `(tactic| walk_at "binaryOp Mod float int") => `(tactic| (k_here; k_dflt (refine' mod_hi ?hA ?hx ?ha ?hn ?_; (case hA => rfl); (case hx => (first | assumption | exact half_epoch | exact half_half)); (case ha => omega); (case hn => omega)); intro z' t' tk' hz' hp'))
local macro_rules | `(tactic| walk_at "binaryOp Div float int") => `(tactic| (k_here; k_dflt (refine' div_20 ?hA ?hx ?ha ?_; (case hA => rfl); (case hx => (first | assumption | exact half_epoch | exact half_half)); (case ha => omega)); intro z' t' tk' hz'))
local macro_rules | `(tactic| walk_at "call type:int") => `(tactic| (k_here; k_dflt (refine' int_h ?hA ?hx ?ha ?_; (case hA => rfl); (case hx => assumption); (case ha => first | assumption | omega)); intro t' tk'))
local macro_rules | `(tactic| walk_at "call builtin:math.trunc") => `(tactic| (k_here; k_dflt (refine' trunc_h ?hA ?hx ?ha ?_; (case hA => rfl); (case hx => assumption); (case ha => first | assumption | omega)); intro t' tk'))
local macro_rules | `(tactic| walk_at "call builtin:math.trunc") => `(tactic| (k_here; k_dflt (refine' trunc_q ?hA ?hx ?_; (case hA => rfl); (case hx => assumption)); intro t' tk'))
set_option maxRecDepth 100000 in
set_option maxHeartbeats 8000000 in
theorem jd_told (w : World) (t1 t2 t3 t4 t5 : Tok) :
    ToldL w 58 [.int 0 t1, .int 0 t2, .int 0 t3, .int 0 t4, .int 0 t5] (fun v => ∃ x t, v = .float x t ∧ Half x 1168565) := by
  unfold ToldL
  w_top off
  k_fill
  intro p loose mean mg mb cn cs aa ccd h₀ L m news s Q E B F X N T hk hret
  refine wpAny_call ?_
  k_dflt (refine' code_defS0 ?k1 ?k2 ?k3 ?k4 ?k5 ?kA ?k6 ?k7 ?k8 ?k9 ?kB ?_ ?cK ?c2 ?c3 ?c4 ?c5; (case kA => exact rfl); (case k2 => k_asm); (case k1 => k_asm); (case k3 => k_asm); (case k4 => k_asm); (case k5 => k_asm); (case k6 => k_is); (case k7 => k_is); (case k8 => k_room); (case k9 => exact BindsTo.of_eq rfl); (case kB => exact locs rfl); (case cK => exact hk); (case c2 => exact rfl); (case c3 => exact rfl); (case c4 => exact rfl); (case c5 => decide); k_whole; intro g' L' h' FG' F' N' B' X' T' D'; (try dsimp only); (try k_lift B'); (try k_fold))
  k_steps
  all_goals first | exact hret _ _ _ ⟨_, _, rfl, by assumption⟩ (by assumption) (by assumption)


/-- a tuple of an int and a text -/
abbrev tupO (n : Int) (x : Str) (t t' : Tok) (k : Nat) : Obj := { cls := .type "tuple", data := .seq #[.int n t, .str x t'] k }
/-- a call that the law makes gives a new pair of an int and a text -/
def ToldP (w : World) (f : Addr) (vs : List Value) (R : Int → Str → Prop) : Prop :=
  ∀ (p : Program) (loose : List Str) (mean : ExcName → Option Value) (mg mb : Str → Option Value) (cn : Str) (cs : Scope) (a : Addr) (ccd : Value) (h₀ : Heap) (L : Addr) (m : Str → Option Value) (news : List (Addr × Obj)) (s : Shared) (Q E : Value → Shared → Prop),
    Below callerA h₀ [] h₀ → Fr h₀ L s.heap m → (hd.heap_39 w.params).In h₀ → News h₀ L s.heap news → Top p loose mean mg mb h₀ → cs.kind = .function →
    (∀ D n x t t' k h' tk', R n x → (∀ p ∈ news, p.1 < D) → Fr h₀ L h' m → News h₀ L h' ((D, tupO n x t t' k) :: news) → Q (.ref D) { s with heap := h', toks := tk' }) →
    wpAny (model PySem.Challenge.rw_bb6044_01.row.prog w) (callerA.deeper (envOf cn cs L a ccd)) (call (.ref f) vs) Q E s
set_option maxRecDepth 100000 in
set_option maxHeartbeats 8000000 in
theorem to_haab_told (w : World) (x : UInt64) (c : Int) (t1 : Tok) (hx : Half x (1168565 + 2 * c)) (h0 : 0 ≤ c) (h1 : c < 10000000) :
    ToldP w 65 [.float x t1] (fun n y => n = (c + 348) % 365 % 20 ∧ y = months.getD ((c + 348) % 365 / 20).toNat Str.empty) := by
  unfold ToldP
  w_top off
  k_fill
  intro p loose mean mg mb cn cs aa ccd h₀ L m news s Q E B F X N T hk hret
  refine wpAny_call ?_
  k_dflt (refine' code_defS0 ?k1 ?k2 ?k3 ?k4 ?k5 ?kA ?k6 ?k7 ?k8 ?k9 ?kB ?_ ?cK ?c2 ?c3 ?c4 ?c5; (case kA => exact rfl); (case k2 => k_asm); (case k1 => k_asm); (case k3 => k_asm); (case k4 => k_asm); (case k5 => k_asm); (case k6 => k_is); (case k7 => k_is); (case k8 => k_room); (case k9 => exact BindsTo.of_eq rfl); (case kB => exact locs rfl); (case cK => exact hk); (case c2 => exact rfl); (case c3 => exact rfl); (case c4 => exact rfl); (case c5 => decide); k_whole; intro g' L' h' FG' F' N' B' X' T' D'; (try dsimp only); (try k_lift B'); (try k_fold))
  k_steps
  have e1 : (2 * ((1168565 + 2 * c) / 2) + 1 - 1168565 + 2 * 348) % (2 * 365) % (2 * 20) / 2 = (c + 348) % 365 % 20 := by omega
  have e2 : (2 * ((1168565 + 2 * c) / 2) + 1 - 1168565 + 2 * 348) % (2 * 365) / 2 / 20 = (c + 348) % 365 / 20 := by omega
  rename News _ _ _ (_ :: _) => kN
  rw [e1, e2] at kN
  exact hret _ _ _ _ _ _ _ _ ⟨rfl, rfl⟩ (by assumption) (by assumption) kN
set_option maxRecDepth 100000 in
set_option maxHeartbeats 8000000 in
theorem to_tzolkin_told (w : World) (x : UInt64) (c : Int) (t1 : Tok) (hx : Half x (1168565 + 2 * c)) (h0 : 0 ≤ c) (h1 : c < 10000000) :
    ToldP w 72 [.float x t1] (fun n y => ∃ k : Nat, y = names.getD k Str.empty ∧ k < 20 ∧ ((k : Int) + 1) % 20 = c % 20 ∧ 1 ≤ n ∧ n ≤ 13 ∧ n % 13 = (c + 4) % 13) := by
  unfold ToldP
  w_top off
  k_fill
  intro p loose mean mg mb cn cs aa ccd h₀ L m news s Q E B F X N T hk hret
  refine wpAny_call ?_
  k_dflt (refine' code_defS0 ?k1 ?k2 ?k3 ?k4 ?k5 ?kA ?k6 ?k7 ?k8 ?k9 ?kB ?_ ?cK ?c2 ?c3 ?c4 ?c5; (case kA => exact rfl); (case k2 => k_asm); (case k1 => k_asm); (case k3 => k_asm); (case k4 => k_asm); (case k5 => k_asm); (case k6 => k_is); (case k7 => k_is); (case k8 => k_room); (case k9 => exact BindsTo.of_eq rfl); (case kB => exact locs rfl); (case cK => exact hk); (case c2 => exact rfl); (case c3 => exact rfl); (case c4 => exact rfl); (case c5 => decide); k_whole; intro g' L' h' FG' F' N' B' X' T' D'; (try dsimp only); (try k_lift B'); (try k_fold))
  k_steps
  all_goals (refine hret _ _ _ _ _ _ _ _ ?_ (by assumption) (by assumption) (by assumption); clear hret)
  all_goals first
    | exact ⟨19, rfl, by decide, by omega, by omega, by omega, by omega⟩
    | exact ⟨_, rfl, by omega, by omega, by omega, by omega, by omega⟩
end Mine
end

section
open PySem PySem.W PySem.Spec PySem.Calls PyProof.Rows
namespace Mine
theorem fmod13 (x : Int) : x.fmod 13 = x % 13 := Int.fmod_eq_emod_of_nonneg _ (by decide)
set_option maxRecDepth 100000 in
set_option maxHeartbeats 8000000 in
theorem place_told (w : World) (d k : Int) (t1 t2 : Tok) (h0 : 0 ≤ k) (h1 : k < 20) :
    ToldL w 114 [.int d t1, .int k t2] (fun v => ∃ t, v = .int (placeOf d (k + 1)) t) := by
  unfold ToldL
  w_top off
  k_fill
  intro p loose mean mg mb cn cs aa ccd h₀ L m news s Q E B F X N T hk hret
  have hsp := placeOf_spec d (k + 1)
  generalize hP : placeOf d (k + 1) = P at *
  refine wpAny_call ?_
  k_dflt (refine' code_defS0 ?k1 ?k2 ?k3 ?k4 ?k5 ?kA ?k6 ?k7 ?k8 ?k9 ?kB ?_ ?cK ?c2 ?c3 ?c4 ?c5; (case kA => exact rfl); (case k2 => k_asm); (case k1 => k_asm); (case k3 => k_asm); (case k4 => k_asm); (case k5 => k_asm); (case k6 => k_is); (case k7 => k_is); (case k8 => k_room); (case k9 => exact BindsTo.of_eq rfl); (case kB => exact locs rfl); (case cK => exact hk); (case c2 => exact rfl); (case c3 => exact rfl); (case c4 => exact rfl); (case c5 => decide); k_whole; intro g' L' h' FG' F' N' B' X' T' D'; (try dsimp only); (try k_lift B'); (try k_fold))
  k_with "exec While Compare cons nil" => k_while (fun _ pl => 1 ≤ pl ∧ pl ≤ P ∧ pl % 20 = (k + 1) % 20) (fun _ pl => (P - pl).toNat) "place"
  k_steps
  all_goals (simp only [fmod13] at *; obtain ⟨p1, p2, p3, p4⟩ := hsp)
  · ksw_close
  · refine hret _ _ _ ⟨_, congrArg (Value.int · _) ?_⟩ (by assumption) (by assumption)
    clear hret; omega
end Mine
end

section
open PySem PySem.W PySem.Spec PySem.Calls PyProof.Rows
namespace Mine
section
variable {prog : Program} {w : World} {A : Around} {s : Shared} {env : Env} {h₀ : Heap}
/-- between two turns: the frame, the table, the generators' list -/
structure Mid (h₀ : Heap) (L : Addr) (os : OsState) (extra : List (Addr × Obj)) (m : Str → Option Value) (ps : Array Value) (s : Shared) : Prop where
  fr : Fr h₀ L s.heap m
  nw : News h₀ L s.heap ((81, tabObj ps) :: extra)
  tr : TriplesOk ps.toList
  ab : AllBare s.gens
  os : s.os = os

/-- a loop over range(n) of the law's own frame; the turns may make code and generators -/
theorem iter_rangeT {E : Value → Shared → Prop} {Q : Flow → Shared → Prop} {x : Str} {px : Pos} {body : List Stmt} {r : Addr} {n : Nat} {t u v : Tok} {m : Str → Option Value} {led : List (Addr × Obj)} {ps : Array Value}
    (J : Nat → (Str → Option Value) → Prop) (hh : A.handled = none) (hr : IsRange s.heap r 0 n 1 t u v) (hsm : Builtin.Range.small 0 n 1 = true) (hn : Builtin.Range.rangeSize 0 n 1 = (n : Int))
    (hx : env.kindOf x = some .local) (hp : (env.scope.kind == .class || (env.scope.kind == .module && env.locals != env.globals)) = false)
    (F : Fr h₀ env.locals s.heap m) (N : News h₀ env.locals s.heap led) (hm : (81, tabObj ps) ∈ led) (ht : TriplesOk ps.toList) (ab : AllBare s.gens) (h0 : J 0 m)
    (step : ∀ (i : Nat) tt m₁ ps₁ (I : Addr) (oI : Obj) (s₁ : Shared), i < n → J i m₁ → (81 : Nat) ≠ I → Mid h₀ env.locals s.os [(I, oI)] (fun y => if y = x then some (.int i tt) else m₁ y) ps₁ s₁ →
      wpAny (model prog w) A (execs body env) (fun f s₂ => f = .next ∧ ∃ m₂ ps₂, Mid h₀ env.locals s.os [(I, oI)] m₂ ps₂ s₂ ∧ J (i + 1) m₂) E s₁)
    (done : ∀ m₁ ps₁ s₁, Mid h₀ env.locals s.os [] m₁ ps₁ s₁ → J n m₁ → Q .next s₁)
    (hE : PassesOwn (model prog w) A env E) :
    wpAny (model prog w) A (pyIter (.ref r)) (fun it s₂ => codeAny (model prog w) A (.forLoop (.Name x px) it body [] env) (fun r s' => match r with | .ok f => Q f s' | .error e => cameBackBy (model prog w) A env E e s') s₂) E s := by
  refine wpAny_pyIter_range hr hsm ?_
  obtain ⟨n1, n2, n3⟩ := N _ hm
  have hI : s.heap.objs.size = s.heap.objs.size := rfl
  generalize hIe : s.heap.objs.size = I at hI
  clear hI
  have hLI : env.locals ≠ I := by rw [← hIe]; exact Nat.ne_of_lt F.ns.lt
  have h8I : (81 : Nat) ≠ I := by rw [← hIe]; exact Nat.ne_of_lt (Heap.lt_size n1)
  have hIg : h₀.get? I = none := by
    cases q : h₀.get? I with
    | none => rfl
    | some o => have := Heap.lt_size (F.keep _ _ q); rw [hIe] at this; exact absurd this (Nat.lt_irrefl _)
  have W := Walks.range (prog := prog) (w := w) hh I 0 1 n
  rw [hn]
  refine codeAny_forLoop
    (fun k s' => ∃ m' ps' i, IsRangeIter s'.heap I (0 + (i : Nat) * 1) ((n : Int) - (i : Nat)) 1 ∧ Mid h₀ env.locals s.os [] m' ps' s' ∧ J i m' ∧ i ≤ n ∧ k = n + 1 - i) ?_ (n + 1)
    ⟨m, ps, 0, ?_, ⟨F.push _, fun q hq => ?_, ht, ab, rfl⟩, h0, Nat.zero_le _, rfl⟩
  · rintro k s' ⟨m', ps', i, hst', M', hJ, hi, rfl⟩
    have next : ∀ h₁ tk₁, (∀ b o, b ∉ [I] → s'.heap.get? b = some o → h₁.get? b = some o) → Mid h₀ env.locals s.os [] m' ps' { s' with heap := h₁, toks := tk₁ } := fun h₁ tk₁ hk₁ =>
      ⟨⟨M'.fr.ns.at' fun o e => hk₁ _ o (by simpa using hLI) e, fun b o e => hk₁ b o (by simp; intro q; rw [q, hIg] at e; cases e) (M'.fr.keep b o e), M'.fr.above⟩,
        fun q hq => by
          rw [List.mem_singleton.mp hq]
          obtain ⟨a1, a2, a3⟩ := M'.nw _ (List.mem_singleton.mpr rfl)
          exact ⟨hk₁ _ _ (by simpa using h8I) a1, a2, a3⟩, M'.tr, M'.ab, M'.os⟩
    by_cases hlt : i < n
    · refine W.item i s' _ _ hlt hst' fun v h₁ tk₁ hP hst₁ hk₁ => ?_
      have M₁ := next h₁ tk₁ hk₁
      obtain ⟨tt, rfl⟩ := hP
      refine wpAny_assign_Name (wpAny_storeName_local hx M₁.fr.ns (fun h₂ hn₂ hs₂ => ?_) hp)
      have F₂ := M₁.fr.set hn₂ hs₂
      have hoI : ∃ oI, h₂.get? I = some oI := by
        have : ∃ oI, h₁.get? I = some oI := ⟨_, hst₁⟩
        obtain ⟨oI, e⟩ := this
        exact ⟨oI, (hs₂.2 I (Ne.symm hLI)).trans e⟩
      obtain ⟨oI, hoI⟩ := hoI
      have e1 : (0 + (i : Int) * 1) = (i : Int) := by omega
      rw [e1] at F₂
      refine wpAny_mono (wpAny_passesOwn hE (step i tt m' ps' I oI _ hlt hJ h8I ⟨F₂, fun q hq => ?_, M₁.tr, M₁.ab, M₁.os⟩)) (fun f s₃ h₃ => ?_) fun _ _ e => e
      · rcases List.mem_cons.mp hq with rfl | hq
        · obtain ⟨a1, a2, a3⟩ := M₁.nw _ (List.mem_singleton.mpr rfl)
          exact ⟨(hs₂.2 81 a2).trans a1, a2, a3⟩
        · rw [List.mem_singleton.mp hq]
          exact ⟨hoI, Ne.symm hLI, hIg⟩
      · obtain ⟨rfl, m₂, ps₂, M₂, hJ₂⟩ := h₃
        refine ⟨n + 1 - (i + 1), by omega, m₂, ps₂, i + 1, ?_, ⟨M₂.fr, fun q hq => ?_, M₂.tr, M₂.ab, M₂.os⟩, hJ₂, hlt, rfl⟩
        · refine W.frame _ _ _ hst₁ fun b hb o e => ?_
          rw [List.mem_singleton.mp hb] at e ⊢
          have : h₂.get? I = some o := (hs₂.2 I (Ne.symm hLI)).trans e
          rw [hoI] at this
          rw [← Option.some.inj this]
          exact (M₂.nw _ (List.mem_cons_of_mem _ (List.mem_singleton.mpr rfl))).1
        · rw [List.mem_singleton.mp hq]
          exact M₂.nw _ (.head _)
    · have hin : i = n := by omega
      subst hin
      refine W.done s' _ _ hst' fun h₁ tk₁ hk₁ => wpAny_execs_nil ?_
      exact done m' ps' _ (next h₁ tk₁ hk₁) hJ
  · have : (s.heap.push { cls := .type "range_iterator", data := .fields #[rawInt 0, rawInt (n : Int), rawInt 1] }).get? I = some { cls := .type "range_iterator", data := .fields #[rawInt 0, rawInt (n : Int), rawInt 1] } := by
      rw [← hIe]; exact Heap.get?_push_size _ rfl
    simpa using this
  · rw [List.mem_singleton.mp hq]
    exact ⟨Heap.get?_push_of_some _ n1, n2, n3⟩
end

/-- ToldT's call where the ledger stands in another order -/
theorem toldT_at {w : World} {f : Addr} {vs : List Value} {R : Value → Prop} (TT : ToldT w f vs R) {p : Program} {loose : List Str} {mean : ExcName → Option Value} {mg mb : Str → Option Value} {cn : Str} {cs : Scope} {a : Addr} {ccd : Value} {h₀ : Heap} {L : Addr} {m : Str → Option Value} {led : List (Addr × Obj)} {gg : Obj → List (Addr × Obj)} {ps : Array Value} {s : Shared} {Q E : Value → Shared → Prop}
    (B : Below callerA h₀ [] h₀) (F : Fr h₀ L s.heap m) (X : (hd.heap_39 w.params).In h₀) (N : News h₀ L s.heap led) (U : UpdF 81 (tabObj ps) led gg) (ht : TriplesOk ps.toList) (ab : AllBare s.gens) (C : CodeHd h₀ 85 81) (T : Top p loose mean mg mb h₀) (hk : cs.kind = .function)
    (hret : ∀ v h' d' g' tk' ps', R v → Fr h₀ L h' m → News h₀ L h' (gg (tabObj ps')) → TriplesOk ps'.toList → AllBare g' → Q v { s with heap := h', gens := g', drawn := d', toks := tk' }) :
    wpAny (model PySem.Challenge.rw_bb6044_01.row.prog w) (callerA.deeper (envOf cn cs L a ccd)) (call (.ref f) vs) Q E s := by
  obtain ⟨pre, post, rfl, hgg, ap1, ap2⟩ := U.split
  refine TT p loose mean mg mb cn cs a ccd h₀ L m (pre ++ post) ps s Q E B F X (fun q hq => N q ?_) (fun q hq => ?_) ht ab C T hk fun v h' d' g' tk' ps' hR F' N' ht' ab' => hret v h' d' g' tk' ps' hR F' (fun q hq => N' q ?_) ht' ab'
  · simp only [List.mem_cons, List.mem_append] at hq ⊢
    rcases hq with h | h | h <;> simp [h]
  · rcases List.mem_append.mp hq with hq | hq
    · exact ap1 q hq
    · exact ap2 q hq
  · rw [hgg] at hq
    simp only [List.mem_cons, List.mem_append] at hq ⊢
    rcases hq with h | h | h <;> simp [h]

theorem toldL_at {w : World} {f : Addr} {vs : List Value} {R : Value → Prop} (TT : ToldL w f vs R) {p : Program} {loose : List Str} {mean : ExcName → Option Value} {mg mb : Str → Option Value} {cn : Str} {cs : Scope} {a : Addr} {ccd : Value} {h₀ : Heap} {L : Addr} {m : Str → Option Value} {news : List (Addr × Obj)} {s : Shared} {Q E : Value → Shared → Prop}
    (B : Below callerA h₀ [] h₀) (F : Fr h₀ L s.heap m) (X : (hd.heap_39 w.params).In h₀) (N : News h₀ L s.heap news) (T : Top p loose mean mg mb h₀) (hk : cs.kind = .function)
    (hret : ∀ v h' tk', R v → Fr h₀ L h' m → News h₀ L h' news → Q v { s with heap := h', toks := tk' }) :
    wpAny (model PySem.Challenge.rw_bb6044_01.row.prog w) (callerA.deeper (envOf cn cs L a ccd)) (call (.ref f) vs) Q E s := TT p loose mean mg mb cn cs a ccd h₀ L m news s Q E B F X N T hk hret

def defBody : Stmt → List Stmt
  | .FunctionDef _ _ b .. => b
  | _ => []
def defScope : Stmt → Scope
  | .FunctionDef _ _ _ _ _ _ sc _ _ _ => sc
  | _ => default
def lawDef : Stmt := PySem.Challenge.rw_bb6044_01.row.prog.main.body.getD 21 (.Pass ⟨0, 0, 0, 0⟩)
/-- the law's own statements, its scope -/
def lawBody : List Stmt := defBody lawDef
def lawScope : Scope := defScope lawDef
theorem mid_kst {h₀ : Heap} {L : Addr} {os : OsState} {ex : List (Addr × Obj)} {m : Str → Option Value} {ps : Array Value} {s : Shared} {nm : List (Str × Value)} (M : Mid h₀ L os ex m ps s) (h : ∀ p ∈ nm, m p.1 = some p.2) : Mid h₀ L os ex (kstB m nm) ps s := by
  have e : kstB m nm = m := funext fun y => kstB_eq h fun _ => rfl
  rw [e]; exact M
theorem news_one {h₀ h : Heap} {L : Addr} {led : List (Addr × Obj)} {q : Addr × Obj} (N : News h₀ L h led) (hm : q ∈ led) : News h₀ L h [q] := fun p hp => by rw [List.mem_singleton.mp hp]; exact N q hm
/-- the law's end -/
def LawEnd (h₀ : Heap) (os : OsState) (f : Flow) (s' : Shared) : Prop := f = .ret (.bool true) ∧ (∀ b o, h₀.get? b = some o → s'.heap.get? b = some o) ∧ GrownAt 81 s'.heap ∧ s'.os = os ∧ AllBare s'.gens
end Mine
end

section
open PySem PySem.W PySem.Spec PySem.Calls PyProof.Rows
namespace Mine
/-- a turn's end: these names hold these values -/
def TurnEnd (h₀ : Heap) (L : Addr) (os : OsState) (I : Addr) (oI : Obj) (nm : Tok → List (Str × Value)) (f : Flow) (s₂ : Shared) : Prop :=
  f = .next ∧ ∃ c m ps, Mid h₀ L os [(I, oI)] m ps s₂ ∧ ∀ p ∈ nm c, m p.1 = some p.2
theorem news_two {h₀ h : Heap} {L : Addr} {led : List (Addr × Obj)} {q r : Addr × Obj} (N : News h₀ L h led) (hq : q ∈ led) (hr : r ∈ led) : News h₀ L h [q, r] := fun p hp => by
  rcases List.mem_cons.mp hp with rfl | hp
  · exact N _ hq
  · rw [List.mem_singleton.mp hp]; exact N r hr
theorem kstB_self {m : Str → Option Value} {nm : List (Str × Value)} (h : ∀ p ∈ nm, m p.1 = some p.2) : kstB m nm = m := funext fun y => kstB_eq h fun _ => rfl
theorem TurnEnd.intro {h₀ : Heap} {L : Addr} {I : Addr} {oI : Obj} {nm : Tok → List (Str × Value)} {s₂ : Shared} {c : Tok} {m : Str → Option Value} {ps : Array Value} {led : List (Addr × Obj)} (F : Fr h₀ L s₂.heap m) (N : News h₀ L s₂.heap led)
    (h1 : (81, tabObj ps) ∈ led) (h2 : (I, oI) ∈ led) (ht : TriplesOk ps.toList) (ab : AllBare s₂.gens) (hm : ∀ p ∈ nm c, m p.1 = some p.2) : TurnEnd h₀ L s₂.os I oI nm .next s₂ :=
  ⟨rfl, c, m, ps, ⟨F, news_two N h1 h2, ht, ab, rfl⟩, hm⟩
section
variable {prog : Program} {w : World} {A : Around} {s : Shared} {env : Env} {h₀ : Heap}
theorem iter_rangeN {E : Value → Shared → Prop} {Q : Flow → Shared → Prop} {x : Str} {px : Pos} {body : List Stmt} {r : Addr} {n : Nat} {t u v : Tok} {m : Str → Option Value} {led : List (Addr × Obj)} {ps : Array Value}
    (nm : Nat → Tok → List (Str × Value)) (c₀ : Tok) (hh : A.handled = none) (hr : IsRange s.heap r 0 n 1 t u v) (hsm : Builtin.Range.small 0 n 1 = true) (hn : Builtin.Range.rangeSize 0 n 1 = (n : Int))
    (hx : env.kindOf x = some .local) (hp : (env.scope.kind == .class || (env.scope.kind == .module && env.locals != env.globals)) = false)
    (F : Fr h₀ env.locals s.heap m) (N : News h₀ env.locals s.heap led) (hm : (81, tabObj ps) ∈ led) (ht : TriplesOk ps.toList) (ab : AllBare s.gens) (h0 : ∀ p ∈ nm 0 c₀, m p.1 = some p.2)
    (step : ∀ (i : Nat) tt c uu ps₁ (I : Addr) (oI : Obj) (s₁ : Shared), i < n → (81 : Nat) ≠ I → s₁.os = s.os → Mid h₀ env.locals s₁.os [(I, oI)] (fun y => if y = x then some (.int i tt) else kstB uu (nm i c) y) ps₁ s₁ →
      wpAny (model prog w) A (execs body env) (TurnEnd h₀ env.locals s₁.os I oI (nm (i + 1))) E s₁)
    (done : ∀ c uu ps₁ s₁, s₁.os = s.os → Mid h₀ env.locals s₁.os [] (kstB uu (nm n c)) ps₁ s₁ → Q .next s₁)
    (hE : PassesOwn (model prog w) A env E) :
    wpAny (model prog w) A (pyIter (.ref r)) (fun it s₂ => codeAny (model prog w) A (.forLoop (.Name x px) it body [] env) (fun r s' => match r with | .ok f => Q f s' | .error e => cameBackBy (model prog w) A env E e s') s₂) E s := by
  refine iter_rangeT (fun i m => ∃ c, ∀ p ∈ nm i c, m p.1 = some p.2) hh hr hsm hn hx hp F N hm ht ab ⟨c₀, h0⟩ ?_ ?_ hE
  · rintro i tt m₁ ps₁ I oI s₁ hi ⟨c, hc⟩ hI M
    have ho := M.os
    rw [← ho] at M
    refine wpAny_mono (step i tt c m₁ ps₁ I oI s₁ hi hI ho (by rw [kstB_self hc]; exact M)) (fun f s₂ q => ?_) fun _ _ e => e
    obtain ⟨rfl, c', m₂, ps₂, M₂, hm₂⟩ := q
    rw [ho] at M₂
    exact ⟨rfl, m₂, ps₂, M₂, c', hm₂⟩
  · rintro m₁ ps₁ s₁ M ⟨c, hc⟩
    have ho := M.os
    rw [← ho] at M
    exact done c m₁ ps₁ s₁ ho (by rw [kstB_self hc]; exact M)
end
def forBody : Stmt → List Stmt
  | .For _ _ b _ _ => b
  | _ => []
def turnOne : List Stmt := forBody (lawBody.getD 2 (.Pass ⟨0, 0, 0, 0⟩))
def turnTwo : List Stmt := forBody (lawBody.getD 5 (.Pass ⟨0, 0, 0, 0⟩))
end Mine
end

section
open PySem PySem.W PySem.Spec PySem.Calls PyProof.Rows
namespace Mine
local macro_rules | `(tactic| walk_at "pad") => `(tactic| skip)
local macro_rules | `(tactic| walk_at "pad") => `(tactic| skip)
local macro_rules | `(tactic| walk_at "pad") => `(tactic| skip)
local macro_rules | `(tactic| walk_at "pad") => `(tactic| skip)
local macro_rules | `(tactic| walk_at "pad") => `(tactic| skip)
local macro_rules | `(tactic| walk_at "pad") => `(tactic| skip)
local macro_rules | `(tactic| walk_at "pad") => `(tactic| skip)
local macro_rules | `(tactic| walk_at "pad") => `(tactic| skip)
local macro_rules | `(tactic| walk_at "pad") => `(tactic| skip)
local macro_rules | `(tactic| walk_at "pad") => `(tactic| skip)
local macro_rules | `(tactic| walk_at "pad") => `(tactic| skip)
local macro_rules | `(tactic| walk_at "pad") => `(tactic| skip)
local macro_rules | `(tactic| walk_at "pad") => `(tactic| skip)
local macro_rules | `(tactic| walk_at "pad") => `(tactic| skip)
local macro_rules | `(tactic| walk_at "pad") => `(tactic| skip)
local macro_rules | `(tactic| walk_at "pad") => `(tactic| skip)
local macro_rules | `(tactic| walk_at "pad") => `(tactic| skip)
local macro_rules | `(tactic| walk_at "pad") => `(tactic| skip)
local macro_rules | `(tactic| walk_at "pad") => `(tactic| skip)
local macro_rules | `(tactic| walk_at "pad") => `(tactic| skip)
local macro_rules | `(tactic| walk_at "pad") => `(tactic| skip)
local macro_rules | `(tactic| walk_at "pad") => `(tactic| skip)
local macro_rules | `(tactic| walk_at "pad") => `(tactic| skip)
local macro_rules | `(tactic| walk_at "pad") => `(tactic| skip)
local macro_rules | `(tactic| walk_at "pad") => `(tactic| skip)
local macro_rules | `(tactic| walk_at "pad") => `(tactic| skip)
local macro_rules | `(tactic| walk_at "pad") => `(tactic| skip)
local macro_rules | `(tactic| walk_at "pad") => `(tactic| skip)
local macro_rules | `(tactic| walk_at "pad") => `(tactic| skip)
local macro_rules | `(tactic| walk_at "pad") => `(tactic| skip)
local macro_rules | `(tactic| walk_at "pad") => `(tactic| skip)
local macro_rules | `(tactic| walk_at "pad") => `(tactic| skip)
local macro_rules | `(tactic| walk_at "pad") => `(tactic| skip)
local macro_rules | `(tactic| walk_at "pad") => `(tactic| skip)
local macro_rules | `(tactic| walk_at "pad") => `(tactic| skip)
local macro_rules | `(tactic| walk_at "pad") => `(tactic| skip)
local macro_rules | `(tactic| walk_at "pad") => `(tactic| skip)
local macro_rules | `(tactic| walk_at "pad") => `(tactic| skip)
local macro_rules | `(tactic| walk_at "pad") => `(tactic| skip)
local macro_rules | `(tactic| walk_at "pad") => `(tactic| skip)
local macro_rules | `(tactic| walk_at "pad") => `(tactic| skip)
local macro_rules | `(tactic| walk_at "pad") => `(tactic| skip)
local macro_rules | `(tactic| walk_at "pad") => `(tactic| skip)
local macro_rules | `(tactic| walk_at "pad") => `(tactic| skip)
local macro_rules | `(tactic| walk_at "pad") => `(tactic| skip)
local macro_rules | `(tactic| walk_at "pad") => `(tactic| skip)
local macro_rules | `(tactic| walk_at "pad") => `(tactic| skip)
local macro_rules | `(tactic| walk_at "pad") => `(tactic| skip)
local macro_rules | `(tactic| walk_at "pad") => `(tactic| skip)
local macro_rules | `(tactic| walk_at "pad") => `(tactic| skip)
local macro_rules | `(tactic| walk_at "pad") => `(tactic| skip)
local macro_rules | `(tactic| walk_at "pad") => `(tactic| skip)
local macro_rules | `(tactic| walk_at "pad") => `(tactic| skip)
local macro_rules | `(tactic| walk_at "pad") => `(tactic| skip)
local macro_rules | `(tactic| walk_at "pad") => `(tactic| skip)
local macro_rules | `(tactic| walk_at "pad") => `(tactic| skip)
local macro_rules | `(tactic| walk_at "pad") => `(tactic| skip)
local macro_rules | `(tactic| walk_at "pad") => `(tactic| skip)
local macro_rules | `(tactic| walk_at "pad") => `(tactic| skip)
local macro_rules | `(tactic| walk_at "pad") => `(tactic| skip)
theorem nobody_short : Short (Str.ofString "Nobody") := ⟨by decide +kernel, by decide +kernel⟩
theorem nobody_month : Str.ofString "Nobody" ∉ months := by decide +kernel
theorem month_lower : ∀ k, k < 19 → (Txt.lower (months.getD k Str.empty)).length ≤ 100 ∧ (reprText (Txt.lower (months.getD k Str.empty))).length ≤ 1000 ∧ Txt.lower (months.getD k Str.empty) ∉ months ∧ Builtin.Str.tooLong (Txt.lower (months.getD k Str.empty)).length = false := by decide +kernel
theorem name_lower : ∀ k, k < 20 → (Txt.lower (names.getD k Str.empty)).length ≤ 100 ∧ (reprText (Txt.lower (names.getD k Str.empty))).length ≤ 1000 ∧ Txt.lower (names.getD k Str.empty) ∉ names ∧ Builtin.Str.tooLong (Txt.lower (names.getD k Str.empty)).length = false := by decide +kernel
section
variable {prog : Program} {w : World} {A : Around} {E : Value → Shared → Prop} {s : Shared} {k : Nat} {t : Tok} {Q : Value → Shared → Prop}
theorem lower_month (hk : k < 19) (h : ∀ x t' tk, Short x → x ∉ months → Q (.str x t') { s with toks := tk }) : wpAny (model prog w) A (call (.builtin "str.lower") [.str (months.getD k Str.empty) t]) Q E s :=
  SC.lower (month_lower k hk).2.2.2 (h _ _ _ ⟨(month_lower k hk).1, (month_lower k hk).2.1⟩ (month_lower k hk).2.2.1)
theorem lower_name (hk : k < 20) (h : ∀ x t' tk, Short x → x ∉ names → Q (.str x t') { s with toks := tk }) : wpAny (model prog w) A (call (.builtin "str.lower") [.str (names.getD k Str.empty) t]) Q E s :=
  SC.lower (name_lower k hk).2.2.2 (h _ _ _ ⟨(name_lower k hk).1, (name_lower k hk).2.1⟩ (name_lower k hk).2.2.1)
end
theorem nobody_name : Str.ofString "Nobody" ∉ names := by decide +kernel
local macro_rules | `(tactic| walk_at "eval Call") => `(tactic| (k_here; k_dflt (refine Call_ ?_)))
local macro_rules | `(tactic| walk_at "call ref") => `(tactic| (k_here; (with_reducible show wpAny _ _ (call (Value.ref 121) [Value.int _ _, Value.str _ _]) _ _ _); (first | k_dflt (refine' toldL_at (haab_index_refused _ _ _ _ _ ?c) ?B ?F ?X ?N ?T rfl ?_; (case c => omega); (case B => k_asm); (case F => k_asm); (case X => k_asm); (case N => k_asm); (case T => k_asm)) | k_dflt (refine' toldL_at (haab_value_refused _ _ _ _ ?s ?c) ?B ?F ?X ?N ?T rfl ?_; (case s => first | exact nobody_short | assumption); (case c => first | exact nobody_month | assumption); (case B => k_asm); (case F => k_asm); (case X => k_asm); (case N => k_asm); (case T => k_asm)));   intro v' h' tk' hv' F' N'; (obtain ⟨t', hv'⟩ := hv'); subst hv'))
local macro_rules | `(tactic| walk_at "call ref") => `(tactic| (k_here; (with_reducible show wpAny _ _ (call (Value.ref 128) [Value.int _ _, Value.str _ _]) _ _ _); (first | k_dflt (refine' toldT_at (tzolkin_index_refused _ _ _ _ _ ?c) ?B ?F ?X ?N ?U ?t ?ab ?C ?T rfl ?_; (case c => omega); (case B => k_asm); (case F => k_asm); (case X => k_asm); (case N => k_asm); (case U => k_updF); (case t => assumption); (case ab => assumption); (case C => assumption); (case T => k_asm)) | k_dflt (refine' toldT_at (tzolkin_value_refused _ _ _ _ _ ?c1 ?c2 ?s ?c) ?B ?F ?X ?N ?U ?t ?ab ?C ?T rfl ?_; (case c1 => omega); (case c2 => omega); (case s => first | exact nobody_short | assumption); (case c => first | exact nobody_name | assumption); (case B => k_asm); (case F => k_asm); (case X => k_asm); (case N => k_asm); (case U => k_updF); (case t => assumption); (case ab => assumption); (case C => assumption); (case T => k_asm)));   intro v' h' d' g' tk' ps' hv' F' N' ht' ab'; (obtain ⟨t', hv'⟩ := hv'); subst hv'; (try dsimp only at N')))
local macro_rules | `(tactic| walk_at "call builtin:str.lower") => `(tactic| (k_here; first | k_dflt (refine' lower_month (k := (Int.fmod _ 19).toNat) ?hk ?_; (case hk => omega)) | k_dflt (refine' lower_name (k := (Int.fmod _ 20).toNat) ?hk ?_; (case hk => omega)); intro x' t' tk' hs' hx'))
set_option maxRecDepth 100000 in
set_option maxHeartbeats 8000000 in
theorem seg6 (w : World) {p : Program} {loose : List Str} {mean : ExcName → Option Value} {mg mb : Str → Option Value} {fa : Addr} {cd : Value} {h₀ : Heap} {L : Addr} {u : Str → Option Value} {ps : Array Value} {s : Shared} {Q : Flow → Shared → Prop}
    {b c n : Int} {tb tc tn : Tok} (n0 : 1 ≤ n) (n1 : n ≤ 13)
    (B : Below callerA h₀ [] h₀) (X : (hd.heap_39 w.params).In h₀) (T : Top p loose mean mg mb h₀) (C : CodeHd h₀ 85 81)
    (M : Mid h₀ L s.os [] (kstB u [(Str.ofString "b", .int b tb), (Str.ofString "c", .int c tc), (Str.ofString "number", .int n tn)]) ps s)
    (hQ : ∀ f s', LawEnd h₀ s.os f s' → Q f s') :
    wpAny (model PySem.Challenge.rw_bb6044_01.row.prog w) (callerA.deeper (envOf (Str.ofString "law") lawScope L fa cd)) (execs (lawBody.drop 15) (envOf (Str.ofString "law") lawScope L fa cd)) Q (fun _ _ => False) s := by
  w_top off
  revert X; k_fill; intro X
  have hsc : lawScope = lawScope := rfl
  conv at hsc => rhs; whnf
  have hbd : lawBody.drop 15 = lawBody.drop 15 := rfl
  conv at hbd => rhs; whnf
  rw [hsc, hbd]
  clear hsc hbd
  obtain ⟨F, N, ht, ab, -⟩ := M
  have hb0 : 0 ≤ b.fmod 19 := Int.fmod_nonneg_of_pos _ (by decide)
  have hb1 : b.fmod 19 < 19 := Int.fmod_lt_of_pos _ (by decide)
  have hb2 : 0 ≤ b.fmod 20 := Int.fmod_nonneg_of_pos _ (by decide)
  have hb3 : b.fmod 20 < 20 := Int.fmod_lt_of_pos _ (by decide)
  have hc0 : 0 ≤ c.fmod 100 := Int.fmod_nonneg_of_pos _ (by decide)
  have hc1 : c.fmod 100 < 100 := Int.fmod_lt_of_pos _ (by decide)
  obtain ⟨h, g, d, tk, os⟩ := s
  dsimp only [kstB] at F N ab hQ

  k_steps
  dsimp only
  exact hQ _ _ ⟨congrArg (fun b => Flow.ret (.bool b)) (beq_self_eq_true _), fun b o e => Fr.keep (by assumption) b o e, GrownAt.of (by assumption) (by k_mem), rfl, by assumption⟩
end Mine
end

section
open PySem PySem.W PySem.Spec PySem.Calls PyProof.Rows
namespace Mine
local macro_rules | `(tactic| walk_at "pad") => `(tactic| skip)
local macro_rules | `(tactic| walk_at "pad") => `(tactic| skip)
local macro_rules | `(tactic| walk_at "pad") => `(tactic| skip)
local macro_rules | `(tactic| walk_at "pad") => `(tactic| skip)
local macro_rules | `(tactic| walk_at "pad") => `(tactic| skip)
local macro_rules | `(tactic| walk_at "pad") => `(tactic| skip)
local macro_rules | `(tactic| walk_at "pad") => `(tactic| skip)
local macro_rules | `(tactic| walk_at "pad") => `(tactic| skip)
local macro_rules | `(tactic| walk_at "pad") => `(tactic| skip)
local macro_rules | `(tactic| walk_at "pad") => `(tactic| skip)
local macro_rules | `(tactic| walk_at "pad") => `(tactic| skip)
local macro_rules | `(tactic| walk_at "pad") => `(tactic| skip)
local macro_rules | `(tactic| walk_at "pad") => `(tactic| skip)
local macro_rules | `(tactic| walk_at "pad") => `(tactic| skip)
local macro_rules | `(tactic| walk_at "pad") => `(tactic| skip)
local macro_rules | `(tactic| walk_at "pad") => `(tactic| skip)
local macro_rules | `(tactic| walk_at "pad") => `(tactic| skip)
local macro_rules | `(tactic| walk_at "pad") => `(tactic| skip)
local macro_rules | `(tactic| walk_at "pad") => `(tactic| skip)
local macro_rules | `(tactic| walk_at "pad") => `(tactic| skip)
local macro_rules | `(tactic| walk_at "pad") => `(tactic| skip)
local macro_rules | `(tactic| walk_at "pad") => `(tactic| skip)
local macro_rules | `(tactic| walk_at "pad") => `(tactic| skip)
local macro_rules | `(tactic| walk_at "pad") => `(tactic| skip)
local macro_rules | `(tactic| walk_at "pad") => `(tactic| skip)
local macro_rules | `(tactic| walk_at "pad") => `(tactic| skip)
local macro_rules | `(tactic| walk_at "pad") => `(tactic| skip)
local macro_rules | `(tactic| walk_at "pad") => `(tactic| skip)
local macro_rules | `(tactic| walk_at "pad") => `(tactic| skip)
local macro_rules | `(tactic| walk_at "pad") => `(tactic| skip)
local macro_rules | `(tactic| walk_at "pad") => `(tactic| skip)
local macro_rules | `(tactic| walk_at "pad") => `(tactic| skip)
local macro_rules | `(tactic| walk_at "pad") => `(tactic| skip)
local macro_rules | `(tactic| walk_at "pad") => `(tactic| skip)
local macro_rules | `(tactic| walk_at "pad") => `(tactic| skip)
local macro_rules | `(tactic| walk_at "pad") => `(tactic| skip)
local macro_rules | `(tactic| walk_at "pad") => `(tactic| skip)
local macro_rules | `(tactic| walk_at "pad") => `(tactic| skip)
local macro_rules | `(tactic| walk_at "pad") => `(tactic| skip)
local macro_rules | `(tactic| walk_at "pad") => `(tactic| skip)
local macro_rules | `(tactic| walk_at "pad") => `(tactic| skip)
local macro_rules | `(tactic| walk_at "pad") => `(tactic| skip)
local macro_rules | `(tactic| walk_at "pad") => `(tactic| skip)
local macro_rules | `(tactic| walk_at "pad") => `(tactic| skip)
local macro_rules | `(tactic| walk_at "pad") => `(tactic| skip)
local macro_rules | `(tactic| walk_at "pad") => `(tactic| skip)
local macro_rules | `(tactic| walk_at "pad") => `(tactic| skip)
local macro_rules | `(tactic| walk_at "pad") => `(tactic| skip)
local macro_rules | `(tactic| walk_at "pad") => `(tactic| skip)
local macro_rules | `(tactic| walk_at "pad") => `(tactic| skip)
local macro_rules | `(tactic| walk_at "pad") => `(tactic| skip)
local macro_rules | `(tactic| walk_at "pad") => `(tactic| skip)
local macro_rules | `(tactic| walk_at "pad") => `(tactic| skip)
local macro_rules | `(tactic| walk_at "pad") => `(tactic| skip)
local macro_rules | `(tactic| walk_at "pad") => `(tactic| skip)
local macro_rules | `(tactic| walk_at "pad") => `(tactic| skip)
local macro_rules | `(tactic| walk_at "pad") => `(tactic| skip)
local macro_rules | `(tactic| walk_at "pad") => `(tactic| skip)
local macro_rules | `(tactic| walk_at "pad") => `(tactic| skip)
local macro_rules | `(tactic| walk_at "pad") => `(tactic| skip)
local macro_rules | `(tactic| walk_at "pad") => `(tactic| skip)
local macro_rules | `(tactic| walk_at "pad") => `(tactic| skip)
local macro_rules | `(tactic| walk_at "pad") => `(tactic| skip)
local macro_rules | `(tactic| walk_at "pad") => `(tactic| skip)
local macro_rules | `(tactic| walk_at "eval Call") => `(tactic| (k_here; k_dflt (refine Call_ ?_)))
local macro_rules | `(tactic| walk_at "call ref") => `(tactic| (k_here; (with_reducible show wpAny _ _ (call (Value.ref 135) [Value.int _ _, Value.int _ _, Value.int _ _]) _ _ _); k_dflt (refine' toldL_at (amod_ok_int _ _ _ _ _ _ ?c) ?B ?F ?X ?N ?T rfl ?_; (case c => omega); (case B => k_asm); (case F => k_asm); (case X => k_asm); (case N => k_asm); (case T => k_asm)); intro v' h' tk' hv' F' N'; subst hv'))
local macro_rules | `(tactic| walk_at "call ref") => `(tactic| (k_here; (with_reducible show wpAny _ _ (call (Value.ref 135) [Value.float _ _, Value.int _ _, Value.int _ _]) _ _ _); k_dflt (refine' toldL_at (amod_ok_float _ _ _ _ _ _ _ ?x ?c ?d) ?B ?F ?X ?N ?T rfl ?_; (case x => assumption); (case c => omega); (case d => omega); (case B => k_asm); (case F => k_asm); (case X => k_asm); (case N => k_asm); (case T => k_asm)); intro v' h' tk' hv' F' N'; subst hv'))
local macro_rules | `(tactic| walk_at "call ref") => `(tactic| (k_here; (with_reducible show wpAny _ _ (call (Value.ref 142) [Value.int _ _]) _ _ _); k_dflt (refine' toldL_at (zero_told _ _ _) ?B ?F ?X ?N ?T rfl ?_; (case B => k_asm); (case F => k_asm); (case X => k_asm); (case N => k_asm); (case T => k_asm)); intro v' h' tk' hv' F' N'; subst hv'))
local macro_rules | `(tactic| walk_at "execs cons") => `(tactic| (k_here; k_dflt (show wpAny _ _ (execs (lawBody.drop 15) _) _ _ _; refine' seg6 _ ?n0 ?n1 ?B ?X ?T ?C (mid_kst (nm := [(Str.ofString "b", .int _ _), (Str.ofString "c", .int _ _), (Str.ofString "number", .int _ _)]) ⟨?F, news_one ?N ?m, ?t, ?ab, rfl⟩ ?k) ?q; (case F => k_asm); (case N => k_asm); (case m => k_mem); (case k => repeat' (first | exact List.forall_mem_nil _ | refine List.forall_mem_cons.mpr ⟨by with_unfolding_all rfl, ?_⟩)); (case t => assumption); (case ab => assumption); (case n0 => omega); (case n1 => omega); (case B => k_asm); (case X => k_asm); (case T => k_asm); (case C => assumption); (case q => assumption))))
set_option maxRecDepth 100000 in
set_option maxHeartbeats 8000000 in
theorem seg5 (w : World) {p : Program} {loose : List Str} {mean : ExcName → Option Value} {mg mb : Str → Option Value} {fa : Addr} {cd : Value} {h₀ : Heap} {L : Addr} {u : Str → Option Value} {ps : Array Value} {s : Shared} {Q : Flow → Shared → Prop}
    {a b c e n cnt : Int} {x : UInt64} {ta tb tc te tn t1 t2 : Tok} (n0 : 1 ≤ n) (n1 : n ≤ 13) (hx : Half x (2 * (584282 + cnt) + 1)) (c0 : 0 ≤ cnt) (c1 : cnt < 10000000)
    (B : Below callerA h₀ [] h₀) (X : (hd.heap_39 w.params).In h₀) (T : Top p loose mean mg mb h₀) (C : CodeHd h₀ 85 81)
    (M : Mid h₀ L s.os [] (kstB u [(Str.ofString "a", .int a ta), (Str.ofString "b", .int b tb), (Str.ofString "c", .int c tc), (Str.ofString "e", .int e te), (Str.ofString "number", .int n tn), (Str.ofString "count", .int cnt t1), (Str.ofString "jd", .float x t2)]) ps s)
    (hQ : ∀ f s', LawEnd h₀ s.os f s' → Q f s') :
    wpAny (model PySem.Challenge.rw_bb6044_01.row.prog w) (callerA.deeper (envOf (Str.ofString "law") lawScope L fa cd)) (execs (lawBody.drop 12) (envOf (Str.ofString "law") lawScope L fa cd)) Q (fun _ _ => False) s := by
  w_top off
  revert X; k_fill; intro X
  have hsc : lawScope = lawScope := rfl
  conv at hsc => rhs; whnf
  have hbd : lawBody.drop 12 = lawBody.drop 12 := rfl
  conv at hbd => rhs; whnf
  rw [hsc, hbd]
  clear hsc hbd
  obtain ⟨F, N, ht, ab, -⟩ := M
  have he0 : 0 ≤ e.fmod 40 := Int.fmod_nonneg_of_pos _ (by decide)
  have he1 : e.fmod 40 < 40 := Int.fmod_lt_of_pos _ (by decide)
  obtain ⟨h, g, d, tk, os⟩ := s
  dsimp only [kstB] at F N ab hQ
  k_steps
end Mine
end

section
open PySem PySem.W PySem.Spec PySem.Calls PyProof.Rows
namespace Mine
local macro_rules | `(tactic| walk_at "pad") => `(tactic| skip)
local macro_rules | `(tactic| walk_at "pad") => `(tactic| skip)
local macro_rules | `(tactic| walk_at "pad") => `(tactic| skip)
local macro_rules | `(tactic| walk_at "pad") => `(tactic| skip)
local macro_rules | `(tactic| walk_at "pad") => `(tactic| skip)
local macro_rules | `(tactic| walk_at "pad") => `(tactic| skip)
local macro_rules | `(tactic| walk_at "pad") => `(tactic| skip)
local macro_rules | `(tactic| walk_at "pad") => `(tactic| skip)
local macro_rules | `(tactic| walk_at "pad") => `(tactic| skip)
local macro_rules | `(tactic| walk_at "pad") => `(tactic| skip)
local macro_rules | `(tactic| walk_at "pad") => `(tactic| skip)
local macro_rules | `(tactic| walk_at "pad") => `(tactic| skip)
local macro_rules | `(tactic| walk_at "pad") => `(tactic| skip)
local macro_rules | `(tactic| walk_at "pad") => `(tactic| skip)
local macro_rules | `(tactic| walk_at "pad") => `(tactic| skip)
local macro_rules | `(tactic| walk_at "pad") => `(tactic| skip)
local macro_rules | `(tactic| walk_at "pad") => `(tactic| skip)
local macro_rules | `(tactic| walk_at "pad") => `(tactic| skip)
local macro_rules | `(tactic| walk_at "pad") => `(tactic| skip)
local macro_rules | `(tactic| walk_at "pad") => `(tactic| skip)
local macro_rules | `(tactic| walk_at "pad") => `(tactic| skip)
local macro_rules | `(tactic| walk_at "pad") => `(tactic| skip)
local macro_rules | `(tactic| walk_at "pad") => `(tactic| skip)
local macro_rules | `(tactic| walk_at "pad") => `(tactic| skip)
local macro_rules | `(tactic| walk_at "pad") => `(tactic| skip)
local macro_rules | `(tactic| walk_at "pad") => `(tactic| skip)
local macro_rules | `(tactic| walk_at "pad") => `(tactic| skip)
local macro_rules | `(tactic| walk_at "pad") => `(tactic| skip)
local macro_rules | `(tactic| walk_at "pad") => `(tactic| skip)
local macro_rules | `(tactic| walk_at "pad") => `(tactic| skip)
local macro_rules | `(tactic| walk_at "pad") => `(tactic| skip)
local macro_rules | `(tactic| walk_at "pad") => `(tactic| skip)
local macro_rules | `(tactic| walk_at "pad") => `(tactic| skip)
local macro_rules | `(tactic| walk_at "pad") => `(tactic| skip)
local macro_rules | `(tactic| walk_at "pad") => `(tactic| skip)
local macro_rules | `(tactic| walk_at "pad") => `(tactic| skip)
local macro_rules | `(tactic| walk_at "pad") => `(tactic| skip)
local macro_rules | `(tactic| walk_at "pad") => `(tactic| skip)
local macro_rules | `(tactic| walk_at "pad") => `(tactic| skip)
local macro_rules | `(tactic| walk_at "pad") => `(tactic| skip)
local macro_rules | `(tactic| walk_at "pad") => `(tactic| skip)
local macro_rules | `(tactic| walk_at "pad") => `(tactic| skip)
local macro_rules | `(tactic| walk_at "pad") => `(tactic| skip)
local macro_rules | `(tactic| walk_at "pad") => `(tactic| skip)
local macro_rules | `(tactic| walk_at "pad") => `(tactic| skip)
local macro_rules | `(tactic| walk_at "pad") => `(tactic| skip)
local macro_rules | `(tactic| walk_at "pad") => `(tactic| skip)
local macro_rules | `(tactic| walk_at "pad") => `(tactic| skip)
local macro_rules | `(tactic| walk_at "pad") => `(tactic| skip)
local macro_rules | `(tactic| walk_at "pad") => `(tactic| skip)
local macro_rules | `(tactic| walk_at "pad") => `(tactic| skip)
local macro_rules | `(tactic| walk_at "pad") => `(tactic| skip)
local macro_rules | `(tactic| walk_at "pad") => `(tactic| skip)
local macro_rules | `(tactic| walk_at "pad") => `(tactic| skip)
local macro_rules | `(tactic| walk_at "pad") => `(tactic| skip)
local macro_rules | `(tactic| walk_at "pad") => `(tactic| skip)
local macro_rules | `(tactic| walk_at "pad") => `(tactic| skip)
local macro_rules | `(tactic| walk_at "pad") => `(tactic| skip)
local macro_rules | `(tactic| walk_at "pad") => `(tactic| skip)
local macro_rules | `(tactic| walk_at "pad") => `(tactic| skip)
local macro_rules | `(tactic| walk_at "pad") => `(tactic| skip)
local macro_rules | `(tactic| walk_at "pad") => `(tactic| skip)
local macro_rules | `(tactic| walk_at "pad") => `(tactic| skip)
local macro_rules | `(tactic| walk_at "pad") => `(tactic| skip)
local macro_rules | `(tactic| walk_at "pad") => `(tactic| skip)
local macro_rules | `(tactic| walk_at "pad") => `(tactic| skip)
local macro_rules | `(tactic| walk_at "pad") => `(tactic| skip)
local macro_rules | `(tactic| walk_at "pad") => `(tactic| skip)
local macro_rules | `(tactic| walk_at "pad") => `(tactic| skip)
theorem toldP_at {w : World} {f : Addr} {vs : List Value} {R : Int → Str → Prop} (TT : ToldP w f vs R) {p : Program} {loose : List Str} {mean : ExcName → Option Value} {mg mb : Str → Option Value} {cn : Str} {cs : Scope} {a : Addr} {ccd : Value} {h₀ : Heap} {L : Addr} {m : Str → Option Value} {news : List (Addr × Obj)} {s : Shared} {Q E : Value → Shared → Prop}
    (B : Below callerA h₀ [] h₀) (F : Fr h₀ L s.heap m) (X : (hd.heap_39 w.params).In h₀) (N : News h₀ L s.heap news) (T : Top p loose mean mg mb h₀) (hk : cs.kind = .function)
    (hret : ∀ D n x t t' k h' tk', R n x → (∀ p ∈ news, p.1 < D) → Fr h₀ L h' m → News h₀ L h' ((D, tupO n x t t' k) :: news) → Q (.ref D) { s with heap := h', toks := tk' }) :
    wpAny (model PySem.Challenge.rw_bb6044_01.row.prog w) (callerA.deeper (envOf cn cs L a ccd)) (call (.ref f) vs) Q E s := TT p loose mean mg mb cn cs a ccd h₀ L m news s Q E B F X N T hk hret
theorem tz_spec {r d k c : Int} (h1 : 1 ≤ r) (h2 : r ≤ 260) (h3 : r % 13 = d % 13) (h4 : r % 20 = (k + 1) % 20) (h5 : d % 13 = (c + 4) % 13) (h6 : (k + 1) % 20 = c % 20) : r = (c + 159).fmod 260 + 1 := by
  rw [Int.fmod_eq_emod_of_nonneg _ (by decide)]
  rw [h5] at h3
  rw [h6] at h4
  clear h5 h6
  rw [placeOf_uniq (d := c + 4) (n := c) h1 h2 h3 h4]
  unfold placeOf
  omega
section
variable {prog : Program} {w : World} {A : Around} {E : Value → Shared → Prop} {s : Shared} {t u : Tok} {Q : Value → Shared → Prop}
theorem ten_seven (h : ∀ t' tk, Q (.int 10000000 t') { s with toks := tk }) : wpAny (model prog w) A (binaryOp .Pow (.int 10 t) (.int 7 u)) Q E s :=
  pow_int_small (by decide) (by decide) (by decide) (by rw [show (10 : Int) ^ (7 : Int).toNat = 10000000 from by decide]; exact h _ _)
end
local macro_rules | `(tactic| walk_at "binaryOp Pow int int") => `(tactic| (k_here; k_dflt (refine' ten_seven ?_); intro t' tk'))
local macro_rules | `(tactic| walk_at "eval Call") => `(tactic| (k_here; k_dflt (refine Call_ ?_)))
local macro_rules | `(tactic| walk_at "binaryOp Add float int") => `(tactic| (k_here; k_dflt (refine' add_hi ?hA ?hx ?hn ?ha ?_; (case hA => rfl); (case hx => assumption); (case hn => omega); (case ha => omega)); intro z' t' tk' hz'))
local macro_rules | `(tactic| walk_at "call ref") => `(tactic| (k_here; (with_reducible show wpAny _ _ (call (Value.ref 58) _) _ _ _); k_dflt (refine' toldL_at (jd_told _ _ _ _ _ _) ?B ?F ?X ?N ?T rfl ?_; (case B => k_asm); (case F => k_asm); (case X => k_asm); (case N => k_asm); (case T => with_reducible assumption)); intro v' h' tk' hv' F' N'; (obtain ⟨x', t', hv', hx'⟩ := hv'); subst hv'))
local macro_rules | `(tactic| walk_at "call ref") => `(tactic| (k_here; (with_reducible show wpAny _ _ (call (Value.ref 79) [Value.int _ _, Value.str _ _]) _ _ _); k_dflt (refine' toldL_at (haab_told _ _ _ _ _ ?c ?d ?e) ?B ?F ?X ?N ?T rfl ?_; (case c => omega); (case d => omega); (case e => omega); (case B => k_asm); (case F => k_asm); (case X => k_asm); (case N => k_asm); (case T => with_reducible assumption)); intro v' h' tk' hv' F' N'; (obtain ⟨t', hv'⟩ := hv'); subst hv'))
local macro_rules | `(tactic| walk_at "call ref") => `(tactic| (k_here; (with_reducible show wpAny _ _ (call (Value.ref 65) [Value.float _ _]) _ _ _); k_dflt (refine' toldP_at (to_haab_told _ _ _ _ ?x ?c ?d) ?B ?F ?X ?N ?T rfl ?_; (case x => assumption); (case c => omega); (case d => omega); (case B => k_asm); (case F => k_asm); (case X => k_asm); (case N => k_asm); (case T => with_reducible assumption)); intro D' n' x' t1' t2' k' h' tk' hv' l' F' N'; (obtain ⟨hv1', hv2'⟩ := hv'); subst hv1' hv2'; (try k_lt l')))
local macro_rules | `(tactic| walk_at "call ref") => `(tactic| (k_here; (with_reducible show wpAny _ _ (call (Value.ref 72) [Value.float _ _]) _ _ _); k_dflt (refine' toldP_at (to_tzolkin_told _ _ _ _ ?x ?c ?d) ?B ?F ?X ?N ?T rfl ?_; (case x => assumption); (case c => omega); (case d => omega); (case B => k_asm); (case F => k_asm); (case X => k_asm); (case N => k_asm); (case T => with_reducible assumption)); intro D' n' x' t1' t2' k' h' tk' hv' l' F' N'; (obtain ⟨kk', hv1', hk1', hk2', hk3', hk4', hk5'⟩ := hv'); subst hv1'; (try k_lt l')))
local macro_rules | `(tactic| walk_at "call ref") => `(tactic| (k_here; (with_reducible show wpAny _ _ (call (Value.ref 86) [Value.int _ _, Value.str _ _]) _ _ _); k_dflt (refine' toldT_at (tzolkin_told _ _ _ _ _ ?c1 ?c2 ?c3) ?B ?F ?X ?N ?U ?t ?ab ?C ?T rfl ?_; (case c1 => omega); (case c2 => omega); (case c3 => omega); (case B => k_asm); (case F => k_asm); (case X => k_asm); (case N => k_asm); (case U => k_updF); (case t => assumption); (case ab => assumption); (case C => assumption); (case T => with_reducible assumption)); intro v' h' d' g' tk' ps' hv' F' N' ht' ab'; (obtain ⟨r', t', hv', hr1', hr2', hr3', hr4'⟩ := hv'); subst hv'; (have hr5' := tz_spec hr1' hr2' hr3' hr4' (by assumption) (by assumption)); (try dsimp only at N')))
local macro_rules | `(tactic| walk_at "execs cons") => `(tactic| (k_here; k_dflt (show wpAny _ _ (execs (lawBody.drop 12) _) _ _ _; refine' seg5 _ ?n0 ?n1 ?hx ?c0 ?c1 ?B ?X ?T ?C (mid_kst (nm := [(Str.ofString "a", .int _ _), (Str.ofString "b", .int _ _), (Str.ofString "c", .int _ _), (Str.ofString "e", .int _ _), (Str.ofString "number", .int _ _), (Str.ofString "count", .int _ _), (Str.ofString "jd", .float _ _)]) ⟨?F, news_one ?N ?m, ?t, ?ab, rfl⟩ ?k) ?q; (case F => k_asm); (case N => k_asm); (case m => k_mem); (case k => repeat' (first | exact List.forall_mem_nil _ | refine List.forall_mem_cons.mpr ⟨by with_unfolding_all rfl, ?_⟩)); (case t => assumption); (case ab => assumption); (case n0 => omega); (case n1 => omega); (case c0 => omega); (case c1 => omega); (case hx => (refine cast (congrArg (Half _) ?_) (by assumption : Half _ (1168565 + 2 * _)); omega)); (case B => k_asm); (case X => k_asm); (case T => with_reducible assumption); (case C => assumption); (case q => assumption))))
set_option maxRecDepth 100000 in
set_option maxHeartbeats 8000000 in
theorem seg4 (w : World) {p : Program} {loose : List Str} {mean : ExcName → Option Value} {mg mb : Str → Option Value} {fa : Addr} {cd : Value} {h₀ : Heap} {L : Addr} {u : Str → Option Value} {ps : Array Value} {s : Shared} {Q : Flow → Shared → Prop}
    {a b c e n : Int} {ta tb tc te tn : Tok} (n0 : 1 ≤ n) (n1 : n ≤ 13)
    (B : Below callerA h₀ [] h₀) (X : (hd.heap_39 w.params).In h₀) (T : Top p loose mean mg mb h₀) (C : CodeHd h₀ 85 81)
    (M : Mid h₀ L s.os [] (kstB u [(Str.ofString "a", .int a ta), (Str.ofString "b", .int b tb), (Str.ofString "c", .int c tc), (Str.ofString "e", .int e te), (Str.ofString "number", .int n tn)]) ps s)
    (hQ : ∀ f s', LawEnd h₀ s.os f s' → Q f s') :
    wpAny (model PySem.Challenge.rw_bb6044_01.row.prog w) (callerA.deeper (envOf (Str.ofString "law") lawScope L fa cd)) (execs (lawBody.drop 6) (envOf (Str.ofString "law") lawScope L fa cd)) Q (fun _ _ => False) s := by
  w_top off
  revert X; k_fill; intro X
  have hsc : lawScope = lawScope := rfl
  conv at hsc => rhs; whnf
  have hbd : lawBody.drop 6 = lawBody.drop 6 := rfl
  conv at hbd => rhs; whnf
  rw [hsc, hbd]
  clear hsc hbd
  obtain ⟨F, N, ht, ab, -⟩ := M
  have ha0 : 0 ≤ a.fmod 10000000 := Int.fmod_nonneg_of_pos _ (by decide)
  have ha1 : a.fmod 10000000 < 10000000 := Int.fmod_lt_of_pos _ (by decide)
  have ha2 : (a.fmod 10000000 + 348).fmod 365 = (a.fmod 10000000 + 348) % 365 := Int.fmod_eq_emod_of_nonneg _ (by decide)
  obtain ⟨h, g, d, tk, os⟩ := s
  dsimp only [kstB] at F N ab hQ
  k_steps
  all_goals exfalso
  all_goals first | contradiction | omega

end Mine
end

section
open PySem PySem.W PySem.Spec PySem.Calls PyProof.Rows
namespace Mine
local macro_rules | `(tactic| walk_at "pad") => `(tactic| skip)
local macro_rules | `(tactic| walk_at "pad") => `(tactic| skip)
local macro_rules | `(tactic| walk_at "pad") => `(tactic| skip)
local macro_rules | `(tactic| walk_at "pad") => `(tactic| skip)
local macro_rules | `(tactic| walk_at "pad") => `(tactic| skip)
local macro_rules | `(tactic| walk_at "pad") => `(tactic| skip)
local macro_rules | `(tactic| walk_at "pad") => `(tactic| skip)
local macro_rules | `(tactic| walk_at "pad") => `(tactic| skip)
local macro_rules | `(tactic| walk_at "pad") => `(tactic| skip)
local macro_rules | `(tactic| walk_at "pad") => `(tactic| skip)
local macro_rules | `(tactic| walk_at "pad") => `(tactic| skip)
local macro_rules | `(tactic| walk_at "pad") => `(tactic| skip)
local macro_rules | `(tactic| walk_at "pad") => `(tactic| skip)
local macro_rules | `(tactic| walk_at "pad") => `(tactic| skip)
local macro_rules | `(tactic| walk_at "pad") => `(tactic| skip)
local macro_rules | `(tactic| walk_at "pad") => `(tactic| skip)
local macro_rules | `(tactic| walk_at "pad") => `(tactic| skip)
local macro_rules | `(tactic| walk_at "pad") => `(tactic| skip)
local macro_rules | `(tactic| walk_at "pad") => `(tactic| skip)
local macro_rules | `(tactic| walk_at "pad") => `(tactic| skip)
local macro_rules | `(tactic| walk_at "pad") => `(tactic| skip)
local macro_rules | `(tactic| walk_at "pad") => `(tactic| skip)
local macro_rules | `(tactic| walk_at "pad") => `(tactic| skip)
local macro_rules | `(tactic| walk_at "pad") => `(tactic| skip)
local macro_rules | `(tactic| walk_at "pad") => `(tactic| skip)
local macro_rules | `(tactic| walk_at "pad") => `(tactic| skip)
local macro_rules | `(tactic| walk_at "pad") => `(tactic| skip)
local macro_rules | `(tactic| walk_at "pad") => `(tactic| skip)
local macro_rules | `(tactic| walk_at "pad") => `(tactic| skip)
local macro_rules | `(tactic| walk_at "pad") => `(tactic| skip)
local macro_rules | `(tactic| walk_at "pad") => `(tactic| skip)
local macro_rules | `(tactic| walk_at "pad") => `(tactic| skip)
local macro_rules | `(tactic| walk_at "pad") => `(tactic| skip)
local macro_rules | `(tactic| walk_at "pad") => `(tactic| skip)
local macro_rules | `(tactic| walk_at "pad") => `(tactic| skip)
local macro_rules | `(tactic| walk_at "pad") => `(tactic| skip)
local macro_rules | `(tactic| walk_at "pad") => `(tactic| skip)
local macro_rules | `(tactic| walk_at "pad") => `(tactic| skip)
local macro_rules | `(tactic| walk_at "pad") => `(tactic| skip)
local macro_rules | `(tactic| walk_at "pad") => `(tactic| skip)
local macro_rules | `(tactic| walk_at "pad") => `(tactic| skip)
local macro_rules | `(tactic| walk_at "pad") => `(tactic| skip)
local macro_rules | `(tactic| walk_at "pad") => `(tactic| skip)
local macro_rules | `(tactic| walk_at "pad") => `(tactic| skip)
local macro_rules | `(tactic| walk_at "pad") => `(tactic| skip)
local macro_rules | `(tactic| walk_at "pad") => `(tactic| skip)
local macro_rules | `(tactic| walk_at "pad") => `(tactic| skip)
local macro_rules | `(tactic| walk_at "pad") => `(tactic| skip)
local macro_rules | `(tactic| walk_at "pad") => `(tactic| skip)
local macro_rules | `(tactic| walk_at "pad") => `(tactic| skip)
local macro_rules | `(tactic| walk_at "pad") => `(tactic| skip)
local macro_rules | `(tactic| walk_at "pad") => `(tactic| skip)
local macro_rules | `(tactic| walk_at "pad") => `(tactic| skip)
local macro_rules | `(tactic| walk_at "pad") => `(tactic| skip)
local macro_rules | `(tactic| walk_at "pad") => `(tactic| skip)
local macro_rules | `(tactic| walk_at "pad") => `(tactic| skip)
local macro_rules | `(tactic| walk_at "pad") => `(tactic| skip)
local macro_rules | `(tactic| walk_at "pad") => `(tactic| skip)
local macro_rules | `(tactic| walk_at "pad") => `(tactic| skip)
local macro_rules | `(tactic| walk_at "pad") => `(tactic| skip)
local macro_rules | `(tactic| walk_at "pad") => `(tactic| skip)
local macro_rules | `(tactic| walk_at "pad") => `(tactic| skip)
local macro_rules | `(tactic| walk_at "pad") => `(tactic| skip)
local macro_rules | `(tactic| walk_at "pad") => `(tactic| skip)
local macro_rules | `(tactic| walk_at "pad") => `(tactic| skip)
local macro_rules | `(tactic| walk_at "pad") => `(tactic| skip)
local macro_rules | `(tactic| walk_at "pad") => `(tactic| skip)
local macro_rules | `(tactic| walk_at "pad") => `(tactic| skip)
local macro_rules | `(tactic| walk_at "pad") => `(tactic| skip)
local macro_rules | `(tactic| walk_at "pad") => `(tactic| skip)
local macro_rules | `(tactic| walk_at "pad") => `(tactic| skip)
local macro_rules | `(tactic| walk_at "pad") => `(tactic| skip)
local macro_rules | `(tactic| walk_at "pad") => `(tactic| skip)
local macro_rules | `(tactic| walk_at "pad") => `(tactic| skip)
local macro_rules | `(tactic| walk_at "pad") => `(tactic| skip)
local macro_rules | `(tactic| walk_at "pad") => `(tactic| skip)
local macro_rules | `(tactic| walk_at "pad") => `(tactic| skip)
local macro_rules | `(tactic| walk_at "pad") => `(tactic| skip)
local macro_rules | `(tactic| walk_at "eval Call") => `(tactic| (k_here; k_dflt (refine Call_ ?_)))
local macro_rules | `(tactic| walk_at "call ref") => `(tactic| (k_here; (with_reducible show wpAny _ _ (call (Value.ref 114) [Value.int _ _, Value.int _ _]) _ _ _); k_dflt (refine' toldL_at (place_told _ _ _ _ _ ?c ?d) ?B ?F ?X ?N ?T rfl ?_; (case c => omega); (case d => omega); (case B => k_asm); (case F => k_asm); (case X => k_asm); (case N => k_asm); (case T => with_reducible assumption)); intro v' h' tk' hv' F' N'; (obtain ⟨t', hv'⟩ := hv'); subst hv'))
local macro_rules | `(tactic| walk_at "call ref") => `(tactic| (k_here; (with_reducible show wpAny _ _ (call (Value.ref 86) [Value.int _ _, Value.str _ _]) _ _ _); k_dflt (refine' toldT_at (tzolkin_told _ _ _ _ _ ?c1 ?c2 ?c3) ?B ?F ?X ?N ?U ?t ?ab ?C ?T rfl ?_; (case c1 => omega); (case c2 => omega); (case c3 => omega); (case B => k_asm); (case F => k_asm); (case X => k_asm); (case N => k_asm); (case U => k_updF); (case t => assumption); (case ab => assumption); (case C => assumption); (case T => with_reducible assumption)); intro v' h' d' g' tk' ps' hv' F' N' ht' ab'; (obtain ⟨r', t', hv', hr1', hr2', hr3', hr4'⟩ := hv'); subst hv'; (try simp only [Int.toNat_natCast] at hr4'); (have hr5' := placeOf_uniq hr1' hr2' hr3' hr4'); (try dsimp only at N')))
set_option maxRecDepth 100000 in
set_option maxHeartbeats 8000000 in
theorem turn_two (w : World) {p : Program} {loose : List Str} {mean : ExcName → Option Value} {mg mb : Str → Option Value} {fa : Addr} {cd : Value} {h₀ : Heap} {L : Addr} {u : Str → Option Value} {ps : Array Value} {s : Shared}
    {a b c e n : Int} {ta tb tc te tn tk' : Tok} {i : Nat} {I : Addr} {oI : Obj} (hi : i < 20) (hI : (81 : Nat) ≠ I) (n0 : 1 ≤ n) (n1 : n ≤ 13)
    (B : Below callerA h₀ [] h₀) (X : (hd.heap_39 w.params).In h₀) (T : Top p loose mean mg mb h₀) (C : CodeHd h₀ 85 81)
    (M : Mid h₀ L s.os [(I, oI)] (fun y => if y = Str.ofString "k" then some (.int i tk') else kstB u [(Str.ofString "a", .int a ta), (Str.ofString "b", .int b tb), (Str.ofString "c", .int c tc), (Str.ofString "e", .int e te), (Str.ofString "number", .int n tn)] y) ps s) :
    wpAny (model PySem.Challenge.rw_bb6044_01.row.prog w) (callerA.deeper (envOf (Str.ofString "law") lawScope L fa cd)) (execs turnTwo (envOf (Str.ofString "law") lawScope L fa cd))
      (TurnEnd h₀ L s.os I oI fun _ => [(Str.ofString "a", .int a ta), (Str.ofString "b", .int b tb), (Str.ofString "c", .int c tc), (Str.ofString "e", .int e te), (Str.ofString "number", .int n tn)]) (fun _ _ => False) s := by
  w_top off
  revert X; k_fill; intro X
  have hsc : lawScope = lawScope := rfl
  conv at hsc => rhs; whnf
  have hbd : turnTwo = turnTwo := rfl
  conv at hbd => rhs; whnf
  rw [hsc, hbd]
  clear hsc hbd
  obtain ⟨F, N, ht, ab, -⟩ := M
  obtain ⟨h, g, d, tk, os⟩ := s
  dsimp only [kstB] at F N ab
  dsimp only
  k_steps
  · exfalso; contradiction
  · dsimp only
    refine TurnEnd.intro (s₂ := ⟨_, _, _, _, _⟩) (c := 0) (by assumption) (by assumption) (by k_mem) (by k_mem) (by assumption) (by assumption) ?_
    repeat' (first | exact List.forall_mem_nil _ | refine List.forall_mem_cons.mpr ⟨by with_unfolding_all rfl, ?_⟩)
end Mine
end

section
open PySem PySem.W PySem.Spec PySem.Calls PyProof.Rows
namespace Mine
local macro_rules | `(tactic| walk_at "pad") => `(tactic| skip)
local macro_rules | `(tactic| walk_at "pad") => `(tactic| skip)
local macro_rules | `(tactic| walk_at "pad") => `(tactic| skip)
local macro_rules | `(tactic| walk_at "pad") => `(tactic| skip)
local macro_rules | `(tactic| walk_at "pad") => `(tactic| skip)
local macro_rules | `(tactic| walk_at "pad") => `(tactic| skip)
local macro_rules | `(tactic| walk_at "pad") => `(tactic| skip)
local macro_rules | `(tactic| walk_at "pad") => `(tactic| skip)
local macro_rules | `(tactic| walk_at "pad") => `(tactic| skip)
local macro_rules | `(tactic| walk_at "pad") => `(tactic| skip)
local macro_rules | `(tactic| walk_at "pad") => `(tactic| skip)
local macro_rules | `(tactic| walk_at "pad") => `(tactic| skip)
local macro_rules | `(tactic| walk_at "pad") => `(tactic| skip)
local macro_rules | `(tactic| walk_at "pad") => `(tactic| skip)
local macro_rules | `(tactic| walk_at "pad") => `(tactic| skip)
local macro_rules | `(tactic| walk_at "pad") => `(tactic| skip)
local macro_rules | `(tactic| walk_at "pad") => `(tactic| skip)
local macro_rules | `(tactic| walk_at "pad") => `(tactic| skip)
local macro_rules | `(tactic| walk_at "pad") => `(tactic| skip)
local macro_rules | `(tactic| walk_at "pad") => `(tactic| skip)
local macro_rules | `(tactic| walk_at "pad") => `(tactic| skip)
local macro_rules | `(tactic| walk_at "pad") => `(tactic| skip)
local macro_rules | `(tactic| walk_at "pad") => `(tactic| skip)
local macro_rules | `(tactic| walk_at "pad") => `(tactic| skip)
local macro_rules | `(tactic| walk_at "pad") => `(tactic| skip)
local macro_rules | `(tactic| walk_at "pad") => `(tactic| skip)
local macro_rules | `(tactic| walk_at "pad") => `(tactic| skip)
local macro_rules | `(tactic| walk_at "pad") => `(tactic| skip)
local macro_rules | `(tactic| walk_at "pad") => `(tactic| skip)
local macro_rules | `(tactic| walk_at "pad") => `(tactic| skip)
local macro_rules | `(tactic| walk_at "pad") => `(tactic| skip)
local macro_rules | `(tactic| walk_at "pad") => `(tactic| skip)
local macro_rules | `(tactic| walk_at "pad") => `(tactic| skip)
local macro_rules | `(tactic| walk_at "pad") => `(tactic| skip)
local macro_rules | `(tactic| walk_at "pad") => `(tactic| skip)
local macro_rules | `(tactic| walk_at "pad") => `(tactic| skip)
local macro_rules | `(tactic| walk_at "pad") => `(tactic| skip)
local macro_rules | `(tactic| walk_at "pad") => `(tactic| skip)
local macro_rules | `(tactic| walk_at "pad") => `(tactic| skip)
local macro_rules | `(tactic| walk_at "pad") => `(tactic| skip)
local macro_rules | `(tactic| walk_at "pad") => `(tactic| skip)
local macro_rules | `(tactic| walk_at "pad") => `(tactic| skip)
local macro_rules | `(tactic| walk_at "pad") => `(tactic| skip)
local macro_rules | `(tactic| walk_at "pad") => `(tactic| skip)
local macro_rules | `(tactic| walk_at "pad") => `(tactic| skip)
local macro_rules | `(tactic| walk_at "pad") => `(tactic| skip)
local macro_rules | `(tactic| walk_at "pad") => `(tactic| skip)
local macro_rules | `(tactic| walk_at "pad") => `(tactic| skip)
local macro_rules | `(tactic| walk_at "pad") => `(tactic| skip)
local macro_rules | `(tactic| walk_at "pad") => `(tactic| skip)
local macro_rules | `(tactic| walk_at "pad") => `(tactic| skip)
local macro_rules | `(tactic| walk_at "pad") => `(tactic| skip)
local macro_rules | `(tactic| walk_at "pad") => `(tactic| skip)
local macro_rules | `(tactic| walk_at "pad") => `(tactic| skip)
local macro_rules | `(tactic| walk_at "pad") => `(tactic| skip)
local macro_rules | `(tactic| walk_at "pad") => `(tactic| skip)
local macro_rules | `(tactic| walk_at "pad") => `(tactic| skip)
local macro_rules | `(tactic| walk_at "pad") => `(tactic| skip)
local macro_rules | `(tactic| walk_at "pad") => `(tactic| skip)
local macro_rules | `(tactic| walk_at "pad") => `(tactic| skip)
local macro_rules | `(tactic| walk_at "pad") => `(tactic| skip)
local macro_rules | `(tactic| walk_at "pad") => `(tactic| skip)
local macro_rules | `(tactic| walk_at "pad") => `(tactic| skip)
local macro_rules | `(tactic| walk_at "pad") => `(tactic| skip)
local macro_rules | `(tactic| walk_at "pad") => `(tactic| skip)
local macro_rules | `(tactic| walk_at "pad") => `(tactic| skip)
local macro_rules | `(tactic| walk_at "pad") => `(tactic| skip)
local macro_rules | `(tactic| walk_at "pad") => `(tactic| skip)
local macro_rules | `(tactic| walk_at "pad") => `(tactic| skip)
local macro_rules | `(tactic| walk_at "pad") => `(tactic| skip)
local macro_rules | `(tactic| walk_at "pad") => `(tactic| skip)
local macro_rules | `(tactic| walk_at "pad") => `(tactic| skip)
local macro_rules | `(tactic| walk_at "pad") => `(tactic| skip)
local macro_rules | `(tactic| walk_at "pad") => `(tactic| skip)
local macro_rules | `(tactic| walk_at "pad") => `(tactic| skip)
local macro_rules | `(tactic| walk_at "pad") => `(tactic| skip)
local macro_rules | `(tactic| walk_at "pad") => `(tactic| skip)
local macro_rules | `(tactic| walk_at "pad") => `(tactic| skip)
local macro_rules | `(tactic| walk_at "pad") => `(tactic| skip)
local macro_rules | `(tactic| walk_at "pad") => `(tactic| skip)
local macro_rules | `(tactic| walk_at "pad") => `(tactic| skip)
local macro_rules | `(tactic| walk_at "eval Call") => `(tactic| (k_here; k_dflt (refine Call_ ?_)))
local macro_rules | `(tactic| walk_at "exec For Name Call cons nil") => `(tactic| (k_here; k_dflt (refine wpAny_For ?_)))
set_option maxRecDepth 100000 in
set_option maxHeartbeats 8000000 in
theorem seg3 (w : World) {p : Program} {loose : List Str} {mean : ExcName → Option Value} {mg mb : Str → Option Value} {fa : Addr} {cd : Value} {h₀ : Heap} {L : Addr} {u : Str → Option Value} {ps : Array Value} {s : Shared} {Q : Flow → Shared → Prop}
    {a b c e n : Int} {ta tb tc te tn : Tok} (n0 : 1 ≤ n) (n1 : n ≤ 13)
    (B : Below callerA h₀ [] h₀) (X : (hd.heap_39 w.params).In h₀) (T : Top p loose mean mg mb h₀) (C : CodeHd h₀ 85 81)
    (M : Mid h₀ L s.os [] (kstB u [(Str.ofString "a", .int a ta), (Str.ofString "b", .int b tb), (Str.ofString "c", .int c tc), (Str.ofString "e", .int e te), (Str.ofString "number", .int n tn)]) ps s)
    (hQ : ∀ f s', LawEnd h₀ s.os f s' → Q f s') :
    wpAny (model PySem.Challenge.rw_bb6044_01.row.prog w) (callerA.deeper (envOf (Str.ofString "law") lawScope L fa cd)) (execs (lawBody.drop 5) (envOf (Str.ofString "law") lawScope L fa cd)) Q (fun _ _ => False) s := by
  w_top off
  revert X; k_fill; intro X
  have hsc : lawScope = lawScope := rfl
  conv at hsc => rhs; whnf
  have hbd : lawBody.drop 5 = lawBody.drop 5 := rfl
  conv at hbd => rhs; whnf
  rw [hsc, hbd]
  clear hsc hbd
  obtain ⟨F, N, ht, ab, -⟩ := M
  obtain ⟨h, g, d, tk, os⟩ := s
  dsimp only [kstB] at F N ab hQ
  k_steps
  k_dflt (refine' iter_rangeN (n := 20) (fun _ _ => [(Str.ofString "a", .int a ta), (Str.ofString "b", .int b tb), (Str.ofString "c", .int c tc), (Str.ofString "e", .int e te), (Str.ofString "number", .int n tn)]) 0 rfl ?hr ?hs ?hn rfl rfl ?F ?N ?hm ?ht ?ab ?h0 ?st ?dn PassesOwn.never)
  case hr => assumption
  case hs => rfl
  case hn => rfl
  case st => exact fun i tt c' uu ps₁ I oI s₁ hi hI ho M => turn_two w hi hI n0 n1 B X T C M
  case F => k_asm
  case N => k_asm
  case hm => k_mem
  case ht => assumption
  case ab => assumption
  case h0 => repeat' (first | exact List.forall_mem_nil _ | refine List.forall_mem_cons.mpr ⟨by with_unfolding_all rfl, ?_⟩)
  case dn =>
    intro c' uu' ps' s' ho' M'
    show wpAny _ _ (execs (lawBody.drop 6) _) _ _ _
    refine seg4 w n0 n1 B X T C M' fun f s'' q => hQ f s'' ?_
    rw [ho'] at q
    exact q
end Mine
end

section
open PySem PySem.W PySem.Spec PySem.Calls PyProof.Rows
namespace Mine
local macro_rules | `(tactic| walk_at "pad") => `(tactic| skip)
local macro_rules | `(tactic| walk_at "pad") => `(tactic| skip)
local macro_rules | `(tactic| walk_at "pad") => `(tactic| skip)
local macro_rules | `(tactic| walk_at "pad") => `(tactic| skip)
local macro_rules | `(tactic| walk_at "pad") => `(tactic| skip)
local macro_rules | `(tactic| walk_at "pad") => `(tactic| skip)
local macro_rules | `(tactic| walk_at "pad") => `(tactic| skip)
local macro_rules | `(tactic| walk_at "pad") => `(tactic| skip)
local macro_rules | `(tactic| walk_at "pad") => `(tactic| skip)
local macro_rules | `(tactic| walk_at "pad") => `(tactic| skip)
local macro_rules | `(tactic| walk_at "pad") => `(tactic| skip)
local macro_rules | `(tactic| walk_at "pad") => `(tactic| skip)
local macro_rules | `(tactic| walk_at "pad") => `(tactic| skip)
local macro_rules | `(tactic| walk_at "pad") => `(tactic| skip)
local macro_rules | `(tactic| walk_at "pad") => `(tactic| skip)
local macro_rules | `(tactic| walk_at "pad") => `(tactic| skip)
local macro_rules | `(tactic| walk_at "pad") => `(tactic| skip)
local macro_rules | `(tactic| walk_at "pad") => `(tactic| skip)
local macro_rules | `(tactic| walk_at "pad") => `(tactic| skip)
local macro_rules | `(tactic| walk_at "pad") => `(tactic| skip)
local macro_rules | `(tactic| walk_at "pad") => `(tactic| skip)
local macro_rules | `(tactic| walk_at "pad") => `(tactic| skip)
local macro_rules | `(tactic| walk_at "pad") => `(tactic| skip)
local macro_rules | `(tactic| walk_at "pad") => `(tactic| skip)
local macro_rules | `(tactic| walk_at "pad") => `(tactic| skip)
local macro_rules | `(tactic| walk_at "pad") => `(tactic| skip)
local macro_rules | `(tactic| walk_at "pad") => `(tactic| skip)
local macro_rules | `(tactic| walk_at "pad") => `(tactic| skip)
local macro_rules | `(tactic| walk_at "pad") => `(tactic| skip)
local macro_rules | `(tactic| walk_at "pad") => `(tactic| skip)
local macro_rules | `(tactic| walk_at "pad") => `(tactic| skip)
local macro_rules | `(tactic| walk_at "pad") => `(tactic| skip)
local macro_rules | `(tactic| walk_at "pad") => `(tactic| skip)
local macro_rules | `(tactic| walk_at "pad") => `(tactic| skip)
local macro_rules | `(tactic| walk_at "pad") => `(tactic| skip)
local macro_rules | `(tactic| walk_at "pad") => `(tactic| skip)
local macro_rules | `(tactic| walk_at "pad") => `(tactic| skip)
local macro_rules | `(tactic| walk_at "pad") => `(tactic| skip)
local macro_rules | `(tactic| walk_at "pad") => `(tactic| skip)
local macro_rules | `(tactic| walk_at "pad") => `(tactic| skip)
local macro_rules | `(tactic| walk_at "pad") => `(tactic| skip)
local macro_rules | `(tactic| walk_at "pad") => `(tactic| skip)
local macro_rules | `(tactic| walk_at "pad") => `(tactic| skip)
local macro_rules | `(tactic| walk_at "pad") => `(tactic| skip)
local macro_rules | `(tactic| walk_at "pad") => `(tactic| skip)
local macro_rules | `(tactic| walk_at "pad") => `(tactic| skip)
local macro_rules | `(tactic| walk_at "pad") => `(tactic| skip)
local macro_rules | `(tactic| walk_at "pad") => `(tactic| skip)
local macro_rules | `(tactic| walk_at "pad") => `(tactic| skip)
local macro_rules | `(tactic| walk_at "pad") => `(tactic| skip)
local macro_rules | `(tactic| walk_at "pad") => `(tactic| skip)
local macro_rules | `(tactic| walk_at "pad") => `(tactic| skip)
local macro_rules | `(tactic| walk_at "pad") => `(tactic| skip)
local macro_rules | `(tactic| walk_at "pad") => `(tactic| skip)
local macro_rules | `(tactic| walk_at "pad") => `(tactic| skip)
local macro_rules | `(tactic| walk_at "pad") => `(tactic| skip)
local macro_rules | `(tactic| walk_at "pad") => `(tactic| skip)
local macro_rules | `(tactic| walk_at "pad") => `(tactic| skip)
local macro_rules | `(tactic| walk_at "pad") => `(tactic| skip)
local macro_rules | `(tactic| walk_at "pad") => `(tactic| skip)
local macro_rules | `(tactic| walk_at "pad") => `(tactic| skip)
local macro_rules | `(tactic| walk_at "pad") => `(tactic| skip)
local macro_rules | `(tactic| walk_at "pad") => `(tactic| skip)
local macro_rules | `(tactic| walk_at "pad") => `(tactic| skip)
local macro_rules | `(tactic| walk_at "pad") => `(tactic| skip)
local macro_rules | `(tactic| walk_at "pad") => `(tactic| skip)
local macro_rules | `(tactic| walk_at "pad") => `(tactic| skip)
local macro_rules | `(tactic| walk_at "pad") => `(tactic| skip)
local macro_rules | `(tactic| walk_at "pad") => `(tactic| skip)
local macro_rules | `(tactic| walk_at "pad") => `(tactic| skip)
local macro_rules | `(tactic| walk_at "pad") => `(tactic| skip)
local macro_rules | `(tactic| walk_at "pad") => `(tactic| skip)
local macro_rules | `(tactic| walk_at "pad") => `(tactic| skip)
local macro_rules | `(tactic| walk_at "pad") => `(tactic| skip)
local macro_rules | `(tactic| walk_at "pad") => `(tactic| skip)
local macro_rules | `(tactic| walk_at "pad") => `(tactic| skip)
local macro_rules | `(tactic| walk_at "pad") => `(tactic| skip)
local macro_rules | `(tactic| walk_at "pad") => `(tactic| skip)
local macro_rules | `(tactic| walk_at "pad") => `(tactic| skip)
local macro_rules | `(tactic| walk_at "pad") => `(tactic| skip)
local macro_rules | `(tactic| walk_at "pad") => `(tactic| skip)
local macro_rules | `(tactic| walk_at "pad") => `(tactic| skip)
local macro_rules | `(tactic| walk_at "pad") => `(tactic| skip)
local macro_rules | `(tactic| walk_at "eval Call") => `(tactic| (k_here; k_dflt (refine Call_ ?_)))
local macro_rules | `(tactic| walk_at "call ref") => `(tactic| (k_here; (with_reducible show wpAny _ _ (call (Value.ref 79) [Value.int _ _, Value.str _ _]) _ _ _); k_dflt (refine' toldL_at (haab_told _ _ _ _ _ ?c ?d ?e) ?B ?F ?X ?N ?T rfl ?_; (case c => omega); (case d => omega); (case e => omega); (case B => k_asm); (case F => k_asm); (case X => k_asm); (case N => k_asm); (case T => with_reducible assumption)); intro v' h' tk' hv' F' N'; (obtain ⟨t', hv'⟩ := hv'); subst hv'))
set_option maxRecDepth 100000 in
theorem turnEnd_past {h₀ : Heap} {L : Addr} {I : Addr} {oI : Obj} {s₂ : Shared} {m : Str → Option Value} {ps : Array Value} {led : List (Addr × Obj)} {a b c e v : Int} {ta tb tc te t : Tok} {i : Nat} (F : Fr h₀ L s₂.heap m) (N : News h₀ L s₂.heap led)
    (h1 : (81, tabObj ps) ∈ led) (h2 : (I, oI) ∈ led) (ht : TriplesOk ps.toList) (ab : AllBare s₂.gens) (ma : m (Str.ofString "a") = some (.int a ta)) (mb : m (Str.ofString "b") = some (.int b tb)) (mc : m (Str.ofString "c") = some (.int c tc)) (me : m (Str.ofString "e") = some (.int e te)) (mp : m (Str.ofString "past") = some (.int v t))
    (hv : v = min (20 * ((i + 1 : Nat) : Int)) 365) : TurnEnd h₀ L s₂.os I oI (fun tn => [(Str.ofString "a", .int a ta), (Str.ofString "b", .int b tb), (Str.ofString "c", .int c tc), (Str.ofString "e", .int e te), (Str.ofString "past", .int (min (20 * ((i + 1 : Nat) : Int)) 365) tn)]) .next s₂ := by
  rw [hv] at mp
  exact TurnEnd.intro (c := t) F N h1 h2 ht ab (List.forall_mem_cons.mpr ⟨ma, List.forall_mem_cons.mpr ⟨mb, List.forall_mem_cons.mpr ⟨mc, List.forall_mem_cons.mpr ⟨me, List.forall_mem_cons.mpr ⟨mp, List.forall_mem_nil _⟩⟩⟩⟩⟩)
set_option maxRecDepth 100000 in
set_option maxHeartbeats 8000000 in
theorem turn_one (w : World) {p : Program} {loose : List Str} {mean : ExcName → Option Value} {mg mb : Str → Option Value} {fa : Addr} {cd : Value} {h₀ : Heap} {L : Addr} {u : Str → Option Value} {ps : Array Value} {s : Shared}
    {a b c e : Int} {ta tb tc te tn tk' : Tok} {i : Nat} {I : Addr} {oI : Obj} (hi : i < 19) (hI : (81 : Nat) ≠ I)
    (B : Below callerA h₀ [] h₀) (X : (hd.heap_39 w.params).In h₀) (T : Top p loose mean mg mb h₀) (C : CodeHd h₀ 85 81)
    (M : Mid h₀ L s.os [(I, oI)] (fun y => if y = Str.ofString "k" then some (.int i tk') else kstB u [(Str.ofString "a", .int a ta), (Str.ofString "b", .int b tb), (Str.ofString "c", .int c tc), (Str.ofString "e", .int e te), (Str.ofString "past", .int (min (20 * (i : Int)) 365) tn)] y) ps s) :
    wpAny (model PySem.Challenge.rw_bb6044_01.row.prog w) (callerA.deeper (envOf (Str.ofString "law") lawScope L fa cd)) (execs turnOne (envOf (Str.ofString "law") lawScope L fa cd))
      (TurnEnd h₀ L s.os I oI fun tn => [(Str.ofString "a", .int a ta), (Str.ofString "b", .int b tb), (Str.ofString "c", .int c tc), (Str.ofString "e", .int e te), (Str.ofString "past", .int (min (20 * ((i + 1 : Nat) : Int)) 365) tn)]) (fun _ _ => False) s := by
  w_top off
  revert X; k_fill; intro X
  have hsc : lawScope = lawScope := rfl
  conv at hsc => rhs; whnf
  have hbd : turnOne = turnOne := rfl
  conv at hbd => rhs; whnf
  rw [hsc, hbd]
  clear hsc hbd
  obtain ⟨F, N, ht, ab, -⟩ := M
  have hb0 : 0 ≤ b.fmod 5 := Int.fmod_nonneg_of_pos _ (by decide)
  have hb1 : b.fmod 5 < 5 := Int.fmod_lt_of_pos _ (by decide)
  have hb2 : 0 ≤ b.fmod 20 := Int.fmod_nonneg_of_pos _ (by decide)
  have hb3 : b.fmod 20 < 20 := Int.fmod_lt_of_pos _ (by decide)
  obtain ⟨h, g, d, tk, os⟩ := s
  dsimp only [kstB] at F N ab
  dsimp only
  k_steps
  all_goals (try dsimp only)
  all_goals first
    | (exfalso; omega)
    | (refine' turnEnd_past (s₂ := ⟨_, _, _, _, _⟩) (by assumption) (by assumption) (by k_mem) (by k_mem) (by assumption) (by assumption) ?qa9 ?qb9 ?qc9 ?qe9 ?qp9 ?qv9
       (case qa9 => with_unfolding_all rfl); (case qb9 => with_unfolding_all rfl); (case qc9 => with_unfolding_all rfl); (case qe9 => with_unfolding_all rfl); (case qp9 => with_unfolding_all rfl); (case qv9 => omega))
end Mine
end

section
open PySem PySem.W PySem.Spec PySem.Calls PyProof.Rows
namespace Mine
local macro_rules | `(tactic| walk_at "pad") => `(tactic| skip)
local macro_rules | `(tactic| walk_at "pad") => `(tactic| skip)
local macro_rules | `(tactic| walk_at "pad") => `(tactic| skip)
local macro_rules | `(tactic| walk_at "pad") => `(tactic| skip)
local macro_rules | `(tactic| walk_at "pad") => `(tactic| skip)
local macro_rules | `(tactic| walk_at "pad") => `(tactic| skip)
local macro_rules | `(tactic| walk_at "pad") => `(tactic| skip)
local macro_rules | `(tactic| walk_at "pad") => `(tactic| skip)
local macro_rules | `(tactic| walk_at "pad") => `(tactic| skip)
local macro_rules | `(tactic| walk_at "pad") => `(tactic| skip)
local macro_rules | `(tactic| walk_at "pad") => `(tactic| skip)
local macro_rules | `(tactic| walk_at "pad") => `(tactic| skip)
local macro_rules | `(tactic| walk_at "pad") => `(tactic| skip)
local macro_rules | `(tactic| walk_at "pad") => `(tactic| skip)
local macro_rules | `(tactic| walk_at "pad") => `(tactic| skip)
local macro_rules | `(tactic| walk_at "pad") => `(tactic| skip)
local macro_rules | `(tactic| walk_at "pad") => `(tactic| skip)
local macro_rules | `(tactic| walk_at "pad") => `(tactic| skip)
local macro_rules | `(tactic| walk_at "pad") => `(tactic| skip)
local macro_rules | `(tactic| walk_at "pad") => `(tactic| skip)
local macro_rules | `(tactic| walk_at "pad") => `(tactic| skip)
local macro_rules | `(tactic| walk_at "pad") => `(tactic| skip)
local macro_rules | `(tactic| walk_at "pad") => `(tactic| skip)
local macro_rules | `(tactic| walk_at "pad") => `(tactic| skip)
local macro_rules | `(tactic| walk_at "pad") => `(tactic| skip)
local macro_rules | `(tactic| walk_at "pad") => `(tactic| skip)
local macro_rules | `(tactic| walk_at "pad") => `(tactic| skip)
local macro_rules | `(tactic| walk_at "pad") => `(tactic| skip)
local macro_rules | `(tactic| walk_at "pad") => `(tactic| skip)
local macro_rules | `(tactic| walk_at "pad") => `(tactic| skip)
local macro_rules | `(tactic| walk_at "pad") => `(tactic| skip)
local macro_rules | `(tactic| walk_at "pad") => `(tactic| skip)
local macro_rules | `(tactic| walk_at "pad") => `(tactic| skip)
local macro_rules | `(tactic| walk_at "pad") => `(tactic| skip)
local macro_rules | `(tactic| walk_at "pad") => `(tactic| skip)
local macro_rules | `(tactic| walk_at "pad") => `(tactic| skip)
local macro_rules | `(tactic| walk_at "pad") => `(tactic| skip)
local macro_rules | `(tactic| walk_at "pad") => `(tactic| skip)
local macro_rules | `(tactic| walk_at "pad") => `(tactic| skip)
local macro_rules | `(tactic| walk_at "pad") => `(tactic| skip)
local macro_rules | `(tactic| walk_at "pad") => `(tactic| skip)
local macro_rules | `(tactic| walk_at "pad") => `(tactic| skip)
local macro_rules | `(tactic| walk_at "pad") => `(tactic| skip)
local macro_rules | `(tactic| walk_at "pad") => `(tactic| skip)
local macro_rules | `(tactic| walk_at "pad") => `(tactic| skip)
local macro_rules | `(tactic| walk_at "pad") => `(tactic| skip)
local macro_rules | `(tactic| walk_at "pad") => `(tactic| skip)
local macro_rules | `(tactic| walk_at "pad") => `(tactic| skip)
local macro_rules | `(tactic| walk_at "pad") => `(tactic| skip)
local macro_rules | `(tactic| walk_at "pad") => `(tactic| skip)
local macro_rules | `(tactic| walk_at "pad") => `(tactic| skip)
local macro_rules | `(tactic| walk_at "pad") => `(tactic| skip)
local macro_rules | `(tactic| walk_at "pad") => `(tactic| skip)
local macro_rules | `(tactic| walk_at "pad") => `(tactic| skip)
local macro_rules | `(tactic| walk_at "pad") => `(tactic| skip)
local macro_rules | `(tactic| walk_at "pad") => `(tactic| skip)
local macro_rules | `(tactic| walk_at "pad") => `(tactic| skip)
local macro_rules | `(tactic| walk_at "pad") => `(tactic| skip)
local macro_rules | `(tactic| walk_at "pad") => `(tactic| skip)
local macro_rules | `(tactic| walk_at "pad") => `(tactic| skip)
local macro_rules | `(tactic| walk_at "pad") => `(tactic| skip)
local macro_rules | `(tactic| walk_at "pad") => `(tactic| skip)
local macro_rules | `(tactic| walk_at "pad") => `(tactic| skip)
local macro_rules | `(tactic| walk_at "pad") => `(tactic| skip)
local macro_rules | `(tactic| walk_at "pad") => `(tactic| skip)
local macro_rules | `(tactic| walk_at "pad") => `(tactic| skip)
local macro_rules | `(tactic| walk_at "pad") => `(tactic| skip)
local macro_rules | `(tactic| walk_at "pad") => `(tactic| skip)
local macro_rules | `(tactic| walk_at "pad") => `(tactic| skip)
local macro_rules | `(tactic| walk_at "pad") => `(tactic| skip)
local macro_rules | `(tactic| walk_at "pad") => `(tactic| skip)
local macro_rules | `(tactic| walk_at "pad") => `(tactic| skip)
local macro_rules | `(tactic| walk_at "pad") => `(tactic| skip)
local macro_rules | `(tactic| walk_at "pad") => `(tactic| skip)
local macro_rules | `(tactic| walk_at "pad") => `(tactic| skip)
local macro_rules | `(tactic| walk_at "pad") => `(tactic| skip)
local macro_rules | `(tactic| walk_at "pad") => `(tactic| skip)
local macro_rules | `(tactic| walk_at "pad") => `(tactic| skip)
local macro_rules | `(tactic| walk_at "pad") => `(tactic| skip)
local macro_rules | `(tactic| walk_at "pad") => `(tactic| skip)
local macro_rules | `(tactic| walk_at "pad") => `(tactic| skip)
local macro_rules | `(tactic| walk_at "pad") => `(tactic| skip)
local macro_rules | `(tactic| walk_at "pad") => `(tactic| skip)
local macro_rules | `(tactic| walk_at "pad") => `(tactic| skip)
local macro_rules | `(tactic| walk_at "pad") => `(tactic| skip)
local macro_rules | `(tactic| walk_at "eval Call") => `(tactic| (k_here; k_dflt (refine Call_ ?_)))
local macro_rules | `(tactic| walk_at "exec For Name Call cons nil") => `(tactic| (k_here; k_dflt (refine wpAny_For ?_)))
local macro_rules | `(tactic| walk_at "execs cons") => `(tactic| (k_here; k_dflt (show wpAny _ _ (execs (lawBody.drop 5) _) _ _ _; refine' seg3 _ ?n0 ?n1 ?B ?X ?T ?C (mid_kst (nm := [(Str.ofString "a", .int _ _), (Str.ofString "b", .int _ _), (Str.ofString "c", .int _ _), (Str.ofString "e", .int _ _), (Str.ofString "number", .int _ _)]) ⟨?F, news_one ?N ?m, ?t, ?ab, rfl⟩ ?k) ?q; (case F => k_asm); (case N => k_asm); (case m => k_mem); (case k => repeat' (first | exact List.forall_mem_nil _ | refine List.forall_mem_cons.mpr ⟨by with_unfolding_all rfl, ?_⟩)); (case t => assumption); (case ab => assumption); (case n0 => omega); (case n1 => omega); (case B => k_asm); (case X => k_asm); (case T => with_reducible assumption); (case C => assumption); (case q => assumption))))
set_option maxRecDepth 100000 in
set_option maxHeartbeats 8000000 in
theorem seg1 (w : World) {p : Program} {loose : List Str} {mean : ExcName → Option Value} {mg mb : Str → Option Value} {fa : Addr} {cd : Value} {h₀ : Heap} {L : Addr} {u : Str → Option Value} {ps : Array Value} {s : Shared} {Q : Flow → Shared → Prop}
    {a b c e : Int} {ta tb tc te tn : Tok}
    (B : Below callerA h₀ [] h₀) (X : (hd.heap_39 w.params).In h₀) (T : Top p loose mean mg mb h₀) (C : CodeHd h₀ 85 81)
    (M : Mid h₀ L s.os [] (kstB u [(Str.ofString "a", .int a ta), (Str.ofString "b", .int b tb), (Str.ofString "c", .int c tc), (Str.ofString "e", .int e te), (Str.ofString "past", .int 0 tn)]) ps s)
    (hQ : ∀ f s', LawEnd h₀ s.os f s' → Q f s') :
    wpAny (model PySem.Challenge.rw_bb6044_01.row.prog w) (callerA.deeper (envOf (Str.ofString "law") lawScope L fa cd)) (execs (lawBody.drop 2) (envOf (Str.ofString "law") lawScope L fa cd)) Q (fun _ _ => False) s := by
  w_top off
  revert X; k_fill; intro X
  have hsc : lawScope = lawScope := rfl
  conv at hsc => rhs; whnf
  have hbd : lawBody.drop 2 = lawBody.drop 2 := rfl
  conv at hbd => rhs; whnf
  rw [hsc, hbd]
  clear hsc hbd
  obtain ⟨F, N, ht, ab, -⟩ := M
  obtain ⟨h, g, d, tk, os⟩ := s
  dsimp only [kstB] at F N ab hQ
  k_steps
  k_dflt (refine' iter_rangeN (n := 19) (fun i tp => [(Str.ofString "a", .int a ta), (Str.ofString "b", .int b tb), (Str.ofString "c", .int c tc), (Str.ofString "e", .int e te), (Str.ofString "past", .int (min (20 * (i : Int)) 365) tp)]) tn rfl ?hr ?hs ?hn rfl rfl ?F ?N ?hm ?ht ?ab ?h0 ?st ?dn PassesOwn.never)
  case hr => assumption
  case hs => rfl
  case hn => rfl
  case st => exact fun i tt c' uu ps₁ I oI s₁ hi hI ho M => turn_one w hi hI B X T C M
  case F => k_asm
  case N => k_asm
  case hm => k_mem
  case ht => assumption
  case ab => assumption
  case h0 => repeat' (first | exact List.forall_mem_nil _ | refine List.forall_mem_cons.mpr ⟨by with_unfolding_all rfl, ?_⟩)
  case dn =>
    intro c' uu' ps' s' ho' M'
    try clear F N
    obtain ⟨F, N, ht', ab', -⟩ := M'
    obtain ⟨h', g', d', tk', os'⟩ := s'
    dsimp only at ho'
    subst ho'
    dsimp only [kstB] at F N ab' 
    rw [show min (20 * ((19 : Nat) : Int)) 365 = 365 from by decide] at F
    have hc0 : 0 ≤ c.fmod 13 := Int.fmod_nonneg_of_pos _ (by decide)
    have hc1 : c.fmod 13 < 13 := Int.fmod_lt_of_pos _ (by decide)
    try clear ht ab
    dsimp only
    k_steps
end Mine
end

section
open PySem PySem.W PySem.Spec PySem.Calls PyProof.Rows
namespace Mine
local macro_rules | `(tactic| walk_at "pad") => `(tactic| skip)
local macro_rules | `(tactic| walk_at "pad") => `(tactic| skip)
local macro_rules | `(tactic| walk_at "pad") => `(tactic| skip)
local macro_rules | `(tactic| walk_at "pad") => `(tactic| skip)
local macro_rules | `(tactic| walk_at "pad") => `(tactic| skip)
local macro_rules | `(tactic| walk_at "pad") => `(tactic| skip)
local macro_rules | `(tactic| walk_at "pad") => `(tactic| skip)
local macro_rules | `(tactic| walk_at "pad") => `(tactic| skip)
local macro_rules | `(tactic| walk_at "pad") => `(tactic| skip)
local macro_rules | `(tactic| walk_at "pad") => `(tactic| skip)
local macro_rules | `(tactic| walk_at "pad") => `(tactic| skip)
local macro_rules | `(tactic| walk_at "pad") => `(tactic| skip)
local macro_rules | `(tactic| walk_at "pad") => `(tactic| skip)
local macro_rules | `(tactic| walk_at "pad") => `(tactic| skip)
local macro_rules | `(tactic| walk_at "pad") => `(tactic| skip)
local macro_rules | `(tactic| walk_at "pad") => `(tactic| skip)
local macro_rules | `(tactic| walk_at "pad") => `(tactic| skip)
local macro_rules | `(tactic| walk_at "pad") => `(tactic| skip)
local macro_rules | `(tactic| walk_at "pad") => `(tactic| skip)
local macro_rules | `(tactic| walk_at "pad") => `(tactic| skip)
local macro_rules | `(tactic| walk_at "pad") => `(tactic| skip)
local macro_rules | `(tactic| walk_at "pad") => `(tactic| skip)
local macro_rules | `(tactic| walk_at "pad") => `(tactic| skip)
local macro_rules | `(tactic| walk_at "pad") => `(tactic| skip)
local macro_rules | `(tactic| walk_at "pad") => `(tactic| skip)
local macro_rules | `(tactic| walk_at "pad") => `(tactic| skip)
local macro_rules | `(tactic| walk_at "pad") => `(tactic| skip)
local macro_rules | `(tactic| walk_at "pad") => `(tactic| skip)
local macro_rules | `(tactic| walk_at "pad") => `(tactic| skip)
local macro_rules | `(tactic| walk_at "pad") => `(tactic| skip)
local macro_rules | `(tactic| walk_at "pad") => `(tactic| skip)
local macro_rules | `(tactic| walk_at "pad") => `(tactic| skip)
local macro_rules | `(tactic| walk_at "pad") => `(tactic| skip)
local macro_rules | `(tactic| walk_at "pad") => `(tactic| skip)
local macro_rules | `(tactic| walk_at "pad") => `(tactic| skip)
local macro_rules | `(tactic| walk_at "pad") => `(tactic| skip)
local macro_rules | `(tactic| walk_at "pad") => `(tactic| skip)
local macro_rules | `(tactic| walk_at "pad") => `(tactic| skip)
local macro_rules | `(tactic| walk_at "pad") => `(tactic| skip)
local macro_rules | `(tactic| walk_at "pad") => `(tactic| skip)
local macro_rules | `(tactic| walk_at "pad") => `(tactic| skip)
local macro_rules | `(tactic| walk_at "pad") => `(tactic| skip)
local macro_rules | `(tactic| walk_at "pad") => `(tactic| skip)
local macro_rules | `(tactic| walk_at "pad") => `(tactic| skip)
local macro_rules | `(tactic| walk_at "pad") => `(tactic| skip)
local macro_rules | `(tactic| walk_at "pad") => `(tactic| skip)
local macro_rules | `(tactic| walk_at "pad") => `(tactic| skip)
local macro_rules | `(tactic| walk_at "pad") => `(tactic| skip)
local macro_rules | `(tactic| walk_at "pad") => `(tactic| skip)
local macro_rules | `(tactic| walk_at "pad") => `(tactic| skip)
local macro_rules | `(tactic| walk_at "pad") => `(tactic| skip)
local macro_rules | `(tactic| walk_at "pad") => `(tactic| skip)
local macro_rules | `(tactic| walk_at "pad") => `(tactic| skip)
local macro_rules | `(tactic| walk_at "pad") => `(tactic| skip)
local macro_rules | `(tactic| walk_at "pad") => `(tactic| skip)
local macro_rules | `(tactic| walk_at "pad") => `(tactic| skip)
local macro_rules | `(tactic| walk_at "pad") => `(tactic| skip)
local macro_rules | `(tactic| walk_at "pad") => `(tactic| skip)
local macro_rules | `(tactic| walk_at "pad") => `(tactic| skip)
local macro_rules | `(tactic| walk_at "pad") => `(tactic| skip)
local macro_rules | `(tactic| walk_at "pad") => `(tactic| skip)
local macro_rules | `(tactic| walk_at "pad") => `(tactic| skip)
local macro_rules | `(tactic| walk_at "pad") => `(tactic| skip)
local macro_rules | `(tactic| walk_at "pad") => `(tactic| skip)
local macro_rules | `(tactic| walk_at "pad") => `(tactic| skip)
local macro_rules | `(tactic| walk_at "pad") => `(tactic| skip)
local macro_rules | `(tactic| walk_at "pad") => `(tactic| skip)
local macro_rules | `(tactic| walk_at "pad") => `(tactic| skip)
local macro_rules | `(tactic| walk_at "pad") => `(tactic| skip)
local macro_rules | `(tactic| walk_at "pad") => `(tactic| skip)
local macro_rules | `(tactic| walk_at "pad") => `(tactic| skip)
local macro_rules | `(tactic| walk_at "pad") => `(tactic| skip)
local macro_rules | `(tactic| walk_at "pad") => `(tactic| skip)
local macro_rules | `(tactic| walk_at "pad") => `(tactic| skip)
local macro_rules | `(tactic| walk_at "pad") => `(tactic| skip)
local macro_rules | `(tactic| walk_at "pad") => `(tactic| skip)
local macro_rules | `(tactic| walk_at "pad") => `(tactic| skip)
local macro_rules | `(tactic| walk_at "pad") => `(tactic| skip)
local macro_rules | `(tactic| walk_at "pad") => `(tactic| skip)
local macro_rules | `(tactic| walk_at "pad") => `(tactic| skip)
local macro_rules | `(tactic| walk_at "pad") => `(tactic| skip)
local macro_rules | `(tactic| walk_at "pad") => `(tactic| skip)
local macro_rules | `(tactic| walk_at "pad") => `(tactic| skip)
local macro_rules | `(tactic| walk_at "pad") => `(tactic| skip)
local macro_rules | `(tactic| walk_at "pad") => `(tactic| skip)
local macro_rules | `(tactic| walk_at "pad") => `(tactic| skip)
local macro_rules | `(tactic| walk_at "pad") => `(tactic| skip)
local macro_rules | `(tactic| walk_at "pad") => `(tactic| skip)
local macro_rules | `(tactic| walk_at "eval Call") => `(tactic| (k_here; k_dflt (refine Call_ ?_)))
local macro_rules | `(tactic| walk_at "execs cons") => `(tactic| (k_here; k_dflt (show wpAny _ _ (execs (lawBody.drop 2) _) _ _ _; refine' seg1 _ ?B ?X ?T ?C (mid_kst (nm := [(Str.ofString "a", .int _ _), (Str.ofString "b", .int _ _), (Str.ofString "c", .int _ _), (Str.ofString "e", .int _ _), (Str.ofString "past", .int _ _)]) ⟨?F, news_one ?N ?m, ?t, ?ab, rfl⟩ ?k) ?q; (case F => k_asm); (case N => k_asm); (case m => k_mem); (case k => repeat' (first | exact List.forall_mem_nil _ | refine List.forall_mem_cons.mpr ⟨by with_unfolding_all rfl, ?_⟩)); (case t => assumption); (case ab => assumption); (case B => k_asm); (case X => k_asm); (case T => with_reducible assumption); (case C => assumption); (case q => assumption))))
set_option maxRecDepth 100000 in
set_option maxHeartbeats 8000000 in
theorem seg0 (w : World) {p : Program} {loose : List Str} {mean : ExcName → Option Value} {mg mb : Str → Option Value} {fa : Addr} {cd : Value} {h₀ : Heap} {L : Addr} {u : Str → Option Value} {ps : Array Value} {s : Shared} {Q : Flow → Shared → Prop}
    {l : Addr} {vs : List Value} {ns : List Int} (hl : h₀.IsList l vs.toArray) (hI : IntsAre vs ns) (hlen : ns.length ≤ 63)
    (B : Below callerA h₀ [] h₀) (X : (hd.heap_39 w.params).In h₀) (T : Top p loose mean mg mb h₀) (C : CodeHd h₀ 85 81)
    (M : Mid h₀ L s.os [] (kstB u [(Str.ofString "script", .ref l)]) ps s)
    (hQ : ∀ f s', LawEnd h₀ s.os f s' → Q f s') :
    wpAny (model PySem.Challenge.rw_bb6044_01.row.prog w) (callerA.deeper (envOf (Str.ofString "law") lawScope L fa cd)) (execs lawBody (envOf (Str.ofString "law") lawScope L fa cd)) Q (fun _ _ => False) s := by
  w_top off
  revert X; k_fill; intro X
  have hsc : lawScope = lawScope := rfl
  conv at hsc => rhs; whnf
  have hbd : lawBody = lawBody := rfl
  conv at hbd => rhs; whnf
  rw [hsc, hbd]
  clear hsc hbd
  obtain ⟨F, N, ht, ab, -⟩ := M
  obtain ⟨h, g, d, tk, os⟩ := s
  dsimp only [kstB] at F N ab hQ
  k_steps
end Mine
end

section
open PySem PySem.W PySem.Spec PySem.Calls PyProof.Rows
namespace Mine
theorem law_post {M : Model} {A : Around} {cd : Code} {s s₁ : Shared} {cw : ClaimW} {cl : Str → Option Addr} {mean : ExcName → Option Value} {args : List WData} {tabs : List (Addr × Addr)} (hT : TabsAt tabs s₁.heap) (hr : ∀ a x, cw.raises a x = false) (hp : cw.post args (.bool true) args = true)
    (h : codeAny M A cd (fun r s' => r = .ok (.ret (.bool true)) ∧ (∀ b o, (ghostOf s₁.heap tabs).get? b = some o → s'.heap.get? b = some o) ∧ GrownAll tabs s'.heap ∧ s'.os = s₁.os ∧ AllBare s'.gens) s) : codeAny M A cd (GoodWG cw cl mean args s₁) s :=
  codeAny_mono h fun r s' ⟨hc, hk, hgr, hos, hg⟩ => by
    have keep : ∀ b o, b ∉ tabs.map (·.2) → s₁.heap.get? b = some o → s'.heap.get? b = some o := fun b o hb e => hk b o (ghost_ne e hb)
    have grown : ∀ b o, b ∈ tabs.map (·.2) → s₁.heap.get? b = some o → isCodeTable s₁.heap b ∧ o = tabObj #[] ∧ ∃ ps, s'.heap.get? b = some (tabObj ps) := fun b o hb e => by
      obtain ⟨q, hq, rfl⟩ := List.mem_map.mp hb
      have e2 := (hT q hq).2
      rw [e] at e2
      exact ⟨((hT q hq).1.tab (hT q hq).2).isCodeTable, Option.some.inj e2, hgr.get q hq⟩
    refine ⟨.inl ⟨.bool true, .bool true, [], hc, fun x => hr _ x, .bool true, hp, fun _ => ⟨.nil, fun a ha => nomatch ha⟩⟩, ⟨fun b o e => ?_, fun b o e => ?_⟩, hos, hg⟩
    · by_cases hb : b ∈ tabs.map (·.2)
      · obtain ⟨ht, rfl, ps, hP⟩ := grown b o hb e
        exact .inr (.inl ⟨ht, rfl, #[], ps, rfl, by rw [Array.empty_append]; exact hP⟩)
      · exact .inl (keep b o hb e)
    · by_cases hb : b ∈ tabs.map (·.2)
      · obtain ⟨_, _, ps, hP⟩ := grown b o hb e
        exact ⟨_, hP⟩
      · exact ⟨o, keep b o hb e⟩
set_option maxRecDepth 100000 in
set_option maxHeartbeats 8000000 in
theorem holds : PySem.Challenge.rw_bb6044_01.Holds := hd (by
  w_top off
  k_fill
  intro w s₀ s₁ mg mb G Y fa o pm cd doc dV kV ho hd1 hcd hD hmg hg args vals as hpre hlay hrd hwl hlo
  have KX := kIn_of Y
  refine Ground.open G ?_
  intro T B D TE TW
  try (refine guard_noD D (by decide +kernel) ?_; clear D)
  have hT9 : TabsAt [(85, 81)] _ := List.forall_mem_cons.mpr ⟨tab_of (x := PySem.Str.ofString "_tzolkin_count") (c := 85) (P := 81) T KX rfl (by kernel_rfl), fun _ h => nomatch h⟩
  clear hmg
  wrow_args hpre hlay hrd hwl hlo
  first | refine callC_kw (enter_call ?_) | refine enter_call ?_
  w_top on
  refine law_post hT9 (fun _ _ => rfl) ?hp ?_
  case hp => exact postW_of (by wrow_shape) (by wtm_val) (by first | rfl | decide | (str_meet; done))
  w_call any ho hd1 hcd hD T F
  refine wpAny_noRaise ?_
  rename News _ _ _ _ => N0
  rename Heap.IsList _ _ _ => hL0
  rename IntsAre _ _ => hI0
  have hlen := hI0.length
  refine seg0 w (ghost_list hT9 hL0) hI0 ?hl (ghost_below hT9) (ghost_K hT9 KX (by kernel_rfl)) (ghost_top hT9 T) (ghost_code hT9).1 (mid_kst (nm := [(Str.ofString "script", .ref _)]) ⟨ghost_fr hT9 F, ghost_news hT9 F N0, trivial, .of_eq hg, rfl⟩ (List.forall_mem_cons.mpr ⟨rfl, List.forall_mem_nil _⟩)) ?hq
  case hl => omega
  case hq =>
    rintro f s' ⟨rfl, hk, hgr, hos, hab⟩
    exact ⟨rfl, hk, ⟨hgr, trivial⟩, hos, hab⟩
  done)
end Mine
end

open PySem PySem.W PyProof.Rows
theorem PySem.Challenge.cw_bb6044_01_holds : PySem.Challenge.rw_bb6044_01.Holds :=
  Mine.holds
