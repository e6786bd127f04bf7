import PyProof.Rows.All
import Wide.All
import OpenK.AllK
import Wide.FinOn
import PySem.Challenge.RW_ik0056_01
set_option Elab.async false
set_option maxRecDepth 100000
set_option maxHeartbeats 8000000
set_option linter.all false
set_option linter.unusedVariables false
set_option linter.unusedSimpArgs false
section
open PySem PySem.W PyProof.Rows
namespace Mine
section
theorem trick {T H : Prop} (hl : T) (main : H) : H := main
local macro_rules | `(tactic| o_law) => `(tactic| (case' hw => skip))
local macro_rules | `(tactic| k_head) => `(tactic| (case' hw => skip))
local macro_rules | `(tactic| w_on) => `(tactic| ((apply trick); (case' main => (w_top on; o_law; k_head)); (case hl => (intro w9; kernel_rfl))))
open_top hd for PySem.Challenge.rw_ik0056_01
end
theorem walk_off : True := by
  w_top off
  exact True.intro
end Mine
end
section
open PySem PySem.W PyProof.Rows PySem.Spec PySem.Calls
namespace Mine
theorem room_ok {a b c k d : Nat} (h : a + b < c) (e : Nat.ble (k + d) b = true) : a + k + d < c := by
  have := Nat.le_of_ble_eq_true e
  omega
theorem room_ok0 {a b c d : Nat} (h : a + b < c) (e : Nat.ble d b = true) : a + d < c := by
  have := Nat.le_of_ble_eq_true e
  omega
abbrev P := PySem.Challenge.rw_ik0056_01.row.prog

noncomputable abbrev lo : List Str := (looseW hd.view_39 [Str.ofString "b2a_base64", Str.ofString "b64encode"] ++
        List.map (fun x => x.name) (recsOf hd.view_39) ++
      List.map (fun x => x.fst) (litsOf hd.view_39) ++
    List.map (fun x => x.name)
      (clssOf hd.view_39 (looseW hd.view_39 [Str.ofString "b2a_base64", Str.ofString "b64encode"])))
abbrev Kept (h h' : Heap) : Prop := ∀ b o, h.get? b = some o → h'.get? b = some o
/-- what stands in every heap: the text's own objects, the top's facts -/
structure Wd (w : World) (mean : ExcName → Option Value) (mg mb : Str → Option Value) (h : Heap) : Prop where
  K : (hd.heap_39 w.params).In h
  T : Top topProg lo mean mg mb h
theorem Wd.keeps {w : World} {mean : ExcName → Option Value} {mg mb : Str → Option Value} {h h' : Heap} (W : Wd w mean mg mb h) (k : Kept h h') : Wd w mean mg mb h' := ⟨W.K.keeps k, W.T.keeps k⟩
abbrev arnd (dp : Nat) (outer : List Env) (gd : Option (List Code)) (un : Nat) : Around := { handled := none, depth := dp, frames := some outer, guards := gd, units := un }
/-- a contract: in every heap where the world stands and Pre holds, the call ends with a value of which Post holds; what lay in the heap lies there still -/
def Spec (w : World) (f : Addr) (vs : List Value) (Pre : Heap → Prop) (Post : Heap → Heap → Value → Prop) (d u : Nat) : Prop :=
  ∀ (mean : ExcName → Option Value) (mg mb : Str → Option Value) (dp un : Nat) (gd : Option (List Code)) (outer : List Env) (base : Heap) (s : Shared) (Q E : Value → Shared → Prop),
    Below (arnd dp outer gd un) base outer s.heap → Wd w mean mg mb s.heap → Pre s.heap → dp + d < recursionLimit → un + u < cLine →
    (∀ r h' tk', Kept s.heap h' → Post s.heap h' r → Q r { s with heap := h', toks := tk' }) →
    wpAny (model P w) (arnd dp outer gd un) (call (.ref f) vs) Q E s

theorem spec_enter {w : World} {f : Addr} {vs : List Value} {Pre : Heap → Prop} {Post : Heap → Heap → Value → Prop} {d u : Nat} {oc : Value} {od : Option Addr} {name qual : Str} {params : Arguments} {body : List Stmt} {scope : Scope} {dV kV doc pm cdv ct : Value} {an : Option Addr} {osl : Array (Option Value)} {binds : List (Str × Value)}
    (ho : (hd.heap_39 w.params).lookup f = some ⟨oc, od, .func (fnOf name qual params body scope dV kV doc pm an cdv ct), osl⟩) (hcd : codeIn (hd.heap_39 w.params) cdv qual = true) (hd1 : 1 ≤ d)
    (hbind : ∀ s : Shared, (hd.heap_39 w.params).In s.heap → BindsTo s (fnOf name qual params body scope dV kV doc pm an cdv ct) ⟨vs, []⟩ binds) (hloc : ∀ y ∈ binds, scope.names.lookup y.1 = some .local)
    (hcell : ∀ x ∈ scope.names, x.2 ≠ .cell) (hco : scope.isCoroutine = false) (hgen : scope.isGenerator = false) (hk : scope.kind = .function)
    (h : ∀ (mean : ExcName → Option Value) (mg mb : Str → Option Value) (dp un : Nat) (gd : Option (List Code)) (outer : List Env) (base g : Heap) (s : Shared) (h₁ : Heap) (L : Addr) (tk : Nat) (Q E : Value → Shared → Prop),
      g = s.heap → Below (arnd dp outer gd un) base outer g → (hd.heap_39 w.params).In g → Top topProg lo mean mg mb g → Pre g → dp + d < recursionLimit → un + u < cLine →
      Fr g L h₁ (fun y => binds.reverse.lookup y) → News g L h₁ [] →
      (∀ r h' tk', Kept g h' → Post g h' r → Q r { s with heap := h', toks := tk' }) →
      wpAny (model P w) ((arnd dp outer gd un).deeper (envOf qual scope L f cdv)) (execs body (envOf qual scope L f cdv))
        (fun fl s' => Q (match fl with | .ret v => v | _ => .none) s') (fun e s' => wpAny (model P w) ((arnd dp outer gd un).deeper (envOf qual scope L f cdv)) (leaving (envOf qual scope L f cdv) e) (fun _ s'' => E e s'') (fun e' s'' => E e' s'') s')
        { s with heap := h₁, toks := tk }) : Spec w f vs Pre Post d u := by
  intro mean mg mb dp un gd outer base s Q E B W hp hdp hun hret
  refine wpAny_call ?_
  refine codeAny_call_def (fd := fnX name qual params body scope [] dV kV doc pm an cdv ct) (body := body) (binds := binds) (by show dp < _; omega) (W.K _ _ ho) rfl W.T.nolimit (codeRec_of W.K hcd) rfl (hbind s W.K) hcell hloc (fun h₁ hns hk₁ => ?_) hco hgen hk
  exact h mean mg mb dp un gd outer base s.heap s h₁ s.heap.objs.size _ Q E rfl B W.K W.T hp hdp hun ⟨hns, hk₁, Nat.le_refl _⟩ News.nil hret

theorem spec_enterC {w : World} {f : Addr} {vs : List Value} {Pre : Heap → Prop} {Post : Heap → Heap → Value → Prop} {d u : Nat} {oc : Value} {od : Option Addr} {name qual : Str} {params : Arguments} {body : List Stmt} {scope : Scope} {dV kV doc pm cdv ct : Value} {an : Option Addr} {osl : Array (Option Value)} {binds : List (Str × Value)}
    (ho : (hd.heap_39 w.params).lookup f = some ⟨oc, od, .func (fnOf name qual params body scope dV kV doc pm an cdv ct), osl⟩) (hcd : codeIn (hd.heap_39 w.params) cdv qual = true) (hd1 : 1 ≤ d)
    (hbind : ∀ s : Shared, (hd.heap_39 w.params).In s.heap → BindsTo s (fnOf name qual params body scope dV kV doc pm an cdv ct) ⟨vs, []⟩ binds)
    (hkind : (binds.all fun y => scope.names.lookup y.1 == some .local || scope.names.lookup y.1 == some .cell) = true)
    (hnd : ((cellsFrom 0 scope.names []).map (·.1)).Nodup)
    (hco : scope.isCoroutine = false) (hgen : scope.isGenerator = false) (hk : scope.kind = .function)
    (h : ∀ (mean : ExcName → Option Value) (mg mb : Str → Option Value) (dp un : Nat) (gd : Option (List Code)) (outer : List Env) (base g : Heap) (s : Shared) (h₁ : Heap) (L : Addr) (tk : Nat) (cells : List (Addr × Obj)) (Q E : Value → Shared → Prop),
      g = s.heap → Below (arnd dp outer gd un) base outer g → (hd.heap_39 w.params).In g → Top topProg lo mean mg mb g → Pre g → dp + d < recursionLimit → un + u < cLine →
      Fr g L h₁ (bindL (envOfC qual scope L f cdv).kindOf binds fun _ => none) → News g L h₁ cells →
      CellsAre (bindC (envOfC qual scope L f cdv).kindOf binds fun _ => none) (cellsFrom (L + 1) scope.names []) cells →
      (∀ r h' tk', Kept g h' → Post g h' r → Q r { s with heap := h', toks := tk' }) →
      wpAny (model P w) ((arnd dp outer gd un).deeper (envOfC qual scope L f cdv)) (execs body (envOfC qual scope L f cdv))
        (fun fl s' => Q (match fl with | .ret v => v | _ => .none) s') (fun e s' => wpAny (model P w) ((arnd dp outer gd un).deeper (envOfC qual scope L f cdv)) (leaving (envOfC qual scope L f cdv) e) (fun _ s'' => E e s'') (fun e' s'' => E e' s'') s')
        { s with heap := h₁, toks := tk }) : Spec w f vs Pre Post d u := by
  intro mean mg mb dp un gd outer base s Q E B W hp hdp hun hret
  refine wpAny_call ?_
  refine codeAny_call_function (fd := fnX name qual params body scope [] dV kV doc pm an cdv ct) (body := body) (by show dp < _; omega) (W.K _ _ ho) rfl hco hgen rfl (codeRec_of W.K hcd) (hbind s W.K _ _ _ _ ?_)
  refine wpAny_newFunctionEnv_cells hk (kindsX hkind _) fun env' he s' x => ?_
  subst he
  refine ⟨W.T.nolimit.keeps x.toInCall.keep, codeAny_func ?_⟩
  obtain ⟨h₁, tk, rfl, _⟩ := x.done
  have hk₁ := x.toInCall.keep
  obtain ⟨cells, NC, Y⟩ := Cl.news (h₀ := s.heap) (Nat.le_refl _) fun n c hm => ⟨x.cell n c (lookup_of_mem_nodup (cellsFrom_names scope.names 0 (s.heap.objs.size + 1) [] [] rfl ▸ hnd) hm), x.above n c hm⟩
  exact h mean mg mb dp un gd outer base s.heap s h₁ s.heap.objs.size tk cells Q E rfl B W.K W.T hp hdp hun ⟨x.toInCall.ns, hk₁, Nat.le_refl _⟩ NC Y hret

theorem alloc_of_peek1 {α : Type} {K : Frag} {M : Model} {A : Around} {E : Value → Shared → Prop} {Q : α → Shared → Prop} {s : Shared} {o : Obj} {r : Addr → α} (X : K.In s.heap)
    (q : Q (r s.heap.objs.size) { s with heap := s.heap.push o }) :
    ∀ (t : Sem α) (g : Addr → Option α), peek1 K ⟨M.prog, M.w.params⟩ t = some (o, g) → (∀ D, g D = some (r D)) → wpAny M A t Q E s := by
  intro t
  induction t with
  | rule _ k ih => intro g e hg Γ p hΓ; exact ih () g e hg Γ p hΓ
  | point _ k ih => intro g e hg Γ p hΓ; exact ih () g e hg Γ p hΓ
  | ask k ih => intro g e hg Γ p hΓ; exact ih _ g e hg Γ p hΓ
  | load a _ k ih =>
    intro g e hg Γ p hΓ
    simp only [peek1] at e
    split at e
    · rename_i ob ho; exact ⟨ob, X _ _ ho, ih ob g e hg Γ p hΓ⟩
    · cases e
  | alloc ob k _ =>
    intro g e hg
    have e : some (ob, fun D => peek K ⟨M.prog, M.w.params⟩ (k D)) = some (o, g) := e
    obtain ⟨e1, e2⟩ := Prod.mk.inj (Option.some.inj e)
    subst e1
    subst e2
    have X' : K.In (s.heap.push ob) := X.keeps fun b x hb => Heap.get?_push_of_some _ hb
    show wpAny M A (alloc ob >>= k) Q E s
    refine wpAny_bind (wpAny_alloc ?_)
    exact (Looks.of_peek (M := M) (h := s.heap.push ob) X' (hg s.heap.objs.size)).here (s := { s with heap := s.heap.push ob }) q
  | _ => intro g e; cases e
/-- as spec_enter, of a def with *rest -/
theorem spec_enterR {w : World} {f : Addr} {vs rs : List Value} {Pre : Heap → Prop} {Post : Heap → Heap → Value → Prop} {d u : Nat} {oc : Value} {od : Option Addr} {name qual : Str} {params : Arguments} {body : List Stmt} {scope : Scope} {dV kV doc pm cdv ct : Value} {an : Option Addr} {osl : Array (Option Value)} {binds : Addr → List (Str × Value)} {g₁ : Addr → Option (List (Str × Value))}
    (ho : (hd.heap_39 w.params).lookup f = some ⟨oc, od, .func (fnOf name qual params body scope dV kV doc pm an cdv ct), osl⟩) (hcd : codeIn (hd.heap_39 w.params) cdv qual = true) (hd1 : 1 ≤ d)
    (hp1 : peek1 (hd.heap_39 w.params) ⟨P, w.params⟩ (bindArgs (fnOf name qual params body scope dV kV doc pm an cdv ct) ⟨vs, []⟩) = some (({ cls := .type "tuple", data := .seq rs.toArray } : Obj), g₁))
    (hg1 : ∀ D, g₁ D = some (binds D)) (hloc : ∀ D, ∀ y ∈ binds D, scope.names.lookup y.1 = some .local)
    (hcell : ∀ x ∈ scope.names, x.2 ≠ .cell) (hco : scope.isCoroutine = false) (hgen : scope.isGenerator = false) (hk : scope.kind = .function)
    (h : ∀ (mean : ExcName → Option Value) (mg mb : Str → Option Value) (dp un : Nat) (gd : Option (List Code)) (outer : List Env) (base g : Heap) (s : Shared) (h₁ : Heap) (L D : Addr) (tk : Nat) (Q E : Value → Shared → Prop),
      g = s.heap → Below (arnd dp outer gd un) base outer g → (hd.heap_39 w.params).In g → Top topProg lo mean mg mb g → Pre g → dp + d < recursionLimit → un + u < cLine →
      Fr g L h₁ (fun y => (binds D).reverse.lookup y) → News g L h₁ [(D, ({ cls := .type "tuple", data := .seq rs.toArray } : Obj))] →
      (∀ r h' tk', Kept g h' → Post g h' r → Q r { s with heap := h', toks := tk' }) →
      wpAny (model P w) ((arnd dp outer gd un).deeper (envOf qual scope L f cdv)) (execs body (envOf qual scope L f cdv))
        (fun fl s' => Q (match fl with | .ret v => v | _ => .none) s') (fun e s' => wpAny (model P w) ((arnd dp outer gd un).deeper (envOf qual scope L f cdv)) (leaving (envOf qual scope L f cdv) e) (fun _ s'' => E e s'') (fun e' s'' => E e' s'') s')
        { s with heap := h₁, toks := tk }) : Spec w f vs Pre Post d u := by
  intro mean mg mb dp un gd outer base s Q E B W hp hdp hun hret
  refine wpAny_call ?_
  refine codeAny_call_function (fd := fnX name qual params body scope [] dV kV doc pm an cdv ct) (body := body) (by show dp < _; omega) (W.K _ _ ho) rfl hco hgen rfl (codeRec_of W.K hcd) ?_
  refine alloc_of_peek1 (o := ({ cls := .type "tuple", data := .seq rs.toArray } : Obj)) W.K (r := binds) ?_ _ g₁ hp1 hg1
  have kp : Kept s.heap (s.heap.push ({ cls := .type "tuple", data := .seq rs.toArray } : Obj)) := fun b o e => Heap.get?_push_of_some _ e
  refine wpAny_newFunctionEnv (s := { s with heap := s.heap.push _ }) hcell (hloc _) (fun h₁ hns hsb => ⟨(W.T.nolimit.keeps kp).fresh _ hsb, codeAny_func ?_⟩) hk
  have hk₁ : ∀ b o, (s.heap.push ({ cls := .type "tuple", data := .seq rs.toArray } : Obj)).get? b = some o → h₁.get? b = some o := fun b o e => hsb.extBut b o (Nat.ne_of_lt (Heap.lt_size e)) (Heap.get?_push_of_some _ e)
  refine h mean mg mb dp un gd outer base s.heap s h₁ (s.heap.push _).objs.size s.heap.objs.size _ Q E rfl B W.K W.T hp hdp hun ⟨hns, fun b o e => hk₁ b o (kp b o e), by rw [Heap.size_push]; exact Nat.le_succ _⟩ (fun p hp => ?_) hret
  rw [List.mem_singleton] at hp
  subst hp
  refine ⟨hk₁ _ _ (Heap.get?_push_size _ rfl), ?_, ?_⟩
  · show s.heap.objs.size ≠ (s.heap.push _).objs.size
    rw [Heap.size_push]
    exact Nat.ne_of_lt (Nat.lt_succ_self _)
  · exact Heap.get?_none_of_le (Nat.le_refl _)

/-- as spec_enter, of a def that a call has made -/
theorem spec_enterN {w : World} {f : Addr} {vs : List Value} {Pre : Heap → Prop} {Post : Heap → Heap → Value → Prop} {d u : Nat} {name qual : Str} {params : Arguments} {body : List Stmt} {scope : Scope} {cl : List (Str × Addr)} {doc pm ctv : Value} {c' : Addr} {binds : List (Str × Value)}
    (ho : ∀ h, Pre h → h.get? f = some (fnMade name qual params body scope cl doc pm c' ctv)) (hcd : ∀ h, Pre h → h.CodeRec (.ref c') qual) (hd1 : 1 ≤ d)
    (hbind : ∀ s : Shared, BindsTo s (fnX name qual params body scope cl .none .none doc pm none (.ref c') ctv) ⟨vs, []⟩ binds) (hloc : ∀ y ∈ binds, scope.names.lookup y.1 = some .local)
    (hcell : ∀ x ∈ scope.names, x.2 ≠ .cell) (hco : scope.isCoroutine = false) (hgen : scope.isGenerator = false) (hk : scope.kind = .function)
    (h : ∀ (mean : ExcName → Option Value) (mg mb : Str → Option Value) (dp un : Nat) (gd : Option (List Code)) (outer : List Env) (base g : Heap) (s : Shared) (h₁ : Heap) (L : Addr) (tk : Nat) (Q E : Value → Shared → Prop),
      g = s.heap → Below (arnd dp outer gd un) base outer g → (hd.heap_39 w.params).In g → Top topProg lo mean mg mb g → Pre g → dp + d < recursionLimit → un + u < cLine →
      Fr g L h₁ (fun y => binds.reverse.lookup y) → News g L h₁ [] →
      (∀ r h' tk', Kept g h' → Post g h' r → Q r { s with heap := h', toks := tk' }) →
      wpAny (model P w) ((arnd dp outer gd un).deeper (envX qual scope L f (.ref c') cl)) (execs body (envX qual scope L f (.ref c') cl))
        (fun fl s' => Q (match fl with | .ret v => v | _ => .none) s') (fun e s' => wpAny (model P w) ((arnd dp outer gd un).deeper (envX qual scope L f (.ref c') cl)) (leaving (envX qual scope L f (.ref c') cl) e) (fun _ s'' => E e s'') (fun e' s'' => E e' s'') s')
        { s with heap := h₁, toks := tk }) : Spec w f vs Pre Post d u := by
  intro mean mg mb dp un gd outer base s Q E B W hp hdp hun hret
  refine wpAny_call ?_
  refine codeAny_call_def (fd := fnX name qual params body scope cl .none .none doc pm none (.ref c') ctv) (body := body) (binds := binds) (by show dp < _; omega) (ho _ hp) rfl W.T.nolimit (hcd _ hp) rfl (hbind s) hcell hloc (fun h₁ hns hk₁ => ?_) hco hgen hk
  exact h mean mg mb dp un gd outer base s.heap s h₁ s.heap.objs.size _ Q E rfl B W.K W.T hp hdp hun ⟨hns, hk₁, Nat.le_refl _⟩ News.nil hret

/-- a contract of a call that fills the table Pt of its code: the def is made for the first time -/
def SpecT (w : World) (f : Addr) (Pt : Addr) (line col : Nat) (qual : Str) (vs : List Value) (Pre : Heap → Prop) (Post : Heap → Heap → Value → Prop) (d u : Nat) : Prop :=
  ∀ (mean : ExcName → Option Value) (mg mb : Str → Option Value) (dp un : Nat) (gd : Option (List Code)) (outer : List Env) (base : Heap) (s : Shared) (Q E : Value → Shared → Prop),
    Below (arnd dp outer gd un) base outer (hideAll s.heap [Pt]) → Wd w mean mg mb (hideAll s.heap [Pt]) → s.heap.get? Pt = some (tabObj #[]) → Pre (hideAll s.heap [Pt]) → dp + d < recursionLimit → un + u < cLine →
    (∀ r h' tk' c' oc vs' t', Kept (hideAll s.heap [Pt]) h' → h'.get? Pt = some (tabObj #[rawInt line, rawInt col, .ref c']) → h'.get? c' = some oc → s.heap.get? c' = none → oc.data = .fields vs' → vs'[1]? = some (.str qual t') → Post (hideAll s.heap [Pt]) h' r → Q r { s with heap := h', toks := tk' }) →
    wpAny (model P w) (arnd dp outer gd un) (call (.ref f) vs) Q E s

theorem spec_enterCT {w : World} {f Pt : Addr} {line col : Nat} {iq : Str} {vs : List Value} {Pre : Heap → Prop} {Post : Heap → Heap → Value → Prop} {d u : Nat} {oc : Value} {od : Option Addr} {name qual : Str} {params : Arguments} {body : List Stmt} {scope : Scope} {dV kV doc pm cdv ct : Value} {an : Option Addr} {osl : Array (Option Value)} {binds : List (Str × Value)}
    (ho : (hd.heap_39 w.params).lookup f = some ⟨oc, od, .func (fnOf name qual params body scope dV kV doc pm an cdv ct), osl⟩) (hcd : codeIn (hd.heap_39 w.params) cdv qual = true) (hd1 : 1 ≤ d)
    (hbind : ∀ s : Shared, (hd.heap_39 w.params).In s.heap → BindsTo s (fnOf name qual params body scope dV kV doc pm an cdv ct) ⟨vs, []⟩ binds)
    (hkind : (binds.all fun y => scope.names.lookup y.1 == some .local || scope.names.lookup y.1 == some .cell) = true)
    (hnd : ((cellsFrom 0 scope.names []).map (·.1)).Nodup)
    (hco : scope.isCoroutine = false) (hgen : scope.isGenerator = false) (hk : scope.kind = .function)
    (h : ∀ (mean : ExcName → Option Value) (mg mb : Str → Option Value) (dp un : Nat) (gd : Option (List Code)) (outer : List Env) (base g : Heap) (s : Shared) (h₁ : Heap) (L : Addr) (tk : Nat) (cells : List (Addr × Obj)) (Q E : Value → Shared → Prop),
      g = hideAll s.heap [Pt] → Below (arnd dp outer gd un) base outer g → (hd.heap_39 w.params).In g → Top topProg lo mean mg mb g → Pre g → dp + d < recursionLimit → un + u < cLine →
      Fr g L h₁ (bindL (envOfC qual scope L f cdv).kindOf binds fun _ => none) → News g L h₁ (cells ++ [(Pt, tabObj #[])]) → Pt < L →
      CellsAre (bindC (envOfC qual scope L f cdv).kindOf binds fun _ => none) (cellsFrom (L + 1) scope.names []) cells →
      (∀ r h' tk' c' oc vs' t', Kept g h' → h'.get? Pt = some (tabObj #[rawInt line, rawInt col, .ref c']) → h'.get? c' = some oc → Pt < c' → g.get? c' = none → oc.data = .fields vs' → vs'[1]? = some (.str iq t') → Post g h' r → Q r { s with heap := h', toks := tk' }) →
      wpAny (model P w) ((arnd dp outer gd un).deeper (envOfC qual scope L f cdv)) (execs body (envOfC qual scope L f cdv))
        (fun fl s' => Q (match fl with | .ret v => v | _ => .none) s') (fun e s' => wpAny (model P w) ((arnd dp outer gd un).deeper (envOfC qual scope L f cdv)) (leaving (envOfC qual scope L f cdv) e) (fun _ s'' => E e s'') (fun e' s'' => E e' s'') s')
        { s with heap := h₁, toks := tk }) : SpecT w f Pt line col iq vs Pre Post d u := by
  intro mean mg mb dp un gd outer base s Q E B W hPt hp hdp hun hret
  have st : Kept (hideAll s.heap [Pt]) s.heap := fun b o e => of_hideAll _ e
  refine wpAny_call ?_
  refine codeAny_call_function (fd := fnX name qual params body scope [] dV kV doc pm an cdv ct) (body := body) (by show dp < _; omega) (st _ _ (W.K _ _ ho)) rfl hco hgen rfl (codeRec_of (W.K.keeps st) hcd) (hbind s (W.K.keeps st) _ _ _ _ ?_)
  refine wpAny_newFunctionEnv_cells hk (kindsX hkind _) fun env' he s' x => ?_
  subst he
  refine ⟨(W.T.nolimit.keeps st).keeps x.toInCall.keep, codeAny_func ?_⟩
  obtain ⟨h₁, tk, rfl, _⟩ := x.done
  have hk₁ := x.toInCall.keep
  obtain ⟨cells, NC, Y⟩ := Cl.news (h₀ := s.heap) (Nat.le_refl _) fun n c hm => ⟨x.cell n c (lookup_of_mem_nodup (cellsFrom_names scope.names 0 (s.heap.objs.size + 1) [] [] rfl ▸ hnd) hm), x.above n c hm⟩
  refine h mean mg mb dp un gd outer base (hideAll s.heap [Pt]) s h₁ s.heap.objs.size tk cells Q E rfl B W.K W.T hp hdp hun ⟨x.toInCall.ns, fun b o e => hk₁ b o (st b o e), Nat.le_of_eq (hideAll_size _ _)⟩ (fun p hp => ?_) (Heap.lt_size hPt) Y ?_
  · rcases List.mem_append.mp hp with hp | hp
    · refine ⟨(NC p hp).1, (NC p hp).2.1, ?_⟩
      cases q : (hideAll s.heap [Pt]).get? p.1 with
      | none => rfl
      | some o => have := of_hideAll _ q; rw [(NC p hp).2.2] at this; cases this
    · rw [List.mem_singleton] at hp
      subst hp
      exact ⟨hk₁ _ _ hPt, Nat.ne_of_lt (Heap.lt_size hPt), hideAll_none _ (List.mem_singleton.mpr rfl)⟩
  · intro r h' tk' c' oc vs' t' k1 k2 k3 kl k4 k5 k6 k7
    refine hret r h' tk' c' oc vs' t' k1 k2 k3 ?_ k5 k6 k7
    cases q : s.heap.get? c' with
    | none => rfl
    | some o =>
      have z := hideAll_get [Pt] q (by rw [List.mem_singleton]; exact Nat.ne_of_gt kl)
      rw [k4] at z; cases z

/-- a contract of a call that changes some objects: own lies in the heap, hidden from what is kept -/
def SpecH (w : World) (f : Addr) (vs : List Value) (own : List (Addr × Obj)) (Pre : Heap → Prop) (Post : Heap → Heap → Value → Prop) (d u : Nat) : Prop :=
  ∀ (mean : ExcName → Option Value) (mg mb : Str → Option Value) (dp un : Nat) (gd : Option (List Code)) (outer : List Env) (base : Heap) (s : Shared) (Q E : Value → Shared → Prop),
    Below (arnd dp outer gd un) base outer (hideAll s.heap (own.map (·.1))) → Wd w mean mg mb (hideAll s.heap (own.map (·.1))) → (∀ p ∈ own, s.heap.get? p.1 = some p.2) → Pre (hideAll s.heap (own.map (·.1))) → dp + d < recursionLimit → un + u < cLine →
    (∀ r h' tk', Kept (hideAll s.heap (own.map (·.1))) h' → Post (hideAll s.heap (own.map (·.1))) h' r → Q r { s with heap := h', toks := tk' }) →
    wpAny (model P w) (arnd dp outer gd un) (call (.ref f) vs) Q E s

theorem spec_enterNH {w : World} {f : Addr} {vs : List Value} {own : List (Addr × Obj)} {Pre : Heap → Prop} {Post : Heap → Heap → Value → Prop} {d u : Nat} {name qual : Str} {params : Arguments} {body : List Stmt} {scope : Scope} {cl : List (Str × Addr)} {doc pm ctv : Value} {c' : Addr} {binds : List (Str × Value)}
    (ho : ∀ h, Pre h → h.get? f = some (fnMade name qual params body scope cl doc pm c' ctv)) (hcd : ∀ h, Pre h → h.CodeRec (.ref c') qual) (hd1 : 1 ≤ d)
    (hbind : ∀ s : Shared, BindsTo s (fnX name qual params body scope cl .none .none doc pm none (.ref c') ctv) ⟨vs, []⟩ binds) (hloc : ∀ y ∈ binds, scope.names.lookup y.1 = some .local)
    (hcell : ∀ x ∈ scope.names, x.2 ≠ .cell) (hco : scope.isCoroutine = false) (hgen : scope.isGenerator = false) (hk : scope.kind = .function)
    (h : ∀ (mean : ExcName → Option Value) (mg mb : Str → Option Value) (dp un : Nat) (gd : Option (List Code)) (outer : List Env) (base g : Heap) (s : Shared) (h₁ : Heap) (L : Addr) (tk : Nat) (Q E : Value → Shared → Prop),
      g = hideAll s.heap (own.map (·.1)) → Below (arnd dp outer gd un) base outer g → (hd.heap_39 w.params).In g → Top topProg lo mean mg mb g → Pre g → dp + d < recursionLimit → un + u < cLine →
      Fr g L h₁ (fun y => binds.reverse.lookup y) → News g L h₁ own → (∀ p ∈ own, p.1 < L) →
      (∀ r h' tk', Kept g h' → Post g h' r → Q r { s with heap := h', toks := tk' }) →
      wpAny (model P w) ((arnd dp outer gd un).deeper (envX qual scope L f (.ref c') cl)) (execs body (envX qual scope L f (.ref c') cl))
        (fun fl s' => Q (match fl with | .ret v => v | _ => .none) s') (fun e s' => wpAny (model P w) ((arnd dp outer gd un).deeper (envX qual scope L f (.ref c') cl)) (leaving (envX qual scope L f (.ref c') cl) e) (fun _ s'' => E e s'') (fun e' s'' => E e' s'') s')
        { s with heap := h₁, toks := tk }) : SpecH w f vs own Pre Post d u := by
  intro mean mg mb dp un gd outer base s Q E B W hown hp hdp hun hret
  have st : Kept (hideAll s.heap (own.map (·.1))) s.heap := fun b o e => of_hideAll _ e
  refine wpAny_call ?_
  refine codeAny_call_def (fd := fnX name qual params body scope cl .none .none doc pm none (.ref c') ctv) (body := body) (binds := binds) (by show dp < _; omega) (st _ _ (ho _ hp)) rfl (W.T.nolimit.keeps st) ((hcd _ hp).keeps st) rfl (hbind s) hcell hloc (fun h₁ hns hk₁ => ?_) hco hgen hk
  refine h mean mg mb dp un gd outer base _ s h₁ s.heap.objs.size _ Q E rfl B W.K W.T hp hdp hun ⟨hns, fun b o e => hk₁ b o (st b o e), Nat.le_of_eq (hideAll_size _ _)⟩ (fun p hp => ?_) (fun p hp => Heap.lt_size (hown p hp)) hret
  exact ⟨hk₁ _ _ (hown p hp), Nat.ne_of_lt (Heap.lt_size (hown p hp)), hideAll_none _ (List.mem_map_of_mem hp)⟩

theorem use_specH {w : World} {f : Addr} {vs : List Value} {own : List (Addr × Obj)} {Pre : Heap → Prop} {Post : Heap → Heap → Value → Prop} {d u : Nat} (S : SpecH w f vs own Pre Post d u) (rest : List (Addr × Obj))
    {A A₀ : Around} {env : Env} {outer : List Env} {base h₀ : Heap} {L : Addr} {m : Str → Option Value} {news : List (Addr × Obj)} {s : Shared} {Q E : Value → Shared → Prop} {mean : ExcName → Option Value} {mg mb : Str → Option Value} {dp un : Nat} {gd : Option (List Code)}
    (B : Below A₀ base outer h₀) (F : Fr h₀ L s.heap m) (N : News h₀ L s.heap news) (X : (hd.heap_39 w.params).In h₀) (T : Top topProg lo mean mg mb h₀)
    (hA : A = arnd dp (env :: outer) gd un) (hf : env.frame = some L) (hk : env.scope.kind = .function)
    (hown : ∀ p ∈ own, p ∈ news) (hrest : ∀ p ∈ rest, p ∈ news ∧ p.1 ∉ own.map (·.1))
    (hp : Pre (hideAll s.heap (own.map (·.1)))) (hd : dp + d < recursionLimit) (hu : un + u < cLine)
    (h : ∀ r h' tk', Kept (hideAll s.heap (own.map (·.1))) h' → Fr h₀ L h' m → News h₀ L h' rest → Post (hideAll s.heap (own.map (·.1))) h' r → Q r { s with heap := h', toks := tk' }) :
    wpAny (model P w) A (call (.ref f) vs) Q E s := by
  subst hA
  have No : News h₀ L s.heap own := fun p hp => N p (hown p hp)
  obtain ⟨FG, BG, st, _⟩ := groundX (A := arnd dp (env :: outer) gd un) (R := fun _ _ => True) B F No rfl hf hk
  refine S mean mg mb dp un gd (env :: outer) base s Q E BG ⟨X.keeps st, T.keeps st⟩ (fun p hp => (No p hp).1) hp hd hu fun r h' tk' k p => h r h' tk' k ?_ ?_ p
  · exact ⟨FG.ns.keeps k, fun b o e => k b o (st b o e), F.above⟩
  · intro p hp
    have z := N p (hrest p hp).1
    exact ⟨k _ _ (hideAll_get _ z.1 (hrest p hp).2), z.2⟩

theorem use_spec {w : World} {f : Addr} {vs : List Value} {Pre : Heap → Prop} {Post : Heap → Heap → Value → Prop} {d u : Nat} (S : Spec w f vs Pre Post d u)
    {A A₀ : Around} {env : Env} {outer : List Env} {base h₀ : Heap} {L : Addr} {m : Str → Option Value} {news : List (Addr × Obj)} {s : Shared} {Q E : Value → Shared → Prop} {mean : ExcName → Option Value} {mg mb : Str → Option Value} {dp un : Nat} {gd : Option (List Code)}
    (B : Below A₀ base outer h₀) (F : Fr h₀ L s.heap m) (N : News h₀ L s.heap news) (X : (hd.heap_39 w.params).In h₀) (T : Top topProg lo mean mg mb h₀)
    (hA : A = arnd dp (env :: outer) gd un) (hf : env.frame = some L) (hk : env.scope.kind = .function)
    (hp : Pre s.heap) (hd : dp + d < recursionLimit) (hu : un + u < cLine)
    (h : ∀ r h' tk', Kept s.heap h' → Fr h₀ L h' m → News h₀ L h' news → Post s.heap h' r → Q r { s with heap := h', toks := tk' }) :
    wpAny (model P w) A (call (.ref f) vs) Q E s := by
  subst hA
  have B' := pushX B F hf hk
  exact S mean mg mb dp un gd (env :: outer) base s Q E ⟨rfl, B'.stays, B'.frames⟩ ⟨X.keeps F.keep, T.keeps F.keep⟩ hp hd hu fun r h' tk' k p => h r h' tk' k (F.keeps k) (N.grown k) p

abbrev listObj (vs : List Value) (n : Nat) : Obj := { cls := .type "list", data := .seq vs.toArray n }
/-- a new list of these ints -/
def NewInts (ns : List Int) (h h' : Heap) (r : Value) : Prop := ∃ a vs n, r = .ref a ∧ h.get? a = none ∧ h'.get? a = some (listObj vs n) ∧ IntsAre vs ns
theorem ints_eq {vs : List Value} {ns ms : List Int} (h : IntsAre vs ns) (e : ns = ms) : IntsAre vs ms := e ▸ h
theorem news_cons {h₀ h h' : Heap} {L a : Addr} {m : Str → Option Value} {o : Obj} {news : List (Addr × Obj)} (F : Fr h₀ L h m) (N : News h₀ L h' news) (ha : h.get? a = none) (hg : h'.get? a = some o) : News h₀ L h' ((a, o) :: news) := by
  intro p hp
  rcases List.mem_cons.mp hp with rfl | hp
  · refine ⟨hg, fun e => ?_, ?_⟩
    · obtain ⟨oL, _, _, hL, _⟩ := F.ns
      have e' : a = L := e
      subst e'
      rw [hL] at ha; cases ha
    · cases q : h₀.get? a with
      | none => rfl
      | some o' => have := F.keep _ _ q; rw [ha] at this; cases this
  · exact N p hp
theorem news_ne {h₀ h : Heap} {L a : Addr} {news : List (Addr × Obj)} (N : News h₀ L h news) (ha : h.get? a = none) : ∀ p ∈ news, p.1 ≠ a := fun p hp e => by
  have := (N p hp).1
  rw [e, ha] at this; cases this
theorem new_ints {g h' : Heap} {L a : Addr} {vs : List Value} {n : Nat} {ns ms : List Int} {news : List (Addr × Obj)} (N : News g L h' news) (hm : (a, listObj vs n) ∈ news) (hI : IntsAre vs ns) (e : ns = ms) : NewInts ms g h' (.ref a) :=
  ⟨a, vs, n, rfl, (N _ hm).2.2, (N _ hm).1, e ▸ hI⟩
/-- a store of an int, its identity forgotten -/
theorem st_int {M : Model} {A : Around} {E : Value → Shared → Prop} {hp h₀ : Heap} {gs : Array GenState} {dr : Drawn} {k : Nat} {os : OsState} {L a : Addr} {m : Str → Option Value} {cn : Str} {cs : Scope} {ccd : Value} {cl : List (Str × Addr)}
    {x : Str} {i : Int} {t : Tok} {Q : Unit → Shared → Prop} {news : List (Addr × Obj)} (F : Fr h₀ L hp m) (N : News h₀ L hp news)
    (hx : (envX cn cs L a ccd cl).kindOf x = some .local) (hk : cs.kind = .function)
    (h : ∀ h' k' t', Fr h₀ L h' (fun y => if y = x then some (.int i t') else m y) → News h₀ L h' news → Q () ⟨h', gs, dr, k', os⟩) :
    wpAny M A (storeName (envX cn cs L a ccd cl) x (.int i t)) Q E ⟨hp, gs, dr, k, os⟩ :=
  storeX_L F N (fun h' F' N' => h h' _ t F' N') hk hx
/-- an append of an int, its identity forgotten -/
theorem append_int {prog : Program} {w : World} {A : Around} {E : Value → Shared → Prop} {hp h₀ : Heap} {gs : Array GenState} {dr : Drawn} {k : Nat} {os : OsState} {L D : Addr} {m : Str → Option Value}
    {vs : List Value} {n : Nat} {x : Int} {t : Tok} {Q : Value → Shared → Prop} {news : List (Addr × Obj)} {g : Obj → List (Addr × Obj)} (F : Fr h₀ L hp m) (N : News h₀ L hp news) (U : UpdF D (W.listOf vs.toArray n) news g) (hsz : vs.length ≤ sizeLine)
    (h : ∀ h' t', Fr h₀ L h' m → News h₀ L h' (g (W.listOf (vs ++ [Value.int x t']).toArray (n + 1))) → Q .none ⟨h', gs, dr, k, os⟩) :
    wpAny (model prog w) A (call (.builtin "list.append") [.ref D, .int x t]) Q E ⟨hp, gs, dr, k, os⟩ := by
  obtain ⟨pre, post, rfl, e, a, b⟩ := U.split
  have z := N (D, W.listOf vs.toArray n) (List.mem_append.mpr (.inr (.head _)))
  refine append_at (hsz := by show vs.toArray.size ≤ _; rw [List.size_toArray]; exact hsz) z.1 fun h' hs ho' => h h' t (F.change hs z.2.1 z.2.2) ?_
  rw [e]
  refine news_set N a b hs (ho'.trans (congrArg some ?_))
  show W.listOf (vs.toArray.push (.int x t)) (n + 1) = _
  rw [List.push_toArray]
end Mine

end
section
namespace Mine
open PySem
/-- what the digits mean, the lowest first -/
def dval (n : Nat) : List Int → Int
  | [] => 0
  | d :: r => d + 2 ^ n * dval n r
theorem dval_append (n : Nat) : ∀ a b : List Int, dval n (a ++ b) = dval n a + 2 ^ (n * a.length) * dval n b
  | [], b => by simp [dval]
  | d :: r, b => by
    rw [List.cons_append, dval, dval, dval_append n r b, List.length_cons, Nat.mul_succ, Int.pow_add, Int.mul_add]
    rw [show (2 : Int) ^ (n * r.length) * 2 ^ n * dval n b = 2 ^ n * (2 ^ (n * r.length) * dval n b) by rw [Int.mul_comm ((2 : Int) ^ (n * r.length)), Int.mul_assoc]]
    omega
theorem dval_bound (n : Nat) : ∀ a : List Int, (∀ d ∈ a, 0 ≤ d ∧ d < 2 ^ n) → 0 ≤ dval n a ∧ dval n a < 2 ^ (n * a.length)
  | [], _ => by simp [dval]
  | d :: r, h => by
    have ih := dval_bound n r fun x hx => h x (.tail _ hx)
    have hd := h d (.head _)
    have hp : (0 : Int) < 2 ^ n := Int.pow_pos (by decide)
    rw [dval, List.length_cons, Nat.mul_succ, Int.pow_add]
    have h1 : 0 ≤ 2 ^ n * dval n r := Int.mul_nonneg (Int.le_of_lt hp) ih.1
    have h2 : 2 ^ n * (dval n r + 1) ≤ 2 ^ n * 2 ^ (n * r.length) := Int.mul_le_mul_of_nonneg_left (by omega) (Int.le_of_lt hp)
    rw [Int.mul_add, Int.mul_one] at h2
    rw [Int.mul_comm ((2 : Int) ^ (n * r.length))]
    omega
def seg (n : Nat) (ns : List Int) (L R : Int) : Int := dval n ((ns.drop L.toNat).take (R - L).toNat)
theorem seg_one (n : Nat) (ns : List Int) (L R : Int) (h0 : 0 ≤ L) (h1 : L + 1 = R) (h2 : R ≤ ns.length) : seg n ns L R = ns.getD L.toNat 0 := by
  unfold seg
  have e : (R - L).toNat = 1 := by omega
  rw [e]
  have hl : L.toNat < ns.length := by omega
  rw [List.drop_eq_getElem_cons hl, List.take_succ_cons, List.take_zero, dval, dval, Int.mul_zero, Int.add_zero]
  simp [hl]
theorem seg_split (n : Nat) (ns : List Int) (L M R : Int) (h0 : 0 ≤ L) (h1 : L ≤ M) (h2 : M ≤ R) (h3 : R ≤ ns.length) : seg n ns L R = seg n ns M R * 2 ^ ((M - L) * (n : Int)).toNat + seg n ns L M := by
  unfold seg
  have e : (ns.drop L.toNat).take (R - L).toNat = (ns.drop L.toNat).take (M - L).toNat ++ (ns.drop M.toNat).take (R - M).toNat := by
    rw [show (R - L).toNat = (M - L).toNat + (R - M).toNat by omega, List.take_add, List.drop_drop, show L.toNat + (M - L).toNat = M.toNat by omega]
  have hl : ((ns.drop L.toNat).take (M - L).toNat).length = (M - L).toNat := by
    rw [List.length_take, List.length_drop]; omega
  rw [e, dval_append, hl]
  have ex : ((M - L) * (n : Int)).toNat = n * (M - L).toNat := by
    have : (M - L) * (n : Int) = ((n * (M - L).toNat : Nat) : Int) := by
      rw [Int.natCast_mul, Int.mul_comm, Int.toNat_of_nonneg (by omega)]
    omega
  rw [ex, Int.mul_comm (dval n ((ns.drop M.toNat).take (R - M).toNat))]
  omega
theorem seg_bound (n : Nat) (ns : List Int) (L R : Int) (h : ∀ d ∈ ns, 0 ≤ d ∧ d < 2 ^ n) (h0 : 0 ≤ L) (h1 : L ≤ R) : 0 ≤ seg n ns L R ∧ seg n ns L R < 2 ^ (n * (R - L).toNat) := by
  have z := dval_bound n ((ns.drop L.toNat).take (R - L).toNat) fun d hd => h d (List.mem_of_mem_drop (List.mem_of_mem_take hd))
  refine ⟨z.1, Int.lt_of_lt_of_le z.2 ?_⟩
  have hl : ((ns.drop L.toNat).take (R - L).toNat).length ≤ (R - L).toNat := by rw [List.length_take]; omega
  have e : ((2 ^ (n * ((ns.drop L.toNat).take (R - L).toNat).length) : Nat) : Int) ≤ ((2 ^ (n * (R - L).toNat) : Nat) : Int) := Int.ofNat_le.mpr (Nat.pow_le_pow_right (by decide) (Nat.mul_le_mul_left n hl))
  rw [Int.natCast_pow, Int.natCast_pow] at e
  exact e
theorem seg_bits (n : Nat) (ns : List Int) (L R : Int) (h : ∀ d ∈ ns, 0 ≤ d ∧ d < 2 ^ n) (h0 : 0 ≤ L) (h1 : L ≤ R) : (Builtin.Int.intBits (seg n ns L R) : Int) ≤ n * (R - L).toNat := by
  have z := seg_bound n ns L R h h0 h1
  have e : ((2 ^ (n * (R - L).toNat) : Nat) : Int) = 2 ^ (n * (R - L).toNat) := by rw [Int.natCast_pow]; rfl
  have q := (PySem.intBits_le_iff (m := n * (R - L).toNat) (x := seg n ns L R)).mpr (by omega)
  have q' : Builtin.Int.intBits (seg n ns L R) ≤ n * (R - L).toNat := q
  rw [← Int.natCast_mul]
  exact Int.ofNat_le.mpr q'
theorem seg_all (n : Nat) (ns : List Int) : seg n ns 0 ns.length = dval n ns := by
  unfold seg
  simp
end Mine

end
section
namespace Mine
open PySem PySem.W PyProof.Rows
/-- k digits of x, the lowest first -/
def digs (nn : Nat) : Nat → Int → List Int
  | 0, _ => []
  | k + 1, x => x % 2 ^ nn :: digs nn k (x / 2 ^ nn)
theorem digs_length (nn : Nat) : ∀ k x, (digs nn k x).length = k
  | 0, _ => rfl
  | k + 1, x => by rw [digs, List.length_cons, digs_length nn k]
theorem and_high (n k : Nat) : n &&& (n / 2 ^ k * 2 ^ k) = n / 2 ^ k * 2 ^ k := by
  apply Nat.eq_of_testBit_eq
  intro j
  rw [Nat.testBit_and, Nat.testBit_mul_two_pow, Nat.testBit_div_two_pow]
  by_cases h : k ≤ j
  · rw [Nat.sub_add_cancel h]
    simp [h]
  · simp [h]
theorem pow_cast (k : Nat) : ((2 ^ k : Nat) : Int) = 2 ^ k := by rw [Int.natCast_pow]; rfl
theorem xor_low (x : Int) (hx : 0 ≤ x) (k : Nat) : Builtin.bitXor x (x.fdiv (2 ^ k) * 2 ^ k) = x % 2 ^ k := by
  have hp : (0 : Int) < 2 ^ k := Int.pow_pos (by decide)
  rw [bitXor_and, Int.fdiv_eq_ediv_of_nonneg _ (Int.le_of_lt hp)]
  have hq : 0 ≤ x / 2 ^ k := Int.ediv_nonneg hx (Int.le_of_lt hp)
  have hy : 0 ≤ x / 2 ^ k * 2 ^ k := Int.mul_nonneg hq (Int.le_of_lt hp)
  have e : Builtin.bitAnd x (x / 2 ^ k * 2 ^ k) = x / 2 ^ k * 2 ^ k := by
    unfold Builtin.bitAnd
    rw [decide_eq_true hx, decide_eq_true hy]
    show ((x.toNat &&& (x / 2 ^ k * 2 ^ k).toNat : Nat) : Int) = _
    have e1 : (x / 2 ^ k * 2 ^ k).toNat = x.toNat / 2 ^ k * 2 ^ k := by
      have : x / 2 ^ k * 2 ^ k = ((x.toNat / 2 ^ k * 2 ^ k : Nat) : Int) := by
        rw [Int.natCast_mul, Int.natCast_ediv, pow_cast, Int.toNat_of_nonneg hx]
      omega
    rw [e1, and_high, Int.natCast_mul, Int.natCast_ediv, pow_cast, Int.toNat_of_nonneg hx]
  rw [e]
  have := Int.mul_ediv_add_emod x (2 ^ k)
  rw [Int.mul_comm] at this
  omega
theorem mod_mul_div (x M N : Int) (hM : 0 < M) (hN : 0 < N) : x % (M * N) / M = x / M % N := by
  have e1 := Int.mul_ediv_add_emod x M
  have e2 := Int.mul_ediv_add_emod (x / M) N
  have r0 := Int.emod_nonneg x (Int.ne_of_gt hM)
  have r1 := Int.emod_lt_of_pos x hM
  have q0 := Int.emod_nonneg (x / M) (Int.ne_of_gt hN)
  have q1 := Int.emod_lt_of_pos (x / M) hN
  have hMN : 0 < M * N := Int.mul_pos hM hN
  generalize x / M % N = q at *
  generalize x % M = r at *
  have hb : M * q + M ≤ M * N := by
    have := Int.mul_le_mul_of_nonneg_left (show q + 1 ≤ N by omega) (Int.le_of_lt hM)
    rw [Int.mul_add, Int.mul_one] at this
    exact this
  have hq : 0 ≤ M * q := Int.mul_nonneg (Int.le_of_lt hM) q0
  have key : x / (M * N) = x / M / N ∧ x % (M * N) = M * q + r := by
    refine (Int.ediv_emod_unique hMN).mpr ⟨?_, by omega, by omega⟩
    generalize x / M / N = t at *
    have : M * (N * t + q) + r = x := by rw [e2]; exact e1
    rw [Int.mul_add, ← Int.mul_assoc] at this
    omega
  rw [key.2, Int.add_comm, Int.add_mul_ediv_left _ _ (Int.ne_of_gt hM), Int.ediv_eq_zero_of_lt r0 r1, Int.zero_add]
theorem pow_pos2 (n : Nat) : (0 : Int) < 2 ^ n := Int.pow_pos (by decide)
theorem digs_low (nn : Nat) : ∀ (a : Nat) (x : Int), digs nn a (x % 2 ^ (nn * a)) = digs nn a x
  | 0, _ => rfl
  | a + 1, x => by
    have e : (2 : Int) ^ (nn * (a + 1)) = 2 ^ nn * 2 ^ (nn * a) := by rw [Nat.mul_succ, Nat.add_comm, Int.pow_add]
    rw [digs, digs, e, mod_mul_div _ _ _ (pow_pos2 nn) (pow_pos2 (nn * a)), digs_low nn a, Int.emod_emod_of_dvd x ⟨_, rfl⟩]
theorem digs_add (nn : Nat) : ∀ (a b : Nat) (x : Int), digs nn (a + b) x = digs nn a x ++ digs nn b (x / 2 ^ (nn * a))
  | 0, b, x => by simp [digs]
  | a + 1, b, x => by
    rw [Nat.succ_add, digs, digs, List.cons_append, digs_add nn a b, Nat.mul_succ, Nat.add_comm (nn * a), Int.pow_add, Int.ediv_ediv_of_nonneg (Int.le_of_lt (pow_pos2 nn))]
theorem digs_split (nn a b : Nat) (x : Int) (hx : 0 ≤ x) : digs nn (a + b) x = digs nn a (Builtin.bitXor x (x.fdiv (2 ^ (nn * a)) * 2 ^ (nn * a))) ++ digs nn b (x.fdiv (2 ^ (nn * a))) := by
  rw [xor_low x hx, digs_low, digs_add, Int.fdiv_eq_ediv_of_nonneg _ (Int.le_of_lt (pow_pos2 _))]
/-- the places L to R of a list, put anew -/
theorem put_put {α : Type} (ms d1 d2 : List α) (L M R : Nat) (h0 : L ≤ M) (h1 : M ≤ R) (h2 : R ≤ ms.length) (e1 : d1.length = M - L) :
    (ms.take L ++ d1 ++ ms.drop M).take M ++ d2 ++ (ms.take L ++ d1 ++ ms.drop M).drop R = ms.take L ++ (d1 ++ d2) ++ ms.drop R := by
  have hl : (ms.take L ++ d1).length = M := by rw [List.length_append, List.length_take, e1]; omega
  have t1 : (ms.take L ++ d1 ++ ms.drop M).take M = ms.take L ++ d1 := by
    rw [List.take_append_of_le_length (by omega), List.take_of_length_le (by omega)]
  have t2 : (ms.take L ++ d1 ++ ms.drop M).drop R = ms.drop R := by
    rw [List.drop_append, List.drop_of_length_le (by omega), hl, List.nil_append, List.drop_drop, show M + (R - M) = R by omega]
  rw [t1, t2, List.append_assoc (ms.take L)]
theorem put_one {α : Type} (ms : List α) (L : Nat) (x : α) (h : L < ms.length) : ms.set L x = ms.take L ++ [x] ++ ms.drop (L + 1) := by
  rw [List.set_eq_take_append_cons_drop, if_pos h, List.append_assoc]; rfl
/-- a list without the signs sg at its end -/
def bareL (sg : Int) (ns : List Int) : List Int := (ns.reverse.dropWhile (· == sg)).reverse
theorem dropWhile_app {α : Type} (p : α → Bool) : ∀ (a b : List α), (∀ x ∈ a, p x = true) → (a ++ b).dropWhile p = b.dropWhile p
  | [], _, _ => rfl
  | x :: a, b, h => by
    rw [List.cons_append, List.dropWhile_cons, if_pos (h x (.head _))]
    exact dropWhile_app p a b fun y hy => h y (.tail _ hy)
theorem bareL_at {sg : Int} {ns : List Int} (k : Nat) (hk : k ≤ ns.length) (hall : ∀ j, k ≤ j → j < ns.length → ns[j]? = some sg) (hstop : k = 0 ∨ ns[k - 1]? ≠ some sg) : ns.take k = bareL sg ns := by
  unfold bareL
  have e : ns.reverse = (ns.drop k).reverse ++ (ns.take k).reverse := by rw [← List.reverse_append, List.take_append_drop]
  rw [e, dropWhile_app]
  · rcases hstop with rfl | hs
    · rw [List.take_zero]; rfl
    · rcases Nat.eq_zero_or_pos k with rfl | hpos
      · rw [List.take_zero]; rfl
      · have hl : k - 1 < ns.length := by omega
        have et : ns.take k = ns.take (k - 1) ++ [ns[k - 1]] := by
          have := List.take_succ_eq_append_getElem (l := ns) (i := k - 1) hl
          rw [show k - 1 + 1 = k by omega] at this
          exact this
        rw [et, List.reverse_append, List.reverse_singleton, List.singleton_append, List.dropWhile_cons, if_neg]
        · rw [List.reverse_cons, List.reverse_reverse]
        · intro q
          apply hs
          rw [List.getElem?_eq_getElem hl]
          exact congrArg some (by simpa using q)
  · intro x hx
    rw [List.mem_reverse] at hx
    obtain ⟨i, hi, rfl⟩ := List.mem_iff_getElem.mp hx
    rw [List.length_drop] at hi
    have := hall (k + i) (by omega) (by omega)
    rw [List.getElem?_eq_getElem (by omega)] at this
    rw [List.getElem_drop]
    simpa using Option.some.inj this
theorem bare_of {sg : Int} {ns : List Int} {k : Int} (h1 : k ≤ ns.length) (h0 : min (ns.length : Int) 0 ≤ k)
    (hall : ∀ j : Int, k < j → j ≤ ns.length → (if 0 < j then if (ns.getD (j - 1).toNat 0 == sg) = true then true else false else false) = true)
    (hstop : (if 0 < k then if (ns.getD (k - 1).toNat 0 == sg) = true then true else false else false) = false) : ns.take k.toNat = bareL sg ns := by
  refine bareL_at k.toNat (by omega) (fun j h2 h3 => ?_) ?_
  · have z := hall (j + 1) (by omega) (by omega)
    rw [if_pos (by omega), show ((j : Int) + 1 - 1).toNat = j by omega] at z
    have z' : ns.getD j 0 = sg := by
      split at z
      · rename_i q; simpa using q
      · cases z
    rw [List.getElem?_eq_getElem h3]
    rw [List.getD_eq_getElem?_getD, List.getElem?_eq_getElem h3] at z'
    exact congrArg some z'
  · by_cases hk : 0 < k
    · right
      rw [if_pos hk] at hstop
      intro q
      have e : (k - 1).toNat = k.toNat - 1 := by omega
      rw [e, List.getD_eq_getElem?_getD, q] at hstop
      simp at hstop
    · left; omega
theorem digs_mem (nn : Nat) : ∀ (k : Nat) (x : Int), ∀ d ∈ digs nn k x, 0 ≤ d ∧ d < 2 ^ nn
  | 0, _, d, h => nomatch h
  | k + 1, x, d, h => by
    rw [digs] at h
    rcases List.mem_cons.mp h with rfl | h
    · exact ⟨Int.emod_nonneg _ (Int.ne_of_gt (pow_pos2 _)), Int.emod_lt_of_pos _ (pow_pos2 _)⟩
    · exact digs_mem nn k _ d h
theorem cur_ok {b r d : Int} {nn : Nat} (hb : 0 < b) (hbb : b < 2 ^ nn) (hnn : nn ≤ 64) (h0 : 0 ≤ r) (h1 : r < b) (hd0 : 0 ≤ d) (hd1 : d < 2 ^ nn) : 0 ≤ r * 2 ^ nn + d ∧ r * 2 ^ nn + d < b * 2 ^ nn ∧ (Builtin.Int.intBits (r * 2 ^ nn + d) : Int) ≤ 4000 := by
  have a1 : 0 ≤ r * 2 ^ nn := Int.mul_nonneg h0 (Int.le_of_lt (pow_pos2 _))
  have a2 : (r + 1) * 2 ^ nn ≤ b * 2 ^ nn := Int.mul_le_mul_of_nonneg_right (by omega) (Int.le_of_lt (pow_pos2 _))
  rw [Int.add_mul, Int.one_mul] at a2
  refine ⟨by omega, by omega, ?_⟩
  have a3 : b * 2 ^ nn ≤ 2 ^ nn * 2 ^ nn := Int.mul_le_mul_of_nonneg_right (Int.le_of_lt hbb) (Int.le_of_lt (pow_pos2 _))
  rw [← Int.pow_add] at a3
  have e := pow_cast (nn + nn)
  have q : Builtin.Int.intBits (r * 2 ^ nn + d) ≤ nn + nn := PySem.intBits_le_iff.mpr (by omega)
  omega
def horner (B : Int) (l : List Int) : Int := l.foldl (fun acc d => acc * B + d) 0
theorem horner_snoc (B : Int) (l : List Int) (d : Int) : horner B (l ++ [d]) = horner B l * B + d := by unfold horner; rw [List.foldl_append]; rfl
theorem horner_dval (nn : Nat) : ∀ l : List Int, horner (2 ^ nn) l.reverse = dval nn l
  | [] => rfl
  | d :: l => by rw [List.reverse_cons, horner_snoc, horner_dval nn l, dval, Int.mul_comm]; omega
theorem div_step {b r d B hq hp : Int} (hb : 0 < b) (h : hq * b + r = hp) : (hq * B + (r * B + d) / b) * b + (r * B + d) % b = hp * B + d := by
  have e := Int.mul_ediv_add_emod (r * B + d) b
  rw [Int.add_mul, ← h, Int.add_mul, Int.mul_assoc, Int.mul_assoc, Int.mul_comm B b, Int.mul_comm ((r * B + d) / b)]
  omega
theorem dval_digs (nn : Nat) : ∀ (k : Nat) (x : Int), 0 ≤ x → x < 2 ^ (nn * k) → dval nn (digs nn k x) = x
  | 0, x, h0, h1 => by
    have : (2 : Int) ^ (nn * 0) = 1 := by rw [Nat.mul_zero]; rfl
    rw [digs, dval]; omega
  | k + 1, x, h0, h1 => by
    have hp := pow_pos2 nn
    rw [digs, dval, dval_digs nn k (x / 2 ^ nn) (Int.ediv_nonneg h0 (Int.le_of_lt hp)) (Int.ediv_lt_of_lt_mul hp (by rw [← Int.pow_add, ← Nat.mul_succ]; exact h1))]
    have := Int.mul_ediv_add_emod x (2 ^ nn)
    omega
theorem div_unique {a b q r : Int} (hb : 0 < b) (h : q * b + r = a) (h0 : 0 ≤ r) (h1 : r < b) : q = a / b ∧ r = a % b := by
  have := (Int.ediv_emod_unique (a := a) (b := b) (r := r) (q := q) hb).mpr ⟨by rw [Int.mul_comm]; omega, h0, h1⟩
  exact ⟨this.1.symm, this.2.symm⟩
end Mine

end
section
open PySem PySem.W PyProof.Rows PySem.Spec PySem.Calls
namespace Mine
local macro_rules | `(tactic| k_room) => `(tactic| ktr_room)
/-- four or eight places, each one of the five -/
def Row (r : List Int) : Prop := (r.length = 4 ∨ r.length = 8) ∧ ∀ p ∈ r, p = 63 ∨ p = 0 ∨ p = 41 ∨ p = 62 ∨ p = 5
theorem six_ne (k : Nat) : (6 : Int) ^ k ≠ 0 := Int.ne_of_gt (Int.pow_pos (by decide))
theorem six_log {k : Nat} (h : k < 3000) : ((6 : Int) ^ k).natAbs.log2 < 9000 := by
  rw [Int.natAbs_pow]
  refine (Nat.log2_lt (Nat.ne_of_gt (Nat.pow_pos (by decide)))).mpr ?_
  calc (6 : Int).natAbs ^ k ≤ 8 ^ k := Nat.pow_le_pow_left (by decide) k
    _ = 2 ^ (3 * k) := by rw [Nat.pow_mul]
    _ < 2 ^ 9000 := Nat.pow_lt_pow_right (by decide) (by omega)
theorem spec_places (w : World) (x : Int) (tx : Tok) : Spec w 199 [.int x tx] (fun _ => True) (fun h h' r => ∃ row, Row row ∧ NewInts row h h' r) 5 50 := by
  have kf9 : hd.heap_39 = hd.heap_39 ∧ PySem.Challenge.rw_ik0056_01 = PySem.Challenge.rw_ik0056_01 := by (k_fill; exact ⟨rfl, rfl⟩)
  clear kf9
  refine' spec_enterC ?ho ?hcd ?hd1 ?hb ?hkind ?hnd ?hco ?hgen ?hk ?_
  case ho => k_dflt k_is
  case hcd => k_dflt k_is
  case hd1 => decide
  case hb => (intro s hX; first | exact BindsTo.of_eq rfl | exact binds_K hX rfl (by k_dflt k_is) rfl rfl rfl)
  case hkind => exact rfl
  case hnd => decide +kernel
  case hco => exact rfl
  case hgen => exact rfl
  case hk => exact rfl
  unfold P lo
  intro mean mg mb dp un gd outer base g s h₁ L tk cells Q E hg B X T hp hdp hun F N Y hret
  k_cells Y
  (try dsimp only at F N)
  repeat' (first | (k_unfold; (try dsimp only)) | (k_end; wrow_close) | (with_reducible ((with_reducible show wpAny _ _ (binaryOp PySem.Operator.FloorDiv (Value.int ..) (Value.int ..)) _ _ _); (with_reducible refine floordiv_int ?kbe ?_ (Or.inl (PyProof.noPylong_of_log2 ?kbp))); (case kbe => exact six_ne _); (case kbp => exact six_log (by omega)))) | walk1 | ((with_reducible show wpAny _ _ (binaryOp PySem.Operator.FloorDiv (Value.int ..) (Value.int ..)) _ _ _); (with_reducible refine floordiv_int ?kbe ?_ (Or.inl (PyProof.noPylong_of_log2 ?kbp))); (case kbe => exact six_ne _); (case kbp => exact six_log (by omega))) | (dsimp only; (first | (with_reducible ((with_reducible show wpAny _ _ (binaryOp PySem.Operator.FloorDiv (Value.int ..) (Value.int ..)) _ _ _); (with_reducible refine floordiv_int ?kbe ?_ (Or.inl (PyProof.noPylong_of_log2 ?kbp))); (case kbe => exact six_ne _); (case kbp => exact six_log (by omega)))) | walk1 | ((with_reducible show wpAny _ _ (binaryOp PySem.Operator.FloorDiv (Value.int ..) (Value.int ..)) _ _ _); (with_reducible refine floordiv_int ?kbe ?_ (Or.inl (PyProof.noPylong_of_log2 ?kbp))); (case kbe => exact six_ne _); (case kbp => exact six_log (by omega))))) | (leave1; (try dsimp only)) | fail "no step")
  all_goals (
    refine hret _ _ _ (Fr.keep (by assumption)) ⟨_, ?_, new_ints (by assumption) (by k_mem) (by assumption) rfl⟩
    refine ⟨?_, ?_⟩
    · rw [List.length_map, rangeKs_length]
      omega
    · intro p hp
      obtain ⟨k, _, rfl⟩ := List.mem_map.mp hp
      have z6 := Int.fmod_eq_emod_of_nonneg ((x.fdiv 2).fdiv (6 ^ k.toNat)) (b := 6) (by decide)
      repeat' (first | split | decide | (exfalso; omega)))
end Mine

end
section
open PySem PySem.W PyProof.Rows PySem.Spec PySem.Calls
namespace Mine
theorem entry_issub : entryFor table "issubclass" = some Builtin.«issubclass» := entryFor_of_tree (by kernel_rfl)
theorem entry_issubn : entryFor table "issubclass.nested" = some Builtin.«issubclass.nested» := entryFor_of_tree (by kernel_rfl)
theorem kind_issub : builtinKind "issubclass" = none := by decide +kernel
theorem plain_issub : plainId "issubclass" = true := by decide +kernel
theorem plain_issubn : plainId "issubclass.nested" = true := by decide +kernel
theorem args_issub (a b : Value) : argsOk "issubclass" ⟨[a, b], []⟩ := by unfold argsOk; kernel_rfl
theorem isSub_str : isSubtype (.type "str") (.type "str") = pure true := by rw [isSubtype_type]; kernel_rfl
theorem isType_str : isType (.type "str") = pure true := by kernel_rfl
theorem typeOf_str : typeOf (.type "str") = pure (.type "type") := by kernel_rfl
section
variable {prog : Program} {w : World} {A : Around} {E : Value → Shared → Prop} {s : Shared}
theorem issubn_str {k : Value} {dep : Int} {tk : Tok} {Q : Fin → Shared → Prop} (hk : k = .int dep tk) (hq : Q (.done (.ret (.bool true))) s) : wpAny (model prog w) A (Builtin.«issubclass.nested» ⟨[.type "str", .type "str", k], []⟩) Q E s := by
  subst hk
  have f0 := isSub_str
  have f1 := isType_str
  have f2 := typeOf_str
  repeat (any_goals (first | assumption | wp_step))
theorem args_issubn (a b c : Value) : argsOk "issubclass.nested" ⟨[a, b, c], []⟩ := by unfold argsOk; kernel_rfl
theorem kind_issubn : builtinKind "issubclass.nested" = none := by decide +kernel
theorem issubn_tuple {tp : Addr} {cs rest : List Value} (hcs : cs = Value.type "str" :: rest) {n : Nat} {tk : Tok} {Q : Fin → Shared → Prop} (htp : s.heap.get? tp = some { cls := .type "tuple", data := .seq cs.toArray n })
    (hq : Q (.done (.ret (.bool true))) s) : wpAny (model prog w) A (Builtin.«issubclass.nested» ⟨[.type "str", .ref tp, .int 0 tk], []⟩) Q E s := by
  obtain ⟨h, g, d, t, os⟩ := s
  have hT2 : (⟨h, g, d, t, os⟩ : Shared).TypeIs (.ref tp) "tuple" := ⟨_, htp, rfl⟩
  have f1 := F.isi_sub_tuple
  repeat (any_goals (first | assumption | wp_step))
  refine wpAny_arrayLoop ?_
  simp only [Option.getD_some, List.toList_toArray]
  subst hcs
  rw [List.forIn_cons]
  refine wpAny_bind (wpAny_bind (call_function_meets kind_issubn plain_issubn entry_issubn (args_issubn _ _ _) (S := fun _ R s => R (.ok (.ret (.bool true))) s) (fun _ _ _ _ _ hs => issubn_str rfl hs) ?_))
  refine wpAny_bind (m := truthy (.bool true)) (wpAny_pure ?_)
  refine wpAny_bind (wpAny_pure (wpAny_pure (wpAny_pure ?_)))
  repeat (any_goals (first | assumption | wp_step))
theorem call_issub {tp : Addr} {rest : List Value} {n : Nat} {Q : Value → Shared → Prop} (htp : s.heap.get? tp = some { cls := .type "tuple", data := .seq (Value.type "str" :: rest).toArray n })
    (hq : Q (.bool true) s) : wpAny (model prog w) A (call (.builtin "issubclass") [.type "str", .ref tp]) Q E s := by
  refine call_function_meets kind_issub plain_issub entry_issub (args_issub _ _) (S := fun A R s => s.heap.get? tp = some { cls := .type "tuple", data := .seq (Value.type "str" :: rest).toArray n } ∧ R (.ok (.ret (.bool true))) s) (fun _ _ _ _ s hs => ?_) ⟨htp, hq⟩
  repeat (any_goals (first | assumption | wp_step))
  refine ⟨Code.quiet_builtin _ (by decide +kernel), codeAny_builtin entry_issubn ?_⟩
  rw [Around.under_plain (show (Code.builtin "issubclass.nested" ⟨[.type "str", .ref tp, rawInt 0], []⟩).weight = 0 from rfl) rfl]
  exact issubn_tuple rfl hs.1 hs.2
end
local macro_rules | `(tactic| k_room) => `(tactic| ktr_room)
theorem spec_buffer (w : World) (b : Array UInt8) (tx : Tok) : Spec w 70 [.bytes b tx] (fun _ => True) (fun h h' r => r = .bytes b tx) 5 50 := by
  have kf9 : hd.heap_39 = hd.heap_39 ∧ PySem.Challenge.rw_ik0056_01 = PySem.Challenge.rw_ik0056_01 := by (k_fill; exact ⟨rfl, rfl⟩)
  clear kf9
  refine' spec_enter ?ho ?hcd ?hd1 ?hb ?hloc ?hcell ?hco ?hgen ?hk ?_
  case ho => k_dflt k_is
  case hcd => k_dflt k_is
  case hd1 => decide
  case hb => (intro s hX; first | exact BindsTo.of_eq rfl | exact binds_K hX rfl (by k_dflt k_is) rfl rfl rfl)
  case hloc => exact locs rfl
  case hcell => decide
  case hco => exact rfl
  case hgen => exact rfl
  case hk => exact rfl
  unfold P lo
  intro mean mg mb dp un gd outer base g s h₁ L tk Q E hg B X T hp hdp hun F N hret
  (try dsimp only at F)
  repeat' (first | (k_unfold; (try dsimp only)) | (k_end; wrow_close) | ((with_reducible show wpAny _ _ (call (Value.builtin "issubclass") _) _ _ _); k_here; k_dflt (refine' call_issub ?N ?_; (case N => exact News.get (by k_asm) (by k_mem)); k_whole)) | (with_reducible ((with_reducible show wpAny _ _ (call (Value.type "type") [Value.bytes _ _]) _ _ _); refine call_type_of (Tx := "bytes") rfl (by decide +kernel) ?_)) | walk1 | ((with_reducible show wpAny _ _ (call (Value.type "type") [Value.bytes _ _]) _ _ _); refine call_type_of (Tx := "bytes") rfl (by decide +kernel) ?_) | (dsimp only; (first | ((with_reducible show wpAny _ _ (call (Value.builtin "issubclass") _) _ _ _); k_here; k_dflt (refine' call_issub ?N ?_; (case N => exact News.get (by k_asm) (by k_mem)); k_whole)) | (with_reducible ((with_reducible show wpAny _ _ (call (Value.type "type") [Value.bytes _ _]) _ _ _); refine call_type_of (Tx := "bytes") rfl (by decide +kernel) ?_)) | walk1 | ((with_reducible show wpAny _ _ (call (Value.type "type") [Value.bytes _ _]) _ _ _); refine call_type_of (Tx := "bytes") rfl (by decide +kernel) ?_))) | (leave1; (try dsimp only)) | fail "no step")
  all_goals (dsimp only; exact hret _ _ _ (Fr.keep (by assumption)) rfl)
theorem spec_fspath (w : World) (x : Str) (tx : Tok) : Spec w 166 [.str x tx] (fun _ => True) (fun h h' r => r = .str x tx) 5 50 := by
  have kf9 : hd.heap_39 = hd.heap_39 ∧ PySem.Challenge.rw_ik0056_01 = PySem.Challenge.rw_ik0056_01 := by (k_fill; exact ⟨rfl, rfl⟩)
  clear kf9
  refine' spec_enter ?ho ?hcd ?hd1 ?hb ?hloc ?hcell ?hco ?hgen ?hk ?_
  case ho => k_dflt k_is
  case hcd => k_dflt k_is
  case hd1 => decide
  case hb => (intro s hX; first | exact BindsTo.of_eq rfl | exact binds_K hX rfl (by k_dflt k_is) rfl rfl rfl)
  case hloc => exact locs rfl
  case hcell => decide
  case hco => exact rfl
  case hgen => exact rfl
  case hk => exact rfl
  unfold P lo
  intro mean mg mb dp un gd outer base g s h₁ L tk Q E hg B X T hp hdp hun F N hret
  (try dsimp only at F)
  repeat' (first | (k_unfold; (try dsimp only)) | (k_end; wrow_close) | ((with_reducible show wpAny _ _ (call (Value.builtin "issubclass") _) _ _ _); k_here; k_dflt (refine' call_issub ?N ?_; (case N => exact News.get (by k_asm) (by k_mem)); k_whole)) | (with_reducible ((with_reducible show wpAny _ _ (call (Value.type "type") [Value.bytes _ _]) _ _ _); refine call_type_of (Tx := "bytes") rfl (by decide +kernel) ?_)) | walk1 | ((with_reducible show wpAny _ _ (call (Value.type "type") [Value.bytes _ _]) _ _ _); refine call_type_of (Tx := "bytes") rfl (by decide +kernel) ?_) | (dsimp only; (first | ((with_reducible show wpAny _ _ (call (Value.builtin "issubclass") _) _ _ _); k_here; k_dflt (refine' call_issub ?N ?_; (case N => exact News.get (by k_asm) (by k_mem)); k_whole)) | (with_reducible ((with_reducible show wpAny _ _ (call (Value.type "type") [Value.bytes _ _]) _ _ _); refine call_type_of (Tx := "bytes") rfl (by decide +kernel) ?_)) | walk1 | ((with_reducible show wpAny _ _ (call (Value.type "type") [Value.bytes _ _]) _ _ _); refine call_type_of (Tx := "bytes") rfl (by decide +kernel) ?_))) | (leave1; (try dsimp only)) | fail "no step")
  all_goals (dsimp only; exact hret _ _ _ (Fr.keep (by assumption)) rfl)
theorem spec_getsep (w : World) (x : Str) (tx : Tok) : Spec w 180 [.str x tx] (fun _ => True) (fun _ _ r => ∃ t, r = .str (Str.ofString "/") t) 5 50 := by
  have kf9 : hd.heap_39 = hd.heap_39 ∧ PySem.Challenge.rw_ik0056_01 = PySem.Challenge.rw_ik0056_01 := by (k_fill; exact ⟨rfl, rfl⟩)
  clear kf9
  refine' spec_enter ?ho ?hcd ?hd1 ?hb ?hloc ?hcell ?hco ?hgen ?hk ?_
  case ho => k_dflt k_is
  case hcd => k_dflt k_is
  case hd1 => decide
  case hb => (intro s hX; first | exact BindsTo.of_eq rfl | exact binds_K hX rfl (by k_dflt k_is) rfl rfl rfl)
  case hloc => exact locs rfl
  case hcell => decide
  case hco => exact rfl
  case hgen => exact rfl
  case hk => exact rfl
  unfold P lo
  intro mean mg mb dp un gd outer base g s h₁ L tk Q E hg B X T hp hdp hun F N hret
  (try dsimp only at F)
  repeat' (first | (k_unfold; (try dsimp only)) | (k_end; wrow_close) | ((with_reducible show wpAny _ _ (call (Value.builtin "issubclass") _) _ _ _); k_here; k_dflt (refine' call_issub ?N ?_; (case N => exact News.get (by k_asm) (by k_mem)); k_whole)) | (with_reducible ((with_reducible show wpAny _ _ (call (Value.type "type") [Value.bytes _ _]) _ _ _); refine call_type_of (Tx := "bytes") rfl (by decide +kernel) ?_)) | walk1 | ((with_reducible show wpAny _ _ (call (Value.type "type") [Value.bytes _ _]) _ _ _); refine call_type_of (Tx := "bytes") rfl (by decide +kernel) ?_) | (dsimp only; (first | ((with_reducible show wpAny _ _ (call (Value.builtin "issubclass") _) _ _ _); k_here; k_dflt (refine' call_issub ?N ?_; (case N => exact News.get (by k_asm) (by k_mem)); k_whole)) | (with_reducible ((with_reducible show wpAny _ _ (call (Value.type "type") [Value.bytes _ _]) _ _ _); refine call_type_of (Tx := "bytes") rfl (by decide +kernel) ?_)) | walk1 | ((with_reducible show wpAny _ _ (call (Value.type "type") [Value.bytes _ _]) _ _ _); refine call_type_of (Tx := "bytes") rfl (by decide +kernel) ?_))) | (leave1; (try dsimp only)) | fail "no step")
  all_goals (dsimp only; exact hret _ _ _ (Fr.keep (by assumption)) ⟨_, rfl⟩)
theorem spec_truth (w : World) : Spec w 77 [.bool false] (fun _ => True) (fun _ _ r => r = .bool false) 5 50 := by
  have kf9 : hd.heap_39 = hd.heap_39 ∧ PySem.Challenge.rw_ik0056_01 = PySem.Challenge.rw_ik0056_01 := by (k_fill; exact ⟨rfl, rfl⟩)
  clear kf9
  refine' spec_enter ?ho ?hcd ?hd1 ?hb ?hloc ?hcell ?hco ?hgen ?hk ?_
  case ho => k_dflt k_is
  case hcd => k_dflt k_is
  case hd1 => decide
  case hb => (intro s hX; first | exact BindsTo.of_eq rfl | exact binds_K hX rfl (by k_dflt k_is) rfl rfl rfl)
  case hloc => exact locs rfl
  case hcell => decide
  case hco => exact rfl
  case hgen => exact rfl
  case hk => exact rfl
  unfold P lo
  intro mean mg mb dp un gd outer base g s h₁ L tk Q E hg B X T hp hdp hun F N hret
  (try dsimp only at F)
  repeat' (first | (k_unfold; (try dsimp only)) | (k_end; wrow_close) | ((with_reducible show wpAny _ _ (call (Value.builtin "issubclass") _) _ _ _); k_here; k_dflt (refine' call_issub ?N ?_; (case N => exact News.get (by k_asm) (by k_mem)); k_whole)) | (with_reducible ((with_reducible show wpAny _ _ (call (Value.type "type") [Value.bytes _ _]) _ _ _); refine call_type_of (Tx := "bytes") rfl (by decide +kernel) ?_)) | walk1 | ((with_reducible show wpAny _ _ (call (Value.type "type") [Value.bytes _ _]) _ _ _); refine call_type_of (Tx := "bytes") rfl (by decide +kernel) ?_) | (dsimp only; (first | ((with_reducible show wpAny _ _ (call (Value.builtin "issubclass") _) _ _ _); k_here; k_dflt (refine' call_issub ?N ?_; (case N => exact News.get (by k_asm) (by k_mem)); k_whole)) | (with_reducible ((with_reducible show wpAny _ _ (call (Value.type "type") [Value.bytes _ _]) _ _ _); refine call_type_of (Tx := "bytes") rfl (by decide +kernel) ?_)) | walk1 | ((with_reducible show wpAny _ _ (call (Value.type "type") [Value.bytes _ _]) _ _ _); refine call_type_of (Tx := "bytes") rfl (by decide +kernel) ?_))) | (leave1; (try dsimp only)) | fail "no step")
  all_goals (dsimp only; exact hret _ _ _ (Fr.keep (by assumption)) rfl)
end Mine

end
section
open PySem PySem.W PyProof.Rows PySem.Spec PySem.Calls
namespace Mine
local macro_rules | `(tactic| k_room) => `(tactic| ktr_room)
abbrev slash : Str := Str.ofString "/"
def cutHead (x : Str) : Str := Txt.slice x none (some (Txt.rfind x slash + 1))
def cutTail (x : Str) : Str := Txt.slice x (some (Txt.rfind x slash + 1)) none
def headOf (x : Str) : Str := if (cutHead x).length = 0 then cutHead x else if (cutHead x != Txt.mul slash (cutHead x).length) = true then Txt.rstripChars (cutHead x) slash else cutHead x
def joinOf (x y : Str) : Str := if Txt.startswith y slash = true then y else if x.length = 0 then y else if Txt.endswith x slash = true then x ++ y else x ++ (slash ++ y)
/-- a new tuple of two texts -/
def NewTexts (u v : Str) (h h' : Heap) (r : Value) : Prop := ∃ a t1 t2, r = .ref a ∧ h.get? a = none ∧ h'.get? a = some { cls := .type "tuple", data := .seq #[.str u t1, .str v t2] }
theorem new_texts {g h' : Heap} {L a : Addr} {u v u' v' : Str} {t1 t2 : Tok} {news : List (Addr × Obj)} (N : News g L h' news) (hm : (a, ({ cls := .type "tuple", data := .seq #[.str u t1, .str v t2] } : Obj)) ∈ news) (e1 : u = u') (e2 : v = v') : NewTexts u' v' g h' (.ref a) := by
  subst e1 e2
  exact ⟨a, t1, t2, rfl, (N _ hm).2.2, (N _ hm).1⟩
theorem ne0_of {n : Nat} (h : (n : Int) ≠ 0) : ¬ n = 0 := fun e => h (by rw [e]; rfl)
theorem eq0_of {n : Nat} (h : (n : Int) = 0) : n = 0 := by omega
section
theorem spec_split (w : World) (x : Str) (tx : Tok) (hx : x.length ≤ 8) : Spec w 194 [.str x tx] (fun _ => True) (fun h h' r => NewTexts (headOf x) (cutTail x) h h' r) 10 100 := by
  have kf9 : hd.heap_39 = hd.heap_39 ∧ PySem.Challenge.rw_ik0056_01 = PySem.Challenge.rw_ik0056_01 := by (k_fill; exact ⟨rfl, rfl⟩)
  clear kf9
  refine' spec_enter ?ho ?hcd ?hd1 ?hb ?hloc ?hcell ?hco ?hgen ?hk ?_
  case ho => k_dflt k_is
  case hcd => k_dflt k_is
  case hd1 => decide
  case hb => (intro s hX; first | exact BindsTo.of_eq rfl | exact binds_K hX rfl (by k_dflt k_is) rfl rfl rfl)
  case hloc => exact locs rfl
  case hcell => decide
  case hco => exact rfl
  case hgen => exact rfl
  case hk => exact rfl
  unfold P lo
  intro mean mg mb dp un gd outer base g s h₁ L tk Q E hg B X T hp hdp hun F N hret
  (try dsimp only at F)
  repeat' (first | (k_unfold; (try dsimp only)) | (k_end; wrow_close) | ((with_reducible show wpAny _ _ (call (Value.ref _) _) _ _ _); k_here; k_dflt (refine' use_spec (spec_getsep _ _ _) ?uB ?uF ?uN ?uX ?uT ?uA ?uf ?uk ?up ?ud ?uu ?_; (case uB => k_asm); (case uF => k_asm); (case uN => k_asm); (case uX => k_asm); (case uT => k_asm); (case uA => exact rfl); (case uf => exact rfl); (case uk => exact rfl); (case up => first | exact trivial | assumption); (case ud => (first | (refine' room_ok ?rh ?re; (case rh => assumption); (case re => exact rfl)) | (refine' room_ok0 ?rh ?re; (case rh => assumption); (case re => exact rfl)) | ktr_room)); (case uu => (first | (refine' room_ok ?rh ?re; (case rh => assumption); (case re => exact rfl)) | (refine' room_ok0 ?rh ?re; (case rh => assumption); (case re => exact rfl)) | ktr_units)); k_whole); intro r9 h9 tk9 k9 F9 N9 e9; obtain ⟨t9, e9⟩ := e9; subst e9; (try k_fold)) | ((with_reducible show wpAny _ _ (call (Value.ref _) _) _ _ _); k_here; k_dflt (refine' use_spec (spec_fspath _ _ _) ?uB ?uF ?uN ?uX ?uT ?uA ?uf ?uk ?up ?ud ?uu ?_; (case uB => k_asm); (case uF => k_asm); (case uN => k_asm); (case uX => k_asm); (case uT => k_asm); (case uA => exact rfl); (case uf => exact rfl); (case uk => exact rfl); (case up => first | exact trivial | assumption); (case ud => (first | (refine' room_ok ?rh ?re; (case rh => assumption); (case re => exact rfl)) | (refine' room_ok0 ?rh ?re; (case rh => assumption); (case re => exact rfl)) | ktr_room)); (case uu => (first | (refine' room_ok ?rh ?re; (case rh => assumption); (case re => exact rfl)) | (refine' room_ok0 ?rh ?re; (case rh => assumption); (case re => exact rfl)) | ktr_units)); k_whole); intro r9 h9 tk9 k9 F9 N9 e9; subst e9; (try k_fold)) | walk1 | (dsimp only; (first | ((with_reducible show wpAny _ _ (call (Value.ref _) _) _ _ _); k_here; k_dflt (refine' use_spec (spec_getsep _ _ _) ?uB ?uF ?uN ?uX ?uT ?uA ?uf ?uk ?up ?ud ?uu ?_; (case uB => k_asm); (case uF => k_asm); (case uN => k_asm); (case uX => k_asm); (case uT => k_asm); (case uA => exact rfl); (case uf => exact rfl); (case uk => exact rfl); (case up => first | exact trivial | assumption); (case ud => (first | (refine' room_ok ?rh ?re; (case rh => assumption); (case re => exact rfl)) | (refine' room_ok0 ?rh ?re; (case rh => assumption); (case re => exact rfl)) | ktr_room)); (case uu => (first | (refine' room_ok ?rh ?re; (case rh => assumption); (case re => exact rfl)) | (refine' room_ok0 ?rh ?re; (case rh => assumption); (case re => exact rfl)) | ktr_units)); k_whole); intro r9 h9 tk9 k9 F9 N9 e9; obtain ⟨t9, e9⟩ := e9; subst e9; (try k_fold)) | ((with_reducible show wpAny _ _ (call (Value.ref _) _) _ _ _); k_here; k_dflt (refine' use_spec (spec_fspath _ _ _) ?uB ?uF ?uN ?uX ?uT ?uA ?uf ?uk ?up ?ud ?uu ?_; (case uB => k_asm); (case uF => k_asm); (case uN => k_asm); (case uX => k_asm); (case uT => k_asm); (case uA => exact rfl); (case uf => exact rfl); (case uk => exact rfl); (case up => first | exact trivial | assumption); (case ud => (first | (refine' room_ok ?rh ?re; (case rh => assumption); (case re => exact rfl)) | (refine' room_ok0 ?rh ?re; (case rh => assumption); (case re => exact rfl)) | ktr_room)); (case uu => (first | (refine' room_ok ?rh ?re; (case rh => assumption); (case re => exact rfl)) | (refine' room_ok0 ?rh ?re; (case rh => assumption); (case re => exact rfl)) | ktr_units)); k_whole); intro r9 h9 tk9 k9 F9 N9 e9; subst e9; (try k_fold)) | walk1)) | (leave1; (try dsimp only)) | fail "no step")
  all_goals refine hret _ _ _ (Fr.keep (by assumption)) (new_texts (by assumption) (by k_mem) ?_ rfl)
  · have h1 : ((cutHead x).length : Int) ≠ 0 := by assumption
    have h2 : (cutHead x != Txt.mul slash (cutHead x).length) = true := by assumption
    unfold headOf
    rw [if_neg (ne0_of h1)]
    exact (if_pos h2).symm
  · have h1 : ((cutHead x).length : Int) ≠ 0 := by assumption
    have h2 : (cutHead x != Txt.mul slash (cutHead x).length) = false := by assumption
    unfold headOf
    rw [if_neg (ne0_of h1)]
    exact (if_neg (fun e => by rw [show (cutHead x != Txt.mul slash (cutHead x).length) = false from h2] at e; cases e)).symm
  · have h1 : ((cutHead x).length : Int) = 0 := by assumption
    unfold headOf
    exact (if_pos (eq0_of h1)).symm
theorem spec_join (w : World) (x y : Str) (tx ty : Tok) (hx : x.length ≤ 8) (hy : y.length ≤ 8) : Spec w 187 [.str x tx, .str y ty] (fun _ => True) (fun h h' r => ∃ t, r = .str (joinOf x y) t) 10 100 := by
  have kf9 : hd.heap_39 = hd.heap_39 ∧ PySem.Challenge.rw_ik0056_01 = PySem.Challenge.rw_ik0056_01 := by (k_fill; exact ⟨rfl, rfl⟩)
  clear kf9
  refine' spec_enterR ?ho ?hcd ?hd1 ?hp1 ?hg1 ?hloc ?hcell ?hco ?hgen ?hk ?_
  case ho => k_dflt k_is
  case hcd => k_dflt k_is
  case hd1 => decide
  case hp1 => exact rfl
  case hg1 => exact fun _ => rfl
  case hloc => exact fun _ => locs rfl
  case hcell => decide
  case hco => exact rfl
  case hgen => exact rfl
  case hk => exact rfl
  unfold P lo
  intro mean mg mb dp un gd outer base g s h₁ L D tk Q E hg B X T hp hdp hun F N hret
  (try dsimp only at F N)
  repeat' (first | (k_unfold; (try dsimp only)) | (k_end; wrow_close) | ((with_reducible show wpAny _ _ (call (Value.ref _) _) _ _ _); k_here; k_dflt (refine' use_spec (spec_getsep _ _ _) ?uB ?uF ?uN ?uX ?uT ?uA ?uf ?uk ?up ?ud ?uu ?_; (case uB => k_asm); (case uF => k_asm); (case uN => k_asm); (case uX => k_asm); (case uT => k_asm); (case uA => exact rfl); (case uf => exact rfl); (case uk => exact rfl); (case up => first | exact trivial | assumption); (case ud => (first | (refine' room_ok ?rh ?re; (case rh => assumption); (case re => exact rfl)) | (refine' room_ok0 ?rh ?re; (case rh => assumption); (case re => exact rfl)) | ktr_room)); (case uu => (first | (refine' room_ok ?rh ?re; (case rh => assumption); (case re => exact rfl)) | (refine' room_ok0 ?rh ?re; (case rh => assumption); (case re => exact rfl)) | ktr_units)); k_whole); intro r9 h9 tk9 k9 F9 N9 e9; obtain ⟨t9, e9⟩ := e9; subst e9; (try k_fold)) | ((with_reducible show wpAny _ _ (call (Value.ref _) _) _ _ _); k_here; k_dflt (refine' use_spec (spec_fspath _ _ _) ?uB ?uF ?uN ?uX ?uT ?uA ?uf ?uk ?up ?ud ?uu ?_; (case uB => k_asm); (case uF => k_asm); (case uN => k_asm); (case uX => k_asm); (case uT => k_asm); (case uA => exact rfl); (case uf => exact rfl); (case uk => exact rfl); (case up => first | exact trivial | assumption); (case ud => (first | (refine' room_ok ?rh ?re; (case rh => assumption); (case re => exact rfl)) | (refine' room_ok0 ?rh ?re; (case rh => assumption); (case re => exact rfl)) | ktr_room)); (case uu => (first | (refine' room_ok ?rh ?re; (case rh => assumption); (case re => exact rfl)) | (refine' room_ok0 ?rh ?re; (case rh => assumption); (case re => exact rfl)) | ktr_units)); k_whole); intro r9 h9 tk9 k9 F9 N9 e9; subst e9; (try k_fold)) | walk1 | (dsimp only; (first | ((with_reducible show wpAny _ _ (call (Value.ref _) _) _ _ _); k_here; k_dflt (refine' use_spec (spec_getsep _ _ _) ?uB ?uF ?uN ?uX ?uT ?uA ?uf ?uk ?up ?ud ?uu ?_; (case uB => k_asm); (case uF => k_asm); (case uN => k_asm); (case uX => k_asm); (case uT => k_asm); (case uA => exact rfl); (case uf => exact rfl); (case uk => exact rfl); (case up => first | exact trivial | assumption); (case ud => (first | (refine' room_ok ?rh ?re; (case rh => assumption); (case re => exact rfl)) | (refine' room_ok0 ?rh ?re; (case rh => assumption); (case re => exact rfl)) | ktr_room)); (case uu => (first | (refine' room_ok ?rh ?re; (case rh => assumption); (case re => exact rfl)) | (refine' room_ok0 ?rh ?re; (case rh => assumption); (case re => exact rfl)) | ktr_units)); k_whole); intro r9 h9 tk9 k9 F9 N9 e9; obtain ⟨t9, e9⟩ := e9; subst e9; (try k_fold)) | ((with_reducible show wpAny _ _ (call (Value.ref _) _) _ _ _); k_here; k_dflt (refine' use_spec (spec_fspath _ _ _) ?uB ?uF ?uN ?uX ?uT ?uA ?uf ?uk ?up ?ud ?uu ?_; (case uB => k_asm); (case uF => k_asm); (case uN => k_asm); (case uX => k_asm); (case uT => k_asm); (case uA => exact rfl); (case uf => exact rfl); (case uk => exact rfl); (case up => first | exact trivial | assumption); (case ud => (first | (refine' room_ok ?rh ?re; (case rh => assumption); (case re => exact rfl)) | (refine' room_ok0 ?rh ?re; (case rh => assumption); (case re => exact rfl)) | ktr_room)); (case uu => (first | (refine' room_ok ?rh ?re; (case rh => assumption); (case re => exact rfl)) | (refine' room_ok0 ?rh ?re; (case rh => assumption); (case re => exact rfl)) | ktr_units)); k_whole); intro r9 h9 tk9 k9 F9 N9 e9; subst e9; (try k_fold)) | walk1)) | (leave1; (try dsimp only)) | fail "no step")
  all_goals (dsimp only; refine hret _ _ _ (Fr.keep (by assumption)) ?_)
  · rename _ = true => h1
    exact ⟨_, congrArg (Value.str · _) (if_pos h1).symm⟩
  · rename _ = true => h3; rename ¬ _ => h2; rename _ = false => h1
    refine ⟨_, congrArg (Value.str · _) ?_⟩
    unfold joinOf
    rw [if_neg (by rw [show Txt.startswith y slash = false from h1]; decide), if_neg (ne0_of h2)]
    exact (if_pos h3).symm
  · rename ¬ _ => h2
    refine ⟨_, congrArg (Value.str · _) ?_⟩
    unfold joinOf
    rw [if_neg (by rw [show Txt.startswith y slash = false by assumption]; decide), if_neg (ne0_of h2)]
    exact (if_neg (by rw [show Txt.endswith x slash = false by assumption]; decide)).symm
  · rename _ = false => h1; rename (_ : Int) = 0 => h2
    refine ⟨_, congrArg (Value.str · _) ?_⟩
    unfold joinOf
    rw [if_neg (by rw [show Txt.startswith y slash = false from h1]; decide)]
    exact (if_pos (eq0_of h2)).symm
end
end Mine

end
section
open PySem PySem.W PyProof.Rows PySem.Spec PySem.Calls
namespace Mine
def b64tab : List UInt8 := [65, 66, 67, 68, 69, 70, 71, 72, 73, 74, 75, 76, 77, 78, 79, 80, 81, 82, 83, 84, 85, 86, 87, 88, 89, 90, 97, 98, 99, 100, 101, 102, 103, 104, 105, 106, 107, 108, 109, 110, 111, 112, 113, 114, 115, 116, 117, 118, 119, 120, 121, 122, 48, 49, 50, 51, 52, 53, 54, 55, 56, 57, 43, 47]
/-- the sign of a place -/
def b64At (i : Int) : Int := ((b64tab.getD i.toNat 0).toNat : Int)
theorem b64_item {prog : Program} {w : World} {A : Around} {E : Value → Shared → Prop} {s : Shared} {i : Int} {t ui : Tok} {value slice : Expr} {Q : Value → Shared → Prop}
    (hs : subscripted slice false (.bytes b64tab.toArray t) (.int (Builtin.bitAnd i 63) ui) = operate [.bytes b64tab.toArray t, .int (Builtin.bitAnd i 63) ui] (getItem (.bytes b64tab.toArray t) (.int (Builtin.bitAnd i 63) ui)))
    (ht : ∀ r, letTemporaryGo value (.bytes b64tab.toArray t) r = pure ())
    (h : 0 ≤ b64At (i % 64) → b64At (i % 64) < 256 → Q (.int (b64At (i % 64)) s.toks) { s with toks := s.toks + 1 }) :
    wpAny (model prog w) A (subscriptTail value slice (.bytes b64tab.toArray t) (.int (Builtin.bitAnd i 63) ui)) Q E s := by
  have e := bitAnd_m6 i
  have h0 : 0 ≤ Builtin.bitAnd i 63 := by rw [e]; omega
  have h1 : Builtin.bitAnd i 63 < (b64tab.length : Int) := by rw [e]; show i % 64 < 64; omega
  refine bytes_item_K (by decide) h0 h1 (k := b64At (i % 64)) (by rw [e]; rfl) (h ?_ ?_) hs ht
  · exact Int.natCast_nonneg _
  · exact Int.ofNat_lt.mpr (UInt8.toNat_lt _)
theorem bitAnd_small (x : Int) : (Builtin.bitAnd x 65535).natAbs < 2 ^ 64 := by
  rw [bitAnd_m16]; omega
local macro_rules | `(tactic| k_room) => `(tactic| ktr_room)
theorem and_low (x o : Nat) (h : o < 256) : (x * 256) &&& o = 0 := by
  apply Nat.eq_of_testBit_eq
  intro j
  rw [Nat.testBit_and, Nat.zero_testBit]
  by_cases hj : 8 ≤ j
  · rw [Nat.testBit_lt_two_pow (x := o) (i := j) (Nat.lt_of_lt_of_le h (Nat.pow_le_pow_right (by decide) hj : 2 ^ 8 ≤ 2 ^ j)), Bool.and_false]
  · rw [show x * 256 = x * 2 ^ 8 from rfl, Nat.testBit_mul_two_pow, decide_eq_false (by omega), Bool.false_and, Bool.false_and]
theorem or_low (x o : Int) (hx : 0 ≤ x) (h0 : 0 ≤ o) (h1 : o < 256) : Builtin.bitOr (x * 256) o = x * 256 + o := by
  rw [bitOr_and]
  have e : Builtin.bitAnd (x * 256) o = 0 := by
    unfold Builtin.bitAnd
    rw [decide_eq_true (show 0 ≤ x * 256 by omega), decide_eq_true h0]
    have e1 : (x * 256).toNat = x.toNat * 256 := by omega
    show (((x * 256).toNat &&& o.toNat : Nat) : Int) = 0
    rw [e1, and_low x.toNat o.toNat (by omega)]
    rfl
  omega
theorem or_step (x o : Int) (hx : 0 ≤ x) (h0 : 0 ≤ o) (h1 : o < 256) : Builtin.bitAnd (Builtin.bitOr (x * 2 ^ Int.toNat 8) o) 65535 = (x * 256 + o) % 65536 := by
  rw [bitAnd_m16, show (2 : Int) ^ Int.toNat 8 = 256 from rfl, or_low x o hx h0 h1]
abbrev Oc (o : Int) : Prop := 0 ≤ o ∧ o < 256
theorem st0 {o : Int} (h : Oc o) : Builtin.bitAnd (Builtin.bitOr (0 * 2 ^ Int.toNat 8) o) 65535 = o := by
  rw [or_step _ _ (by omega) h.1 h.2]; have := h.1; have := h.2; omega
theorem st1 {a o : Int} (ha : Oc a) (h : Oc o) : Builtin.bitAnd (Builtin.bitOr (a * 2 ^ Int.toNat 8) o) 65535 = a * 256 + o := by
  have := ha.1; have := ha.2; have := h.1; have := h.2
  rw [or_step _ _ (by omega) h.1 h.2]; omega
theorem st2 {p a o : Int} (hp : Oc p) (ha : Oc a) (h : Oc o) : Builtin.bitAnd (Builtin.bitOr ((p * 256 + a) * 2 ^ Int.toNat 8) o) 65535 = a * 256 + o := by
  have := hp.1; have := hp.2; have := ha.1; have := ha.2; have := h.1; have := h.2
  rw [or_step _ _ (by omega) h.1 h.2]; omega
theorem dv0 {o : Int} (h : Oc o) : Int.fdiv o 4 % 64 = o / 4 := by
  rw [Int.fdiv_eq_ediv_of_nonneg _ (by decide)]; have := h.1; have := h.2; omega
theorem dv1 {a o : Int} (h : Oc o) : Int.fdiv (a * 256 + o) 4 % 64 = o / 4 := by
  rw [Int.fdiv_eq_ediv_of_nonneg _ (by decide)]; have := h.1; have := h.2; omega
theorem dv2 {a o : Int} (ha : Oc a) (h : Oc o) : Int.fdiv (a * 256 + o) 16 % 64 = a % 4 * 16 + o / 16 := by
  rw [Int.fdiv_eq_ediv_of_nonneg _ (by decide)]; have := ha.1; have := ha.2; have := h.1; have := h.2; omega
theorem dv3 {a o : Int} (ha : Oc a) (h : Oc o) : Int.fdiv (a * 256 + o) 64 % 64 = a % 16 * 4 + o / 64 := by
  rw [Int.fdiv_eq_ediv_of_nonneg _ (by decide)]; have := ha.1; have := ha.2; have := h.1; have := h.2; omega
theorem dv4 {a o : Int} : Int.fdiv (a * 256 + o) 1 % 64 = o % 64 := by
  rw [Int.fdiv_eq_ediv_of_nonneg _ (by decide)]; omega
/-- the byte of a place's sign -/
def b64By (i : Int) : UInt8 := (b64At i).toNat.toUInt8
theorem b64By_eq {a b : Int} (h : a = b) : (b64At a).toNat.toUInt8 = b64By b := by rw [h]; rfl
theorem spec_b64_3 (w : World) (b : Array UInt8) (o0 o1 o2 : Int) (hb : KBw.bInts b = [o0, o1, o2]) (h0 : 0 ≤ o0 ∧ o0 < 256) (h1 : 0 ≤ o1 ∧ o1 < 256) (h2 : 0 ≤ o2 ∧ o2 < 256) (tx : Tok) : Spec w 93 [.bytes b tx] (fun _ => True) (fun _ _ r => ∃ t, r = .bytes [b64By (o0 / 4), b64By (o0 % 4 * 16 + o1 / 16), b64By (o1 % 16 * 4 + o2 / 64), b64By (o2 % 64)].toArray t) 20 200 := by
  have kf9 : hd.heap_39 = hd.heap_39 ∧ PySem.Challenge.rw_ik0056_01 = PySem.Challenge.rw_ik0056_01 := by (k_fill; exact ⟨rfl, rfl⟩)
  clear kf9
  refine' spec_enter ?ho ?hcd ?hd1 ?hb ?hloc ?hcell ?hco ?hgen ?hk ?_
  case ho => k_dflt k_is
  case hcd => k_dflt k_is
  case hd1 => decide
  case hb => (intro s hX; first | exact BindsTo.of_eq rfl | exact binds_K hX rfl (by k_dflt k_is) rfl rfl rfl)
  case hloc => exact locs rfl
  case hcell => decide
  case hco => exact rfl
  case hgen => exact rfl
  case hk => exact rfl
  unfold P lo
  intro mean mg mb dp un gd outer base g s h₁ L tk Q E hg B X T hp hdp hun F N hret
  (try dsimp only at F)
  repeat' (first | (k_unfold; (try dsimp only)) | (k_end; wrow_close) | (with_reducible ((with_reducible show wpAny _ _ (pyIter (Value.bytes _ _)) (fun it s₂ => LoopAtV _ _ _ _ _ _ _ _ _ it s₂) _ _); (rename Fr _ _ _ _ => lF'); (rename News _ _ _ _ => lN'); (with_unfolding_all refine iter_bytesUnr (by rfl) lF' lN' (by assumption) ?_); clear lF' lN'; intro i' l1; (try k_lt l1))) | ((with_reducible show wpAny _ _ (call (Value.ref _) _) _ _ _); k_here; k_dflt (refine' use_spec (spec_truth _) ?uB ?uF ?uN ?uX ?uT ?uA ?uf ?uk ?up ?ud ?uu ?_; (case uB => k_asm); (case uF => k_asm); (case uN => k_asm); (case uX => k_asm); (case uT => k_asm); (case uA => exact rfl); (case uf => exact rfl); (case uk => exact rfl); (case up => first | exact trivial | assumption); (case ud => (first | (refine' room_ok ?rh ?re; (case rh => assumption); (case re => exact rfl)) | (refine' room_ok0 ?rh ?re; (case rh => assumption); (case re => exact rfl)) | ktr_room)); (case uu => (first | (refine' room_ok ?rh ?re; (case rh => assumption); (case re => exact rfl)) | (refine' room_ok0 ?rh ?re; (case rh => assumption); (case re => exact rfl)) | ktr_units)); k_whole); intro r9 h9 tk9 k9 F9 N9 e9; subst e9; (try k_fold)) | ((with_reducible show wpAny _ _ (call (Value.ref _) _) _ _ _); k_here; k_dflt (refine' use_spec (spec_buffer _ _ _) ?uB ?uF ?uN ?uX ?uT ?uA ?uf ?uk ?up ?ud ?uu ?_; (case uB => k_asm); (case uF => k_asm); (case uN => k_asm); (case uX => k_asm); (case uT => k_asm); (case uA => exact rfl); (case uf => exact rfl); (case uk => exact rfl); (case up => first | exact trivial | assumption); (case ud => (first | (refine' room_ok ?rh ?re; (case rh => assumption); (case re => exact rfl)) | (refine' room_ok0 ?rh ?re; (case rh => assumption); (case re => exact rfl)) | ktr_room)); (case uu => (first | (refine' room_ok ?rh ?re; (case rh => assumption); (case re => exact rfl)) | (refine' room_ok0 ?rh ?re; (case rh => assumption); (case re => exact rfl)) | ktr_units)); k_whole); intro r9 h9 tk9 k9 F9 N9 e9; subst e9; (try k_fold)) | (k_here; (with_reducible show wpAny _ _ (call (Value.builtin _) [Value.ref _, Value.int _ _]) _ _ _); k_dflt (refine' append_int ?F ?N ?U ?z ?_; (case F => k_asm); (case N => k_asm); (case U => k_updF); (case z => exact Nat.le_of_ble_eq_true rfl); k_whole); intro h' t' F' N'; (try simp only [List.nil_append, List.cons_append] at N'); (try k_sweep)) | (k_here; (with_reducible show wpAny _ _ (storeName _ _ (Value.int _ _)) _ _ _); k_dflt (refine' st_int ?F ?N ?hx ?hk ?_; (case F => k_asm); (case N => k_asm); (case hx => exact rfl); (case hk => exact rfl); k_whole); intro h' k' t' F' N'; (try k_sweep)) | (k_here; (with_reducible show wpAny _ _ (call (Value.type "bytes") [Value.ref _]) _ _ _); k_dflt (refine' bytes_K ?F ?N ?l ?i ?r ?z ?h ?_; (case F => k_asm); (case N => k_asm); (case l => exact ⟨_, News.get (by k_asm) (by k_mem), rfl, _, rfl⟩); (case i => repeat (first | exact IntsAre.nil | refine IntsAre.cons _ _ ?_)); (case r => by_in); (case z => exact Nat.le_of_ble_eq_true rfl); (case h => with_unfolding_all rfl); k_whole); intro h' t' k' F' N' hB') | (with_reducible ((with_reducible show wpAny _ _ (binaryOp _ (Value.int (Builtin.bitAnd _ 65535) _) _) _ _ _); refine lshift_int_small (by decide) (by decide) (bitAnd_small _) ?_)) | (k_here; (with_reducible show wpAny _ _ (subscriptTail _ _ (Value.bytes _ _) (Value.int (Builtin.bitAnd _ 63) _)) _ _ _); k_dflt (refine' b64_item ?hs ?ht ?_; (case hs => with_unfolding_all rfl); (case ht => (intro _; with_unfolding_all rfl)); k_whole; intro _ _)) | walk1 | ((with_reducible show wpAny _ _ (pyIter (Value.bytes _ _)) (fun it s₂ => LoopAtV _ _ _ _ _ _ _ _ _ it s₂) _ _); (rename Fr _ _ _ _ => lF'); (rename News _ _ _ _ => lN'); (with_unfolding_all refine iter_bytesUnr (by rfl) lF' lN' (by assumption) ?_); clear lF' lN'; intro i' l1; (try k_lt l1)) | ((with_reducible show wpAny _ _ (binaryOp _ (Value.int (Builtin.bitAnd _ 65535) _) _) _ _ _); refine lshift_int_small (by decide) (by decide) (bitAnd_small _) ?_) | (dsimp only; (first | (with_reducible ((with_reducible show wpAny _ _ (pyIter (Value.bytes _ _)) (fun it s₂ => LoopAtV _ _ _ _ _ _ _ _ _ it s₂) _ _); (rename Fr _ _ _ _ => lF'); (rename News _ _ _ _ => lN'); (with_unfolding_all refine iter_bytesUnr (by rfl) lF' lN' (by assumption) ?_); clear lF' lN'; intro i' l1; (try k_lt l1))) | ((with_reducible show wpAny _ _ (call (Value.ref _) _) _ _ _); k_here; k_dflt (refine' use_spec (spec_truth _) ?uB ?uF ?uN ?uX ?uT ?uA ?uf ?uk ?up ?ud ?uu ?_; (case uB => k_asm); (case uF => k_asm); (case uN => k_asm); (case uX => k_asm); (case uT => k_asm); (case uA => exact rfl); (case uf => exact rfl); (case uk => exact rfl); (case up => first | exact trivial | assumption); (case ud => (first | (refine' room_ok ?rh ?re; (case rh => assumption); (case re => exact rfl)) | (refine' room_ok0 ?rh ?re; (case rh => assumption); (case re => exact rfl)) | ktr_room)); (case uu => (first | (refine' room_ok ?rh ?re; (case rh => assumption); (case re => exact rfl)) | (refine' room_ok0 ?rh ?re; (case rh => assumption); (case re => exact rfl)) | ktr_units)); k_whole); intro r9 h9 tk9 k9 F9 N9 e9; subst e9; (try k_fold)) | ((with_reducible show wpAny _ _ (call (Value.ref _) _) _ _ _); k_here; k_dflt (refine' use_spec (spec_buffer _ _ _) ?uB ?uF ?uN ?uX ?uT ?uA ?uf ?uk ?up ?ud ?uu ?_; (case uB => k_asm); (case uF => k_asm); (case uN => k_asm); (case uX => k_asm); (case uT => k_asm); (case uA => exact rfl); (case uf => exact rfl); (case uk => exact rfl); (case up => first | exact trivial | assumption); (case ud => (first | (refine' room_ok ?rh ?re; (case rh => assumption); (case re => exact rfl)) | (refine' room_ok0 ?rh ?re; (case rh => assumption); (case re => exact rfl)) | ktr_room)); (case uu => (first | (refine' room_ok ?rh ?re; (case rh => assumption); (case re => exact rfl)) | (refine' room_ok0 ?rh ?re; (case rh => assumption); (case re => exact rfl)) | ktr_units)); k_whole); intro r9 h9 tk9 k9 F9 N9 e9; subst e9; (try k_fold)) | (k_here; (with_reducible show wpAny _ _ (call (Value.builtin _) [Value.ref _, Value.int _ _]) _ _ _); k_dflt (refine' append_int ?F ?N ?U ?z ?_; (case F => k_asm); (case N => k_asm); (case U => k_updF); (case z => exact Nat.le_of_ble_eq_true rfl); k_whole); intro h' t' F' N'; (try simp only [List.nil_append, List.cons_append] at N'); (try k_sweep)) | (k_here; (with_reducible show wpAny _ _ (storeName _ _ (Value.int _ _)) _ _ _); k_dflt (refine' st_int ?F ?N ?hx ?hk ?_; (case F => k_asm); (case N => k_asm); (case hx => exact rfl); (case hk => exact rfl); k_whole); intro h' k' t' F' N'; (try k_sweep)) | (k_here; (with_reducible show wpAny _ _ (call (Value.type "bytes") [Value.ref _]) _ _ _); k_dflt (refine' bytes_K ?F ?N ?l ?i ?r ?z ?h ?_; (case F => k_asm); (case N => k_asm); (case l => exact ⟨_, News.get (by k_asm) (by k_mem), rfl, _, rfl⟩); (case i => repeat (first | exact IntsAre.nil | refine IntsAre.cons _ _ ?_)); (case r => by_in); (case z => exact Nat.le_of_ble_eq_true rfl); (case h => with_unfolding_all rfl); k_whole); intro h' t' k' F' N' hB') | (with_reducible ((with_reducible show wpAny _ _ (binaryOp _ (Value.int (Builtin.bitAnd _ 65535) _) _) _ _ _); refine lshift_int_small (by decide) (by decide) (bitAnd_small _) ?_)) | (k_here; (with_reducible show wpAny _ _ (subscriptTail _ _ (Value.bytes _ _) (Value.int (Builtin.bitAnd _ 63) _)) _ _ _); k_dflt (refine' b64_item ?hs ?ht ?_; (case hs => with_unfolding_all rfl); (case ht => (intro _; with_unfolding_all rfl)); k_whole; intro _ _)) | walk1 | ((with_reducible show wpAny _ _ (pyIter (Value.bytes _ _)) (fun it s₂ => LoopAtV _ _ _ _ _ _ _ _ _ it s₂) _ _); (rename Fr _ _ _ _ => lF'); (rename News _ _ _ _ => lN'); (with_unfolding_all refine iter_bytesUnr (by rfl) lF' lN' (by assumption) ?_); clear lF' lN'; intro i' l1; (try k_lt l1)) | ((with_reducible show wpAny _ _ (binaryOp _ (Value.int (Builtin.bitAnd _ 65535) _) _) _ _ _); refine lshift_int_small (by decide) (by decide) (bitAnd_small _) ?_))) | (leave1; (try dsimp only)) | fail "no step")
  have e0 : Builtin.bitAnd (Builtin.bitOr (0 * 2 ^ Int.toNat 8) o0) 65535 = o0 := st0 h0
  have e1 : Builtin.bitAnd (Builtin.bitOr (o0 * 2 ^ Int.toNat 8) o1) 65535 = (o0 * 256 + o1) := st1 h0 h1
  have e2 : Builtin.bitAnd (Builtin.bitOr ((o0 * 256 + o1) * 2 ^ Int.toNat 8) o2) 65535 = (o1 * 256 + o2) := st2 h0 h1 h2
  simp only [e0, e1, e2]
  refine hret _ _ _ (Fr.keep (by assumption)) ⟨_, congrArg (Value.bytes · _) (congrArg List.toArray ?_)⟩
  refine congr (congrArg List.cons (b64By_eq (dv0 h0))) ?_
  refine congr (congrArg List.cons (b64By_eq (dv2 h0 h1))) ?_
  refine congr (congrArg List.cons (b64By_eq (dv3 h1 h2))) ?_
  refine congr (congrArg List.cons (b64By_eq (dv4))) ?_
  rfl
theorem spec_b64_6 (w : World) (b : Array UInt8) (o0 o1 o2 o3 o4 o5 : Int) (hb : KBw.bInts b = [o0, o1, o2, o3, o4, o5]) (h0 : 0 ≤ o0 ∧ o0 < 256) (h1 : 0 ≤ o1 ∧ o1 < 256) (h2 : 0 ≤ o2 ∧ o2 < 256) (h3 : 0 ≤ o3 ∧ o3 < 256) (h4 : 0 ≤ o4 ∧ o4 < 256) (h5 : 0 ≤ o5 ∧ o5 < 256) (tx : Tok) : Spec w 93 [.bytes b tx] (fun _ => True) (fun _ _ r => ∃ t, r = .bytes [b64By (o0 / 4), b64By (o0 % 4 * 16 + o1 / 16), b64By (o1 % 16 * 4 + o2 / 64), b64By (o2 % 64), b64By (o3 / 4), b64By (o3 % 4 * 16 + o4 / 16), b64By (o4 % 16 * 4 + o5 / 64), b64By (o5 % 64)].toArray t) 20 200 := by
  have kf9 : hd.heap_39 = hd.heap_39 ∧ PySem.Challenge.rw_ik0056_01 = PySem.Challenge.rw_ik0056_01 := by (k_fill; exact ⟨rfl, rfl⟩)
  clear kf9
  refine' spec_enter ?ho ?hcd ?hd1 ?hb ?hloc ?hcell ?hco ?hgen ?hk ?_
  case ho => k_dflt k_is
  case hcd => k_dflt k_is
  case hd1 => decide
  case hb => (intro s hX; first | exact BindsTo.of_eq rfl | exact binds_K hX rfl (by k_dflt k_is) rfl rfl rfl)
  case hloc => exact locs rfl
  case hcell => decide
  case hco => exact rfl
  case hgen => exact rfl
  case hk => exact rfl
  unfold P lo
  intro mean mg mb dp un gd outer base g s h₁ L tk Q E hg B X T hp hdp hun F N hret
  (try dsimp only at F)
  repeat' (first | (k_unfold; (try dsimp only)) | (k_end; wrow_close) | (with_reducible ((with_reducible show wpAny _ _ (pyIter (Value.bytes _ _)) (fun it s₂ => LoopAtV _ _ _ _ _ _ _ _ _ it s₂) _ _); (rename Fr _ _ _ _ => lF'); (rename News _ _ _ _ => lN'); (with_unfolding_all refine iter_bytesUnr (by rfl) lF' lN' (by assumption) ?_); clear lF' lN'; intro i' l1; (try k_lt l1))) | ((with_reducible show wpAny _ _ (call (Value.ref _) _) _ _ _); k_here; k_dflt (refine' use_spec (spec_truth _) ?uB ?uF ?uN ?uX ?uT ?uA ?uf ?uk ?up ?ud ?uu ?_; (case uB => k_asm); (case uF => k_asm); (case uN => k_asm); (case uX => k_asm); (case uT => k_asm); (case uA => exact rfl); (case uf => exact rfl); (case uk => exact rfl); (case up => first | exact trivial | assumption); (case ud => (first | (refine' room_ok ?rh ?re; (case rh => assumption); (case re => exact rfl)) | (refine' room_ok0 ?rh ?re; (case rh => assumption); (case re => exact rfl)) | ktr_room)); (case uu => (first | (refine' room_ok ?rh ?re; (case rh => assumption); (case re => exact rfl)) | (refine' room_ok0 ?rh ?re; (case rh => assumption); (case re => exact rfl)) | ktr_units)); k_whole); intro r9 h9 tk9 k9 F9 N9 e9; subst e9; (try k_fold)) | ((with_reducible show wpAny _ _ (call (Value.ref _) _) _ _ _); k_here; k_dflt (refine' use_spec (spec_buffer _ _ _) ?uB ?uF ?uN ?uX ?uT ?uA ?uf ?uk ?up ?ud ?uu ?_; (case uB => k_asm); (case uF => k_asm); (case uN => k_asm); (case uX => k_asm); (case uT => k_asm); (case uA => exact rfl); (case uf => exact rfl); (case uk => exact rfl); (case up => first | exact trivial | assumption); (case ud => (first | (refine' room_ok ?rh ?re; (case rh => assumption); (case re => exact rfl)) | (refine' room_ok0 ?rh ?re; (case rh => assumption); (case re => exact rfl)) | ktr_room)); (case uu => (first | (refine' room_ok ?rh ?re; (case rh => assumption); (case re => exact rfl)) | (refine' room_ok0 ?rh ?re; (case rh => assumption); (case re => exact rfl)) | ktr_units)); k_whole); intro r9 h9 tk9 k9 F9 N9 e9; subst e9; (try k_fold)) | (k_here; (with_reducible show wpAny _ _ (call (Value.builtin _) [Value.ref _, Value.int _ _]) _ _ _); k_dflt (refine' append_int ?F ?N ?U ?z ?_; (case F => k_asm); (case N => k_asm); (case U => k_updF); (case z => exact Nat.le_of_ble_eq_true rfl); k_whole); intro h' t' F' N'; (try simp only [List.nil_append, List.cons_append] at N'); (try k_sweep)) | (k_here; (with_reducible show wpAny _ _ (storeName _ _ (Value.int _ _)) _ _ _); k_dflt (refine' st_int ?F ?N ?hx ?hk ?_; (case F => k_asm); (case N => k_asm); (case hx => exact rfl); (case hk => exact rfl); k_whole); intro h' k' t' F' N'; (try k_sweep)) | (k_here; (with_reducible show wpAny _ _ (call (Value.type "bytes") [Value.ref _]) _ _ _); k_dflt (refine' bytes_K ?F ?N ?l ?i ?r ?z ?h ?_; (case F => k_asm); (case N => k_asm); (case l => exact ⟨_, News.get (by k_asm) (by k_mem), rfl, _, rfl⟩); (case i => repeat (first | exact IntsAre.nil | refine IntsAre.cons _ _ ?_)); (case r => by_in); (case z => exact Nat.le_of_ble_eq_true rfl); (case h => with_unfolding_all rfl); k_whole); intro h' t' k' F' N' hB') | (with_reducible ((with_reducible show wpAny _ _ (binaryOp _ (Value.int (Builtin.bitAnd _ 65535) _) _) _ _ _); refine lshift_int_small (by decide) (by decide) (bitAnd_small _) ?_)) | (k_here; (with_reducible show wpAny _ _ (subscriptTail _ _ (Value.bytes _ _) (Value.int (Builtin.bitAnd _ 63) _)) _ _ _); k_dflt (refine' b64_item ?hs ?ht ?_; (case hs => with_unfolding_all rfl); (case ht => (intro _; with_unfolding_all rfl)); k_whole; intro _ _)) | walk1 | ((with_reducible show wpAny _ _ (pyIter (Value.bytes _ _)) (fun it s₂ => LoopAtV _ _ _ _ _ _ _ _ _ it s₂) _ _); (rename Fr _ _ _ _ => lF'); (rename News _ _ _ _ => lN'); (with_unfolding_all refine iter_bytesUnr (by rfl) lF' lN' (by assumption) ?_); clear lF' lN'; intro i' l1; (try k_lt l1)) | ((with_reducible show wpAny _ _ (binaryOp _ (Value.int (Builtin.bitAnd _ 65535) _) _) _ _ _); refine lshift_int_small (by decide) (by decide) (bitAnd_small _) ?_) | (dsimp only; (first | (with_reducible ((with_reducible show wpAny _ _ (pyIter (Value.bytes _ _)) (fun it s₂ => LoopAtV _ _ _ _ _ _ _ _ _ it s₂) _ _); (rename Fr _ _ _ _ => lF'); (rename News _ _ _ _ => lN'); (with_unfolding_all refine iter_bytesUnr (by rfl) lF' lN' (by assumption) ?_); clear lF' lN'; intro i' l1; (try k_lt l1))) | ((with_reducible show wpAny _ _ (call (Value.ref _) _) _ _ _); k_here; k_dflt (refine' use_spec (spec_truth _) ?uB ?uF ?uN ?uX ?uT ?uA ?uf ?uk ?up ?ud ?uu ?_; (case uB => k_asm); (case uF => k_asm); (case uN => k_asm); (case uX => k_asm); (case uT => k_asm); (case uA => exact rfl); (case uf => exact rfl); (case uk => exact rfl); (case up => first | exact trivial | assumption); (case ud => (first | (refine' room_ok ?rh ?re; (case rh => assumption); (case re => exact rfl)) | (refine' room_ok0 ?rh ?re; (case rh => assumption); (case re => exact rfl)) | ktr_room)); (case uu => (first | (refine' room_ok ?rh ?re; (case rh => assumption); (case re => exact rfl)) | (refine' room_ok0 ?rh ?re; (case rh => assumption); (case re => exact rfl)) | ktr_units)); k_whole); intro r9 h9 tk9 k9 F9 N9 e9; subst e9; (try k_fold)) | ((with_reducible show wpAny _ _ (call (Value.ref _) _) _ _ _); k_here; k_dflt (refine' use_spec (spec_buffer _ _ _) ?uB ?uF ?uN ?uX ?uT ?uA ?uf ?uk ?up ?ud ?uu ?_; (case uB => k_asm); (case uF => k_asm); (case uN => k_asm); (case uX => k_asm); (case uT => k_asm); (case uA => exact rfl); (case uf => exact rfl); (case uk => exact rfl); (case up => first | exact trivial | assumption); (case ud => (first | (refine' room_ok ?rh ?re; (case rh => assumption); (case re => exact rfl)) | (refine' room_ok0 ?rh ?re; (case rh => assumption); (case re => exact rfl)) | ktr_room)); (case uu => (first | (refine' room_ok ?rh ?re; (case rh => assumption); (case re => exact rfl)) | (refine' room_ok0 ?rh ?re; (case rh => assumption); (case re => exact rfl)) | ktr_units)); k_whole); intro r9 h9 tk9 k9 F9 N9 e9; subst e9; (try k_fold)) | (k_here; (with_reducible show wpAny _ _ (call (Value.builtin _) [Value.ref _, Value.int _ _]) _ _ _); k_dflt (refine' append_int ?F ?N ?U ?z ?_; (case F => k_asm); (case N => k_asm); (case U => k_updF); (case z => exact Nat.le_of_ble_eq_true rfl); k_whole); intro h' t' F' N'; (try simp only [List.nil_append, List.cons_append] at N'); (try k_sweep)) | (k_here; (with_reducible show wpAny _ _ (storeName _ _ (Value.int _ _)) _ _ _); k_dflt (refine' st_int ?F ?N ?hx ?hk ?_; (case F => k_asm); (case N => k_asm); (case hx => exact rfl); (case hk => exact rfl); k_whole); intro h' k' t' F' N'; (try k_sweep)) | (k_here; (with_reducible show wpAny _ _ (call (Value.type "bytes") [Value.ref _]) _ _ _); k_dflt (refine' bytes_K ?F ?N ?l ?i ?r ?z ?h ?_; (case F => k_asm); (case N => k_asm); (case l => exact ⟨_, News.get (by k_asm) (by k_mem), rfl, _, rfl⟩); (case i => repeat (first | exact IntsAre.nil | refine IntsAre.cons _ _ ?_)); (case r => by_in); (case z => exact Nat.le_of_ble_eq_true rfl); (case h => with_unfolding_all rfl); k_whole); intro h' t' k' F' N' hB') | (with_reducible ((with_reducible show wpAny _ _ (binaryOp _ (Value.int (Builtin.bitAnd _ 65535) _) _) _ _ _); refine lshift_int_small (by decide) (by decide) (bitAnd_small _) ?_)) | (k_here; (with_reducible show wpAny _ _ (subscriptTail _ _ (Value.bytes _ _) (Value.int (Builtin.bitAnd _ 63) _)) _ _ _); k_dflt (refine' b64_item ?hs ?ht ?_; (case hs => with_unfolding_all rfl); (case ht => (intro _; with_unfolding_all rfl)); k_whole; intro _ _)) | walk1 | ((with_reducible show wpAny _ _ (pyIter (Value.bytes _ _)) (fun it s₂ => LoopAtV _ _ _ _ _ _ _ _ _ it s₂) _ _); (rename Fr _ _ _ _ => lF'); (rename News _ _ _ _ => lN'); (with_unfolding_all refine iter_bytesUnr (by rfl) lF' lN' (by assumption) ?_); clear lF' lN'; intro i' l1; (try k_lt l1)) | ((with_reducible show wpAny _ _ (binaryOp _ (Value.int (Builtin.bitAnd _ 65535) _) _) _ _ _); refine lshift_int_small (by decide) (by decide) (bitAnd_small _) ?_))) | (leave1; (try dsimp only)) | fail "no step")
  have e0 : Builtin.bitAnd (Builtin.bitOr (0 * 2 ^ Int.toNat 8) o0) 65535 = o0 := st0 h0
  have e1 : Builtin.bitAnd (Builtin.bitOr (o0 * 2 ^ Int.toNat 8) o1) 65535 = (o0 * 256 + o1) := st1 h0 h1
  have e2 : Builtin.bitAnd (Builtin.bitOr ((o0 * 256 + o1) * 2 ^ Int.toNat 8) o2) 65535 = (o1 * 256 + o2) := st2 h0 h1 h2
  have e3 : Builtin.bitAnd (Builtin.bitOr ((o1 * 256 + o2) * 2 ^ Int.toNat 8) o3) 65535 = (o2 * 256 + o3) := st2 h1 h2 h3
  have e4 : Builtin.bitAnd (Builtin.bitOr ((o2 * 256 + o3) * 2 ^ Int.toNat 8) o4) 65535 = (o3 * 256 + o4) := st2 h2 h3 h4
  have e5 : Builtin.bitAnd (Builtin.bitOr ((o3 * 256 + o4) * 2 ^ Int.toNat 8) o5) 65535 = (o4 * 256 + o5) := st2 h3 h4 h5
  simp only [e0, e1, e2, e3, e4, e5]
  refine hret _ _ _ (Fr.keep (by assumption)) ⟨_, congrArg (Value.bytes · _) (congrArg List.toArray ?_)⟩
  refine congr (congrArg List.cons (b64By_eq (dv0 h0))) ?_
  refine congr (congrArg List.cons (b64By_eq (dv2 h0 h1))) ?_
  refine congr (congrArg List.cons (b64By_eq (dv3 h1 h2))) ?_
  refine congr (congrArg List.cons (b64By_eq (dv4))) ?_
  refine congr (congrArg List.cons (b64By_eq (dv1 h3))) ?_
  refine congr (congrArg List.cons (b64By_eq (dv2 h3 h4))) ?_
  refine congr (congrArg List.cons (b64By_eq (dv3 h4 h5))) ?_
  refine congr (congrArg List.cons (b64By_eq (dv4))) ?_
  rfl
end Mine

end
section
open PySem PySem.W PyProof.Rows PySem.Spec PySem.Calls
namespace Mine
section
variable {M : Model} {A : Around} {E : Value → Shared → Prop} {s : Shared} {h₀ : Heap} {L a c Pt : Addr} {m mg mb : Str → Option Value} {cn : Str} {cs : Scope} {ccd : Value} {cl : List (Str × Addr)} {news : List (Addr × Obj)}
  {p : Program} {loose : List Str} {mean : ExcName → Option Value} {name qual : Str} {params : Arguments} {body : List Stmt} {scope : Scope} {ps : Array Value} {pos : Pos} {firstLine : Nat} {clos : List (Str × Addr)}
/-- a def made once more: its code lies in the table already, and the table in the base -/
theorem nestHitB {Q : Value → Shared → Prop} {c' : Addr} (F : Fr h₀ L s.heap m) (N : News h₀ L s.heap news) (T : Top p loose mean mg mb h₀) (C : CodeHd h₀ c Pt) (hcd : ccd = .ref c) (hP : h₀.get? Pt = some (tabObj ps)) (ht : TriplesOk ps.toList) (hf : codeAmong pos ps.toList = some (.ref c'))
    (hcl : closureFor scope (envX cn cs L a ccd cl) = pure clos)
    (h : ∀ f ctv doc pm h' tk, Fr h₀ L h' m → News h₀ L h' ((f, fnMade name qual params body scope clos doc pm c' ctv) :: news) → (∀ q ∈ news, q.1 < f) → Q (.ref f) { s with heap := h', toks := tk }) :
    wpAny M A (makeFunction name qual params (.stmts body) scope (envX cn cs L a ccd cl) [] [] [] pos firstLine) Q E s := by
  have hgs := T.g.keeps F.keep
  obtain ⟨bm, ob, b1, b2, b3, b4, b5, b6⟩ := T.bmain
  have hbP : bm ≠ Pt := fun q => by
    rw [q, hP] at b3; cases b3; cases b4
  have hbG : bm ≠ mainGlobals := fun q => by
    obtain ⟨o, es, ep, e, hd, _⟩ := T.g
    rw [q, e] at b3; cases b3; rw [hd] at b6; cases b6
  refine makeFunction_hit (mg := mg) hcl rfl hgs hcd (C.keeps F.keep) (F.keep _ _ hP) ht hf ⟨bm, ob, b1, b2, hbG, hbP, F.keep _ _ b3, b4, b5, b6⟩ fun ctv doc h' tk hk hsz => ?_
  have hLs : L < h'.objs.size := Nat.lt_of_lt_of_le F.ns.lt hsz
  have fresh : ∀ b, L < b → h₀.get? b = none := fun b hb => Heap.get?_none_of_le (Nat.le_trans F.above (Nat.le_of_lt hb))
  refine h h'.objs.size ctv doc ((mg "__name__").getD .none) _ tk ⟨(F.ns.keeps hk).push _, fun b o e => Heap.get?_push_of_some _ (hk b o (F.keep b o e)), F.above⟩ (fun q hq => ?_) (fun q hq => Nat.lt_of_lt_of_le (Heap.lt_size (N q hq).1) hsz)
  rcases List.mem_cons.mp hq with rfl | hq
  · exact ⟨Heap.get?_push_size _ rfl, Nat.ne_of_gt hLs, fresh _ hLs⟩
  · exact ⟨Heap.get?_push_of_some _ (hk _ _ (N q hq).1), (N q hq).2⟩
end
local macro_rules | `(tactic| k_room) => `(tactic| ktr_room)
/-- the table P of the code c holds the code c' of the inner def, made at line, col -/
def Warm (c Pt : Addr) (line col : Nat) (qual : Str) (c' : Addr) (h : Heap) : Prop := CodeHd h c Pt ∧ h.get? Pt = some (tabObj #[rawInt line, rawInt col, .ref c']) ∧ h.CodeRec (.ref c') qual

theorem nameX_FB {M : Model} {A : Around} {E : Value → Shared → Prop} {s : Shared} {h₀ : Heap} {L a : Addr} {m : Str → Option Value} {cn : Str} {cs : Scope} {ccd : Value} {cl : List (Str × Addr)} {x : Str} {pos : Pos} {v : Value} {Q : Value → Shared → Prop} {c : Addr} {o : Obj}
    (hk : cs.kind = .function) (hx : (envX cn cs L a ccd cl).kindOf x = some .free) (hc : cl.lookup x = some c) (F : Fr h₀ L s.heap m) (ho : h₀.get? c = some o) (hv : o.data = .cell (some v)) (h : Q v s)
    (hb : (x == ("__debug__" : Str)) = false := by decide) (hn : (x == ("__classdict__" : Str)) = false := by decide) :
    wpAny M A (eval (.Name x pos) (envX cn cs L a ccd cl)) Q E s := wpAny_Name (wpAny_loadName_free hk hx hc ⟨_, F.keep _ _ ho, hv⟩ h hn) hb
theorem fnAt_base {h₀ h : Heap} {L f : Addr} {m : Str → Option Value} {name qual : Str} {params : Arguments} {body : List Stmt} {scope : Scope} {cl : List (Str × Addr)} {doc pm ctv : Value} {c' : Addr} (F : Fr h₀ L h m) (e : h₀.get? f = some (fnMade name qual params body scope cl doc pm c' ctv)) : FnAt f h := ⟨_, _, _, _, F.keep _ _ e⟩
local macro_rules | `(tactic| walk_at "FnAt") => `(tactic| (k_dflt (exact fnAt_base (by k_asm) (by assumption))))
/-- the inner def of a def of the text -/
def innerOf (nm : Str) : Option (Arguments × List Stmt × Scope) := match P.theDef nm with
  | some (_, .FunctionDef _ a b _ _ _ sc _ _ _ :: _, _) => some (a, b, sc)
  | _ => none
abbrev nmD : Str := Str.ofString "_digits2int"
noncomputable def iArgsD : Arguments := match innerOf nmD with | some x => x.1 | none => ⟨[], [], none, [], [], none, []⟩
noncomputable def iBodyD : List Stmt := match innerOf nmD with | some x => x.2.1 | none => []
noncomputable def iScopeD : Scope := match innerOf nmD with | some x => x.2.2 | none => ⟨.function, [], false, false, []⟩
abbrev iQualD : Str := Str.ofString "_digits2int.<locals>.inner"
abbrev CellIs (h : Heap) (c : Addr) (v : Value) : Prop := ∃ o, h.get? c = some o ∧ o.data = .cell (some v)
def PreD (f cD cN cI l : Addr) (doc pm ctv : Value) (c' : Addr) (vs : List Value) (nn : Int) (tn : Tok) (h : Heap) : Prop :=
  h.get? f = some (fnMade (Str.ofString "inner") iQualD iArgsD iBodyD iScopeD [(Str.ofString "n", cN), (Str.ofString "inner", cI), (Str.ofString "digits", cD)] doc pm c' ctv) ∧ h.CodeRec (.ref c') iQualD ∧
    CellIs h cD (.ref l) ∧ CellIs h cN (.int nn tn) ∧ CellIs h cI (.ref f) ∧ h.IsList l vs.toArray
theorem preD_keep {f cD cN cI l : Addr} {doc pm ctv : Value} {c' : Addr} {vs : List Value} {nn : Int} {tn : Tok} {h h' : Heap} (p : PreD f cD cN cI l doc pm ctv c' vs nn tn h) (k : Kept h h') : PreD f cD cN cI l doc pm ctv c' vs nn tn h' := by
  obtain ⟨hf, ⟨c, o, vs', t, r1, r2, r3⟩, ⟨oD, hD, hDd⟩, ⟨oN, hN, hNd⟩, ⟨oI, hIc, hId⟩, ⟨ol, hl, r⟩⟩ := p
  exact ⟨k _ _ hf, ⟨c, o, vs', t, r1, k _ _ r2, r3⟩, ⟨oD, k _ _ hD, hDd⟩, ⟨oN, k _ _ hN, hNd⟩, ⟨oI, k _ _ hIc, hId⟩, ⟨ol, k _ _ hl, r⟩⟩
theorem shr1 (x : Int) : x.fdiv (2 ^ Int.toNat 1) = x / 2 := by rw [Int.fdiv_eq_ediv_of_nonneg _ (by decide)]; rfl
theorem qual_d (L : Addr) : qualnameIn (envOfC (Str.ofString "_digits2int") { kind := .function, names := [(Str.ofString "digits", .cell), (Str.ofString "n", .cell), (Str.ofString "inner", .cell), (Str.ofString "len", .globalImplicit)], isGenerator := false, isCoroutine := false } L 49 (.ref 48)) (Str.ofString "inner") (Str.ofString "inner") = iQualD := by kernel_rfl
theorem preD_mk {f cD cN cI l : Addr} {doc pm ctv : Value} {c' : Addr} {vs : List Value} {nn : Int} {tn : Tok} {h : Heap} {oD oN oI : Obj}
    (hf : h.get? f = some (fnMade (Str.ofString "inner") iQualD iArgsD iBodyD iScopeD [(Str.ofString "n", cN), (Str.ofString "inner", cI), (Str.ofString "digits", cD)] doc pm c' ctv)) (hcd : h.CodeRec (.ref c') iQualD)
    (hD : h.get? cD = some oD) (hDd : oD.data = .cell (some (.ref l))) (hN : h.get? cN = some oN) (hNd : oN.data = .cell (some (.int nn tn))) (hI : h.get? cI = some oI) (hId : oI.data = .cell (some (.ref f))) (hl : h.IsList l vs.toArray) :
    PreD f cD cN cI l doc pm ctv c' vs nn tn h := ⟨hf, hcd, ⟨_, hD, hDd⟩, ⟨_, hN, hNd⟩, ⟨_, hI, hId⟩, hl⟩
/-- the claim of the inner def, to a depth of k -/
def InnerD (w : World) (f cD cN cI l : Addr) (doc pm ctv : Value) (c' : Addr) (vs : List Value) (ns : List Int) (nn : Nat) (tn : Tok) (k : Nat) : Prop :=
  ∀ (L R : Int) (tL tR : Tok), 0 ≤ L → L < R → R ≤ ns.length → (R - L).toNat ≤ k →
    Spec w f [.int L tL, .int R tR] (PreD f cD cN cI l doc pm ctv c' vs nn tn) (fun _ _ r => ∃ t, r = .int (seg nn ns L R) t) (k + 1) (8 * k + 40)
theorem ih_d {w : World} {f cD cN cI l : Addr} {doc pm ctv : Value} {c' : Addr} {vs : List Value} {ns : List Int} {nn : Nat} {tn : Tok} {k : Nat} (H : InnerD w f cD cN cI l doc pm ctv c' vs ns nn tn k) {L R : Int} {tL tR : Tok} (h0 : 0 ≤ L) (h1 : L < R) (h2 : R ≤ ns.length) (h3 : (R - L).toNat ≤ k) :
    Spec w f [.int L tL, .int R tR] (PreD f cD cN cI l doc pm ctv c' vs nn tn) (fun _ _ r => ∃ t, r = .int (seg nn ns L R) t) (k + 1) (8 * k + 40) := H L R tL tR h0 h1 h2 h3
theorem mid_b {L R : Int} (h1 : L < R) (hne : ¬ L + 1 = R) : L < (L + R).fdiv (2 ^ Int.toNat 1) ∧ (L + R).fdiv (2 ^ Int.toNat 1) < R := by
  rw [shr1]; omega
theorem sh_d {L R : Int} {nn : Nat} {ns : List Int} (h0 : 0 ≤ L) (h1 : L < R) (h2 : R ≤ ns.length) (hne : ¬ L + 1 = R) (hlen : ns.length ≤ 32) (hnn : 0 < nn ∧ nn ≤ 64) (hb : ∀ d ∈ ns, 0 ≤ d ∧ d < 2 ^ nn) :
    0 ≤ ((L + R).fdiv (2 ^ Int.toNat 1) - L) * (nn : Int) ∧ (Builtin.Int.intBits (seg nn ns ((L + R).fdiv (2 ^ Int.toNat 1)) R) : Int) + ((L + R).fdiv (2 ^ Int.toNat 1) - L) * (nn : Int) ≤ 2 ^ 27 := by
  have hm := mid_b h1 hne
  generalize (L + R).fdiv (2 ^ Int.toNat 1) = M at hm
  have z := seg_bits nn ns M R hb (by omega) (by omega)
  have a1 : ((M - L) : Int) * nn ≤ 32 * 64 := Int.mul_le_mul (by omega) (by omega) (by omega) (by decide)
  have a2 : (nn : Int) * (R - M).toNat ≤ 64 * 32 := Int.mul_le_mul (by omega) (by omega) (by omega) (by decide)
  have a3 : 0 ≤ ((M - L) : Int) * nn := Int.mul_nonneg (by omega) (by omega)
  refine ⟨a3, ?_⟩
  have : (2 : Int) ^ 27 = 134217728 := rfl
  omega
theorem inner_d (w : World) (f cD cN cI l : Addr) (doc pm ctv : Value) (c' : Addr) (vs : List Value) (ns : List Int) (hI : IntsAre vs ns) (hlen : ns.length ≤ 32) (nn : Nat) (hnn : 0 < nn ∧ nn ≤ 64) (tn : Tok) (hb : ∀ d ∈ ns, 0 ≤ d ∧ d < 2 ^ nn) :
    ∀ k, InnerD w f cD cN cI l doc pm ctv c' vs ns nn tn k := by
  intro k
  induction k with
  | zero => intro L R tL tR h0 h1 h2 h3; omega
  | succ k IH =>
  intro L R tL tR h0 h1 h2 h3
  unfold PreD
  have e1 : iArgsD = iArgsD := rfl
  conv at e1 => rhs; whnf
  have e2 : iBodyD = iBodyD := rfl
  conv at e2 => rhs; whnf
  have e3 : iScopeD = iScopeD := rfl
  conv at e3 => rhs; whnf
  rw [e1, e2, e3]
  clear e1 e2 e3
  have kf9 : hd.heap_39 = hd.heap_39 ∧ PySem.Challenge.rw_ik0056_01 = PySem.Challenge.rw_ik0056_01 := by (k_fill; exact ⟨rfl, rfl⟩)
  clear kf9
  refine' spec_enterN ?ho ?hcd ?hd1 ?hb ?hloc ?hcell ?hco ?hgen ?hk ?_
  case ho => exact fun _ h9 => h9.1
  case hcd => exact fun _ h9 => h9.2.1
  case hd1 => omega
  case hb => (intro s; exact BindsTo.of_eq rfl)
  case hloc => exact locs rfl
  case hcell => decide
  case hco => exact rfl
  case hgen => exact rfl
  case hk => exact rfl
  unfold P lo
  intro mean mg mb dp un gd outer base g s h₁ L₁ tk Q E hg B X T hp hdp hun F N hret
  (try dsimp only at F)
  have hpre : PreD f cD cN cI l doc pm ctv c' vs nn tn g := hp
  obtain ⟨hf, hcd, ⟨oD, hD, hDd⟩, ⟨oN, hN, hNd⟩, ⟨oI, hIc, hId⟩, hl⟩ := hp
  repeat' (first | (k_unfold; (try dsimp only)) | (k_end; wrow_close) | (with_reducible ((with_reducible show wpAny _ _ (binaryOp _ (Value.int (seg _ _ _ _) _) _) _ _ _); refine lshift_int (sh_d (by assumption) (by assumption) (by assumption) (by assumption) (by assumption) (by assumption) (by assumption)).1 (sh_d (by assumption) (by assumption) (by assumption) (by assumption) (by assumption) (by assumption) (by assumption)).2 ?_)) | ((with_reducible show wpAny _ _ (call (Value.ref _) _) _ _ _); k_here; k_dflt (refine' use_spec (ih_d (by assumption) ?i0 ?i1 ?i2 ?i3) ?uB ?uF ?uN ?uX ?uT ?uA ?uf ?uk ?up ?ud ?uu ?_; (case i0 => ((try simp only [shr1]); omega)); (case i1 => ((try simp only [shr1]); omega)); (case i2 => ((try simp only [shr1]); omega)); (case i3 => ((try simp only [shr1]); omega)); (case uB => k_asm); (case uF => k_asm); (case uN => k_asm); (case uX => k_asm); (case uT => k_asm); (case uA => exact rfl); (case uf => exact rfl); (case uk => exact rfl); (case up => exact preD_keep (by assumption) (Fr.keep (by k_asm))); (case ud => (first | (refine' room_ok ?rh ?re; (case rh => assumption); (case re => exact rfl)) | (refine' room_ok0 ?rh ?re; (case rh => assumption); (case re => exact rfl)) | ktr_room)); (case uu => (first | (refine' room_ok ?rh ?re; (case rh => assumption); (case re => exact rfl)) | (refine' room_ok0 ?rh ?re; (case rh => assumption); (case re => exact rfl)) | ktr_units)); k_whole); intro r9 h9 tk9 k9 F9 N9 e9; obtain ⟨t9, e9⟩ := e9; subst e9; (try k_fold)) | ((with_reducible show wpAny _ _ (callWith _ (Value.ref _) _ _ _) _ _ _); k_here; k_dflt (refine' callWith_F ?k1 ?_; (case k1 => exact fnAt_base (by k_asm) (by assumption)); k_whole)) | ((with_reducible show wpAny _ _ (eval (PySem.Expr.Name ..) _) _ _ _); k_here; k_dflt (refine' nameX_FB ?a ?b ?c ?F ?o ?d ?_; (case a => exact rfl); (case b => exact rfl); (case c => exact rfl); (case F => k_asm); (case o => assumption); (case d => assumption); k_whole)) | ((with_reducible show wpAny _ _ (exec (PySem.Stmt.FunctionDef ..) _) _ _ _); k_here; k_dflt (refine' nestDef_K ?d0 ?k0 ?a0 ?_; (case d0 => exact rfl); (case k0 => exact rfl); (case a0 => exact rfl)); k_dflt (refine' nestHitB ?F ?N ?T ?C ?cd ?mem ?t ?n ?cl ?_; (case F => k_asm); (case N => k_asm); (case T => k_asm); (case cd => exact rfl); (case C => k_asm); (case mem => k_asm); (case t => kn_triples); (case n => kn_hit); (case cl => exact rfl); k_whole); intro f' ct' dc' pm' h' tk' F' N' l1; (try dsimp only at N'); (try k_lt l1)) | walk1 | ((with_reducible show wpAny _ _ (binaryOp _ (Value.int (seg _ _ _ _) _) _) _ _ _); refine lshift_int (sh_d (by assumption) (by assumption) (by assumption) (by assumption) (by assumption) (by assumption) (by assumption)).1 (sh_d (by assumption) (by assumption) (by assumption) (by assumption) (by assumption) (by assumption) (by assumption)).2 ?_) | (dsimp only; (first | (with_reducible ((with_reducible show wpAny _ _ (binaryOp _ (Value.int (seg _ _ _ _) _) _) _ _ _); refine lshift_int (sh_d (by assumption) (by assumption) (by assumption) (by assumption) (by assumption) (by assumption) (by assumption)).1 (sh_d (by assumption) (by assumption) (by assumption) (by assumption) (by assumption) (by assumption) (by assumption)).2 ?_)) | ((with_reducible show wpAny _ _ (call (Value.ref _) _) _ _ _); k_here; k_dflt (refine' use_spec (ih_d (by assumption) ?i0 ?i1 ?i2 ?i3) ?uB ?uF ?uN ?uX ?uT ?uA ?uf ?uk ?up ?ud ?uu ?_; (case i0 => ((try simp only [shr1]); omega)); (case i1 => ((try simp only [shr1]); omega)); (case i2 => ((try simp only [shr1]); omega)); (case i3 => ((try simp only [shr1]); omega)); (case uB => k_asm); (case uF => k_asm); (case uN => k_asm); (case uX => k_asm); (case uT => k_asm); (case uA => exact rfl); (case uf => exact rfl); (case uk => exact rfl); (case up => exact preD_keep (by assumption) (Fr.keep (by k_asm))); (case ud => (first | (refine' room_ok ?rh ?re; (case rh => assumption); (case re => exact rfl)) | (refine' room_ok0 ?rh ?re; (case rh => assumption); (case re => exact rfl)) | ktr_room)); (case uu => (first | (refine' room_ok ?rh ?re; (case rh => assumption); (case re => exact rfl)) | (refine' room_ok0 ?rh ?re; (case rh => assumption); (case re => exact rfl)) | ktr_units)); k_whole); intro r9 h9 tk9 k9 F9 N9 e9; obtain ⟨t9, e9⟩ := e9; subst e9; (try k_fold)) | ((with_reducible show wpAny _ _ (callWith _ (Value.ref _) _ _ _) _ _ _); k_here; k_dflt (refine' callWith_F ?k1 ?_; (case k1 => exact fnAt_base (by k_asm) (by assumption)); k_whole)) | ((with_reducible show wpAny _ _ (eval (PySem.Expr.Name ..) _) _ _ _); k_here; k_dflt (refine' nameX_FB ?a ?b ?c ?F ?o ?d ?_; (case a => exact rfl); (case b => exact rfl); (case c => exact rfl); (case F => k_asm); (case o => assumption); (case d => assumption); k_whole)) | ((with_reducible show wpAny _ _ (exec (PySem.Stmt.FunctionDef ..) _) _ _ _); k_here; k_dflt (refine' nestDef_K ?d0 ?k0 ?a0 ?_; (case d0 => exact rfl); (case k0 => exact rfl); (case a0 => exact rfl)); k_dflt (refine' nestHitB ?F ?N ?T ?C ?cd ?mem ?t ?n ?cl ?_; (case F => k_asm); (case N => k_asm); (case T => k_asm); (case cd => exact rfl); (case C => k_asm); (case mem => k_asm); (case t => kn_triples); (case n => kn_hit); (case cl => exact rfl); k_whole); intro f' ct' dc' pm' h' tk' F' N' l1; (try dsimp only at N'); (try k_lt l1)) | walk1 | ((with_reducible show wpAny _ _ (binaryOp _ (Value.int (seg _ _ _ _) _) _) _ _ _); refine lshift_int (sh_d (by assumption) (by assumption) (by assumption) (by assumption) (by assumption) (by assumption) (by assumption)).1 (sh_d (by assumption) (by assumption) (by assumption) (by assumption) (by assumption) (by assumption) (by assumption)).2 ?_))) | (leave1; (try dsimp only)) | fail "no step")
  · dsimp only
    refine hret _ _ _ (Fr.keep (by assumption)) ⟨_, congrArg (Value.int · _) (seg_one nn ns L R h0 (by assumption) h2).symm⟩
  · have hm := mid_b h1 (by assumption)
    refine hret _ _ _ (Fr.keep (by assumption)) ⟨_, congrArg (Value.int · _) (seg_split nn ns L _ R h0 (Int.le_of_lt hm.1) (Int.le_of_lt hm.2) h2).symm⟩

theorem preD_mk' {q : Str} {f cD cN cI l : Addr} {doc pm ctv : Value} {c' : Addr} {vs : List Value} {nn : Int} {tn : Tok} {h : Heap} {oD oN oI : Obj} (hq : q = iQualD)
    (hf : h.get? f = some (fnMade (Str.ofString "inner") q iArgsD iBodyD iScopeD [(Str.ofString "n", cN), (Str.ofString "inner", cI), (Str.ofString "digits", cD)] doc pm c' ctv)) (hcd : h.CodeRec (.ref c') iQualD)
    (hD : h.get? cD = some oD) (hDd : oD.data = .cell (some (.ref l))) (hN : h.get? cN = some oN) (hNd : oN.data = .cell (some (.int nn tn))) (hI : h.get? cI = some oI) (hId : oI.data = .cell (some (.ref f))) (hl : h.IsList l vs.toArray) :
    PreD f cD cN cI l doc pm ctv c' vs nn tn h := preD_mk (hq ▸ hf) hcd hD hDd hN hNd hI hId hl
theorem codeRec_q {h : Heap} {v : Value} {q q' : Str} (e : q = q') (x : h.CodeRec v q) : h.CodeRec v q' := e ▸ x
theorem spec_d2i (w : World) (a : Addr) (vs : List Value) (ns : List Int) (hI : IntsAre vs ns) (hlen : ns.length ≤ 32) (nn : Nat) (hnn : 0 < nn ∧ nn ≤ 64) (tn : Tok) (hb : ∀ d ∈ ns, 0 ≤ d ∧ d < 2 ^ nn) (c' : Addr) : Spec w 49 [.ref a, .int nn tn] (fun h => h.IsList a vs.toArray ∧ Warm 48 44 50 4 iQualD c' h)
    (fun _ _ r => ∃ t, r = .int (dval nn ns) t) 50 500 := by
  have kf9 : hd.heap_39 = hd.heap_39 ∧ PySem.Challenge.rw_ik0056_01 = PySem.Challenge.rw_ik0056_01 := by (k_fill; exact ⟨rfl, rfl⟩)
  clear kf9
  refine' spec_enterC ?ho ?hcd ?hd1 ?hb ?hkind ?hnd ?hco ?hgen ?hk ?_
  case ho => k_dflt k_is
  case hcd => k_dflt k_is
  case hd1 => decide
  case hb => (intro s hX; first | exact BindsTo.of_eq rfl | exact binds_K hX rfl (by k_dflt k_is) rfl rfl rfl)
  case hkind => exact rfl
  case hnd => decide +kernel
  case hco => exact rfl
  case hgen => exact rfl
  case hk => exact rfl
  unfold P lo
  intro mean mg mb dp un gd outer base g s h₁ L tk cells Q E hg B X T hp hdp hun F N Y hret
  k_cells Y
  (try dsimp only at F N)
  obtain ⟨hl, hC, hP, hR⟩ := hp
  repeat' (first | (k_unfold; (try dsimp only)) | (k_end; wrow_close) | ((with_reducible show wpAny _ _ (call (Value.ref _) _) _ _ _); k_here; k_dflt (refine' use_spec (inner_d _ _ _ _ _ _ _ _ _ _ _ _ (by assumption) (by assumption) _ (by assumption) _ (by assumption) 32 0 _ _ _ (by decide) ?i1 ?i2 ?i3) ?uB ?uF ?uN ?uX ?uT ?uA ?uf ?uk ?up ?ud ?uu ?_; (case uB => k_asm); (case uF => k_asm); (case uN => k_asm); (case uX => k_asm); (case uT => k_asm); (case uA => exact rfl); (case uf => exact rfl); (case uk => exact rfl); (case up => (refine' preD_mk' ?hq ?hf ?hcd ?hD ?hDd ?hN ?hNd ?hI ?hId ?hl; (case hf => exact News.get (by k_asm) (List.Mem.head _)); (case hq => exact qual_d _); (case hcd => first | exact Heap.CodeRec.keeps (by assumption) (Fr.keep (by k_asm)) | exact codeRec_q (qual_d _) (codeRec_news (by k_asm) (by k_mem) (by assumption) (by assumption))); (case hD => exact News.get (by k_asm) (by k_mem)); (case hDd => assumption); (case hN => exact News.get (by k_asm) (by k_mem)); (case hNd => assumption); (case hI => exact News.get (by k_asm) (by k_mem)); (case hId => assumption); (case hl => is_list))); (case ud => (first | (refine' room_ok ?rh ?re; (case rh => assumption); (case re => exact rfl)) | (refine' room_ok0 ?rh ?re; (case rh => assumption); (case re => exact rfl)) | ktr_room)); (case uu => (first | (refine' room_ok ?rh ?re; (case rh => assumption); (case re => exact rfl)) | (refine' room_ok0 ?rh ?re; (case rh => assumption); (case re => exact rfl)) | ktr_units)); (case i1 => omega); (case i2 => omega); (case i3 => omega)); intro r9 h9 tk9 k9 F9 N9 e9; obtain ⟨t9, e9⟩ := e9; subst e9; (try k_fold)) | (with_reducible ((with_reducible show wpAny _ _ (binaryOp _ (Value.int (seg _ _ _ _) _) _) _ _ _); refine lshift_int (sh_d (by assumption) (by assumption) (by assumption) (by assumption) (by assumption) (by assumption) (by assumption)).1 (sh_d (by assumption) (by assumption) (by assumption) (by assumption) (by assumption) (by assumption) (by assumption)).2 ?_)) | ((with_reducible show wpAny _ _ (call (Value.ref _) _) _ _ _); k_here; k_dflt (refine' use_spec (ih_d (by assumption) ?i0 ?i1 ?i2 ?i3) ?uB ?uF ?uN ?uX ?uT ?uA ?uf ?uk ?up ?ud ?uu ?_; (case i0 => ((try simp only [shr1]); omega)); (case i1 => ((try simp only [shr1]); omega)); (case i2 => ((try simp only [shr1]); omega)); (case i3 => ((try simp only [shr1]); omega)); (case uB => k_asm); (case uF => k_asm); (case uN => k_asm); (case uX => k_asm); (case uT => k_asm); (case uA => exact rfl); (case uf => exact rfl); (case uk => exact rfl); (case up => exact preD_keep (by assumption) (Fr.keep (by k_asm))); (case ud => (first | (refine' room_ok ?rh ?re; (case rh => assumption); (case re => exact rfl)) | (refine' room_ok0 ?rh ?re; (case rh => assumption); (case re => exact rfl)) | ktr_room)); (case uu => (first | (refine' room_ok ?rh ?re; (case rh => assumption); (case re => exact rfl)) | (refine' room_ok0 ?rh ?re; (case rh => assumption); (case re => exact rfl)) | ktr_units)); k_whole); intro r9 h9 tk9 k9 F9 N9 e9; obtain ⟨t9, e9⟩ := e9; subst e9; (try k_fold)) | ((with_reducible show wpAny _ _ (callWith _ (Value.ref _) _ _ _) _ _ _); k_here; k_dflt (refine' callWith_F ?k1 ?_; (case k1 => exact fnAt_base (by k_asm) (by assumption)); k_whole)) | ((with_reducible show wpAny _ _ (eval (PySem.Expr.Name ..) _) _ _ _); k_here; k_dflt (refine' nameX_FB ?a ?b ?c ?F ?o ?d ?_; (case a => exact rfl); (case b => exact rfl); (case c => exact rfl); (case F => k_asm); (case o => assumption); (case d => assumption); k_whole)) | ((with_reducible show wpAny _ _ (exec (PySem.Stmt.FunctionDef ..) _) _ _ _); k_here; k_dflt (refine' nestDef_K ?d0 ?k0 ?a0 ?_; (case d0 => exact rfl); (case k0 => exact rfl); (case a0 => exact rfl)); k_dflt (refine' nestHitB ?F ?N ?T ?C ?cd ?mem ?t ?n ?cl ?_; (case F => k_asm); (case N => k_asm); (case T => k_asm); (case cd => exact rfl); (case C => k_asm); (case mem => k_asm); (case t => kn_triples); (case n => kn_hit); (case cl => exact rfl); k_whole); intro f' ct' dc' pm' h' tk' F' N' l1; (try dsimp only at N'); (try k_lt l1)) | walk1 | ((with_reducible show wpAny _ _ (binaryOp _ (Value.int (seg _ _ _ _) _) _) _ _ _); refine lshift_int (sh_d (by assumption) (by assumption) (by assumption) (by assumption) (by assumption) (by assumption) (by assumption)).1 (sh_d (by assumption) (by assumption) (by assumption) (by assumption) (by assumption) (by assumption) (by assumption)).2 ?_) | (dsimp only; (first | ((with_reducible show wpAny _ _ (call (Value.ref _) _) _ _ _); k_here; k_dflt (refine' use_spec (inner_d _ _ _ _ _ _ _ _ _ _ _ _ (by assumption) (by assumption) _ (by assumption) _ (by assumption) 32 0 _ _ _ (by decide) ?i1 ?i2 ?i3) ?uB ?uF ?uN ?uX ?uT ?uA ?uf ?uk ?up ?ud ?uu ?_; (case uB => k_asm); (case uF => k_asm); (case uN => k_asm); (case uX => k_asm); (case uT => k_asm); (case uA => exact rfl); (case uf => exact rfl); (case uk => exact rfl); (case up => (refine' preD_mk' ?hq ?hf ?hcd ?hD ?hDd ?hN ?hNd ?hI ?hId ?hl; (case hf => exact News.get (by k_asm) (List.Mem.head _)); (case hq => exact qual_d _); (case hcd => first | exact Heap.CodeRec.keeps (by assumption) (Fr.keep (by k_asm)) | exact codeRec_q (qual_d _) (codeRec_news (by k_asm) (by k_mem) (by assumption) (by assumption))); (case hD => exact News.get (by k_asm) (by k_mem)); (case hDd => assumption); (case hN => exact News.get (by k_asm) (by k_mem)); (case hNd => assumption); (case hI => exact News.get (by k_asm) (by k_mem)); (case hId => assumption); (case hl => is_list))); (case ud => (first | (refine' room_ok ?rh ?re; (case rh => assumption); (case re => exact rfl)) | (refine' room_ok0 ?rh ?re; (case rh => assumption); (case re => exact rfl)) | ktr_room)); (case uu => (first | (refine' room_ok ?rh ?re; (case rh => assumption); (case re => exact rfl)) | (refine' room_ok0 ?rh ?re; (case rh => assumption); (case re => exact rfl)) | ktr_units)); (case i1 => omega); (case i2 => omega); (case i3 => omega)); intro r9 h9 tk9 k9 F9 N9 e9; obtain ⟨t9, e9⟩ := e9; subst e9; (try k_fold)) | (with_reducible ((with_reducible show wpAny _ _ (binaryOp _ (Value.int (seg _ _ _ _) _) _) _ _ _); refine lshift_int (sh_d (by assumption) (by assumption) (by assumption) (by assumption) (by assumption) (by assumption) (by assumption)).1 (sh_d (by assumption) (by assumption) (by assumption) (by assumption) (by assumption) (by assumption) (by assumption)).2 ?_)) | ((with_reducible show wpAny _ _ (call (Value.ref _) _) _ _ _); k_here; k_dflt (refine' use_spec (ih_d (by assumption) ?i0 ?i1 ?i2 ?i3) ?uB ?uF ?uN ?uX ?uT ?uA ?uf ?uk ?up ?ud ?uu ?_; (case i0 => ((try simp only [shr1]); omega)); (case i1 => ((try simp only [shr1]); omega)); (case i2 => ((try simp only [shr1]); omega)); (case i3 => ((try simp only [shr1]); omega)); (case uB => k_asm); (case uF => k_asm); (case uN => k_asm); (case uX => k_asm); (case uT => k_asm); (case uA => exact rfl); (case uf => exact rfl); (case uk => exact rfl); (case up => exact preD_keep (by assumption) (Fr.keep (by k_asm))); (case ud => (first | (refine' room_ok ?rh ?re; (case rh => assumption); (case re => exact rfl)) | (refine' room_ok0 ?rh ?re; (case rh => assumption); (case re => exact rfl)) | ktr_room)); (case uu => (first | (refine' room_ok ?rh ?re; (case rh => assumption); (case re => exact rfl)) | (refine' room_ok0 ?rh ?re; (case rh => assumption); (case re => exact rfl)) | ktr_units)); k_whole); intro r9 h9 tk9 k9 F9 N9 e9; obtain ⟨t9, e9⟩ := e9; subst e9; (try k_fold)) | ((with_reducible show wpAny _ _ (callWith _ (Value.ref _) _ _ _) _ _ _); k_here; k_dflt (refine' callWith_F ?k1 ?_; (case k1 => exact fnAt_base (by k_asm) (by assumption)); k_whole)) | ((with_reducible show wpAny _ _ (eval (PySem.Expr.Name ..) _) _ _ _); k_here; k_dflt (refine' nameX_FB ?a ?b ?c ?F ?o ?d ?_; (case a => exact rfl); (case b => exact rfl); (case c => exact rfl); (case F => k_asm); (case o => assumption); (case d => assumption); k_whole)) | ((with_reducible show wpAny _ _ (exec (PySem.Stmt.FunctionDef ..) _) _ _ _); k_here; k_dflt (refine' nestDef_K ?d0 ?k0 ?a0 ?_; (case d0 => exact rfl); (case k0 => exact rfl); (case a0 => exact rfl)); k_dflt (refine' nestHitB ?F ?N ?T ?C ?cd ?mem ?t ?n ?cl ?_; (case F => k_asm); (case N => k_asm); (case T => k_asm); (case cd => exact rfl); (case C => k_asm); (case mem => k_asm); (case t => kn_triples); (case n => kn_hit); (case cl => exact rfl); k_whole); intro f' ct' dc' pm' h' tk' F' N' l1; (try dsimp only at N'); (try k_lt l1)) | walk1 | ((with_reducible show wpAny _ _ (binaryOp _ (Value.int (seg _ _ _ _) _) _) _ _ _); refine lshift_int (sh_d (by assumption) (by assumption) (by assumption) (by assumption) (by assumption) (by assumption) (by assumption)).1 (sh_d (by assumption) (by assumption) (by assumption) (by assumption) (by assumption) (by assumption) (by assumption)).2 ?_))) | (leave1; (try dsimp only)) | fail "no step")
  · refine hret _ _ _ (Fr.keep (by assumption)) ⟨_, congrArg (Value.int · _) (seg_all nn ns)⟩
  · have e0 : ns = [] := List.eq_nil_of_length_eq_zero (by omega)
    subst e0
    exact hret _ _ _ (Fr.keep (by assumption)) ⟨_, rfl⟩
theorem cold_d2i (w : World) (a : Addr) (vs : List Value) (ns : List Int) (hI : IntsAre vs ns) (hlen : ns.length ≤ 32) (hpos : 0 < ns.length) (nn : Nat) (hnn : 0 < nn ∧ nn ≤ 64) (tn : Tok) (hb : ∀ d ∈ ns, 0 ≤ d ∧ d < 2 ^ nn) :
    SpecT w 49 44 50 4 iQualD [.ref a, .int nn tn] (fun h => h.IsList a vs.toArray ∧ CodeHd h 48 44) (fun _ _ r => ∃ t, r = .int (dval nn ns) t) 50 500 := by
  have kf9 : hd.heap_39 = hd.heap_39 ∧ PySem.Challenge.rw_ik0056_01 = PySem.Challenge.rw_ik0056_01 := by (k_fill; exact ⟨rfl, rfl⟩)
  clear kf9
  refine' spec_enterCT ?ho ?hcd ?hd1 ?hb ?hkind ?hnd ?hco ?hgen ?hk ?_
  case ho => k_dflt k_is
  case hcd => k_dflt k_is
  case hd1 => decide
  case hb => (intro s hX; first | exact BindsTo.of_eq rfl | exact binds_K hX rfl (by k_dflt k_is) rfl rfl rfl)
  case hkind => exact rfl
  case hnd => decide +kernel
  case hco => exact rfl
  case hgen => exact rfl
  case hk => exact rfl
  unfold P lo
  intro mean mg mb dp un gd outer base g s h₁ L tk cells Q E hg B X T hp hdp hun F N hlt Y hret
  k_cells Y
  (try dsimp only at F N)
  (try simp only [List.cons_append, List.nil_append] at N)
  obtain ⟨hl, hC⟩ := hp
  have hlt' := ltN hlt
  clear hlt
  repeat' (first | (k_unfold; (try dsimp only)) | (k_end; wrow_close) | ((with_reducible show wpAny _ _ (call (Value.ref _) _) _ _ _); k_here; k_dflt (refine' use_spec (inner_d _ _ _ _ _ _ _ _ _ _ _ _ (by assumption) (by assumption) _ (by assumption) _ (by assumption) 32 0 _ _ _ (by decide) ?i1 ?i2 ?i3) ?uB ?uF ?uN ?uX ?uT ?uA ?uf ?uk ?up ?ud ?uu ?_; (case uB => k_asm); (case uF => k_asm); (case uN => k_asm); (case uX => k_asm); (case uT => k_asm); (case uA => exact rfl); (case uf => exact rfl); (case uk => exact rfl); (case up => (refine' preD_mk' ?hq ?hf ?hcd ?hD ?hDd ?hN ?hNd ?hI ?hId ?hl; (case hf => exact News.get (by k_asm) (List.Mem.head _)); (case hq => exact qual_d _); (case hcd => first | exact Heap.CodeRec.keeps (by assumption) (Fr.keep (by k_asm)) | exact codeRec_q (qual_d _) (codeRec_news (by k_asm) (by k_mem) (by assumption) (by assumption))); (case hD => exact News.get (by k_asm) (by k_mem)); (case hDd => assumption); (case hN => exact News.get (by k_asm) (by k_mem)); (case hNd => assumption); (case hI => exact News.get (by k_asm) (by k_mem)); (case hId => assumption); (case hl => is_list))); (case ud => (first | (refine' room_ok ?rh ?re; (case rh => assumption); (case re => exact rfl)) | (refine' room_ok0 ?rh ?re; (case rh => assumption); (case re => exact rfl)) | ktr_room)); (case uu => (first | (refine' room_ok ?rh ?re; (case rh => assumption); (case re => exact rfl)) | (refine' room_ok0 ?rh ?re; (case rh => assumption); (case re => exact rfl)) | ktr_units)); (case i1 => omega); (case i2 => omega); (case i3 => omega)); intro r9 h9 tk9 k9 F9 N9 e9; obtain ⟨t9, e9⟩ := e9; subst e9; (try k_fold)) | (with_reducible ((with_reducible show wpAny _ _ (binaryOp _ (Value.int (seg _ _ _ _) _) _) _ _ _); refine lshift_int (sh_d (by assumption) (by assumption) (by assumption) (by assumption) (by assumption) (by assumption) (by assumption)).1 (sh_d (by assumption) (by assumption) (by assumption) (by assumption) (by assumption) (by assumption) (by assumption)).2 ?_)) | ((with_reducible show wpAny _ _ (call (Value.ref _) _) _ _ _); k_here; k_dflt (refine' use_spec (ih_d (by assumption) ?i0 ?i1 ?i2 ?i3) ?uB ?uF ?uN ?uX ?uT ?uA ?uf ?uk ?up ?ud ?uu ?_; (case i0 => ((try simp only [shr1]); omega)); (case i1 => ((try simp only [shr1]); omega)); (case i2 => ((try simp only [shr1]); omega)); (case i3 => ((try simp only [shr1]); omega)); (case uB => k_asm); (case uF => k_asm); (case uN => k_asm); (case uX => k_asm); (case uT => k_asm); (case uA => exact rfl); (case uf => exact rfl); (case uk => exact rfl); (case up => exact preD_keep (by assumption) (Fr.keep (by k_asm))); (case ud => (first | (refine' room_ok ?rh ?re; (case rh => assumption); (case re => exact rfl)) | (refine' room_ok0 ?rh ?re; (case rh => assumption); (case re => exact rfl)) | ktr_room)); (case uu => (first | (refine' room_ok ?rh ?re; (case rh => assumption); (case re => exact rfl)) | (refine' room_ok0 ?rh ?re; (case rh => assumption); (case re => exact rfl)) | ktr_units)); k_whole); intro r9 h9 tk9 k9 F9 N9 e9; obtain ⟨t9, e9⟩ := e9; subst e9; (try k_fold)) | ((with_reducible show wpAny _ _ (callWith _ (Value.ref _) _ _ _) _ _ _); k_here; k_dflt (refine' callWith_F ?k1 ?_; (case k1 => exact fnAt_base (by k_asm) (by assumption)); k_whole)) | ((with_reducible show wpAny _ _ (eval (PySem.Expr.Name ..) _) _ _ _); k_here; k_dflt (refine' nameX_FB ?a ?b ?c ?F ?o ?d ?_; (case a => exact rfl); (case b => exact rfl); (case c => exact rfl); (case F => k_asm); (case o => assumption); (case d => assumption); k_whole)) | ((with_reducible show wpAny _ _ (exec (PySem.Stmt.FunctionDef ..) _) _ _ _); k_here; k_dflt (refine' nestDef_K ?d0 ?k0 ?a0 ?_; (case d0 => exact rfl); (case k0 => exact rfl); (case a0 => exact rfl)); k_dflt (refine' nestHitB ?F ?N ?T ?C ?cd ?mem ?t ?n ?cl ?_; (case F => k_asm); (case N => k_asm); (case T => k_asm); (case cd => exact rfl); (case C => k_asm); (case mem => k_asm); (case t => kn_triples); (case n => kn_hit); (case cl => exact rfl); k_whole); intro f' ct' dc' pm' h' tk' F' N' l1; (try dsimp only at N'); (try k_lt l1)) | walk1 | ((with_reducible show wpAny _ _ (binaryOp _ (Value.int (seg _ _ _ _) _) _) _ _ _); refine lshift_int (sh_d (by assumption) (by assumption) (by assumption) (by assumption) (by assumption) (by assumption) (by assumption)).1 (sh_d (by assumption) (by assumption) (by assumption) (by assumption) (by assumption) (by assumption) (by assumption)).2 ?_) | (dsimp only; (first | ((with_reducible show wpAny _ _ (call (Value.ref _) _) _ _ _); k_here; k_dflt (refine' use_spec (inner_d _ _ _ _ _ _ _ _ _ _ _ _ (by assumption) (by assumption) _ (by assumption) _ (by assumption) 32 0 _ _ _ (by decide) ?i1 ?i2 ?i3) ?uB ?uF ?uN ?uX ?uT ?uA ?uf ?uk ?up ?ud ?uu ?_; (case uB => k_asm); (case uF => k_asm); (case uN => k_asm); (case uX => k_asm); (case uT => k_asm); (case uA => exact rfl); (case uf => exact rfl); (case uk => exact rfl); (case up => (refine' preD_mk' ?hq ?hf ?hcd ?hD ?hDd ?hN ?hNd ?hI ?hId ?hl; (case hf => exact News.get (by k_asm) (List.Mem.head _)); (case hq => exact qual_d _); (case hcd => first | exact Heap.CodeRec.keeps (by assumption) (Fr.keep (by k_asm)) | exact codeRec_q (qual_d _) (codeRec_news (by k_asm) (by k_mem) (by assumption) (by assumption))); (case hD => exact News.get (by k_asm) (by k_mem)); (case hDd => assumption); (case hN => exact News.get (by k_asm) (by k_mem)); (case hNd => assumption); (case hI => exact News.get (by k_asm) (by k_mem)); (case hId => assumption); (case hl => is_list))); (case ud => (first | (refine' room_ok ?rh ?re; (case rh => assumption); (case re => exact rfl)) | (refine' room_ok0 ?rh ?re; (case rh => assumption); (case re => exact rfl)) | ktr_room)); (case uu => (first | (refine' room_ok ?rh ?re; (case rh => assumption); (case re => exact rfl)) | (refine' room_ok0 ?rh ?re; (case rh => assumption); (case re => exact rfl)) | ktr_units)); (case i1 => omega); (case i2 => omega); (case i3 => omega)); intro r9 h9 tk9 k9 F9 N9 e9; obtain ⟨t9, e9⟩ := e9; subst e9; (try k_fold)) | (with_reducible ((with_reducible show wpAny _ _ (binaryOp _ (Value.int (seg _ _ _ _) _) _) _ _ _); refine lshift_int (sh_d (by assumption) (by assumption) (by assumption) (by assumption) (by assumption) (by assumption) (by assumption)).1 (sh_d (by assumption) (by assumption) (by assumption) (by assumption) (by assumption) (by assumption) (by assumption)).2 ?_)) | ((with_reducible show wpAny _ _ (call (Value.ref _) _) _ _ _); k_here; k_dflt (refine' use_spec (ih_d (by assumption) ?i0 ?i1 ?i2 ?i3) ?uB ?uF ?uN ?uX ?uT ?uA ?uf ?uk ?up ?ud ?uu ?_; (case i0 => ((try simp only [shr1]); omega)); (case i1 => ((try simp only [shr1]); omega)); (case i2 => ((try simp only [shr1]); omega)); (case i3 => ((try simp only [shr1]); omega)); (case uB => k_asm); (case uF => k_asm); (case uN => k_asm); (case uX => k_asm); (case uT => k_asm); (case uA => exact rfl); (case uf => exact rfl); (case uk => exact rfl); (case up => exact preD_keep (by assumption) (Fr.keep (by k_asm))); (case ud => (first | (refine' room_ok ?rh ?re; (case rh => assumption); (case re => exact rfl)) | (refine' room_ok0 ?rh ?re; (case rh => assumption); (case re => exact rfl)) | ktr_room)); (case uu => (first | (refine' room_ok ?rh ?re; (case rh => assumption); (case re => exact rfl)) | (refine' room_ok0 ?rh ?re; (case rh => assumption); (case re => exact rfl)) | ktr_units)); k_whole); intro r9 h9 tk9 k9 F9 N9 e9; obtain ⟨t9, e9⟩ := e9; subst e9; (try k_fold)) | ((with_reducible show wpAny _ _ (callWith _ (Value.ref _) _ _ _) _ _ _); k_here; k_dflt (refine' callWith_F ?k1 ?_; (case k1 => exact fnAt_base (by k_asm) (by assumption)); k_whole)) | ((with_reducible show wpAny _ _ (eval (PySem.Expr.Name ..) _) _ _ _); k_here; k_dflt (refine' nameX_FB ?a ?b ?c ?F ?o ?d ?_; (case a => exact rfl); (case b => exact rfl); (case c => exact rfl); (case F => k_asm); (case o => assumption); (case d => assumption); k_whole)) | ((with_reducible show wpAny _ _ (exec (PySem.Stmt.FunctionDef ..) _) _ _ _); k_here; k_dflt (refine' nestDef_K ?d0 ?k0 ?a0 ?_; (case d0 => exact rfl); (case k0 => exact rfl); (case a0 => exact rfl)); k_dflt (refine' nestHitB ?F ?N ?T ?C ?cd ?mem ?t ?n ?cl ?_; (case F => k_asm); (case N => k_asm); (case T => k_asm); (case cd => exact rfl); (case C => k_asm); (case mem => k_asm); (case t => kn_triples); (case n => kn_hit); (case cl => exact rfl); k_whole); intro f' ct' dc' pm' h' tk' F' N' l1; (try dsimp only at N'); (try k_lt l1)) | walk1 | ((with_reducible show wpAny _ _ (binaryOp _ (Value.int (seg _ _ _ _) _) _) _ _ _); refine lshift_int (sh_d (by assumption) (by assumption) (by assumption) (by assumption) (by assumption) (by assumption) (by assumption)).1 (sh_d (by assumption) (by assumption) (by assumption) (by assumption) (by assumption) (by assumption) (by assumption)).2 ?_))) | (leave1; (try dsimp only)) | fail "no step")
  · rename News _ _ _ _ => N9
    rename _ ∧ _ ∧ _ ∧ _ => l9
    rename _ = some (Value.str _ _) => d9
    rw [qual_d] at d9
    exact hret _ _ _ _ _ _ _ (Fr.keep (by assumption)) (News.get N9 (by k_mem)) (News.get N9 (List.Mem.tail _ (List.Mem.head _))) l9.2.2.2 (News.fresh N9 (List.Mem.tail _ (List.Mem.head _))) (by assumption) d9 ⟨_, congrArg (Value.int · _) (seg_all nn ns)⟩
end Mine

end
section
local macro_rules | `(tactic| walk_at "no such key 0") => `(tactic| (fail "no key"))
open PySem PySem.W PyProof.Rows PySem.Spec PySem.Calls
namespace Mine
abbrev nmI : Str := Str.ofString "_int2digits"
/-- the def stands second in this body -/
noncomputable def secondOf (nm : Str) : Option (Arguments × List Stmt × Scope) := match P.theDef nm with
  | some (_, _ :: .FunctionDef _ a b _ _ _ sc _ _ _ :: _, _) => some (a, b, sc)
  | _ => none
noncomputable def iArgsI : Arguments := match secondOf nmI with | some x => x.1 | none => ⟨[], [], none, [], [], none, []⟩
noncomputable def iBodyI : List Stmt := match secondOf nmI with | some x => x.2.1 | none => []
noncomputable def iScopeI : Scope := match secondOf nmI with | some x => x.2.2 | none => ⟨.function, [], false, false, []⟩
abbrev iQualI : Str := Str.ofString "_int2digits.<locals>.inner"
def PreI (f cA cN cI D : Addr) (doc pm ctv : Value) (c' : Addr) (nn : Int) (tn : Tok) (h : Heap) : Prop :=
  h.get? f = some (fnMade (Str.ofString "inner") iQualI iArgsI iBodyI iScopeI [(Str.ofString "n", cN), (Str.ofString "inner", cI), (Str.ofString "a_digits", cA)] doc pm c' ctv) ∧ h.CodeRec (.ref c') iQualI ∧
    CellIs h cA (.ref D) ∧ CellIs h cN (.int nn tn) ∧ CellIs h cI (.ref f)
theorem preI_keep {f cA cN cI D : Addr} {doc pm ctv : Value} {c' : Addr} {nn : Int} {tn : Tok} {h h' : Heap} (p : PreI f cA cN cI D doc pm ctv c' nn tn h) (k : Kept h h') : PreI f cA cN cI D doc pm ctv c' nn tn h' := by
  obtain ⟨hf, ⟨c, o, vs', t, r1, r2, r3⟩, ⟨oD, hD, hDd⟩, ⟨oN, hN, hNd⟩, ⟨oI, hIc, hId⟩⟩ := p
  exact ⟨k _ _ hf, ⟨c, o, vs', t, r1, k _ _ r2, r3⟩, ⟨oD, k _ _ hD, hDd⟩, ⟨oN, k _ _ hN, hNd⟩, ⟨oI, k _ _ hIc, hId⟩⟩
local macro_rules | `(tactic| k_room) => `(tactic| ktr_room)
local macro_rules | `(tactic| walk_at "FnAt") => `(tactic| (k_dflt (exact fnAt_base (by k_asm) (by assumption))))
/-- the claim of the inner def, to a depth of k -/
def InnerI (w : World) (f cA cN cI D : Addr) (doc pm ctv : Value) (c' : Addr) (nn : Nat) (tn : Tok) (len k : Nat) : Prop :=
  ∀ (x L R : Int) (tx tL tR : Tok) (vs : List Value) (ms : List Int) (ep : Nat), IntsAre vs ms → ms.length = len → 0 ≤ L → L < R → R ≤ len → (R - L).toNat ≤ k → 0 ≤ x → x < 2 ^ (nn * (R - L).toNat) →
    SpecH w f [.int x tx, .int L tL, .int R tR] [(D, listObj vs ep)] (PreI f cA cN cI D doc pm ctv c' nn tn)
      (fun _ h' r => r = .none ∧ ∃ vs' ep', h'.get? D = some (listObj vs' ep') ∧ IntsAre vs' (ms.take L.toNat ++ digs nn (R - L).toNat x ++ ms.drop R.toNat)) (k + 1) (8 * k + 40)
abbrev midI (L R : Int) : Int := (L + R).fdiv (2 ^ Int.toNat 1)
theorem sh_pos {L R : Int} {nn : Nat} (h1 : L < R) (hne : L + 1 ≠ R) : 0 ≤ (midI L R - L) * (nn : Int) := Int.mul_nonneg (by have := mid_b h1 hne; show 0 ≤ (L + R).fdiv (2 ^ Int.toNat 1) - L; omega) (Int.natCast_nonneg _)
theorem sh_nat {L R : Int} {nn : Nat} (h1 : L < R) (hne : L + 1 ≠ R) : ((midI L R - L) * (nn : Int)).toNat = nn * (midI L R - L).toNat := by
  have hm := mid_b h1 hne
  have : (midI L R - L) * (nn : Int) = ((nn * (midI L R - L).toNat : Nat) : Int) := by
    rw [Int.natCast_mul, Int.mul_comm, Int.toNat_of_nonneg (by show 0 ≤ (L + R).fdiv (2 ^ Int.toNat 1) - L; omega)]
  omega
theorem nat_split {L M R : Int} (h1 : L < M) (h2 : M < R) : (R - L).toNat = (M - L).toNat + (R - M).toNat := by omega
theorem sz_i {x L R : Int} {nn len : Nat} (h0 : 0 ≤ L) (h1 : L < R) (h2 : R ≤ len) (hne : L + 1 ≠ R) (hlen : len ≤ 32) (hnn : 0 < nn ∧ nn ≤ 64) (hx0 : 0 ≤ x) (hx1 : x < 2 ^ (nn * (R - L).toNat)) :
    (Builtin.Int.intBits (x.fdiv (2 ^ ((midI L R - L) * (nn : Int)).toNat)) : Int) + (midI L R - L) * (nn : Int) ≤ 2 ^ 27 := by
  have hm := mid_b h1 hne
  have q : Builtin.Int.intBits x ≤ nn * (R - L).toNat := PySem.intBits_le_iff.mpr (by have e := pow_cast (nn * (R - L).toNat); omega)
  have q2 : Builtin.Int.intBits (x.fdiv (2 ^ ((midI L R - L) * (nn : Int)).toNat)) ≤ nn * (R - L).toNat := PySem.intBits_fdiv_le q
  have a1 : (midI L R - L) * (nn : Int) ≤ 32 * 64 := Int.mul_le_mul (by show (L + R).fdiv (2 ^ Int.toNat 1) - L ≤ 32; omega) (by omega) (by omega) (by decide)
  have a2 : nn * (R - L).toNat ≤ 64 * 32 := Nat.mul_le_mul (by omega) (by omega)
  have q3 : (Builtin.Int.intBits (x.fdiv (2 ^ ((midI L R - L) * (nn : Int)).toNat)) : Int) ≤ 64 * 32 := by
    have : Builtin.Int.intBits (x.fdiv (2 ^ ((midI L R - L) * (nn : Int)).toNat)) ≤ 64 * 32 := Nat.le_trans q2 a2
    omega
  have : (2 : Int) ^ 27 = 134217728 := rfl
  omega
theorem low_ok {x L R : Int} {nn : Nat} (h1 : L < R) (hne : L + 1 ≠ R) (hx0 : 0 ≤ x) :
    0 ≤ Builtin.bitXor x (x.fdiv (2 ^ ((midI L R - L) * (nn : Int)).toNat) * 2 ^ ((midI L R - L) * (nn : Int)).toNat) ∧ Builtin.bitXor x (x.fdiv (2 ^ ((midI L R - L) * (nn : Int)).toNat) * 2 ^ ((midI L R - L) * (nn : Int)).toNat) < 2 ^ (nn * (midI L R - L).toNat) := by
  rw [xor_low x hx0, sh_nat h1 hne]
  exact ⟨Int.emod_nonneg _ (Int.ne_of_gt (pow_pos2 _)), Int.emod_lt_of_pos _ (pow_pos2 _)⟩
theorem up_ok {x L R : Int} {nn : Nat} (h1 : L < R) (hne : L + 1 ≠ R) (hx0 : 0 ≤ x) (hx1 : x < 2 ^ (nn * (R - L).toNat)) :
    0 ≤ x.fdiv (2 ^ ((midI L R - L) * (nn : Int)).toNat) ∧ x.fdiv (2 ^ ((midI L R - L) * (nn : Int)).toNat) < 2 ^ (nn * (R - midI L R).toNat) := by
  have hm := mid_b h1 hne
  rw [sh_nat h1 hne, Int.fdiv_eq_ediv_of_nonneg _ (Int.le_of_lt (pow_pos2 _))]
  refine ⟨Int.ediv_nonneg hx0 (Int.le_of_lt (pow_pos2 _)), Int.ediv_lt_of_lt_mul (pow_pos2 _) ?_⟩
  rw [← Int.pow_add, ← Nat.mul_add, Nat.add_comm]
  rw [nat_split hm.1 hm.2] at hx1
  exact hx1
theorem digs_mid {x L R : Int} {nn : Nat} (h1 : L < R) (hne : L + 1 ≠ R) (hx0 : 0 ≤ x) :
    digs nn (midI L R - L).toNat (Builtin.bitXor x (x.fdiv (2 ^ ((midI L R - L) * (nn : Int)).toNat) * 2 ^ ((midI L R - L) * (nn : Int)).toNat)) ++ digs nn (R - midI L R).toNat (x.fdiv (2 ^ ((midI L R - L) * (nn : Int)).toNat)) = digs nn (R - L).toNat x := by
  have hm := mid_b h1 hne
  rw [sh_nat h1 hne, nat_split hm.1 hm.2]
  exact (digs_split nn _ _ x hx0).symm
theorem keep_hide {g h : Heap} {L D : Addr} {m : Str → Option Value} {o : Obj} {news : List (Addr × Obj)} (F : Fr g L h m) (N : News g L h ((D, o) :: news)) : Kept g (hideAll h [D]) := fun b ob e => hideAll_get _ (F.keep _ _ e) (by
  rw [List.mem_singleton]
  rintro rfl
  have := (N _ List.mem_cons_self).2.2
  rw [e] at this; cases this)
theorem news_re {g h h' : Heap} {L D : Addr} {o o' : Obj} {news : List (Addr × Obj)} (N : News g L h ((D, o) :: news)) (e : h'.get? D = some o') : News g L h' [(D, o')] := fun p hp => by
  rw [List.mem_singleton] at hp
  subst hp
  exact ⟨e, (N _ List.mem_cons_self).2⟩
theorem ih_i {w : World} {f cA cN cI D : Addr} {doc pm ctv : Value} {c' : Addr} {nn : Nat} {tn : Tok} {len k : Nat} (H : InnerI w f cA cN cI D doc pm ctv c' nn tn len k) {x L R : Int} {tx tL tR : Tok} {vs : List Value} {ms : List Int} {ep : Nat} (hI : IntsAre vs ms) (hl : ms.length = len) (h0 : 0 ≤ L) (h1 : L < R) (h2 : R ≤ len) (h3 : (R - L).toNat ≤ k) (hx : 0 ≤ x ∧ x < 2 ^ (nn * (R - L).toNat)) :
    SpecH w f [.int x tx, .int L tL, .int R tR] [(D, listObj vs ep)] (PreI f cA cN cI D doc pm ctv c' nn tn)
      (fun _ h' r => r = .none ∧ ∃ vs' ep', h'.get? D = some (listObj vs' ep') ∧ IntsAre vs' (ms.take L.toNat ++ digs nn (R - L).toNat x ++ ms.drop R.toNat)) (k + 1) (8 * k + 40) := H x L R tx tL tR vs ms ep hI hl h0 h1 h2 h3 hx.1 hx.2
theorem inner_i (w : World) (f cA cN cI D : Addr) (doc pm ctv : Value) (c' : Addr) (nn : Nat) (hnn : 0 < nn ∧ nn ≤ 64) (tn : Tok) (len : Nat) (hlen : len ≤ 32) :
    ∀ k, InnerI w f cA cN cI D doc pm ctv c' nn tn len k := by
  intro k
  induction k with
  | zero => intro x L R tx tL tR vs ms ep hI hl h0 h1 h2 h3; omega
  | succ k IH =>
  intro x L R tx tL tR vs ms ep hI hl h0 h1 h2 h3 hx0 hx1
  unfold PreI
  have e1 : iArgsI = iArgsI := rfl
  conv at e1 => rhs; whnf
  have e2 : iBodyI = iBodyI := rfl
  conv at e2 => rhs; whnf
  have e3 : iScopeI = iScopeI := rfl
  conv at e3 => rhs; whnf
  rw [e1, e2, e3]
  clear e1 e2 e3
  have kf9 : hd.heap_39 = hd.heap_39 ∧ PySem.Challenge.rw_ik0056_01 = PySem.Challenge.rw_ik0056_01 := by (k_fill; exact ⟨rfl, rfl⟩)
  clear kf9
  refine' spec_enterNH ?ho ?hcd ?hd1 ?hb ?hloc ?hcell ?hco ?hgen ?hk ?_
  case ho => exact fun _ h9 => h9.1
  case hcd => exact fun _ h9 => h9.2.1
  case hd1 => omega
  case hb => (intro s; exact BindsTo.of_eq rfl)
  case hloc => exact locs rfl
  case hcell => decide
  case hco => exact rfl
  case hgen => exact rfl
  case hk => exact rfl
  unfold P lo
  intro mean mg mb dp un gd outer base g s h₁ L₁ tk Q E hg B X T hp hdp hun F N hlt hret
  (try dsimp only at F)
  have hpre : PreI f cA cN cI D doc pm ctv c' nn tn g := hp
  obtain ⟨hf, hcd, ⟨oA, hA, hAd⟩, ⟨oN, hN, hNd⟩, ⟨oI, hIc, hId⟩⟩ := hp
  repeat' (first | (k_unfold; (try dsimp only)) | (k_end; wrow_close) | (with_reducible ((with_reducible show wpAny _ _ (binaryOp PySem.Operator.LShift (Value.int ..) (Value.int ..)) _ _ _); refine lshift_int (sh_pos (by assumption) (by assumption)) (sz_i (by assumption) (by assumption) (by assumption) (by assumption) (by assumption) (by assumption) (by assumption) (by assumption)) ?_)) | (with_reducible ((with_reducible show wpAny _ _ (binaryOp _ _ (Value.int (_ * _) _)) _ _ _); refine rshift_int (sh_pos (by assumption) (by assumption)) ?_)) | ((with_reducible show wpAny _ _ (callWith _ (Value.ref _) _ _ _) _ _ _); k_here; k_dflt (refine' callWith_F ?k1 ?_; (case k1 => exact fnAt_base (by k_asm) (by assumption)); k_whole)) | ((with_reducible show wpAny _ _ (eval (PySem.Expr.Name ..) _) _ _ _); k_here; k_dflt (refine' nameX_FB ?a ?b ?c ?F ?o ?d ?_; (case a => exact rfl); (case b => exact rfl); (case c => exact rfl); (case F => k_asm); (case o => assumption); (case d => assumption); k_whole)) | walk1 | ((with_reducible show wpAny _ _ (binaryOp PySem.Operator.LShift (Value.int ..) (Value.int ..)) _ _ _); refine lshift_int (sh_pos (by assumption) (by assumption)) (sz_i (by assumption) (by assumption) (by assumption) (by assumption) (by assumption) (by assumption) (by assumption) (by assumption)) ?_) | ((with_reducible show wpAny _ _ (binaryOp _ _ (Value.int (_ * _) _)) _ _ _); refine rshift_int (sh_pos (by assumption) (by assumption)) ?_) | (dsimp only; (first | (with_reducible ((with_reducible show wpAny _ _ (binaryOp PySem.Operator.LShift (Value.int ..) (Value.int ..)) _ _ _); refine lshift_int (sh_pos (by assumption) (by assumption)) (sz_i (by assumption) (by assumption) (by assumption) (by assumption) (by assumption) (by assumption) (by assumption) (by assumption)) ?_)) | (with_reducible ((with_reducible show wpAny _ _ (binaryOp _ _ (Value.int (_ * _) _)) _ _ _); refine rshift_int (sh_pos (by assumption) (by assumption)) ?_)) | ((with_reducible show wpAny _ _ (callWith _ (Value.ref _) _ _ _) _ _ _); k_here; k_dflt (refine' callWith_F ?k1 ?_; (case k1 => exact fnAt_base (by k_asm) (by assumption)); k_whole)) | ((with_reducible show wpAny _ _ (eval (PySem.Expr.Name ..) _) _ _ _); k_here; k_dflt (refine' nameX_FB ?a ?b ?c ?F ?o ?d ?_; (case a => exact rfl); (case b => exact rfl); (case c => exact rfl); (case F => k_asm); (case o => assumption); (case d => assumption); k_whole)) | walk1 | ((with_reducible show wpAny _ _ (binaryOp PySem.Operator.LShift (Value.int ..) (Value.int ..)) _ _ _); refine lshift_int (sh_pos (by assumption) (by assumption)) (sz_i (by assumption) (by assumption) (by assumption) (by assumption) (by assumption) (by assumption) (by assumption) (by assumption)) ?_) | ((with_reducible show wpAny _ _ (binaryOp _ _ (Value.int (_ * _) _)) _ _ _); refine rshift_int (sh_pos (by assumption) (by assumption)) ?_))) | (leave1; (try dsimp only)) | fail "no step")
  · dsimp only
    refine hret _ _ _ (Fr.keep (by assumption)) ⟨rfl, _, _, News.get (by assumption) List.mem_cons_self, ?_⟩
    have e1 : (R - L).toNat = 1 := by omega
    have e2 : R.toNat = L.toNat + 1 := by omega
    have e3 : x % 2 ^ nn = x := by rw [e1, Nat.mul_one] at hx1; exact Int.emod_eq_of_lt hx0 hx1
    rw [e1, e2, digs, digs, e3, ← put_one ms L.toNat x (by omega)]
    exact ints_set hI _
  · have hm := mid_b h1 (by assumption)
    rename Fr _ _ _ _ => F1
    rename News _ _ _ _ => N1
    refine' use_specH (ih_i IH hI hl h0 hm.1 (by omega) (by omega) (low_ok h1 (by assumption) hx0)) [] B F1 N1 X T rfl rfl rfl (fun p hp => hp) (fun _ h9 => nomatch h9) (preI_keep hpre (keep_hide F1 N1)) ?ud ?uu ?_
    case ud => (first | (refine' room_ok ?rh ?re; (case rh => assumption); (case re => exact rfl)) | (refine' room_ok0 ?rh ?re; (case rh => assumption); (case re => exact rfl)) | ktr_room)
    case uu => (first | (refine' room_ok ?rh ?re; (case rh => assumption); (case re => exact rfl)) | (refine' room_ok0 ?rh ?re; (case rh => assumption); (case re => exact rfl)) | ktr_units)
    intro r9 h9 tk9 k9 F9 N9 e9
    obtain ⟨rfl, vs9, ep9, hD9, hI9⟩ := e9
    have N9' := news_re N1 hD9
    clear N9
    repeat' (first | (k_unfold; (try dsimp only)) | (k_end; wrow_close) | (with_reducible ((with_reducible show wpAny _ _ (binaryOp PySem.Operator.LShift (Value.int ..) (Value.int ..)) _ _ _); refine lshift_int (sh_pos (by assumption) (by assumption)) (sz_i (by assumption) (by assumption) (by assumption) (by assumption) (by assumption) (by assumption) (by assumption) (by assumption)) ?_)) | (with_reducible ((with_reducible show wpAny _ _ (binaryOp _ _ (Value.int (_ * _) _)) _ _ _); refine rshift_int (sh_pos (by assumption) (by assumption)) ?_)) | ((with_reducible show wpAny _ _ (callWith _ (Value.ref _) _ _ _) _ _ _); k_here; k_dflt (refine' callWith_F ?k1 ?_; (case k1 => exact fnAt_base (by k_asm) (by assumption)); k_whole)) | ((with_reducible show wpAny _ _ (eval (PySem.Expr.Name ..) _) _ _ _); k_here; k_dflt (refine' nameX_FB ?a ?b ?c ?F ?o ?d ?_; (case a => exact rfl); (case b => exact rfl); (case c => exact rfl); (case F => k_asm); (case o => assumption); (case d => assumption); k_whole)) | walk1 | ((with_reducible show wpAny _ _ (binaryOp PySem.Operator.LShift (Value.int ..) (Value.int ..)) _ _ _); refine lshift_int (sh_pos (by assumption) (by assumption)) (sz_i (by assumption) (by assumption) (by assumption) (by assumption) (by assumption) (by assumption) (by assumption) (by assumption)) ?_) | ((with_reducible show wpAny _ _ (binaryOp _ _ (Value.int (_ * _) _)) _ _ _); refine rshift_int (sh_pos (by assumption) (by assumption)) ?_) | (dsimp only; (first | (with_reducible ((with_reducible show wpAny _ _ (binaryOp PySem.Operator.LShift (Value.int ..) (Value.int ..)) _ _ _); refine lshift_int (sh_pos (by assumption) (by assumption)) (sz_i (by assumption) (by assumption) (by assumption) (by assumption) (by assumption) (by assumption) (by assumption) (by assumption)) ?_)) | (with_reducible ((with_reducible show wpAny _ _ (binaryOp _ _ (Value.int (_ * _) _)) _ _ _); refine rshift_int (sh_pos (by assumption) (by assumption)) ?_)) | ((with_reducible show wpAny _ _ (callWith _ (Value.ref _) _ _ _) _ _ _); k_here; k_dflt (refine' callWith_F ?k1 ?_; (case k1 => exact fnAt_base (by k_asm) (by assumption)); k_whole)) | ((with_reducible show wpAny _ _ (eval (PySem.Expr.Name ..) _) _ _ _); k_here; k_dflt (refine' nameX_FB ?a ?b ?c ?F ?o ?d ?_; (case a => exact rfl); (case b => exact rfl); (case c => exact rfl); (case F => k_asm); (case o => assumption); (case d => assumption); k_whole)) | walk1 | ((with_reducible show wpAny _ _ (binaryOp PySem.Operator.LShift (Value.int ..) (Value.int ..)) _ _ _); refine lshift_int (sh_pos (by assumption) (by assumption)) (sz_i (by assumption) (by assumption) (by assumption) (by assumption) (by assumption) (by assumption) (by assumption) (by assumption)) ?_) | ((with_reducible show wpAny _ _ (binaryOp _ _ (Value.int (_ * _) _)) _ _ _); refine rshift_int (sh_pos (by assumption) (by assumption)) ?_))) | (leave1; (try dsimp only)) | fail "no step")
    rename Fr _ _ _ _ => F2
    have hl9 : ∀ y : Int, (ms.take L.toNat ++ digs nn (midI L R - L).toNat y ++ ms.drop (midI L R).toNat).length = len := by
      intro y
      rw [List.length_append, List.length_append, List.length_take, List.length_drop, digs_length]
      have : (midI L R - L).toNat = (midI L R).toNat - L.toNat := by show ((L + R).fdiv (2 ^ Int.toNat 1) - L).toNat = ((L + R).fdiv (2 ^ Int.toNat 1)).toNat - _; omega
      show _ = _
      have h5 : L.toNat ≤ (midI L R).toNat ∧ (midI L R).toNat ≤ ms.length := by show L.toNat ≤ ((L + R).fdiv (2 ^ Int.toNat 1)).toNat ∧ ((L + R).fdiv (2 ^ Int.toNat 1)).toNat ≤ _; omega
      omega
    refine' use_specH (ih_i IH hI9 (hl9 _) (by omega) hm.2 h2 (by omega) (up_ok h1 (by assumption) hx0 hx1)) [] B F2 N9' X T rfl rfl rfl (fun p hp => hp) (fun _ h9 => nomatch h9) (preI_keep hpre (keep_hide F2 N9')) ?ud ?uu ?_
    case ud => (first | (refine' room_ok ?rh ?re; (case rh => assumption); (case re => exact rfl)) | (refine' room_ok0 ?rh ?re; (case rh => assumption); (case re => exact rfl)) | ktr_room)
    case uu => (first | (refine' room_ok ?rh ?re; (case rh => assumption); (case re => exact rfl)) | (refine' room_ok0 ?rh ?re; (case rh => assumption); (case re => exact rfl)) | ktr_units)
    intro r8 h8 tk8 k8 F8 N8 e8
    obtain ⟨rfl, vs8, ep8, hD8, hI8⟩ := e8
    have N8' := news_re N9' hD8
    clear N8
    repeat' (first | (k_unfold; (try dsimp only)) | (k_end; wrow_close) | (with_reducible ((with_reducible show wpAny _ _ (binaryOp PySem.Operator.LShift (Value.int ..) (Value.int ..)) _ _ _); refine lshift_int (sh_pos (by assumption) (by assumption)) (sz_i (by assumption) (by assumption) (by assumption) (by assumption) (by assumption) (by assumption) (by assumption) (by assumption)) ?_)) | (with_reducible ((with_reducible show wpAny _ _ (binaryOp _ _ (Value.int (_ * _) _)) _ _ _); refine rshift_int (sh_pos (by assumption) (by assumption)) ?_)) | ((with_reducible show wpAny _ _ (callWith _ (Value.ref _) _ _ _) _ _ _); k_here; k_dflt (refine' callWith_F ?k1 ?_; (case k1 => exact fnAt_base (by k_asm) (by assumption)); k_whole)) | ((with_reducible show wpAny _ _ (eval (PySem.Expr.Name ..) _) _ _ _); k_here; k_dflt (refine' nameX_FB ?a ?b ?c ?F ?o ?d ?_; (case a => exact rfl); (case b => exact rfl); (case c => exact rfl); (case F => k_asm); (case o => assumption); (case d => assumption); k_whole)) | walk1 | ((with_reducible show wpAny _ _ (binaryOp PySem.Operator.LShift (Value.int ..) (Value.int ..)) _ _ _); refine lshift_int (sh_pos (by assumption) (by assumption)) (sz_i (by assumption) (by assumption) (by assumption) (by assumption) (by assumption) (by assumption) (by assumption) (by assumption)) ?_) | ((with_reducible show wpAny _ _ (binaryOp _ _ (Value.int (_ * _) _)) _ _ _); refine rshift_int (sh_pos (by assumption) (by assumption)) ?_) | (dsimp only; (first | (with_reducible ((with_reducible show wpAny _ _ (binaryOp PySem.Operator.LShift (Value.int ..) (Value.int ..)) _ _ _); refine lshift_int (sh_pos (by assumption) (by assumption)) (sz_i (by assumption) (by assumption) (by assumption) (by assumption) (by assumption) (by assumption) (by assumption) (by assumption)) ?_)) | (with_reducible ((with_reducible show wpAny _ _ (binaryOp _ _ (Value.int (_ * _) _)) _ _ _); refine rshift_int (sh_pos (by assumption) (by assumption)) ?_)) | ((with_reducible show wpAny _ _ (callWith _ (Value.ref _) _ _ _) _ _ _); k_here; k_dflt (refine' callWith_F ?k1 ?_; (case k1 => exact fnAt_base (by k_asm) (by assumption)); k_whole)) | ((with_reducible show wpAny _ _ (eval (PySem.Expr.Name ..) _) _ _ _); k_here; k_dflt (refine' nameX_FB ?a ?b ?c ?F ?o ?d ?_; (case a => exact rfl); (case b => exact rfl); (case c => exact rfl); (case F => k_asm); (case o => assumption); (case d => assumption); k_whole)) | walk1 | ((with_reducible show wpAny _ _ (binaryOp PySem.Operator.LShift (Value.int ..) (Value.int ..)) _ _ _); refine lshift_int (sh_pos (by assumption) (by assumption)) (sz_i (by assumption) (by assumption) (by assumption) (by assumption) (by assumption) (by assumption) (by assumption) (by assumption)) ?_) | ((with_reducible show wpAny _ _ (binaryOp _ _ (Value.int (_ * _) _)) _ _ _); refine rshift_int (sh_pos (by assumption) (by assumption)) ?_))) | (leave1; (try dsimp only)) | fail "no step")
    dsimp only
    refine hret _ _ _ (Fr.keep (by assumption)) ⟨rfl, _, _, News.get N8' List.mem_cons_self, ints_eq hI8 ?_⟩
    rw [put_put ms _ _ L.toNat (midI L R).toNat R.toNat (by show L.toNat ≤ ((L + R).fdiv (2 ^ Int.toNat 1)).toNat; omega) (by show ((L + R).fdiv (2 ^ Int.toNat 1)).toNat ≤ R.toNat; omega) (by omega) (by rw [digs_length]; show ((L + R).fdiv (2 ^ Int.toNat 1) - L).toNat = ((L + R).fdiv (2 ^ Int.toNat 1)).toNat - L.toNat; omega)]
    exact congrArg (fun d => ms.take L.toNat ++ d ++ ms.drop R.toNat) (digs_mid h1 (by assumption) hx0)
end Mine

end
section
open PySem PySem.W PyProof.Rows PySem.Spec PySem.Calls
namespace Mine
section
theorem rep_one (v : Value) (k : Nat) : (List.replicate k [v]).flatten = List.replicate k v := by
  induction k with
  | zero => rfl
  | succ k ih => rw [List.replicate_succ, List.flatten_cons, ih, List.replicate_succ]; rfl
theorem rep_ints (t : Tok) (k : Nat) : IntsAre (List.replicate k (.int 0 t)) (List.replicate k 0) := by
  induction k with
  | zero => exact IntsAre.nil
  | succ k ih => exact IntsAre.cons _ _ ih
theorem mul_zeros {prog : Program} {w : World} {A : Around} {E : Value → Shared → Prop} {s : Shared} {h₀ : Heap} {L : Addr} {m : Str → Option Value} {news : List (Addr × Obj)} {l : Addr} {t : Tok} {x : Int} {u : Tok} {Q : Value → Shared → Prop} {k : Nat} (hx : x = k)
    (Fm : Fr h₀ L s.heap m) (N : News h₀ L s.heap news) (hl : s.heap.IsList l [Value.int 0 t].toArray) (hhi : k ≤ 200)
    (h : ∀ D h' t', Fr h₀ L h' m → News h₀ L h' ((D, W.listOf (List.replicate k (Value.int 0 t')).toArray 0) :: news) → (∀ p ∈ news, p.1 < D) → IntsAre (List.replicate k (Value.int 0 t')) (List.replicate k 0) → Q (.ref D) { s with heap := h' }) : wpAny (model prog w) A (binaryOp .Mult (.ref l) (.int x u)) Q E s := by
  subst hx
  refine KMa.mul Fm N hl (by omega) (by omega) (by simp only [List.length_cons, List.length_nil, Int.toNat_natCast]; omega) (rep_one _ _) fun D h' F' N' l => ?_
  rw [Int.toNat_natCast] at N'
  exact h D h' t F' N' l (rep_ints _ _)
theorem lenOf {prog : Program} {w : World} {A : Around} {E : Value → Shared → Prop} {s : Shared} {h₀ : Heap} {L : Addr} {news : List (Addr × Obj)} {l : Addr} {t' : Tok} {k n : Nat} {Q : Value → Shared → Prop} (N : News h₀ L s.heap news) (hm : (l, W.listOf (List.replicate k (Value.int 0 t')).toArray n) ∈ news) (_hi : IntsAre (List.replicate k (Value.int 0 t')) (List.replicate k 0)) (hz : k ≤ 200)
    (h : ∀ t tk, Q (.int k t) { s with toks := tk }) : wpAny (model prog w) A (call (.builtin "len") [.ref l]) Q E s := by
  have e : (List.replicate k (Value.int 0 t')).toArray.size = k := by rw [List.size_toArray, List.length_replicate]
  refine len_list (items := (List.replicate k (Value.int 0 t')).toArray) ⟨_, N.get hm, rfl, _, rfl⟩ (by rw [e]; omega) ?_
  rw [e]
  exact h _ _
theorem len_rep (k : Nat) : ((List.replicate k (0 : Int)).length : Int) = k := by rw [List.length_replicate]
local macro_rules | `(tactic| k_room) => `(tactic| ktr_room)
structure Halt (p : Prop) : Prop where
  out : p
theorem halt {p : Prop} (h : Halt p) : p := h.out
local macro_rules | `(tactic| walk_at "call ref") => `(tactic| (k_here; (with_reducible show wpAny _ _ (call (Value.ref _) [_, _, _]) _ _ _); refine halt ?_))
theorem qual_i (L : Addr) : qualnameIn (envOfC (Str.ofString "_int2digits") { kind := .function, names := [(Str.ofString "a", .local), (Str.ofString "n", .cell), (Str.ofString "a_digits", .cell), (Str.ofString "inner", .cell), (Str.ofString "len", .globalImplicit)], isGenerator := false, isCoroutine := false } L 42 (.ref 41)) (Str.ofString "inner") (Str.ofString "inner") = iQualI := by kernel_rfl
theorem preI_mk {q : Str} {f cA cN cI D : Addr} {doc pm ctv : Value} {c' : Addr} {nn : Int} {tn : Tok} {h : Heap} {oA oN oI : Obj} (hq : q = iQualI)
    (hf : h.get? f = some (fnMade (Str.ofString "inner") q iArgsI iBodyI iScopeI [(Str.ofString "n", cN), (Str.ofString "inner", cI), (Str.ofString "a_digits", cA)] doc pm c' ctv)) (hcd : h.CodeRec (.ref c') iQualI)
    (hA : h.get? cA = some oA) (hAd : oA.data = .cell (some (.ref D))) (hN : h.get? cN = some oN) (hNd : oN.data = .cell (some (.int nn tn))) (hI : h.get? cI = some oI) (hId : oI.data = .cell (some (.ref f))) :
    PreI f cA cN cI D doc pm ctv c' nn tn h := ⟨hq ▸ hf, hcd, ⟨_, hA, hAd⟩, ⟨_, hN, hNd⟩, ⟨_, hI, hId⟩⟩
theorem bits_lt {x : Int} {nn k : Nat} (hx0 : 0 ≤ x) (hnn : 0 < nn) (hk : ((Builtin.Int.intBits x : Int) + nn - 1).fdiv nn = k) : x < 2 ^ (nn * k) := by
  rw [Int.fdiv_eq_ediv_of_nonneg _ (by omega)] at hk
  have h1 := Int.mul_ediv_add_emod ((Builtin.Int.intBits x : Int) + nn - 1) nn
  have h2 := Int.emod_lt_of_pos ((Builtin.Int.intBits x : Int) + nn - 1) (show (0 : Int) < nn by omega)
  rw [hk, ← Int.natCast_mul] at h1
  have q : Builtin.Int.intBits x ≤ nn * k := by omega
  have z := PySem.intBits_le_iff.mp q
  have e := pow_cast (nn * k)
  omega
theorem k_pos {x : Int} {nn k : Nat} (hx : x ≠ 0) (hx0 : 0 ≤ x) (hnn : 0 < nn) (hk : ((Builtin.Int.intBits x : Int) + nn - 1).fdiv nn = k) : 0 < k := by
  have z := bits_lt hx0 hnn hk
  rcases Nat.eq_zero_or_pos k with rfl | h
  · rw [Nat.mul_zero] at z
    have : (2 : Int) ^ 0 = 1 := rfl
    omega
  · exact h
theorem k_zero {nn k : Nat} (hnn : 0 < nn) (hk : ((Builtin.Int.intBits 0 : Int) + nn - 1).fdiv nn = k) : k = 0 := by
  have e : Builtin.Int.intBits 0 = 0 := by decide
  rw [e, Int.fdiv_eq_ediv_of_nonneg _ (by omega), Int.ediv_eq_zero_of_lt (by omega) (by omega)] at hk
  omega
theorem own_mem {D : Addr} {o : Obj} {news : List (Addr × Obj)} (h : (D, o) ∈ news) : ∀ p ∈ [(D, o)], p ∈ news := fun p hp => by rw [List.mem_singleton] at hp; exact hp ▸ h
theorem rest_mem {D c : Addr} {o oc : Obj} {news : List (Addr × Obj)} (h : (c, oc) ∈ news) (hne : c ≠ D) : ∀ p ∈ [(c, oc)], p ∈ news ∧ p.1 ∉ [(D, o)].map (·.1) := fun p hp => by
  rw [List.mem_singleton] at hp
  subst hp
  exact ⟨h, by simpa using hne⟩
theorem hid {h : Heap} {D b : Addr} {o : Obj} (e : h.get? b = some o) (hne : b ≠ D) : (hideAll h [D]).get? b = some o := hideAll_get _ e (by simpa using hne)
theorem codeRec_keep {h h' : Heap} {v : Value} {q : Str} (x : h.CodeRec v q) (k : Kept h h') : h'.CodeRec v q := x.keeps k
theorem keep_hideN {g h : Heap} {L D : Addr} {m : Str → Option Value} {o : Obj} {news : List (Addr × Obj)} (F : Fr g L h m) (N : News g L h news) (hm : (D, o) ∈ news) : Kept g (hideAll h [D]) := fun b ob e => hideAll_get _ (F.keep _ _ e) (by
  rw [List.mem_singleton]
  rintro rfl
  have := (N _ hm).2.2
  rw [e] at this; cases this)
theorem end_list {g h h' : Heap} {L D : Addr} {o : Obj} {news : List (Addr × Obj)} {vs : List Value} {ep : Nat} {ns ms : List Int} (N : News g L h news) (hm : (D, o) ∈ news) (e : h'.get? D = some (listObj vs ep)) (hI : IntsAre vs ns) (he : ns = ms) : NewInts ms g h' (.ref D) := ⟨D, vs, ep, rfl, (N _ hm).2.2, e, he ▸ hI⟩
theorem spec_i2d (w : World) (x : Int) (tx : Tok) (hx0 : 0 ≤ x) (nn : Nat) (tn : Tok) (hnn : 0 < nn ∧ nn ≤ 64) (k : Nat) (hk : ((Builtin.Int.intBits x : Int) + nn - 1).fdiv nn = k) (hk32 : k ≤ 32) (c' : Addr) :
    Spec w 42 [.int x tx, .int nn tn] (Warm 41 37 35 4 iQualI c') (fun h h' r => NewInts (digs nn k x) h h' r) 60 600 := by
  have kf9 : hd.heap_39 = hd.heap_39 ∧ PySem.Challenge.rw_ik0056_01 = PySem.Challenge.rw_ik0056_01 := by (k_fill; exact ⟨rfl, rfl⟩)
  clear kf9
  refine' spec_enterC ?ho ?hcd ?hd1 ?hb ?hkind ?hnd ?hco ?hgen ?hk ?_
  case ho => k_dflt k_is
  case hcd => k_dflt k_is
  case hd1 => decide
  case hb => (intro s hX; first | exact BindsTo.of_eq rfl | exact binds_K hX rfl (by k_dflt k_is) rfl rfl rfl)
  case hkind => exact rfl
  case hnd => decide +kernel
  case hco => exact rfl
  case hgen => exact rfl
  case hk => exact rfl
  unfold P lo
  intro mean mg mb dp un gd outer base g s h₁ L tk cells Q E hg B X T hp hdp hun F N Y hret
  k_cells Y
  (try dsimp only at F N)
  obtain ⟨hC, hP, hR⟩ := hp
  repeat' (first | (k_unfold; (try dsimp only)) | (k_end; wrow_close) | (with_reducible ((with_reducible show wpAny _ _ (binaryOp PySem.Operator.FloorDiv (Value.int ..) (Value.int ..)) _ _ _); (with_reducible refine floordiv_int ?kbe ?_ (Or.inl (PyProof.noPylong_small ?kbp))); (case kbe => omega); (case kbp => omega))) | ((with_reducible show wpAny _ _ (exec (PySem.Stmt.FunctionDef ..) _) _ _ _); k_here; k_dflt (refine' nestDef_K ?d0 ?k0 ?a0 ?_; (case d0 => exact rfl); (case k0 => exact rfl); (case a0 => exact rfl)); k_dflt (refine' nestHitB ?F ?N ?T ?C ?cd ?mem ?t ?n ?cl ?_; (case F => k_asm); (case N => k_asm); (case T => k_asm); (case cd => exact rfl); (case C => k_asm); (case mem => k_asm); (case t => kn_triples); (case n => kn_hit); (case cl => exact rfl); k_whole); intro f' ct' dc' pm' h' tk' F' N' l1; (try dsimp only at N'); (try k_lt l1)) | ((with_reducible show wpAny _ _ (call (Value.builtin "len") _) _ _ _); k_here; k_dflt (refine' lenOf ?N ?m ?i ?z ?_; (case N => k_asm); (case m => k_mem); (case i => assumption); (case z => omega); k_whole)) | (k_here; (with_reducible show wpAny _ _ (binaryOp Operator.Mult (Value.ref _) (Value.int _ _)) _ _ _); k_dflt (refine' mul_zeros ?hx ?F ?N ?l ?hi ?_; (case hx => assumption); (case F => k_asm); (case N => k_asm); (case l => is_list); (case hi => omega); k_whole); intro D' h' t' F' N' l1 hI9; (try k_lt l1)) | walk1 | ((with_reducible show wpAny _ _ (binaryOp PySem.Operator.FloorDiv (Value.int ..) (Value.int ..)) _ _ _); (with_reducible refine floordiv_int ?kbe ?_ (Or.inl (PyProof.noPylong_small ?kbp))); (case kbe => omega); (case kbp => omega)) | (dsimp only; (first | (with_reducible ((with_reducible show wpAny _ _ (binaryOp PySem.Operator.FloorDiv (Value.int ..) (Value.int ..)) _ _ _); (with_reducible refine floordiv_int ?kbe ?_ (Or.inl (PyProof.noPylong_small ?kbp))); (case kbe => omega); (case kbp => omega))) | ((with_reducible show wpAny _ _ (exec (PySem.Stmt.FunctionDef ..) _) _ _ _); k_here; k_dflt (refine' nestDef_K ?d0 ?k0 ?a0 ?_; (case d0 => exact rfl); (case k0 => exact rfl); (case a0 => exact rfl)); k_dflt (refine' nestHitB ?F ?N ?T ?C ?cd ?mem ?t ?n ?cl ?_; (case F => k_asm); (case N => k_asm); (case T => k_asm); (case cd => exact rfl); (case C => k_asm); (case mem => k_asm); (case t => kn_triples); (case n => kn_hit); (case cl => exact rfl); k_whole); intro f' ct' dc' pm' h' tk' F' N' l1; (try dsimp only at N'); (try k_lt l1)) | ((with_reducible show wpAny _ _ (call (Value.builtin "len") _) _ _ _); k_here; k_dflt (refine' lenOf ?N ?m ?i ?z ?_; (case N => k_asm); (case m => k_mem); (case i => assumption); (case z => omega); k_whole)) | (k_here; (with_reducible show wpAny _ _ (binaryOp Operator.Mult (Value.ref _) (Value.int _ _)) _ _ _); k_dflt (refine' mul_zeros ?hx ?F ?N ?l ?hi ?_; (case hx => assumption); (case F => k_asm); (case N => k_asm); (case l => is_list); (case hi => omega); k_whole); intro D' h' t' F' N' l1 hI9; (try k_lt l1)) | walk1 | ((with_reducible show wpAny _ _ (binaryOp PySem.Operator.FloorDiv (Value.int ..) (Value.int ..)) _ _ _); (with_reducible refine floordiv_int ?kbe ?_ (Or.inl (PyProof.noPylong_small ?kbp))); (case kbe => omega); (case kbp => omega)))) | (leave1; (try dsimp only)) | fail "no step")
  · refine Halt.mk ?_
    rename Fr _ _ _ _ => F1
    rename News _ _ _ _ => N1
    have hx : x ≠ 0 := by assumption
    have hkp := k_pos hx hx0 hnn.1 hk
    rename _ < _ ∧ _ < _ ∧ _ < _ ∧ _ < _ ∧ _ < _ => l2
    rename _ < _ ∧ _ < _ ∧ _ < _ ∧ _ < _ => l3
    refine' use_specH (inner_i w _ _ _ _ _ _ _ _ _ nn hnn _ k hk32 k x 0 k _ _ _ _ _ 0 (by assumption) (by rw [List.length_replicate]) (by omega) (by omega) (by omega) (by omega) hx0 ?hx1) [(L + 1 + 1, _)] B F1 N1 X T rfl rfl rfl (own_mem ?m1) (rest_mem ?m2 ?ne) ?up ?ud ?uu ?_
    case hx1 =>
      rw [show ((k : Int) - 0).toNat = k by omega]
      exact bits_lt hx0 hnn.1 hk
    case m1 => k_mem
    case ud => (first | (refine' room_ok ?rh ?re; (case rh => assumption); (case re => exact rfl)) | (refine' room_ok0 ?rh ?re; (case rh => assumption); (case re => exact rfl)) | ktr_room)
    case uu => (first | (refine' room_ok ?rh ?re; (case rh => assumption); (case re => exact rfl)) | (refine' room_ok0 ?rh ?re; (case rh => assumption); (case re => exact rfl)) | ktr_units)
    case m2 => k_mem
    case ne => refine neN ?_; omega
    case up =>
      refine' preI_mk (qual_i _) (hid (News.get N1 (List.Mem.head _)) ?n1) (codeRec_keep hR (keep_hideN F1 N1 ?m3)) (hid (News.get N1 ?m4) ?n2) ?d4 (hid (News.get N1 ?m5) ?n3) ?d5 (hid (News.get N1 ?m6) ?n4) ?d6
      case m3 => k_mem
      case m4 => k_mem
      case m5 => k_mem
      case m6 => k_mem
      case d4 => assumption
      case d5 => assumption
      case d6 => assumption
      all_goals (refine neN ?_; dsimp only; omega)
    intro r9 h9 tk9 k9 F9 N9 e9
    obtain ⟨rfl, vs9, ep9, hD9, hI9⟩ := e9
    repeat' (first | (k_unfold; (try dsimp only)) | (k_end; wrow_close) | (with_reducible ((with_reducible show wpAny _ _ (binaryOp PySem.Operator.FloorDiv (Value.int ..) (Value.int ..)) _ _ _); (with_reducible refine floordiv_int ?kbe ?_ (Or.inl (PyProof.noPylong_small ?kbp))); (case kbe => omega); (case kbp => omega))) | ((with_reducible show wpAny _ _ (exec (PySem.Stmt.FunctionDef ..) _) _ _ _); k_here; k_dflt (refine' nestDef_K ?d0 ?k0 ?a0 ?_; (case d0 => exact rfl); (case k0 => exact rfl); (case a0 => exact rfl)); k_dflt (refine' nestHitB ?F ?N ?T ?C ?cd ?mem ?t ?n ?cl ?_; (case F => k_asm); (case N => k_asm); (case T => k_asm); (case cd => exact rfl); (case C => k_asm); (case mem => k_asm); (case t => kn_triples); (case n => kn_hit); (case cl => exact rfl); k_whole); intro f' ct' dc' pm' h' tk' F' N' l1; (try dsimp only at N'); (try k_lt l1)) | ((with_reducible show wpAny _ _ (call (Value.builtin "len") _) _ _ _); k_here; k_dflt (refine' lenOf ?N ?m ?i ?z ?_; (case N => k_asm); (case m => k_mem); (case i => assumption); (case z => omega); k_whole)) | (k_here; (with_reducible show wpAny _ _ (binaryOp Operator.Mult (Value.ref _) (Value.int _ _)) _ _ _); k_dflt (refine' mul_zeros ?hx ?F ?N ?l ?hi ?_; (case hx => assumption); (case F => k_asm); (case N => k_asm); (case l => is_list); (case hi => omega); k_whole); intro D' h' t' F' N' l1 hI9; (try k_lt l1)) | walk1 | ((with_reducible show wpAny _ _ (binaryOp PySem.Operator.FloorDiv (Value.int ..) (Value.int ..)) _ _ _); (with_reducible refine floordiv_int ?kbe ?_ (Or.inl (PyProof.noPylong_small ?kbp))); (case kbe => omega); (case kbp => omega)) | (dsimp only; (first | (with_reducible ((with_reducible show wpAny _ _ (binaryOp PySem.Operator.FloorDiv (Value.int ..) (Value.int ..)) _ _ _); (with_reducible refine floordiv_int ?kbe ?_ (Or.inl (PyProof.noPylong_small ?kbp))); (case kbe => omega); (case kbp => omega))) | ((with_reducible show wpAny _ _ (exec (PySem.Stmt.FunctionDef ..) _) _ _ _); k_here; k_dflt (refine' nestDef_K ?d0 ?k0 ?a0 ?_; (case d0 => exact rfl); (case k0 => exact rfl); (case a0 => exact rfl)); k_dflt (refine' nestHitB ?F ?N ?T ?C ?cd ?mem ?t ?n ?cl ?_; (case F => k_asm); (case N => k_asm); (case T => k_asm); (case cd => exact rfl); (case C => k_asm); (case mem => k_asm); (case t => kn_triples); (case n => kn_hit); (case cl => exact rfl); k_whole); intro f' ct' dc' pm' h' tk' F' N' l1; (try dsimp only at N'); (try k_lt l1)) | ((with_reducible show wpAny _ _ (call (Value.builtin "len") _) _ _ _); k_here; k_dflt (refine' lenOf ?N ?m ?i ?z ?_; (case N => k_asm); (case m => k_mem); (case i => assumption); (case z => omega); k_whole)) | (k_here; (with_reducible show wpAny _ _ (binaryOp Operator.Mult (Value.ref _) (Value.int _ _)) _ _ _); k_dflt (refine' mul_zeros ?hx ?F ?N ?l ?hi ?_; (case hx => assumption); (case F => k_asm); (case N => k_asm); (case l => is_list); (case hi => omega); k_whole); intro D' h' t' F' N' l1 hI9; (try k_lt l1)) | walk1 | ((with_reducible show wpAny _ _ (binaryOp PySem.Operator.FloorDiv (Value.int ..) (Value.int ..)) _ _ _); (with_reducible refine floordiv_int ?kbe ?_ (Or.inl (PyProof.noPylong_small ?kbp))); (case kbe => omega); (case kbp => omega)))) | (leave1; (try dsimp only)) | fail "no step")
    dsimp only
    refine' hret _ _ _ (Fr.keep (by assumption)) (end_list N1 ?m7 hD9 hI9 ?_)
    case m7 => k_mem
    have ek : ((k : Int) - 0).toNat = k := by omega
    rw [ek, Int.toNat_natCast, show (0 : Int).toNat = 0 from rfl, List.take_zero, List.nil_append, List.drop_of_length_le (by rw [List.length_replicate]; omega), List.append_nil]
  · rename x = 0 => e0
    subst e0
    have e1 := k_zero hnn.1 hk
    subst e1
    dsimp only
    exact hret _ _ _ (Fr.keep (by assumption)) (new_ints (by assumption) (by k_mem) (by assumption) rfl)
theorem rest_mem3 {D c1 c2 c3 : Addr} {o o1 o2 o3 : Obj} {news : List (Addr × Obj)} (h1 : (c1, o1) ∈ news) (h2 : (c2, o2) ∈ news) (h3 : (c3, o3) ∈ news) (n1 : c1 ≠ D) (n2 : c2 ≠ D) (n3 : c3 ≠ D) : ∀ p ∈ [(c1, o1), (c2, o2), (c3, o3)], p ∈ news ∧ p.1 ∉ [(D, o)].map (·.1) := fun p hp => by
  rcases List.mem_cons.mp hp with rfl | hp
  · exact ⟨h1, by simpa using n1⟩
  · rcases List.mem_cons.mp hp with rfl | hp
    · exact ⟨h2, by simpa using n2⟩
    · rw [List.mem_singleton] at hp
      subst hp
      exact ⟨h3, by simpa using n3⟩
theorem cold_i2d (w : World) (x : Int) (tx : Tok) (hx0 : 0 ≤ x) (nn : Nat) (tn : Tok) (hnn : 0 < nn ∧ nn ≤ 64) (k : Nat) (hk : ((Builtin.Int.intBits x : Int) + nn - 1).fdiv nn = k) (hk32 : k ≤ 32) :
    SpecT w 42 37 35 4 iQualI [.int x tx, .int nn tn] (fun h => CodeHd h 41 37) (fun h h' r => NewInts (digs nn k x) h h' r) 60 600 := by
  have kf9 : hd.heap_39 = hd.heap_39 ∧ PySem.Challenge.rw_ik0056_01 = PySem.Challenge.rw_ik0056_01 := by (k_fill; exact ⟨rfl, rfl⟩)
  clear kf9
  refine' spec_enterCT ?ho ?hcd ?hd1 ?hb ?hkind ?hnd ?hco ?hgen ?hk ?_
  case ho => k_dflt k_is
  case hcd => k_dflt k_is
  case hd1 => decide
  case hb => (intro s hX; first | exact BindsTo.of_eq rfl | exact binds_K hX rfl (by k_dflt k_is) rfl rfl rfl)
  case hkind => exact rfl
  case hnd => decide +kernel
  case hco => exact rfl
  case hgen => exact rfl
  case hk => exact rfl
  unfold P lo
  intro mean mg mb dp un gd outer base g s h₁ L tk cells Q E hg B X T hp hdp hun F N hlt Y hret
  k_cells Y
  (try dsimp only at F N)
  (try simp only [List.cons_append, List.nil_append] at N)
  have hC := hp
  have hlt' := ltN hlt
  clear hlt
  repeat' (first | (k_unfold; (try dsimp only)) | (k_end; wrow_close) | (with_reducible ((with_reducible show wpAny _ _ (binaryOp PySem.Operator.FloorDiv (Value.int ..) (Value.int ..)) _ _ _); (with_reducible refine floordiv_int ?kbe ?_ (Or.inl (PyProof.noPylong_small ?kbp))); (case kbe => omega); (case kbp => omega))) | ((with_reducible show wpAny _ _ (exec (PySem.Stmt.FunctionDef ..) _) _ _ _); k_here; k_dflt (refine' nestDef_K ?d0 ?k0 ?a0 ?_; (case d0 => exact rfl); (case k0 => exact rfl); (case a0 => exact rfl)); k_dflt (refine' nestHitB ?F ?N ?T ?C ?cd ?mem ?t ?n ?cl ?_; (case F => k_asm); (case N => k_asm); (case T => k_asm); (case cd => exact rfl); (case C => k_asm); (case mem => k_asm); (case t => kn_triples); (case n => kn_hit); (case cl => exact rfl); k_whole); intro f' ct' dc' pm' h' tk' F' N' l1; (try dsimp only at N'); (try k_lt l1)) | ((with_reducible show wpAny _ _ (call (Value.builtin "len") _) _ _ _); k_here; k_dflt (refine' lenOf ?N ?m ?i ?z ?_; (case N => k_asm); (case m => k_mem); (case i => assumption); (case z => omega); k_whole)) | (k_here; (with_reducible show wpAny _ _ (binaryOp Operator.Mult (Value.ref _) (Value.int _ _)) _ _ _); k_dflt (refine' mul_zeros ?hx ?F ?N ?l ?hi ?_; (case hx => assumption); (case F => k_asm); (case N => k_asm); (case l => is_list); (case hi => omega); k_whole); intro D' h' t' F' N' l1 hI9; (try k_lt l1)) | walk1 | ((with_reducible show wpAny _ _ (binaryOp PySem.Operator.FloorDiv (Value.int ..) (Value.int ..)) _ _ _); (with_reducible refine floordiv_int ?kbe ?_ (Or.inl (PyProof.noPylong_small ?kbp))); (case kbe => omega); (case kbp => omega)) | (dsimp only; (first | (with_reducible ((with_reducible show wpAny _ _ (binaryOp PySem.Operator.FloorDiv (Value.int ..) (Value.int ..)) _ _ _); (with_reducible refine floordiv_int ?kbe ?_ (Or.inl (PyProof.noPylong_small ?kbp))); (case kbe => omega); (case kbp => omega))) | ((with_reducible show wpAny _ _ (exec (PySem.Stmt.FunctionDef ..) _) _ _ _); k_here; k_dflt (refine' nestDef_K ?d0 ?k0 ?a0 ?_; (case d0 => exact rfl); (case k0 => exact rfl); (case a0 => exact rfl)); k_dflt (refine' nestHitB ?F ?N ?T ?C ?cd ?mem ?t ?n ?cl ?_; (case F => k_asm); (case N => k_asm); (case T => k_asm); (case cd => exact rfl); (case C => k_asm); (case mem => k_asm); (case t => kn_triples); (case n => kn_hit); (case cl => exact rfl); k_whole); intro f' ct' dc' pm' h' tk' F' N' l1; (try dsimp only at N'); (try k_lt l1)) | ((with_reducible show wpAny _ _ (call (Value.builtin "len") _) _ _ _); k_here; k_dflt (refine' lenOf ?N ?m ?i ?z ?_; (case N => k_asm); (case m => k_mem); (case i => assumption); (case z => omega); k_whole)) | (k_here; (with_reducible show wpAny _ _ (binaryOp Operator.Mult (Value.ref _) (Value.int _ _)) _ _ _); k_dflt (refine' mul_zeros ?hx ?F ?N ?l ?hi ?_; (case hx => assumption); (case F => k_asm); (case N => k_asm); (case l => is_list); (case hi => omega); k_whole); intro D' h' t' F' N' l1 hI9; (try k_lt l1)) | walk1 | ((with_reducible show wpAny _ _ (binaryOp PySem.Operator.FloorDiv (Value.int ..) (Value.int ..)) _ _ _); (with_reducible refine floordiv_int ?kbe ?_ (Or.inl (PyProof.noPylong_small ?kbp))); (case kbe => omega); (case kbp => omega)))) | (leave1; (try dsimp only)) | fail "no step")
  · refine Halt.mk ?_
    rename Fr _ _ _ _ => F1
    rename News _ _ _ _ => N1
    have hx : x ≠ 0 := by assumption
    have hkp := k_pos hx hx0 hnn.1 hk
    rename _ < _ ∧ _ < _ ∧ _ < _ ∧ _ < _ ∧ _ < _ ∧ 37 < _ => l1
    rename _ = some (Value.str _ _) => d9
    rw [qual_i] at d9
    refine' use_specH (inner_i w _ _ _ _ _ _ _ _ _ nn hnn _ k hk32 k x 0 k _ _ _ _ _ 0 (by assumption) (by rw [List.length_replicate]) (by omega) (by omega) (by omega) (by omega) hx0 ?hx1) [(L + 1 + 1, _), (37, _), (_, _)] B F1 N1 X T rfl rfl rfl (own_mem ?m1) (rest_mem3 ?m2 ?m8 (List.Mem.tail _ (List.Mem.head _)) ?ne ?ne2 ?ne3) ?up ?ud ?uu ?_
    case hx1 =>
      rw [show ((k : Int) - 0).toNat = k by omega]
      exact bits_lt hx0 hnn.1 hk
    case m1 => k_mem
    case ud => (first | (refine' room_ok ?rh ?re; (case rh => assumption); (case re => exact rfl)) | (refine' room_ok0 ?rh ?re; (case rh => assumption); (case re => exact rfl)) | ktr_room)
    case uu => (first | (refine' room_ok ?rh ?re; (case rh => assumption); (case re => exact rfl)) | (refine' room_ok0 ?rh ?re; (case rh => assumption); (case re => exact rfl)) | ktr_units)
    case m2 => k_mem
    case m8 => k_mem
    case ne => refine neN ?_; omega
    case ne2 => refine neN ?_; omega
    case ne3 => refine neN ?_; omega
    case up =>
      refine' preI_mk (qual_i _) (hid (News.get N1 (List.Mem.head _)) ?n1) ?rc (hid (News.get N1 ?m4) ?n2) ?d4 (hid (News.get N1 ?m5) ?n3) ?d5 (hid (News.get N1 ?m6) ?n4) ?d6
      case rc => exact ⟨_, _, _, _, rfl, hid (News.get N1 (List.Mem.tail _ (List.Mem.head _))) (by refine neN ?_; dsimp only; omega), by assumption, d9⟩
      case m4 => k_mem
      case m5 => k_mem
      case m6 => k_mem
      case d4 => assumption
      case d5 => assumption
      case d6 => assumption
      all_goals (refine neN ?_; dsimp only; omega)
    intro r9 h9 tk9 k9 F9 N9 e9
    obtain ⟨rfl, vs9, ep9, hD9, hI9⟩ := e9
    repeat' (first | (k_unfold; (try dsimp only)) | (k_end; wrow_close) | (with_reducible ((with_reducible show wpAny _ _ (binaryOp PySem.Operator.FloorDiv (Value.int ..) (Value.int ..)) _ _ _); (with_reducible refine floordiv_int ?kbe ?_ (Or.inl (PyProof.noPylong_small ?kbp))); (case kbe => omega); (case kbp => omega))) | ((with_reducible show wpAny _ _ (exec (PySem.Stmt.FunctionDef ..) _) _ _ _); k_here; k_dflt (refine' nestDef_K ?d0 ?k0 ?a0 ?_; (case d0 => exact rfl); (case k0 => exact rfl); (case a0 => exact rfl)); k_dflt (refine' nestHitB ?F ?N ?T ?C ?cd ?mem ?t ?n ?cl ?_; (case F => k_asm); (case N => k_asm); (case T => k_asm); (case cd => exact rfl); (case C => k_asm); (case mem => k_asm); (case t => kn_triples); (case n => kn_hit); (case cl => exact rfl); k_whole); intro f' ct' dc' pm' h' tk' F' N' l1; (try dsimp only at N'); (try k_lt l1)) | ((with_reducible show wpAny _ _ (call (Value.builtin "len") _) _ _ _); k_here; k_dflt (refine' lenOf ?N ?m ?i ?z ?_; (case N => k_asm); (case m => k_mem); (case i => assumption); (case z => omega); k_whole)) | (k_here; (with_reducible show wpAny _ _ (binaryOp Operator.Mult (Value.ref _) (Value.int _ _)) _ _ _); k_dflt (refine' mul_zeros ?hx ?F ?N ?l ?hi ?_; (case hx => assumption); (case F => k_asm); (case N => k_asm); (case l => is_list); (case hi => omega); k_whole); intro D' h' t' F' N' l1 hI9; (try k_lt l1)) | walk1 | ((with_reducible show wpAny _ _ (binaryOp PySem.Operator.FloorDiv (Value.int ..) (Value.int ..)) _ _ _); (with_reducible refine floordiv_int ?kbe ?_ (Or.inl (PyProof.noPylong_small ?kbp))); (case kbe => omega); (case kbp => omega)) | (dsimp only; (first | (with_reducible ((with_reducible show wpAny _ _ (binaryOp PySem.Operator.FloorDiv (Value.int ..) (Value.int ..)) _ _ _); (with_reducible refine floordiv_int ?kbe ?_ (Or.inl (PyProof.noPylong_small ?kbp))); (case kbe => omega); (case kbp => omega))) | ((with_reducible show wpAny _ _ (exec (PySem.Stmt.FunctionDef ..) _) _ _ _); k_here; k_dflt (refine' nestDef_K ?d0 ?k0 ?a0 ?_; (case d0 => exact rfl); (case k0 => exact rfl); (case a0 => exact rfl)); k_dflt (refine' nestHitB ?F ?N ?T ?C ?cd ?mem ?t ?n ?cl ?_; (case F => k_asm); (case N => k_asm); (case T => k_asm); (case cd => exact rfl); (case C => k_asm); (case mem => k_asm); (case t => kn_triples); (case n => kn_hit); (case cl => exact rfl); k_whole); intro f' ct' dc' pm' h' tk' F' N' l1; (try dsimp only at N'); (try k_lt l1)) | ((with_reducible show wpAny _ _ (call (Value.builtin "len") _) _ _ _); k_here; k_dflt (refine' lenOf ?N ?m ?i ?z ?_; (case N => k_asm); (case m => k_mem); (case i => assumption); (case z => omega); k_whole)) | (k_here; (with_reducible show wpAny _ _ (binaryOp Operator.Mult (Value.ref _) (Value.int _ _)) _ _ _); k_dflt (refine' mul_zeros ?hx ?F ?N ?l ?hi ?_; (case hx => assumption); (case F => k_asm); (case N => k_asm); (case l => is_list); (case hi => omega); k_whole); intro D' h' t' F' N' l1 hI9; (try k_lt l1)) | walk1 | ((with_reducible show wpAny _ _ (binaryOp PySem.Operator.FloorDiv (Value.int ..) (Value.int ..)) _ _ _); (with_reducible refine floordiv_int ?kbe ?_ (Or.inl (PyProof.noPylong_small ?kbp))); (case kbe => omega); (case kbp => omega)))) | (leave1; (try dsimp only)) | fail "no step")
    dsimp only
    rename Fr g _ h9 _ => F8
    rename News g _ h9 _ => N8
    refine' hret _ _ _ _ _ _ _ (Fr.keep F8) (News.get N8 (by k_mem)) (News.get N8 (List.Mem.tail _ (List.Mem.tail _ (List.Mem.head _)))) l1.2.2.2.2.2 (News.fresh N8 (List.Mem.tail _ (List.Mem.tail _ (List.Mem.head _)))) (by assumption) d9 (end_list N1 ?m7 hD9 hI9 ?_)
    case m7 => k_mem
    have ek : ((k : Int) - 0).toNat = k := by omega
    rw [ek, Int.toNat_natCast, show (0 : Int).toNat = 0 from rfl, List.take_zero, List.nil_append, List.drop_of_length_le (by rw [List.length_replicate]; omega), List.append_nil]
  · rename x = 0 => e0
    subst e0
    have e1 := k_zero hnn.1 hk
    subst e1
    dsimp only
    rename News _ _ _ _ => N9
    rename _ < _ ∧ _ < _ ∧ _ < _ ∧ _ < _ ∧ _ < _ ∧ 37 < _ => l9
    rename _ = some (Value.str _ _) => d9
    rw [qual_i] at d9
    exact hret _ _ _ _ _ _ _ (Fr.keep (by assumption)) (News.get N9 (by k_mem)) (News.get N9 (List.Mem.tail _ (List.Mem.head _))) l9.2.2.2.2.2 (News.fresh N9 (List.Mem.tail _ (List.Mem.head _))) (by assumption) d9 (new_ints N9 (by k_mem) (by assumption) rfl)
end
end Mine

end
section
open PySem PySem.W PyProof.Rows PySem.Spec PySem.Calls
namespace Mine
section
theorem warm_keep {c Pt : Addr} {line col : Nat} {qual : Str} {c' : Addr} {h h' : Heap} (p : Warm c Pt line col qual c' h) (k : Kept h h') : Warm c Pt line col qual c' h' := ⟨p.1.keeps k, k _ _ p.2.1, p.2.2.keeps k⟩
abbrev W44 (c' : Addr) (h : Heap) : Prop := Warm 48 44 50 4 iQualD c' h
abbrev W37 (c' : Addr) (h : Heap) : Prop := Warm 41 37 35 4 iQualI c' h
/-- all items are places -/
def Pl (ns : List Int) : Prop := ∀ d ∈ ns, 0 ≤ d ∧ d < 64
theorem pl_rev {ns : List Int} (h : Pl ns) : ∀ d ∈ ns.reverse, 0 ≤ d ∧ d < 2 ^ 6 := fun d hd => h d (List.mem_reverse.mp hd)
local macro_rules | `(tactic| k_room) => `(tactic| ktr_room)
theorem spec_number (w : World) (a : Addr) (vs : List Value) (ns : List Int) (hI : IntsAre vs ns) (hlen : ns.length ≤ 32) (hpl : Pl ns) (c' : Addr) : Spec w 225 [.ref a] (fun h => h.IsList a vs.toArray ∧ W44 c' h) (fun _ _ r => ∃ t, r = .int (dval 6 ns.reverse) t) 60 600 := by
  have kf9 : hd.heap_39 = hd.heap_39 ∧ PySem.Challenge.rw_ik0056_01 = PySem.Challenge.rw_ik0056_01 := by (k_fill; exact ⟨rfl, rfl⟩)
  clear kf9
  refine' spec_enter ?ho ?hcd ?hd1 ?hb ?hloc ?hcell ?hco ?hgen ?hk ?_
  case ho => k_dflt k_is
  case hcd => k_dflt k_is
  case hd1 => decide
  case hb => (intro s hX; first | exact BindsTo.of_eq rfl | exact binds_K hX rfl (by k_dflt k_is) rfl rfl rfl)
  case hloc => exact locs rfl
  case hcell => decide
  case hco => exact rfl
  case hgen => exact rfl
  case hk => exact rfl
  unfold P lo
  intro mean mg mb dp un gd outer base g s h₁ L tk Q E hg B X T hp hdp hun F N hret
  (try dsimp only at F)
  obtain ⟨hl, hw⟩ := hp
  repeat' (first | (k_unfold; (try dsimp only)) | (k_end; wrow_close) | ((with_reducible show wpAny _ _ (call (Value.ref _) _) _ _ _); k_here; k_dflt (refine' use_spec (spec_d2i _ _ _ _ ?d1 ?d2 6 (by decide) _ ?d3 _) ?uB ?uF ?uN ?uX ?uT ?uA ?uf ?uk ?up ?ud ?uu ?_; (case d1 => l_ints); (case d2 => ((try simp only [List.length_reverse]); omega)); (case d3 => exact pl_rev (by assumption)); (case uB => k_asm); (case uF => k_asm); (case uN => k_asm); (case uX => k_asm); (case uT => k_asm); (case uA => exact rfl); (case uf => exact rfl); (case uk => exact rfl); (case up => exact ⟨by is_list, warm_keep (by assumption) (Fr.keep (by k_asm))⟩); (case ud => (first | (refine' room_ok ?rh ?re; (case rh => assumption); (case re => exact rfl)) | (refine' room_ok0 ?rh ?re; (case rh => assumption); (case re => exact rfl)) | ktr_room)); (case uu => (first | (refine' room_ok ?rh ?re; (case rh => assumption); (case re => exact rfl)) | (refine' room_ok0 ?rh ?re; (case rh => assumption); (case re => exact rfl)) | ktr_units)); k_whole); intro r9 h9 tk9 k9 F9 N9 e9; obtain ⟨t9, e9⟩ := e9; subst e9; (try k_fold)) | walk1 | (dsimp only; (first | ((with_reducible show wpAny _ _ (call (Value.ref _) _) _ _ _); k_here; k_dflt (refine' use_spec (spec_d2i _ _ _ _ ?d1 ?d2 6 (by decide) _ ?d3 _) ?uB ?uF ?uN ?uX ?uT ?uA ?uf ?uk ?up ?ud ?uu ?_; (case d1 => l_ints); (case d2 => ((try simp only [List.length_reverse]); omega)); (case d3 => exact pl_rev (by assumption)); (case uB => k_asm); (case uF => k_asm); (case uN => k_asm); (case uX => k_asm); (case uT => k_asm); (case uA => exact rfl); (case uf => exact rfl); (case uk => exact rfl); (case up => exact ⟨by is_list, warm_keep (by assumption) (Fr.keep (by k_asm))⟩); (case ud => (first | (refine' room_ok ?rh ?re; (case rh => assumption); (case re => exact rfl)) | (refine' room_ok0 ?rh ?re; (case rh => assumption); (case re => exact rfl)) | ktr_room)); (case uu => (first | (refine' room_ok ?rh ?re; (case rh => assumption); (case re => exact rfl)) | (refine' room_ok0 ?rh ?re; (case rh => assumption); (case re => exact rfl)) | ktr_units)); k_whole); intro r9 h9 tk9 k9 F9 N9 e9; obtain ⟨t9, e9⟩ := e9; subst e9; (try k_fold)) | walk1)) | (leave1; (try dsimp only)) | fail "no step")
  exact hret _ _ _ (Fr.keep (by assumption)) ⟨_, rfl⟩
end
section
local macro_rules | `(tactic| k_room) => `(tactic| ktr_room)
theorem spec_bare (w : World) (a : Addr) (vs : List Value) (ns : List Int) (hI : IntsAre vs ns) (hl : ns.length ≤ 64) (sg : Int) (ts : Tok) : Spec w 218 [.ref a, .int sg ts] (fun h => h.IsList a vs.toArray) (fun h h' r => NewInts (bareL sg ns) h h' r) 5 50 := by
  have kf9 : hd.heap_39 = hd.heap_39 ∧ PySem.Challenge.rw_ik0056_01 = PySem.Challenge.rw_ik0056_01 := by (k_fill; exact ⟨rfl, rfl⟩)
  clear kf9
  refine' spec_enter ?ho ?hcd ?hd1 ?hb ?hloc ?hcell ?hco ?hgen ?hk ?_
  case ho => k_dflt k_is
  case hcd => k_dflt k_is
  case hd1 => decide
  case hb => (intro s hX; first | exact BindsTo.of_eq rfl | exact binds_K hX rfl (by k_dflt k_is) rfl rfl rfl)
  case hloc => exact locs rfl
  case hcell => decide
  case hco => exact rfl
  case hgen => exact rfl
  case hk => exact rfl
  unfold P lo
  intro mean mg mb dp un gd outer base g s h₁ L tk Q E hg B X T hp hdp hun F N hret
  (try dsimp only at F)
  k_steps
  dsimp only
  exact hret _ _ _ (Fr.keep (by assumption)) (new_ints (by assumption) (by k_mem) (by assumption) (bare_of (by assumption) (by assumption) (by assumption) (by assumption)))
end
end Mine

end
section
open PySem PySem.W PyProof.Rows PySem.Spec PySem.Calls
namespace Mine
/-- a new tuple of two ints -/
def NewPair (u v : Int) (h h' : Heap) (r : Value) : Prop := ∃ a t1 t2, r = .ref a ∧ h.get? a = none ∧ h'.get? a = some { cls := .type "tuple", data := .seq #[.int u t1, .int v t2] }
theorem new_pair {g h' : Heap} {L a : Addr} {u v u' v' : Int} {t1 t2 : Tok} {news : List (Addr × Obj)} (N : News g L h' news) (hm : (a, ({ cls := .type "tuple", data := .seq #[.int u t1, .int v t2] } : Obj)) ∈ news) (e1 : u = u') (e2 : v = v') : NewPair u' v' g h' (.ref a) := by
  subst e1 e2
  exact ⟨a, t1, t2, rfl, (N _ hm).2.2, (N _ hm).1⟩
section
local macro_rules | `(tactic| k_room) => `(tactic| ktr_room)
theorem spec_div2n1n (w : World) (a b n : Int) (ta tb tn : Tok) (ha : 0 ≤ a) (hb : 0 < b) (hbits : (Builtin.Int.intBits a : Int) ≤ 4000) (hn : 0 ≤ n) (hlg : b.natAbs.log2 < 9000) :
    Spec w 28 [.int a ta, .int b tb, .int n tn] (fun _ => True) (fun h h' r => NewPair (a / b) (a % b) h h' r) 5 50 := by
  have hgo : (Builtin.Int.intBits a : Int) - n ≤ 4000 := by omega
  have kf9 : hd.heap_39 = hd.heap_39 ∧ PySem.Challenge.rw_ik0056_01 = PySem.Challenge.rw_ik0056_01 := by (k_fill; exact ⟨rfl, rfl⟩)
  clear kf9
  refine' spec_enter ?ho ?hcd ?hd1 ?hb ?hloc ?hcell ?hco ?hgen ?hk ?_
  case ho => k_dflt k_is
  case hcd => k_dflt k_is
  case hd1 => decide
  case hb => (intro s hX; first | exact BindsTo.of_eq rfl | exact binds_K hX rfl (by k_dflt k_is) rfl rfl rfl)
  case hloc => exact locs rfl
  case hcell => decide
  case hco => exact rfl
  case hgen => exact rfl
  case hk => exact rfl
  unfold P lo
  intro mean mg mb dp un gd outer base g s h₁ L tk Q E hg B X T hp hdp hun F N hret
  (try dsimp only at F)
  repeat' (first | (k_unfold; (try dsimp only)) | (k_end; wrow_close) | ((with_reducible show wpAny _ _ (call (Value.builtin "divmod") _) _ _ _); k_here; k_dflt (refine' divmod_N ?F ?N ?nz ?_ (Or.inl (PyProof.noPylong_of_log2 ?lg)); (case F => k_asm); (case N => k_asm); (case nz => omega); (case lg => assumption); k_whole); intro h' F' N') | walk1 | (dsimp only; (first | ((with_reducible show wpAny _ _ (call (Value.builtin "divmod") _) _ _ _); k_here; k_dflt (refine' divmod_N ?F ?N ?nz ?_ (Or.inl (PyProof.noPylong_of_log2 ?lg)); (case F => k_asm); (case N => k_asm); (case nz => omega); (case lg => assumption); k_whole); intro h' F' N') | walk1)) | (leave1; (try dsimp only)) | fail "no step")
  exact hret _ _ _ (Fr.keep (by assumption)) (new_pair (by assumption) (List.Mem.head _) (Int.fdiv_eq_ediv_of_nonneg _ (by omega)) (Int.fmod_eq_emod_of_nonneg _ (by omega)))
end
theorem rev_ind {prog : Program} {w : World} {A : Around} {E : Value → Shared → Prop} {h₀ : Heap} {env : Env} {x : Str} {body : List Stmt} {Q : Flow → Shared → Prop} {s : Shared} {I : Addr} {lp : Addr × Obj} (Inv : List Value → (Str → Option Value) → List (Addr × Obj) → Prop)
    (fin : ∀ m news, Inv [] m news → ∀ h tk, Fr h₀ env.locals h m → News h₀ env.locals h news → Q .next { s with heap := h, toks := tk })
    (turn : ∀ v r m news, Inv (v :: r) m news → ∀ (it : Obj) h tk, it.cls = .type "list_reverseiterator" → Fr h₀ env.locals h (fun y => if y = x then some v else m y) → News h₀ env.locals h ((I, it) :: news) →
      wpAny (model prog w) A (execs body env) (UnrPost h₀ env.locals { s with heap := h, toks := tk } I it (fun m' n' => lp ∈ n' ∧ Inv r m' n') Q) E { s with heap := h, toks := tk }) :
    ∀ us m news, Inv us m news → RevRest prog w A E h₀ env x body Q s I lp us m news := by
  intro us
  induction us with
  | nil => exact fun m news hi => RevRest.zero (fin m news hi)
  | cons v r ih =>
    intro m news hi
    refine RevRest.succ fun it h tk hit F N => wpAny_mono (turn v r m news hi it h tk hit F N) (fun fl s' h' => ?_) fun _ _ e => e
    have go : UnrEnd h₀ env.locals { s with heap := h, toks := tk } I it (fun m' n' => lp ∈ n' ∧ Inv r m' n') s' → UnrEnd h₀ env.locals { s with heap := h, toks := tk } I it (fun m' n' => lp ∈ n' ∧ RevRest prog w A E h₀ env x body Q s I lp r m' n') s' := fun ⟨h', tk', m', n', e, F', N', o, hl, hi'⟩ => ⟨h', tk', m', n', e, F', N', o, hl, ih m' n' hi'⟩
    cases fl with
    | ret v => exact h'
    | brk => exact h'
    | next => exact go h'
    | cont => exact go h'
theorem news_cls_ne {h₀ h : Heap} {L I lq : Addr} {it o : Obj} {r : List (Addr × Obj)} {n : String} (N : News h₀ L h ((I, it) :: (lq, o) :: r)) (hc : it.cls = .type n) (ho : o.cls = .type "list") (hn : n ≠ "list") : @Ne Nat I lq := by
  intro e
  have e' : I = lq := e
  have h1 := (N _ List.mem_cons_self).1
  have h2 := (N _ (List.mem_cons_of_mem _ List.mem_cons_self)).1
  dsimp only at h1 h2
  rw [e', h2] at h1
  cases h1
  rw [ho] at hc
  injection hc with hc
  exact hn hc.symm
theorem news_three {h₀ h : Heap} {L : Addr} {x y z : Addr × Obj} {r : List (Addr × Obj)} (N : News h₀ L h (x :: r)) (hy : y ∈ r) (hz : z ∈ r) : News h₀ L h [x, y, z] := fun p hp => by
  rcases List.mem_cons.mp hp with rfl | hp
  · exact N _ List.mem_cons_self
  · rcases List.mem_cons.mp hp with rfl | hp
    · exact N _ (List.mem_cons_of_mem _ hy)
    · rw [List.mem_singleton] at hp
      subst hp
      exact N _ (List.mem_cons_of_mem _ hz)
theorem news_two {h₀ h : Heap} {L : Addr} {y z : Addr × Obj} {r : List (Addr × Obj)} (N : News h₀ L h r) (hy : y ∈ r) (hz : z ∈ r) : News h₀ L h [y, z] := fun p hp => by
  rcases List.mem_cons.mp hp with rfl | hp
  · exact N _ hy
  · rw [List.mem_singleton] at hp
    subst hp
    exact N _ hz
theorem ints_snoc {x : Int} {t : Tok} : ∀ {vs : List Value} {ns : List Int}, IntsAre vs ns → ∀ (y : Int) (e : y = x), IntsAre (vs ++ [Value.int x t]) (ns ++ [y])
  | _, _, .nil, _, e => e ▸ IntsAre.cons _ _ .nil
  | _, _, .cons n u h, y, e => IntsAre.cons n u (ints_snoc h y e)
theorem ints_app {vs ws : List Value} {ns ms : List Int} (h : IntsAre vs ns) (h' : IntsAre ws ms) : IntsAre (vs ++ ws) (ns ++ ms) := by
  induction h with
  | nil => exact h'
  | cons n t _ ih => exact IntsAre.cons n t ih
theorem ints_rev {vs : List Value} {ns : List Int} (h : IntsAre vs ns) : IntsAre vs.reverse ns.reverse := by
  induction h with
  | nil => exact .nil
  | cons n t _ ih => rw [List.reverse_cons, List.reverse_cons]; exact ints_app ih (.cons n t .nil)
theorem neNat {a b : Addr} (h : a ≠ b) : @Ne Nat a b := h
section
local macro_rules | `(tactic| k_room) => `(tactic| ktr_room)
local macro_rules | `(tactic| walk_at "call ref") => `(tactic| (k_here; (with_reducible show wpAny _ _ (call (Value.ref _) _) _ _ _); refine halt ?_))
theorem spec_dmp (w : World) (a b : Int) (ta tb : Tok) (ha : 0 ≤ a) (hb : 0 < b) (nn : Nat) (hnb : Builtin.Int.intBits b = nn) (hnn : 0 < nn ∧ nn ≤ 64) (k : Nat) (hk : ((Builtin.Int.intBits a : Int) + nn - 1).fdiv nn = k) (hk32 : k ≤ 32) (c1 c2 : Addr) :
    Spec w 56 [.int a ta, .int b tb] (fun h => W44 c1 h ∧ W37 c2 h) (fun h h' r => NewPair (a / b) (a % b) h h' r) 70 700 := by
  subst hnb
  have kf9 : hd.heap_39 = hd.heap_39 ∧ PySem.Challenge.rw_ik0056_01 = PySem.Challenge.rw_ik0056_01 := by (k_fill; exact ⟨rfl, rfl⟩)
  clear kf9
  refine' spec_enter ?ho ?hcd ?hd1 ?hb ?hloc ?hcell ?hco ?hgen ?hk ?_
  case ho => k_dflt k_is
  case hcd => k_dflt k_is
  case hd1 => decide
  case hb => (intro s hX; first | exact BindsTo.of_eq rfl | exact binds_K hX rfl (by k_dflt k_is) rfl rfl rfl)
  case hloc => exact locs rfl
  case hcell => decide
  case hco => exact rfl
  case hgen => exact rfl
  case hk => exact rfl
  unfold P lo
  intro mean mg mb dp un gd outer base g s h₁ L tk Q E hg B X T hp hdp hun F N hret
  (try dsimp only at F)
  obtain ⟨hw1, hw2⟩ := hp
  repeat' (first | (k_unfold; (try dsimp only)) | (k_end; wrow_close) | (with_reducible ((with_reducible show wpAny _ _ (binaryOp PySem.Operator.LShift (Value.int ..) (Value.int ..)) _ _ _); refine lshift_int_small ?a1 ?a2 ?a3 ?_; (case a1 => omega); (case a2 => omega); (case a3 => omega))) | ((with_reducible show wpAny _ _ (eval (PySem.Expr.Name ..) _) _ _ _); k_here; k_dflt (refine' nameX_L ?F ?v ?_ ?a ?b; (case a => exact rfl); (case b => exact rfl); (case F => k_asm); (case v => repeat (first | assumption | exact if_pos rfl | refine (if_neg (by decide)).trans ?_)); k_whole)) | (k_here; (with_reducible show wpAny _ _ (call (Value.builtin _) [Value.ref _, Value.int _ _]) _ _ _); k_dflt (refine' append_int ?F ?N ?U ?z ?_; (case F => k_asm); (case N => k_asm); (case U => k_updF); (case z => (rw [sizeLine_eq]; omega)); k_whole); intro h' t' F' N'; (try dsimp only at N'); (try k_sweep)) | (k_here; (show wpAny _ _ (call (Value.builtin "list.reverse") [Value.ref _]) _ _ _); k_dflt (refine' kl_reverse ?F ?N ?e ?U ?z ?_; (case F => k_asm); (case N => k_asm); (case U => k_upd); (case e => exact rfl); (case z => (show List.length _ ≤ _; (try simp only [List.toList_toArray]); rw [sizeLine_eq]; omega))); intro h' F' N'; (try k_sweep)) | walk1 | ((with_reducible show wpAny _ _ (binaryOp PySem.Operator.LShift (Value.int ..) (Value.int ..)) _ _ _); refine lshift_int_small ?a1 ?a2 ?a3 ?_; (case a1 => omega); (case a2 => omega); (case a3 => omega)) | (dsimp only; (first | (with_reducible ((with_reducible show wpAny _ _ (binaryOp PySem.Operator.LShift (Value.int ..) (Value.int ..)) _ _ _); refine lshift_int_small ?a1 ?a2 ?a3 ?_; (case a1 => omega); (case a2 => omega); (case a3 => omega))) | ((with_reducible show wpAny _ _ (eval (PySem.Expr.Name ..) _) _ _ _); k_here; k_dflt (refine' nameX_L ?F ?v ?_ ?a ?b; (case a => exact rfl); (case b => exact rfl); (case F => k_asm); (case v => repeat (first | assumption | exact if_pos rfl | refine (if_neg (by decide)).trans ?_)); k_whole)) | (k_here; (with_reducible show wpAny _ _ (call (Value.builtin _) [Value.ref _, Value.int _ _]) _ _ _); k_dflt (refine' append_int ?F ?N ?U ?z ?_; (case F => k_asm); (case N => k_asm); (case U => k_updF); (case z => (rw [sizeLine_eq]; omega)); k_whole); intro h' t' F' N'; (try dsimp only at N'); (try k_sweep)) | (k_here; (show wpAny _ _ (call (Value.builtin "list.reverse") [Value.ref _]) _ _ _); k_dflt (refine' kl_reverse ?F ?N ?e ?U ?z ?_; (case F => k_asm); (case N => k_asm); (case U => k_upd); (case e => exact rfl); (case z => (show List.length _ ≤ _; (try simp only [List.toList_toArray]); rw [sizeLine_eq]; omega))); intro h' F' N'; (try k_sweep)) | walk1 | ((with_reducible show wpAny _ _ (binaryOp PySem.Operator.LShift (Value.int ..) (Value.int ..)) _ _ _); refine lshift_int_small ?a1 ?a2 ?a3 ?_; (case a1 => omega); (case a2 => omega); (case a3 => omega)))) | (leave1; (try dsimp only)) | fail "no step")
  refine Halt.mk ?_
  rename Fr _ _ _ _ => F1
  rename News _ _ _ _ => N1
  refine' use_spec (spec_i2d w a _ ha _ _ hnn k hk hk32 c2) B F1 N1 X T rfl rfl rfl (warm_keep hw2 (Fr.keep F1)) ?ud ?uu ?_
  case ud => (first | (refine' room_ok ?rh ?re; (case rh => assumption); (case re => exact rfl)) | (refine' room_ok0 ?rh ?re; (case rh => assumption); (case re => exact rfl)) | ktr_room)
  case uu => (first | (refine' room_ok ?rh ?re; (case rh => assumption); (case re => exact rfl)) | (refine' room_ok0 ?rh ?re; (case rh => assumption); (case re => exact rfl)) | ktr_units)
  intro r9 h9 tk9 k9 F9 N9 e9
  obtain ⟨a9, vs9, n9, e8, g9, i9, I9⟩ := e9
  subst e8
  have N8 := news_cons F1 N9 g9 i9
  clear N9
  repeat' (first | (k_unfold; (try dsimp only)) | (k_end; wrow_close) | (with_reducible ((with_reducible show wpAny _ _ (binaryOp PySem.Operator.LShift (Value.int ..) (Value.int ..)) _ _ _); refine lshift_int_small ?a1 ?a2 ?a3 ?_; (case a1 => omega); (case a2 => omega); (case a3 => omega))) | ((with_reducible show wpAny _ _ (eval (PySem.Expr.Name ..) _) _ _ _); k_here; k_dflt (refine' nameX_L ?F ?v ?_ ?a ?b; (case a => exact rfl); (case b => exact rfl); (case F => k_asm); (case v => repeat (first | assumption | exact if_pos rfl | refine (if_neg (by decide)).trans ?_)); k_whole)) | (k_here; (with_reducible show wpAny _ _ (call (Value.builtin _) [Value.ref _, Value.int _ _]) _ _ _); k_dflt (refine' append_int ?F ?N ?U ?z ?_; (case F => k_asm); (case N => k_asm); (case U => k_updF); (case z => (rw [sizeLine_eq]; omega)); k_whole); intro h' t' F' N'; (try dsimp only at N'); (try k_sweep)) | (k_here; (show wpAny _ _ (call (Value.builtin "list.reverse") [Value.ref _]) _ _ _); k_dflt (refine' kl_reverse ?F ?N ?e ?U ?z ?_; (case F => k_asm); (case N => k_asm); (case U => k_upd); (case e => exact rfl); (case z => (show List.length _ ≤ _; (try simp only [List.toList_toArray]); rw [sizeLine_eq]; omega))); intro h' F' N'; (try k_sweep)) | walk1 | ((with_reducible show wpAny _ _ (binaryOp PySem.Operator.LShift (Value.int ..) (Value.int ..)) _ _ _); refine lshift_int_small ?a1 ?a2 ?a3 ?_; (case a1 => omega); (case a2 => omega); (case a3 => omega)) | (dsimp only; (first | (with_reducible ((with_reducible show wpAny _ _ (binaryOp PySem.Operator.LShift (Value.int ..) (Value.int ..)) _ _ _); refine lshift_int_small ?a1 ?a2 ?a3 ?_; (case a1 => omega); (case a2 => omega); (case a3 => omega))) | ((with_reducible show wpAny _ _ (eval (PySem.Expr.Name ..) _) _ _ _); k_here; k_dflt (refine' nameX_L ?F ?v ?_ ?a ?b; (case a => exact rfl); (case b => exact rfl); (case F => k_asm); (case v => repeat (first | assumption | exact if_pos rfl | refine (if_neg (by decide)).trans ?_)); k_whole)) | (k_here; (with_reducible show wpAny _ _ (call (Value.builtin _) [Value.ref _, Value.int _ _]) _ _ _); k_dflt (refine' append_int ?F ?N ?U ?z ?_; (case F => k_asm); (case N => k_asm); (case U => k_updF); (case z => (rw [sizeLine_eq]; omega)); k_whole); intro h' t' F' N'; (try dsimp only at N'); (try k_sweep)) | (k_here; (show wpAny _ _ (call (Value.builtin "list.reverse") [Value.ref _]) _ _ _); k_dflt (refine' kl_reverse ?F ?N ?e ?U ?z ?_; (case F => k_asm); (case N => k_asm); (case U => k_upd); (case e => exact rfl); (case z => (show List.length _ ≤ _; (try simp only [List.toList_toArray]); rw [sizeLine_eq]; omega))); intro h' F' N'; (try k_sweep)) | walk1 | ((with_reducible show wpAny _ _ (binaryOp PySem.Operator.LShift (Value.int ..) (Value.int ..)) _ _ _); refine lshift_int_small ?a1 ?a2 ?a3 ?_; (case a1 => omega); (case a2 => omega); (case a3 => omega)))) | (leave1; (try dsimp only)) | fail "no step")
  rename Fr _ _ _ _ => F2
  rename News _ _ _ _ => N2
  rename _ < _ ∧ _ < _ => lD
  refine iter_revUnr (lo := listObj vs9 n9) (vs := vs9) rfl F2 N2 ⟨.inl (by refine neN ?_; dsimp only; omega), .inl (by refine neN ?_; dsimp only; omega), trivial⟩ (List.Mem.tail _ (List.Mem.head _)) rfl rfl ?_
  refine rev_ind (fun us m news => Halt (∃ (lq : Addr) (ds ps qs : List Int) (r : Int) (qv : List Value) (qn : Nat) (tb' tn' tr : Tok), IntsAre us ds ∧ ps ++ ds = (digs (Builtin.Int.intBits b) k a).reverse ∧ IntsAre qv qs ∧ horner (2 ^ Builtin.Int.intBits b) qs * b + r = horner (2 ^ Builtin.Int.intBits b) ps ∧ 0 ≤ r ∧ r < b ∧ qs.length = ps.length ∧ (∀ q ∈ qs, 0 ≤ q ∧ q < 2 ^ Builtin.Int.intBits b) ∧
      m (Str.ofString "b") = some (.int b tb') ∧ m (Str.ofString "n") = some (.int (Builtin.Int.intBits b : Nat) tn') ∧ m (Str.ofString "r") = some (.int r tr) ∧ m (Str.ofString "q_digits") = some (.ref lq) ∧ a9 < lq ∧ (lq, W.listOf qv.toArray qn) ∈ news ∧ (a9, listObj vs9 n9) ∈ news)) ?fin ?turn _ _ _ ?init
  case init =>
    refine' Halt.mk ⟨_, (digs (Builtin.Int.intBits b) k a).reverse, [], [], 0, [], 0, _, _, _, ints_rev I9, rfl, .nil, ?e0, Int.le_refl _, hb, rfl, (fun _ h => nomatch h), ?e1, ?e2, ?e3, ?e4, ?e5, List.Mem.head _, List.Mem.tail _ (List.Mem.head _)⟩
    case e0 => show (0 : Int) * b + 0 = 0; rw [Int.zero_mul]; rfl
    case e5 => assumption
    case e1 => k_dflt (exact rfl)
    case e2 => k_dflt (exact rfl)
    case e3 => k_dflt (exact rfl)
    case e4 => k_dflt (exact rfl)
  case fin =>
    rintro m news ⟨⟨lq, ds, ps, qs, r, qv, qn, tb', tn', tr, hI, hps, hIq, hh, hr0, hr1, hlen, hqb, mb1, mn1, mr1, mq1, hql, hm1, hm2⟩⟩ h tk F5 N50
    have N5 := news_two N50 hm1 hm2
    clear N50 F2 N2
    cases hI
    rw [List.append_nil] at hps
    have hql' := ltN hql
    have hqv : qv.length ≤ 40 := by
      have e1 := IntsAre.length hIq
      have e2 := congrArg List.length hps
      rw [List.length_reverse, digs_length] at e2
      omega
    repeat' (first | (k_unfold; (try dsimp only)) | (k_end; wrow_close) | (with_reducible ((with_reducible show wpAny _ _ (binaryOp PySem.Operator.LShift (Value.int ..) (Value.int ..)) _ _ _); refine lshift_int_small ?a1 ?a2 ?a3 ?_; (case a1 => omega); (case a2 => omega); (case a3 => omega))) | ((with_reducible show wpAny _ _ (eval (PySem.Expr.Name ..) _) _ _ _); k_here; k_dflt (refine' nameX_L ?F ?v ?_ ?a ?b; (case a => exact rfl); (case b => exact rfl); (case F => k_asm); (case v => repeat (first | assumption | exact if_pos rfl | refine (if_neg (by decide)).trans ?_)); k_whole)) | (k_here; (with_reducible show wpAny _ _ (call (Value.builtin _) [Value.ref _, Value.int _ _]) _ _ _); k_dflt (refine' append_int ?F ?N ?U ?z ?_; (case F => k_asm); (case N => k_asm); (case U => k_updF); (case z => (rw [sizeLine_eq]; omega)); k_whole); intro h' t' F' N'; (try dsimp only at N'); (try k_sweep)) | (k_here; (show wpAny _ _ (call (Value.builtin "list.reverse") [Value.ref _]) _ _ _); k_dflt (refine' kl_reverse ?F ?N ?e ?U ?z ?_; (case F => k_asm); (case N => k_asm); (case U => k_upd); (case e => exact rfl); (case z => (show List.length _ ≤ _; (try simp only [List.toList_toArray]); rw [sizeLine_eq]; omega))); intro h' F' N'; (try k_sweep)) | walk1 | ((with_reducible show wpAny _ _ (binaryOp PySem.Operator.LShift (Value.int ..) (Value.int ..)) _ _ _); refine lshift_int_small ?a1 ?a2 ?a3 ?_; (case a1 => omega); (case a2 => omega); (case a3 => omega)) | (dsimp only; (first | (with_reducible ((with_reducible show wpAny _ _ (binaryOp PySem.Operator.LShift (Value.int ..) (Value.int ..)) _ _ _); refine lshift_int_small ?a1 ?a2 ?a3 ?_; (case a1 => omega); (case a2 => omega); (case a3 => omega))) | ((with_reducible show wpAny _ _ (eval (PySem.Expr.Name ..) _) _ _ _); k_here; k_dflt (refine' nameX_L ?F ?v ?_ ?a ?b; (case a => exact rfl); (case b => exact rfl); (case F => k_asm); (case v => repeat (first | assumption | exact if_pos rfl | refine (if_neg (by decide)).trans ?_)); k_whole)) | (k_here; (with_reducible show wpAny _ _ (call (Value.builtin _) [Value.ref _, Value.int _ _]) _ _ _); k_dflt (refine' append_int ?F ?N ?U ?z ?_; (case F => k_asm); (case N => k_asm); (case U => k_updF); (case z => (rw [sizeLine_eq]; omega)); k_whole); intro h' t' F' N'; (try dsimp only at N'); (try k_sweep)) | (k_here; (show wpAny _ _ (call (Value.builtin "list.reverse") [Value.ref _]) _ _ _); k_dflt (refine' kl_reverse ?F ?N ?e ?U ?z ?_; (case F => k_asm); (case N => k_asm); (case U => k_upd); (case e => exact rfl); (case z => (show List.length _ ≤ _; (try simp only [List.toList_toArray]); rw [sizeLine_eq]; omega))); intro h' F' N'; (try k_sweep)) | walk1 | ((with_reducible show wpAny _ _ (binaryOp PySem.Operator.LShift (Value.int ..) (Value.int ..)) _ _ _); refine lshift_int_small ?a1 ?a2 ?a3 ?_; (case a1 => omega); (case a2 => omega); (case a3 => omega)))) | (leave1; (try dsimp only)) | fail "no step")
    refine Halt.mk ?_
    rename Fr _ _ _ _ => F1
    rename News _ _ _ _ => N1
    have hIr := ints_rev hIq
    refine' use_spec (spec_d2i w lq _ qs.reverse hIr (by have e2 := congrArg List.length hps; rw [List.length_reverse, digs_length] at e2; rw [List.length_reverse]; omega) (Builtin.Int.intBits b) hnn _ (fun d hd => hqb d (List.mem_reverse.mp hd)) c1) B F1 N1 X T rfl rfl rfl ⟨⟨_, N1.get List.mem_cons_self, rfl, _, rfl⟩, warm_keep hw1 (Fr.keep F1)⟩ ?ud ?uu ?_
    case ud => (first | (refine' room_ok ?rh ?re; (case rh => assumption); (case re => exact rfl)) | (refine' room_ok0 ?rh ?re; (case rh => assumption); (case re => exact rfl)) | ktr_room)
    case uu => (first | (refine' room_ok ?rh ?re; (case rh => assumption); (case re => exact rfl)) | (refine' room_ok0 ?rh ?re; (case rh => assumption); (case re => exact rfl)) | ktr_units)
    intro r9 h9 tk9 k9 F9 N9 e9
    obtain ⟨t9, e9⟩ := e9
    subst e9
    have hqa : dval (Builtin.Int.intBits b) qs.reverse * b + r = a := by
      have e1 := horner_dval (Builtin.Int.intBits b) qs.reverse
      rw [List.reverse_reverse] at e1
      rw [← e1, hh, hps, horner_dval, dval_digs _ k a ha (bits_lt ha hnn.1 hk)]
    have hq := div_unique hb hqa hr0 hr1
    repeat' (first | (k_unfold; (try dsimp only)) | (k_end; wrow_close) | (with_reducible ((with_reducible show wpAny _ _ (binaryOp PySem.Operator.LShift (Value.int ..) (Value.int ..)) _ _ _); refine lshift_int_small ?a1 ?a2 ?a3 ?_; (case a1 => omega); (case a2 => omega); (case a3 => omega))) | ((with_reducible show wpAny _ _ (eval (PySem.Expr.Name ..) _) _ _ _); k_here; k_dflt (refine' nameX_L ?F ?v ?_ ?a ?b; (case a => exact rfl); (case b => exact rfl); (case F => k_asm); (case v => repeat (first | assumption | exact if_pos rfl | refine (if_neg (by decide)).trans ?_)); k_whole)) | (k_here; (with_reducible show wpAny _ _ (call (Value.builtin _) [Value.ref _, Value.int _ _]) _ _ _); k_dflt (refine' append_int ?F ?N ?U ?z ?_; (case F => k_asm); (case N => k_asm); (case U => k_updF); (case z => (rw [sizeLine_eq]; omega)); k_whole); intro h' t' F' N'; (try dsimp only at N'); (try k_sweep)) | (k_here; (show wpAny _ _ (call (Value.builtin "list.reverse") [Value.ref _]) _ _ _); k_dflt (refine' kl_reverse ?F ?N ?e ?U ?z ?_; (case F => k_asm); (case N => k_asm); (case U => k_upd); (case e => exact rfl); (case z => (show List.length _ ≤ _; (try simp only [List.toList_toArray]); rw [sizeLine_eq]; omega))); intro h' F' N'; (try k_sweep)) | walk1 | ((with_reducible show wpAny _ _ (binaryOp PySem.Operator.LShift (Value.int ..) (Value.int ..)) _ _ _); refine lshift_int_small ?a1 ?a2 ?a3 ?_; (case a1 => omega); (case a2 => omega); (case a3 => omega)) | (dsimp only; (first | (with_reducible ((with_reducible show wpAny _ _ (binaryOp PySem.Operator.LShift (Value.int ..) (Value.int ..)) _ _ _); refine lshift_int_small ?a1 ?a2 ?a3 ?_; (case a1 => omega); (case a2 => omega); (case a3 => omega))) | ((with_reducible show wpAny _ _ (eval (PySem.Expr.Name ..) _) _ _ _); k_here; k_dflt (refine' nameX_L ?F ?v ?_ ?a ?b; (case a => exact rfl); (case b => exact rfl); (case F => k_asm); (case v => repeat (first | assumption | exact if_pos rfl | refine (if_neg (by decide)).trans ?_)); k_whole)) | (k_here; (with_reducible show wpAny _ _ (call (Value.builtin _) [Value.ref _, Value.int _ _]) _ _ _); k_dflt (refine' append_int ?F ?N ?U ?z ?_; (case F => k_asm); (case N => k_asm); (case U => k_updF); (case z => (rw [sizeLine_eq]; omega)); k_whole); intro h' t' F' N'; (try dsimp only at N'); (try k_sweep)) | (k_here; (show wpAny _ _ (call (Value.builtin "list.reverse") [Value.ref _]) _ _ _); k_dflt (refine' kl_reverse ?F ?N ?e ?U ?z ?_; (case F => k_asm); (case N => k_asm); (case U => k_upd); (case e => exact rfl); (case z => (show List.length _ ≤ _; (try simp only [List.toList_toArray]); rw [sizeLine_eq]; omega))); intro h' F' N'; (try k_sweep)) | walk1 | ((with_reducible show wpAny _ _ (binaryOp PySem.Operator.LShift (Value.int ..) (Value.int ..)) _ _ _); refine lshift_int_small ?a1 ?a2 ?a3 ?_; (case a1 => omega); (case a2 => omega); (case a3 => omega)))) | (leave1; (try dsimp only)) | fail "no step")
    exact hret _ _ _ (Fr.keep (by assumption)) (new_pair (by assumption) (List.Mem.head _) hq.1 hq.2)
  case turn =>
    rintro v us m news ⟨⟨lq, ds, ps, qs, r, qv, qn, tb', tn', tr, hI, hps, hIq, hh, hr0, hr1, hlen, hqb, mb1, mn1, mr1, mq1, hql, hm1, hm2⟩⟩ it h tk hit F5 N50
    have N5 := news_three N50 hm1 hm2
    clear N50
    cases hI with
    | @cons d td _ ds' hI' =>
    clear F2 N2
    have hql' := ltN hql
    have hb64 : b < 18446744073709551616 := by
      have z := PySem.intBits_le_iff.mp (Nat.le_refl (Builtin.Int.intBits b))
      have z2 := Nat.pow_le_pow_right (show 0 < 2 by decide) hnn.2
      have z3 : (2 : Nat) ^ 64 = 18446744073709551616 := rfl
      omega
    repeat' (first | (k_unfold; (try dsimp only)) | (k_end; wrow_close) | (with_reducible ((with_reducible show wpAny _ _ (binaryOp PySem.Operator.LShift (Value.int ..) (Value.int ..)) _ _ _); refine lshift_int_small ?a1 ?a2 ?a3 ?_; (case a1 => omega); (case a2 => omega); (case a3 => omega))) | ((with_reducible show wpAny _ _ (eval (PySem.Expr.Name ..) _) _ _ _); k_here; k_dflt (refine' nameX_L ?F ?v ?_ ?a ?b; (case a => exact rfl); (case b => exact rfl); (case F => k_asm); (case v => repeat (first | assumption | exact if_pos rfl | refine (if_neg (by decide)).trans ?_)); k_whole)) | (k_here; (with_reducible show wpAny _ _ (call (Value.builtin _) [Value.ref _, Value.int _ _]) _ _ _); k_dflt (refine' append_int ?F ?N ?U ?z ?_; (case F => k_asm); (case N => k_asm); (case U => k_updF); (case z => (rw [sizeLine_eq]; omega)); k_whole); intro h' t' F' N'; (try dsimp only at N'); (try k_sweep)) | (k_here; (show wpAny _ _ (call (Value.builtin "list.reverse") [Value.ref _]) _ _ _); k_dflt (refine' kl_reverse ?F ?N ?e ?U ?z ?_; (case F => k_asm); (case N => k_asm); (case U => k_upd); (case e => exact rfl); (case z => (show List.length _ ≤ _; (try simp only [List.toList_toArray]); rw [sizeLine_eq]; omega))); intro h' F' N'; (try k_sweep)) | walk1 | ((with_reducible show wpAny _ _ (binaryOp PySem.Operator.LShift (Value.int ..) (Value.int ..)) _ _ _); refine lshift_int_small ?a1 ?a2 ?a3 ?_; (case a1 => omega); (case a2 => omega); (case a3 => omega)) | (dsimp only; (first | (with_reducible ((with_reducible show wpAny _ _ (binaryOp PySem.Operator.LShift (Value.int ..) (Value.int ..)) _ _ _); refine lshift_int_small ?a1 ?a2 ?a3 ?_; (case a1 => omega); (case a2 => omega); (case a3 => omega))) | ((with_reducible show wpAny _ _ (eval (PySem.Expr.Name ..) _) _ _ _); k_here; k_dflt (refine' nameX_L ?F ?v ?_ ?a ?b; (case a => exact rfl); (case b => exact rfl); (case F => k_asm); (case v => repeat (first | assumption | exact if_pos rfl | refine (if_neg (by decide)).trans ?_)); k_whole)) | (k_here; (with_reducible show wpAny _ _ (call (Value.builtin _) [Value.ref _, Value.int _ _]) _ _ _); k_dflt (refine' append_int ?F ?N ?U ?z ?_; (case F => k_asm); (case N => k_asm); (case U => k_updF); (case z => (rw [sizeLine_eq]; omega)); k_whole); intro h' t' F' N'; (try dsimp only at N'); (try k_sweep)) | (k_here; (show wpAny _ _ (call (Value.builtin "list.reverse") [Value.ref _]) _ _ _); k_dflt (refine' kl_reverse ?F ?N ?e ?U ?z ?_; (case F => k_asm); (case N => k_asm); (case U => k_upd); (case e => exact rfl); (case z => (show List.length _ ≤ _; (try simp only [List.toList_toArray]); rw [sizeLine_eq]; omega))); intro h' F' N'; (try k_sweep)) | walk1 | ((with_reducible show wpAny _ _ (binaryOp PySem.Operator.LShift (Value.int ..) (Value.int ..)) _ _ _); refine lshift_int_small ?a1 ?a2 ?a3 ?_; (case a1 => omega); (case a2 => omega); (case a3 => omega)))) | (leave1; (try dsimp only)) | fail "no step")
    refine Halt.mk ?_
    have hbb : b < 2 ^ Builtin.Int.intBits b := by
      have z := PySem.intBits_le_iff.mp (Nat.le_refl (Builtin.Int.intBits b))
      have e := pow_cast (Builtin.Int.intBits b)
      omega
    have hd : 0 ≤ d ∧ d < 2 ^ Builtin.Int.intBits b := digs_mem _ k a d (List.mem_reverse.mp (hps ▸ List.mem_append_right _ List.mem_cons_self))
    have hcur := cur_ok hb hbb hnn.2 hr0 hr1 hd.1 hd.2
    have hlg : b.natAbs.log2 < 9000 := (Nat.log2_lt (by omega)).mpr (by
      have : (2 : Nat) ^ 64 ≤ 2 ^ 9000 := Nat.pow_le_pow_right (by decide) (by decide)
      have z3 : (2 : Nat) ^ 64 = 18446744073709551616 := rfl
      omega)
    have hqv : qv.length ≤ 40 := by
      have e1 := IntsAre.length hIq
      have e2 := congrArg List.length hps
      rw [List.length_append, List.length_reverse, digs_length] at e2
      omega
    rename Fr _ _ _ _ => F1
    rename News _ _ _ _ => N1
    refine' use_spec (spec_div2n1n w _ b _ _ _ _ (by rw [Int.toNat_natCast]; exact hcur.1) hb (by rw [Int.toNat_natCast]; exact hcur.2.2) (Int.natCast_nonneg _) hlg) B F1 N1 X T rfl rfl rfl trivial ?ud ?uu ?_
    case ud => (first | (refine' room_ok ?rh ?re; (case rh => assumption); (case re => exact rfl)) | (refine' room_ok0 ?rh ?re; (case rh => assumption); (case re => exact rfl)) | ktr_room)
    case uu => (first | (refine' room_ok ?rh ?re; (case rh => assumption); (case re => exact rfl)) | (refine' room_ok0 ?rh ?re; (case rh => assumption); (case re => exact rfl)) | ktr_units)
    intro r9 h9 tk9 k9 F9 N9 e9
    obtain ⟨a8, t1, t2, e8, g8, i8⟩ := e9
    subst e8
    have N8 := news_cons F1 N9 g8 i8
    have n1 := neNat (news_ne N1 g8 _ (List.Mem.head _))
    have n2 := neNat (news_ne N1 g8 _ (List.Mem.tail _ (List.Mem.head _)))
    have n3 := neNat (news_ne N1 g8 _ (List.Mem.tail _ (List.Mem.tail _ (List.Mem.head _))))
    have n4 := news_cls_ne N1 hit rfl (by decide)
    dsimp only at n1 n2 n3 n4
    clear N9
    rw [Int.toNat_natCast] at i8
    repeat' (first | (k_unfold; (try dsimp only)) | (k_end; wrow_close) | (with_reducible ((with_reducible show wpAny _ _ (binaryOp PySem.Operator.LShift (Value.int ..) (Value.int ..)) _ _ _); refine lshift_int_small ?a1 ?a2 ?a3 ?_; (case a1 => omega); (case a2 => omega); (case a3 => omega))) | ((with_reducible show wpAny _ _ (eval (PySem.Expr.Name ..) _) _ _ _); k_here; k_dflt (refine' nameX_L ?F ?v ?_ ?a ?b; (case a => exact rfl); (case b => exact rfl); (case F => k_asm); (case v => repeat (first | assumption | exact if_pos rfl | refine (if_neg (by decide)).trans ?_)); k_whole)) | (k_here; (with_reducible show wpAny _ _ (call (Value.builtin _) [Value.ref _, Value.int _ _]) _ _ _); k_dflt (refine' append_int ?F ?N ?U ?z ?_; (case F => k_asm); (case N => k_asm); (case U => k_updF); (case z => (rw [sizeLine_eq]; omega)); k_whole); intro h' t' F' N'; (try dsimp only at N'); (try k_sweep)) | (k_here; (show wpAny _ _ (call (Value.builtin "list.reverse") [Value.ref _]) _ _ _); k_dflt (refine' kl_reverse ?F ?N ?e ?U ?z ?_; (case F => k_asm); (case N => k_asm); (case U => k_upd); (case e => exact rfl); (case z => (show List.length _ ≤ _; (try simp only [List.toList_toArray]); rw [sizeLine_eq]; omega))); intro h' F' N'; (try k_sweep)) | walk1 | ((with_reducible show wpAny _ _ (binaryOp PySem.Operator.LShift (Value.int ..) (Value.int ..)) _ _ _); refine lshift_int_small ?a1 ?a2 ?a3 ?_; (case a1 => omega); (case a2 => omega); (case a3 => omega)) | (dsimp only; (first | (with_reducible ((with_reducible show wpAny _ _ (binaryOp PySem.Operator.LShift (Value.int ..) (Value.int ..)) _ _ _); refine lshift_int_small ?a1 ?a2 ?a3 ?_; (case a1 => omega); (case a2 => omega); (case a3 => omega))) | ((with_reducible show wpAny _ _ (eval (PySem.Expr.Name ..) _) _ _ _); k_here; k_dflt (refine' nameX_L ?F ?v ?_ ?a ?b; (case a => exact rfl); (case b => exact rfl); (case F => k_asm); (case v => repeat (first | assumption | exact if_pos rfl | refine (if_neg (by decide)).trans ?_)); k_whole)) | (k_here; (with_reducible show wpAny _ _ (call (Value.builtin _) [Value.ref _, Value.int _ _]) _ _ _); k_dflt (refine' append_int ?F ?N ?U ?z ?_; (case F => k_asm); (case N => k_asm); (case U => k_updF); (case z => (rw [sizeLine_eq]; omega)); k_whole); intro h' t' F' N'; (try dsimp only at N'); (try k_sweep)) | (k_here; (show wpAny _ _ (call (Value.builtin "list.reverse") [Value.ref _]) _ _ _); k_dflt (refine' kl_reverse ?F ?N ?e ?U ?z ?_; (case F => k_asm); (case N => k_asm); (case U => k_upd); (case e => exact rfl); (case z => (show List.length _ ≤ _; (try simp only [List.toList_toArray]); rw [sizeLine_eq]; omega))); intro h' F' N'; (try k_sweep)) | walk1 | ((with_reducible show wpAny _ _ (binaryOp PySem.Operator.LShift (Value.int ..) (Value.int ..)) _ _ _); refine lshift_int_small ?a1 ?a2 ?a3 ?_; (case a1 => omega); (case a2 => omega); (case a3 => omega)))) | (leave1; (try dsimp only)) | fail "no step")
    refine Halt.mk ?_
    have hl5 := IntsAre.length hIq
    refine' ⟨lq, ds', ps ++ [d], qs ++ [(r * 2 ^ Builtin.Int.intBits b + d) / b], (r * 2 ^ Builtin.Int.intBits b + d) % b, _, _, _, _, _, hI', ?_, ints_snoc hIq _ _, ?_, Int.emod_nonneg _ (by omega), Int.emod_lt_of_pos _ hb, ?_, ?_, ?_, ?_, ?_, ?_, hql, List.Mem.tail _ (List.Mem.head _), List.Mem.tail _ (List.Mem.tail _ (List.Mem.head _))⟩
    rotate_left 3
    · rw [List.append_assoc, List.singleton_append]; exact hps
    · rw [Int.toNat_natCast]
    · rw [horner_snoc, horner_snoc]; exact div_step hb hh
    · rw [List.length_append, List.length_append, hlen]; rfl
    · intro q hq
      rcases List.mem_append.mp hq with h | h
      · exact hqb q h
      · rw [List.mem_singleton] at h
        subst h
        exact ⟨Int.ediv_nonneg hcur.1 (Int.le_of_lt hb), Int.ediv_lt_of_lt_mul hb (by have h6 := hcur.2.1; rw [Int.mul_comm b] at h6; exact h6)⟩
    · repeat (first | assumption | exact if_pos rfl | refine (if_neg (by decide)).trans ?_)
    · repeat (first | assumption | exact if_pos rfl | refine (if_neg (by decide)).trans ?_)
    · rw [Int.toNat_natCast]
      exact if_pos rfl
    · repeat (first | assumption | exact if_pos rfl | refine (if_neg (by decide)).trans ?_)
end
end Mine

end
section
local macro_rules | `(tactic| walk_at "no such key 0") => `(tactic| (fail "no key"))
open PySem PySem.W PyProof.Rows PySem.Spec PySem.Calls
namespace Mine
section
local macro_rules | `(tactic| k_room) => `(tactic| ktr_room)
local macro_rules | `(tactic| walk_at "call ref") => `(tactic| (k_here; (with_reducible show wpAny _ _ (call (Value.ref _) _) _ _ _); refine halt ?_))
theorem spec_idiv (w : World) (a b : Int) (ta tb : Tok) (ha : 0 ≤ a) (hb : 0 < b) (nn : Nat) (hnb : Builtin.Int.intBits b = nn) (hnn : 0 < nn ∧ nn ≤ 64) (k : Nat) (hk : ((Builtin.Int.intBits a : Int) + nn - 1).fdiv nn = k) (hk32 : k ≤ 32) (c1 c2 : Addr) :
    Spec w 63 [.int a ta, .int b tb] (fun h => W44 c1 h ∧ W37 c2 h) (fun h h' r => NewPair (a / b) (a % b) h h' r) 80 800 := by
  have kf9 : hd.heap_39 = hd.heap_39 ∧ PySem.Challenge.rw_ik0056_01 = PySem.Challenge.rw_ik0056_01 := by (k_fill; exact ⟨rfl, rfl⟩)
  clear kf9
  refine' spec_enter ?ho ?hcd ?hd1 ?hb ?hloc ?hcell ?hco ?hgen ?hk ?_
  case ho => k_dflt k_is
  case hcd => k_dflt k_is
  case hd1 => decide
  case hb => (intro s hX; first | exact BindsTo.of_eq rfl | exact binds_K hX rfl (by k_dflt k_is) rfl rfl rfl)
  case hloc => exact locs rfl
  case hcell => decide
  case hco => exact rfl
  case hgen => exact rfl
  case hk => exact rfl
  unfold P lo
  intro mean mg mb dp un gd outer base g s h₁ L tk Q E hg B X T hp hdp hun F N hret
  (try dsimp only at F)
  obtain ⟨hw1, hw2⟩ := hp
  k_steps
  all_goals (first | (exfalso; omega) | skip)
  refine Halt.mk ?_
  rename Fr _ _ _ _ => F1
  rename News _ _ _ _ => N1
  refine' use_spec (spec_dmp w a b _ _ ha hb nn hnb hnn k hk hk32 c1 c2) B F1 N1 X T rfl rfl rfl ⟨warm_keep hw1 (Fr.keep F1), warm_keep hw2 (Fr.keep F1)⟩ ?ud ?uu ?_
  case ud => (first | (refine' room_ok ?rh ?re; (case rh => assumption); (case re => exact rfl)) | (refine' room_ok0 ?rh ?re; (case rh => assumption); (case re => exact rfl)) | ktr_room)
  case uu => (first | (refine' room_ok ?rh ?re; (case rh => assumption); (case re => exact rfl)) | (refine' room_ok0 ?rh ?re; (case rh => assumption); (case re => exact rfl)) | ktr_units)
  intro r9 h9 tk9 k9 F9 N9 e9
  obtain ⟨a9, t1, t2, e8, g9, i9⟩ := e9
  subst e8
  have hg9 : g.get? a9 = none := by
    cases q : g.get? a9 with
    | none => rfl
    | some o => have := F1.keep _ _ q; rw [g9] at this; cases this
  exact hret _ _ _ (Fr.keep F9) ⟨a9, t1, t2, rfl, hg9, i9⟩
end
section
local macro_rules | `(tactic| k_room) => `(tactic| ktr_room)
def q4 (p0 p1 p2 p3 : Int) : Int := ((p0 * 64 + p1) * 64 + p2) * 64 + p3
theorem spec_octets4 (w : World) (a : Addr) (p0 p1 p2 p3 : Int) (t0 t1 t2 t3 : Tok) : Spec w 206 [.ref a] (fun h => h.IsList a [.int p0 t0, .int p1 t1, .int p2 t2, .int p3 t3].toArray)
   (fun h h' r => NewInts [q4 p0 p1 p2 p3 / 65536, q4 p0 p1 p2 p3 / 256 % 256, q4 p0 p1 p2 p3 % 256] h h' r) 5 50 := by
  have kf9 : hd.heap_39 = hd.heap_39 ∧ PySem.Challenge.rw_ik0056_01 = PySem.Challenge.rw_ik0056_01 := by (k_fill; exact ⟨rfl, rfl⟩)
  clear kf9
  refine' spec_enter ?ho ?hcd ?hd1 ?hb ?hloc ?hcell ?hco ?hgen ?hk ?_
  case ho => k_dflt k_is
  case hcd => k_dflt k_is
  case hd1 => decide
  case hb => (intro s hX; first | exact BindsTo.of_eq rfl | exact binds_K hX rfl (by k_dflt k_is) rfl rfl rfl)
  case hloc => exact locs rfl
  case hcell => decide
  case hco => exact rfl
  case hgen => exact rfl
  case hk => exact rfl
  unfold P lo
  intro mean mg mb dp un gd outer base g s h₁ L tk Q E hg B X T hp hdp hun F N hret
  (try dsimp only at F)
  k_steps
  dsimp only
  refine hret _ _ _ (Fr.keep (by assumption)) (new_ints (by assumption) (by k_mem) (by l_ints) ?_)
  simp [Int.fdiv_eq_ediv_of_nonneg, Int.fmod_eq_emod_of_nonneg, q4]
theorem spec_octets8 (w : World) (a : Addr) (p0 p1 p2 p3 p4 p5 p6 p7 : Int) (t0 t1 t2 t3 t4 t5 t6 t7 : Tok) : Spec w 206 [.ref a] (fun h => h.IsList a [.int p0 t0, .int p1 t1, .int p2 t2, .int p3 t3, .int p4 t4, .int p5 t5, .int p6 t6, .int p7 t7].toArray)
   (fun h h' r => NewInts [q4 p0 p1 p2 p3 / 65536, q4 p0 p1 p2 p3 / 256 % 256, q4 p0 p1 p2 p3 % 256, q4 p4 p5 p6 p7 / 65536, q4 p4 p5 p6 p7 / 256 % 256, q4 p4 p5 p6 p7 % 256] h h' r) 5 50 := by
  have kf9 : hd.heap_39 = hd.heap_39 ∧ PySem.Challenge.rw_ik0056_01 = PySem.Challenge.rw_ik0056_01 := by (k_fill; exact ⟨rfl, rfl⟩)
  clear kf9
  refine' spec_enter ?ho ?hcd ?hd1 ?hb ?hloc ?hcell ?hco ?hgen ?hk ?_
  case ho => k_dflt k_is
  case hcd => k_dflt k_is
  case hd1 => decide
  case hb => (intro s hX; first | exact BindsTo.of_eq rfl | exact binds_K hX rfl (by k_dflt k_is) rfl rfl rfl)
  case hloc => exact locs rfl
  case hcell => decide
  case hco => exact rfl
  case hgen => exact rfl
  case hk => exact rfl
  unfold P lo
  intro mean mg mb dp un gd outer base g s h₁ L tk Q E hg B X T hp hdp hun F N hret
  (try dsimp only at F)
  k_steps
  dsimp only
  refine hret _ _ _ (Fr.keep (by assumption)) (new_ints (by assumption) (by k_mem) (by l_ints) ?_)
  simp [Int.fdiv_eq_ediv_of_nonneg, Int.fmod_eq_emod_of_nonneg, q4]
end
end Mine

end
section
open PySem PySem.W PyProof.Rows PySem.Spec PySem.Calls
namespace Mine
def plc (c : Nat) : Int := if c = 47 then 63 else if c = 65 then 0 else if c = 112 then 41 else if c = 43 then 62 else 5
def OkSign (c : Nat) : Prop := c = 47 ∨ c = 65 ∨ c = 112 ∨ c = 43 ∨ c = 70
def Turn (c : Nat) (s₃ : Shared) (y : Value) (s₄ : Shared) : Prop := ∃ t, y = .int (plc c) t ∧ Keeps s₃ s₄
theorem pair_ints : ∀ (cs : List Nat) (vs ys : List Value), vs.length = cs.length → (∀ (j : Nat) (v : Value), vs[j]? = some v → ∃ c u, cs[j]? = some c ∧ v = .str ⟨#[c]⟩ u) →
    Paired (fun v r => ∃ c u t, v = .str ⟨#[c]⟩ u ∧ r = .int (plc c) t) vs ys → IntsAre ys (cs.map plc)
  | [], [], [], _, _, _ => .nil
  | [], [], _ :: _, _, _, h => nomatch h
  | [], _ :: _, _, h, _, _ => by cases h
  | _ :: _, [], _, h, _, _ => by cases h
  | c :: cs, v :: vs, ys, hl, hg, h => by
    cases h with
    | cons h1 h2 =>
      obtain ⟨c', u', t', e1, e2⟩ := h1
      obtain ⟨c'', u'', e3, e4⟩ := hg 0 v rfl
      simp only [List.getElem?_cons_zero, Option.some.injEq] at e3
      subst e3 e2
      rw [e4] at e1
      have e5 : c = c' := by injection e1 with e1 _; injection e1 with e1; simpa using congrArg Array.toList e1
      subst e5
      exact .cons _ _ (pair_ints cs vs _ (by simpa using hl) (fun j v hv => by simpa using hg (j + 1) v (by simpa using hv)) h2)
section
local macro_rules | `(tactic| k_room) => `(tactic| ktr_room)
local macro_rules | `(tactic| walk_at "eval ListComp") => `(tactic| (k_here; refine halt ?_))
local macro_rules | `(tactic| walk_at "eval Name") => `(tactic| (k_here; (with_reducible show wpAny _ _ (eval (Expr.Name _ _) (compEnv _ _ _)) _ _ _); k_dflt (refine wpAny_Name (wpAny_loadName_local rfl rfl (by assumption) (by assumption) ?_) (by decide))))
theorem spec_signs (w : World) (x : Str) (t : Tok) (hx : x.length ≤ 100) (hok : ∀ c ∈ x.cps.toList, OkSign c) : Spec w 211 [.str x t] (fun _ => True)
   (fun h h' r => NewInts (x.cps.toList.map plc) h h' r) 5 50 := by
  have kf9 : hd.heap_39 = hd.heap_39 ∧ PySem.Challenge.rw_ik0056_01 = PySem.Challenge.rw_ik0056_01 := by (k_fill; exact ⟨rfl, rfl⟩)
  clear kf9
  refine' spec_enter ?ho ?hcd ?hd1 ?hb ?hloc ?hcell ?hco ?hgen ?hk ?_
  case ho => k_dflt k_is
  case hcd => k_dflt k_is
  case hd1 => decide
  case hb => (intro s hX; first | exact BindsTo.of_eq rfl | exact binds_K hX rfl (by k_dflt k_is) rfl rfl rfl)
  case hloc => exact locs rfl
  case hcell => decide
  case hco => exact rfl
  case hgen => exact rfl
  case hk => exact rfl
  unfold P lo
  intro mean mg mb dp un gd outer base g s h₁ L tk Q E hg B X T hp hdp hun F N hret
  (try dsimp only at F)
  k_steps
  refine Halt.mk ?_
  refine wpAny_ListComp_walk (fun _ => true) (fun v r => ∃ c u t, v = .str ⟨#[c]⟩ u ∧ r = .int (plc c) t) (by decide) (by decide) rfl (by decide) rfl ?_
  walk1
  refine wpAny_pyIter_str fun o St W hst => ?_
  refine ⟨_, [_], [_], x.cps.size, SignAt x, St, rfl, W _ rfl, ?_, hst, ?_, ⟨?_, ?_⟩, ?_⟩
  · rw [sizeLine_eq]; exact Nat.le_trans hx (by omega)
  · intro b hb
    rw [List.mem_singleton.mp hb]
    show _ < (Heap.push _ _).objs.size
    rw [Heap.size_push]; exact Nat.lt_succ_self _
  · intro C i v s₃ m₃ E' hP hn hm hk ht
    k_steps
    exact ⟨_, _, rfl, fun _ _ e => e⟩
  · intro C i v s₃ m₃ E' hP _ hn hm hk ht
    obtain ⟨c, u, hc, rfl⟩ := hP
    have hc9 : OkSign c := hok c (by obtain ⟨hl, e⟩ := Array.getElem?_eq_some_iff.mp hc; rw [← e]; exact Array.mem_toList_iff.mpr (Array.getElem_mem hl))
    refine wpAny_mono (Q := Turn c s₃) ?_ (fun y s₄ h4 => let ⟨t4, e4, k4⟩ := h4; ⟨⟨c, u, t4, rfl, e4⟩, k4⟩) fun _ _ e => e
    rcases hc9 with rfl | rfl | rfl | rfl | rfl
    all_goals (k_steps)
    all_goals first
      | (rename Txt.find _ _ = -1 => q9; exact absurd q9 (by decide +kernel))
      | exact ⟨_, congrArg (Value.int · _) (by decide +kernel), _, _, rfl, fun _ _ e => e⟩
  · intro D h' tk ys vs hnew hlD hplD hlen hP hF hk
    dsimp only
    have old9 : ∀ b o', g.get? b = some o' → (h₁.push o).get? b = some o' := fun b o' e => Heap.get?_push_of_some _ (F.keep b o' e)
    refine hret _ _ _ (fun b o' e => ?_) ?_
    · refine hk b o' (fun hm => ?_) (old9 b o' e)
      have e8 := Heap.lt_size (F.keep b o' e)
      rw [List.mem_singleton.mp hm] at e8
      exact Nat.lt_irrefl _ e8
    · obtain ⟨n9, hD⟩ := hplD
      have hgD : g.get? D = none := by
        cases q : g.get? D with
        | none => rfl
        | some o' => have := old9 _ _ q; exact absurd (this.symm.trans hnew) (by simp)
      refine ⟨D, ys.toList, n9, rfl, hgD, ?_, ?_⟩
      · simpa [listObj] using hD
      · rw [List.filter_eq_self.mpr (fun _ _ => rfl)] at hF
        exact pair_ints x.cps.toList vs ys.toList (by simpa using hlen) (fun j v hv => by obtain ⟨c, u, hc, e⟩ := hP j v hv; exact ⟨c, u, by simpa using hc, e⟩) hF
end
end Mine

end
section
open PySem PySem.W PyProof.Rows PySem.Spec PySem.Calls
namespace Mine
def num (r : List Int) : Int := dval 6 r.reverse
/-- what `_law_joined` answers -/
def joinedN (one two : List Int) : List Int :=
  if two.headD 0 = 63 then [num two, two.length]
  else if one.getLastD 0 = 63 then [num one * 64 ^ two.length + num two, one.length + two.length]
  else [(num one * 64 + 63) * 64 ^ two.length + num two, one.length + 1 + two.length]
theorem Row.pl {r : List Int} (h : Row r) : Pl r := fun d hd => by rcases h.2 d hd with rfl | rfl | rfl | rfl | rfl <;> decide
theorem Row.le32 {r : List Int} (h : Row r) : r.length ≤ 32 := by rcases h.1 with h | h <;> omega
theorem row_vals {r : List Int} {vs : List Value} (h : Row r) (hI : IntsAre vs r) :
    (∃ p0 p1 p2 p3 t0 t1 t2 t3, r = [p0, p1, p2, p3] ∧ vs = [.int p0 t0, .int p1 t1, .int p2 t2, .int p3 t3]) ∨
    (∃ p0 p1 p2 p3 p4 p5 p6 p7 t0 t1 t2 t3 t4 t5 t6 t7, r = [p0, p1, p2, p3, p4, p5, p6, p7] ∧ vs = [.int p0 t0, .int p1 t1, .int p2 t2, .int p3 t3, .int p4 t4, .int p5 t5, .int p6 t6, .int p7 t7]) := by
  obtain ⟨hl, _⟩ := h
  rcases hl with hl | hl
  · left
    match r, hl with
    | [p0, p1, p2, p3], _ =>
      cases hI with | cons _ _ hI => cases hI with | cons _ _ hI => cases hI with | cons _ _ hI => cases hI with | cons _ _ hI => cases hI; exact ⟨_, _, _, _, _, _, _, _, rfl, rfl⟩
  · right
    match r, hl with
    | [p0, p1, p2, p3, p4, p5, p6, p7], _ =>
      cases hI with | cons _ _ hI => cases hI with | cons _ _ hI => cases hI with | cons _ _ hI => cases hI with | cons _ _ hI => cases hI with | cons _ _ hI => cases hI with | cons _ _ hI => cases hI with | cons _ _ hI => cases hI with | cons _ _ hI => cases hI; exact ⟨_, _, _, _, _, _, _, _, _, _, _, _, _, _, _, _, rfl, rfl⟩
theorem isl_keep {h h' : Heap} {a : Addr} {xs : Array Value} (p : h.IsList a xs) (k : Kept h h') : h'.IsList a xs := let ⟨o, e, r⟩ := p; ⟨o, k _ _ e, r⟩
section
local macro_rules | `(tactic| k_room) => `(tactic| ktr_room)
theorem spec_joined (w : World) (a b : Addr) (vs us : List Value) (one two : List Int) (hI : IntsAre vs one) (hJ : IntsAre us two) (h1 : Row one) (h2 : Row two) (c' : Addr) :
    Spec w 237 [.ref a, .ref b] (fun h => h.IsList a vs.toArray ∧ h.IsList b us.toArray ∧ W44 c' h) (fun h h' r => NewInts (joinedN one two) h h' r) 80 800 := by
  have p1 := h1.pl
  have p2 := h2.pl
  rcases row_vals h2 hJ with ⟨q0, q1, q2, q3, u0, u1, u2, u3, e1, e2⟩ | ⟨q0, q1, q2, q3, q4, q5, q6, q7, u0, u1, u2, u3, u4, u5, u6, u7, e1, e2⟩
  all_goals (
    subst e1 e2
    have kf9 : hd.heap_39 = hd.heap_39 ∧ PySem.Challenge.rw_ik0056_01 = PySem.Challenge.rw_ik0056_01 := by (k_fill; exact ⟨rfl, rfl⟩)
    clear kf9
    refine' spec_enter ?ho ?hcd ?hd1 ?hb ?hloc ?hcell ?hco ?hgen ?hk ?_
    case ho => k_dflt k_is
    case hcd => k_dflt k_is
    case hd1 => decide
    case hb => (intro s hX; first | exact BindsTo.of_eq rfl | exact binds_K hX rfl (by k_dflt k_is) rfl rfl rfl)
    case hloc => exact locs rfl
    case hcell => decide
    case hco => exact rfl
    case hgen => exact rfl
    case hk => exact rfl
    unfold P lo
    intro mean mg mb dp un gd outer base g s h₁ L tk Q E hg B X T hp hdp hun F N hret
    (try dsimp only at F)
    obtain ⟨hl1, hl2, hw⟩ := hp
    rcases row_vals h1 hI with ⟨q0, q1, q2, q3, u0, u1, u2, u3, e1, e2⟩ | ⟨q0, q1, q2, q3, q4, q5, q6, q7, u0, u1, u2, u3, u4, u5, u6, u7, e1, e2⟩
    all_goals (subst e1 e2; repeat' (first | (k_unfold; (try dsimp only)) | (k_end; wrow_close) | ((with_reducible show wpAny _ _ (call (Value.ref _) _) _ _ _); k_here; k_dflt (refine' use_spec (spec_number _ _ _ _ ?d1 ?d2 ?d3 _) ?uB ?uF ?uN ?uX ?uT ?uA ?uf ?uk ?up ?ud ?uu ?_; (case uB => k_asm); (case uF => k_asm); (case uN => k_asm); (case uX => k_asm); (case uT => k_asm); (case uA => exact rfl); (case uf => exact rfl); (case uk => exact rfl); (case up => exact ⟨isl_keep (by assumption) (Fr.keep (by k_asm)), warm_keep (by assumption) (Fr.keep (by k_asm))⟩); (case d1 => assumption); (case d2 => exact Row.le32 (by assumption)); (case d3 => exact Row.pl (by assumption)); (case ud => (first | (refine' room_ok ?rh ?re; (case rh => assumption); (case re => exact rfl)) | (refine' room_ok0 ?rh ?re; (case rh => assumption); (case re => exact rfl)) | ktr_room)); (case uu => (first | (refine' room_ok ?rh ?re; (case rh => assumption); (case re => exact rfl)) | (refine' room_ok0 ?rh ?re; (case rh => assumption); (case re => exact rfl)) | ktr_units)); k_whole); intro r9 h9 tk9 k9 F9 N9 e9; obtain ⟨t9, e9⟩ := e9; subst e9; (try k_fold)) | walk1 | (dsimp only; (first | ((with_reducible show wpAny _ _ (call (Value.ref _) _) _ _ _); k_here; k_dflt (refine' use_spec (spec_number _ _ _ _ ?d1 ?d2 ?d3 _) ?uB ?uF ?uN ?uX ?uT ?uA ?uf ?uk ?up ?ud ?uu ?_; (case uB => k_asm); (case uF => k_asm); (case uN => k_asm); (case uX => k_asm); (case uT => k_asm); (case uA => exact rfl); (case uf => exact rfl); (case uk => exact rfl); (case up => exact ⟨isl_keep (by assumption) (Fr.keep (by k_asm)), warm_keep (by assumption) (Fr.keep (by k_asm))⟩); (case d1 => assumption); (case d2 => exact Row.le32 (by assumption)); (case d3 => exact Row.pl (by assumption)); (case ud => (first | (refine' room_ok ?rh ?re; (case rh => assumption); (case re => exact rfl)) | (refine' room_ok0 ?rh ?re; (case rh => assumption); (case re => exact rfl)) | ktr_room)); (case uu => (first | (refine' room_ok ?rh ?re; (case rh => assumption); (case re => exact rfl)) | (refine' room_ok0 ?rh ?re; (case rh => assumption); (case re => exact rfl)) | ktr_units)); k_whole); intro r9 h9 tk9 k9 F9 N9 e9; obtain ⟨t9, e9⟩ := e9; subst e9; (try k_fold)) | walk1)) | (leave1; (try dsimp only)) | fail "no step")))
  all_goals (
    try dsimp only
    refine hret _ _ _ (Fr.keep (by assumption)) (new_ints (by assumption) (by k_mem) (by l_ints) ?_)
    simp_all [joinedN, num])
end
end Mine

end
section
open PySem PySem.W PyProof.Rows PySem.Spec PySem.Calls PySem.Builtin PySem.Builtin.Str
namespace Mine
/-- the signs of a text -/
abbrev cp (x : PySem.Str) : List Nat := x.cps.toList
theorem cp_len (x : PySem.Str) : x.length = (cp x).length := by simp [PySem.Str.length]
theorem slash_cp : cp slash = [47] := by decide +kernel
theorem at_slash (x : PySem.Str) (i : Nat) : StrLaws.At x slash x.length i ↔ (cp x)[i]? = some 47 := by
  have e : slash = ⟨#[47]⟩ := PySem.Str.ext' (Array.toList_inj.mp slash_cp)
  unfold StrLaws.At subAt
  rw [e, beq_iff_eq, ← Array.toList_inj]
  show (i + 1 ≤ x.length ∧ (x.cps.extract i (i + 1)).toList = [47]) ↔ _
  rw [cp_len]
  constructor
  · rintro ⟨h1, h2⟩
    have h3 : i < (cp x).length := by omega
    simp at h2
    have h4 := congrArg (·[0]?) h2
    simpa [List.getElem?_take, List.getElem?_drop, h3] using h4
  · intro h
    obtain ⟨h1, h2⟩ := List.getElem?_eq_some_iff.mp h
    refine ⟨by omega, ?_⟩
    simp
    rw [List.drop_eq_getElem_cons h1, List.take_succ_cons, List.take_zero, h2]
theorem rfind_cut (x : PySem.Str) : ∃ c : Nat, Txt.rfind x slash + 1 = (c : Int) ∧ c ≤ (cp x).length ∧ (∀ k, c ≤ k → (cp x)[k]? ≠ some 47) ∧ (c = 0 ∨ (cp x)[c - 1]? = some 47) := by
  rcases rfind_whole x slash with ⟨h0, hn⟩ | ⟨i, h0, hi, hn⟩
  · exact ⟨0, by rw [h0]; rfl, Nat.zero_le _, fun k _ e => hn k ((at_slash x k).mpr e), .inl rfl⟩
  · have h1 := (at_slash x i).mp hi
    refine ⟨i + 1, by rw [h0]; rfl, ?_, fun k hk e => hn k hk ((at_slash x k).mpr e), .inr h1⟩
    obtain ⟨h2, _⟩ := List.getElem?_eq_some_iff.mp h1
    exact h2
theorem cutHead_cp (x : PySem.Str) (c : Nat) (h : Txt.rfind x slash + 1 = (c : Int)) (hc : c ≤ (cp x).length) : cp (cutHead x) = (cp x).take c := by
  unfold cutHead
  rw [h]
  have e := slice_closes_toL (x := x) (j := (c : Int)) (by omega) (by rw [cp_len]; omega)
  rw [beq_iff_eq] at e
  rw [e]
  simp
theorem cutTail_cp (x : PySem.Str) (c : Nat) (h : Txt.rfind x slash + 1 = (c : Int)) (hc : c ≤ (cp x).length) : cp (cutTail x) = (cp x).drop c := by
  unfold cutTail
  rw [h, slice_from_eq (b := ((cp x).length : Int)) (by omega) (by rw [cp_len]; omega) (by rw [cp_len])]
  have e1 : ((c : Int)).toNat = c := by omega
  have e2 : (((cp x).length : Int) - (c : Int)).toNat = (cp x).length - c := by omega
  rw [e1, e2]
  show ((cp x).drop c).take ((cp x).length - c) = _
  rw [List.take_of_length_le (by rw [List.length_drop]; exact Nat.le_refl _)]
def bareN (l : List Nat) : List Nat := (l.reverse.dropWhile (· == 47)).reverse
theorem rstrip_cp (y : PySem.Str) : cp (Txt.rstripChars y slash) = bareN (cp y) := by
  unfold Txt.rstripChars
  rw [PyProof.Rows.stripBy_eq]
  have eg : slash.cps.contains = fun c => c == 47 := by
    funext c
    have e : slash.cps = #[47] := Array.toList_inj.mp slash_cp
    rw [e]
    simp only [List.contains_toArray, List.contains_cons, List.contains_nil, Bool.or_false]
  have e0 : stripLo slash.cps.contains false y = 0 := rfl
  rw [e0]
  show (strSub y 0 _).cps.toList = _
  rw [StrLaws.strSub_toList]
  unfold stripHi bareN
  rw [if_pos rfl, List.drop_zero, Nat.sub_zero, eg, cp_len]
  have e1 : cp y = (((cp y).reverse.dropWhile (· == 47)).reverse) ++ (((cp y).reverse.takeWhile (· == 47)).reverse) := by
    rw [← List.reverse_append, List.takeWhile_append_dropWhile, List.reverse_reverse]
  generalize hA : ((cp y).reverse.dropWhile (· == 47)).reverse = A at *
  have e2 : ((cp y).reverse.takeWhile (· == 47)).length = ((cp y).reverse.takeWhile (· == 47)).reverse.length := by rw [List.length_reverse]
  rw [e2]
  generalize hB : ((cp y).reverse.takeWhile (· == 47)).reverse = B at *
  show (cp y).take ((cp y).length - B.length) = A
  rw [e1, List.length_append, Nat.add_sub_cancel, List.take_left]
theorem mul_cp (n : Int) : cp (Txt.mul slash n) = List.replicate n.toNat 47 := by
  have e : slash = ⟨#[47]⟩ := PySem.Str.ext' (Array.toList_inj.mp slash_cp)
  rw [e]
  exact mul_one_list 47 n
theorem str_eq {x y : PySem.Str} (h : cp x = cp y) : x = y := PySem.Str.ext' (Array.toList_inj.mp h)
theorem plc_63 {c : Nat} (h : OkSign c) : (plc c == 63) = (c == 47) := by
  rcases h with rfl | rfl | rfl | rfl | rfl <;> decide
theorem dropWhile_congr {α : Type} {p q : α → Bool} : ∀ {l : List α}, (∀ x ∈ l, p x = q x) → l.dropWhile p = l.dropWhile q
  | [], _ => rfl
  | a :: l, h => by
    rw [List.dropWhile_cons, List.dropWhile_cons, h a (.head _), dropWhile_congr fun x hx => h x (.tail _ hx)]
theorem bare_map {cs : List Nat} (h : ∀ c ∈ cs, OkSign c) : (bareN cs).map plc = bareL 63 (cs.map plc) := by
  unfold bareN bareL
  rw [List.map_reverse, ← List.map_reverse (l := cs), List.dropWhile_map, dropWhile_congr (p := (fun x => x == 63) ∘ plc) (q := (· == 47)) (fun c hc => plc_63 (h c (List.mem_reverse.mp hc)))]
theorem dropWhile_nil {α : Type} {p : α → Bool} : ∀ {l : List α}, l.dropWhile p = [] → ∀ x ∈ l, p x = true
  | [], _, _, h => nomatch h
  | a :: l, e, x, h => by
    rw [List.dropWhile_cons] at e
    by_cases ha : p a = true
    · rw [if_pos ha] at e
      rcases List.mem_cons.mp h with rfl | h
      · exact ha
      · exact dropWhile_nil e x h
    · rw [if_neg ha] at e; cases e
theorem bareL_nil {sg : Int} {l : List Int} : bareL sg l = [] → ∀ x ∈ l, x = sg := fun e x hx => by
  unfold bareL at e
  have := dropWhile_nil (List.reverse_eq_nil_iff.mp e) x (List.mem_reverse.mpr hx)
  simpa using this
theorem bareL_rep {sg : Int} {l : List Int} (h : ∀ x ∈ l, x = sg) : bareL sg l = [] := by
  unfold bareL
  rw [← List.append_nil l.reverse, dropWhile_app _ _ _ (fun x hx => by simpa using h x (List.mem_reverse.mp hx))]
  rfl
/-- what split's head comes to -/
def headR (r : List Int) : List Int := if bareL 63 r = [] then r else bareL 63 r
theorem headOf_map (x : PySem.Str) {l : List Nat} (hl : cp (cutHead x) = l) (hok : ∀ c ∈ l, OkSign c) : (cp (headOf x)).map plc = headR (l.map plc) := by
  unfold headOf headR
  by_cases h0 : (cutHead x).length = 0
  · rw [if_pos h0, hl]
    rw [cp_len, hl] at h0
    have : l = [] := List.eq_nil_of_length_eq_zero h0
    subst this
    rfl
  · rw [if_neg h0]
    by_cases h1 : (cutHead x != Txt.mul slash (cutHead x).length) = true
    · rw [if_pos h1, rstrip_cp, hl, bare_map hok, if_neg]
      intro e
      have h2 := bareL_nil e
      have h3 : ∀ c ∈ l, c = 47 := fun c hc => by
        have := h2 (plc c) (List.mem_map_of_mem hc)
        have z := plc_63 (hok c hc)
        rw [this] at z
        simpa using z.symm
      have h4 : l = List.replicate l.length 47 := List.eq_replicate_iff.mpr ⟨rfl, h3⟩
      have h5 : cutHead x = Txt.mul slash (cutHead x).length := str_eq (by rw [mul_cp, hl, cp_len, hl]; simpa using h4)
      rw [← h5] at h1
      simp at h1
    · rw [if_neg h1, hl, if_pos]
      simp at h1
      have h5 := congrArg cp h1
      rw [mul_cp, hl] at h5
      refine bareL_rep fun p hp => ?_
      obtain ⟨c, hc, rfl⟩ := List.mem_map.mp hp
      rw [h5] at hc
      rw [List.eq_of_mem_replicate hc]
      decide
theorem headOf_ok (x : PySem.Str) {P : Nat → Prop} {l : List Nat} (hl : cp (cutHead x) = l) (hok : ∀ c ∈ l, P c) : (∀ c ∈ cp (headOf x), P c) ∧ (headOf x).length ≤ l.length := by
  have hb : ∀ c ∈ bareN l, c ∈ l := fun c hc => by
    unfold bareN at hc
    exact List.mem_reverse.mp ((List.dropWhile_sublist _).subset (List.mem_reverse.mp hc))
  have hb2 : (bareN l).length ≤ l.length := by
    unfold bareN
    rw [List.length_reverse]
    exact Nat.le_trans (List.dropWhile_sublist _).length_le (by rw [List.length_reverse]; exact Nat.le_refl _)
  unfold headOf
  split
  · rw [cp_len, hl]; exact ⟨hok, Nat.le_refl _⟩
  · split
    · rw [cp_len, rstrip_cp, hl]
      exact ⟨fun c hc => hok c (hb c hc), hb2⟩
    · rw [cp_len, hl]; exact ⟨hok, Nat.le_refl _⟩
theorem plc_ne {c : Nat} (h : OkSign c) (e : plc c = 63) : c = 47 := by
  have z := plc_63 h
  rw [e] at z
  simpa using z.symm
/-- where the text is cut, and what comes of it -/
theorem text_cut (x : PySem.Str) (r : List Int) (hok : ∀ c ∈ cp x, OkSign c) (hr : (cp x).map plc = r) : ∃ c : Nat, c ≤ r.length ∧ (∀ k : Nat, k < r.length → decide (63 ∉ r.drop k) = decide (c ≤ k)) ∧
    (cp (cutTail x)).map plc = r.drop c ∧ (cp (headOf x)).map plc = headR (r.take c) ∧ (∀ c ∈ cp (cutTail x), OkSign c) ∧ (∀ c ∈ cp (headOf x), OkSign c) ∧ (cutTail x).length ≤ r.length ∧ (headOf x).length ≤ r.length := by
  obtain ⟨c, h0, h1, h2, h3⟩ := rfind_cut x
  have e1 := cutHead_cp x c h0 h1
  have e2 := cutTail_cp x c h0 h1
  have hrl : r.length = (cp x).length := by rw [← hr, List.length_map]
  have hokT : ∀ z ∈ (cp x).take c, OkSign z := fun z hz => hok z (List.mem_of_mem_take hz)
  have z9 := headOf_ok x (P := OkSign) e1 hokT
  refine ⟨c, by omega, fun k hk => ?_, by rw [e2, ← hr, List.map_drop], by rw [headOf_map x e1 hokT, ← hr, List.map_take], fun z hz => hok z (List.mem_of_mem_drop (e2 ▸ hz)), z9.1, ?_, ?_⟩
  · by_cases hck : c ≤ k
    · rw [decide_eq_true hck]
      refine decide_eq_true fun hm => ?_
      rw [← hr, ← List.map_drop] at hm
      obtain ⟨z, hz, e⟩ := List.mem_map.mp hm
      have z47 := plc_ne (hok z (List.mem_of_mem_drop hz)) e
      obtain ⟨j, hj, ej⟩ := List.mem_iff_getElem.mp hz
      rw [List.length_drop] at hj
      refine h2 (k + j) (by omega) ?_
      rw [List.getElem?_eq_getElem (by omega)]
      rw [List.getElem_drop] at ej
      rw [ej, z47]
    · rw [decide_eq_false hck]
      refine decide_eq_false fun hm => hm ?_
      rcases h3 with h3 | h3
      · omega
      · obtain ⟨h4, h5⟩ := List.getElem?_eq_some_iff.mp h3
        refine List.mem_iff_getElem.mpr ⟨c - 1 - k, by rw [List.length_drop]; omega, ?_⟩
        rw [List.getElem_drop]
        have e3 : k + (c - 1 - k) = c - 1 := by omega
        subst hr
        simp only [e3, List.getElem_map, h5]
        decide
  · rw [cp_len, e2, List.length_drop]; omega
  · exact Nat.le_trans z9.2 (by rw [List.length_take]; omega)
/-- the row of the joined text -/
def joinRow (one two : List Int) : List Int := if two.headD 0 = 63 then two else if one.getLastD 0 = 63 then one ++ two else one ++ 63 :: two
theorem starts_slash (y : PySem.Str) : Txt.startswith y slash = true ↔ (cp y)[0]? = some 47 := by
  rw [← at_slash]
  unfold Txt.startswith StrLaws.At
  simp
theorem ends_slash (y : PySem.Str) (hy : 0 < (cp y).length) : Txt.endswith y slash = true ↔ (cp y)[(cp y).length - 1]? = some 47 := by
  rw [← at_slash, ← cp_len]
  rw [← cp_len] at hy
  unfold Txt.endswith StrLaws.At
  have e : slash.length = 1 := by rw [cp_len, slash_cp]; rfl
  simp [e]
  omega
theorem app_cp (x y : PySem.Str) : cp (x ++ y) = cp x ++ cp y := by
  show (x.cps ++ y.cps).toList = _
  simp
theorem joinOf_map (x y : PySem.Str) (one two : List Int) (hx : (cp x).map plc = one) (hy : (cp y).map plc = two) (ox : ∀ c ∈ cp x, OkSign c) (oy : ∀ c ∈ cp y, OkSign c) (h1 : 0 < one.length) (h2 : 0 < two.length) :
    (cp (joinOf x y)).map plc = joinRow one two ∧ ∀ c ∈ cp (joinOf x y), OkSign c := by
  have lx : (cp x).length = one.length := by rw [← hx, List.length_map]
  have ly : (cp y).length = two.length := by rw [← hy, List.length_map]
  unfold joinOf joinRow
  have a1 : two.headD 0 = 63 ↔ (cp y)[0]? = some 47 := by
    subst hy
    match h : cp y with
    | [] => rw [h] at ly h2; simp at h2
    | c :: l =>
      have z := oy c (by rw [h]; exact .head _)
      simp
      exact ⟨plc_ne z, fun e => by rw [e]; decide⟩
  have a2 : one.getLastD 0 = 63 ↔ (cp x)[(cp x).length - 1]? = some 47 := by
    subst hx
    rw [List.getLastD_eq_getLast?, List.getLast?_map, List.getLast?_eq_getElem?]
    rw [List.length_map] at h1
    have hl : (cp x).length - 1 < (cp x).length := by omega
    rw [List.getElem?_eq_getElem hl]
    have z := ox _ (List.getElem_mem hl)
    simp
    exact ⟨plc_ne z, fun e => by rw [e]; decide⟩
  have b1 := starts_slash y
  have b2 := ends_slash x (by omega)
  have b3 : x.length ≠ 0 := by rw [cp_len]; omega
  by_cases c1 : (cp y)[0]? = some 47
  · rw [if_pos (b1.mpr c1), if_pos (a1.mpr c1)]
    exact ⟨hy, oy⟩
  · rw [if_neg (fun e => c1 (b1.mp e)), if_neg (fun e => c1 (a1.mp e)), if_neg b3]
    by_cases c2 : (cp x)[(cp x).length - 1]? = some 47
    · rw [if_pos (b2.mpr c2), if_pos (a2.mpr c2), app_cp, List.map_append, hx, hy]
      exact ⟨rfl, fun c hc => (List.mem_append.mp hc).elim (ox c) (oy c)⟩
    · rw [if_neg (fun e => c2 (b2.mp e)), if_neg (fun e => c2 (a2.mp e)), app_cp, app_cp, slash_cp, List.map_append, List.map_append, hx, hy]
      refine ⟨by rw [show List.map plc [47] = [63] by decide]; rfl, fun c hc => ?_⟩
      rcases List.mem_append.mp hc with h | h
      · exact ox c h
      · rcases List.mem_append.mp h with h | h
        · rw [List.mem_singleton] at h; exact .inl h
        · exact oy c h
theorem num_app (a b : List Int) : num (a ++ b) = num a * 64 ^ b.length + num b := by
  unfold num
  rw [List.reverse_append, dval_append, List.length_reverse, Int.pow_mul, Int.mul_comm]
  have : (2 : Int) ^ 6 = 64 := rfl
  rw [this]
  omega
theorem joined_eq (one two : List Int) : joinedN one two = [num (joinRow one two), ((joinRow one two).length : Int)] := by
  unfold joinedN joinRow
  split
  · rfl
  · split
    · rw [num_app, List.length_append]; simp
    · have e : one ++ 63 :: two = (one ++ [63]) ++ two := by simp
      rw [e, num_app, num_app, List.length_append, List.length_append]
      simp [num, dval]
end Mine

end
section
open PySem PySem.W PyProof.Rows PySem.Spec PySem.Calls
namespace Mine
/-- the octets of a row -/
def octs : List Int → List Int
  | p0 :: p1 :: p2 :: p3 :: r => q4 p0 p1 p2 p3 / 65536 :: q4 p0 p1 p2 p3 / 256 % 256 :: q4 p0 p1 p2 p3 % 256 :: octs r
  | _ => []
theorem row_cases {r : List Int} (h : Row r) : (∃ p0 p1 p2 p3, r = [p0, p1, p2, p3]) ∨ (∃ p0 p1 p2 p3 p4 p5 p6 p7, r = [p0, p1, p2, p3, p4, p5, p6, p7]) := by
  obtain ⟨hl, _⟩ := h
  rcases hl with hl | hl
  · left
    match r, hl with
    | [p0, p1, p2, p3], _ => exact ⟨_, _, _, _, rfl⟩
  · right
    match r, hl with
    | [p0, p1, p2, p3, p4, p5, p6, p7], _ => exact ⟨_, _, _, _, _, _, _, _, rfl⟩
theorem octs_val {r : List Int} (h : Row r) : dval 8 (octs r).reverse = num r := by
  have p := h.pl
  rcases row_cases h with ⟨p0, p1, p2, p3, rfl⟩ | ⟨p0, p1, p2, p3, p4, p5, p6, p7, rfl⟩
  · have h0 := p p0 (by simp); have h1 := p p1 (by simp); have h2 := p p2 (by simp); have h3 := p p3 (by simp)
    simp only [octs, num, dval, List.reverse_cons, List.reverse_nil, List.nil_append, List.cons_append, q4]
    simp only [show (2 : Int) ^ 8 = 256 from rfl, show (2 : Int) ^ 6 = 64 from rfl]
    omega
  · have h0 := p p0 (by simp); have h1 := p p1 (by simp); have h2 := p p2 (by simp); have h3 := p p3 (by simp)
    have h4 := p p4 (by simp); have h5 := p p5 (by simp); have h6 := p p6 (by simp); have h7 := p p7 (by simp)
    simp only [octs, num, dval, List.reverse_cons, List.reverse_nil, List.nil_append, List.cons_append, q4]
    simp only [show (2 : Int) ^ 8 = 256 from rfl, show (2 : Int) ^ 6 = 64 from rfl]
    omega
theorem octs_bound {r : List Int} (h : Row r) : ∀ d ∈ octs r, 0 ≤ d ∧ d < 256 := by
  have p := h.pl
  rcases row_cases h with ⟨p0, p1, p2, p3, rfl⟩ | ⟨p0, p1, p2, p3, p4, p5, p6, p7, rfl⟩
  · have h0 := p p0 (by simp); have h1 := p p1 (by simp); have h2 := p p2 (by simp); have h3 := p p3 (by simp)
    intro d hd
    simp only [octs, List.mem_cons, List.not_mem_nil, or_false, q4] at hd
    omega
  · have h0 := p p0 (by simp); have h1 := p p1 (by simp); have h2 := p p2 (by simp); have h3 := p p3 (by simp)
    have h4 := p p4 (by simp); have h5 := p p5 (by simp); have h6 := p p6 (by simp); have h7 := p p7 (by simp)
    intro d hd
    simp only [octs, List.mem_cons, List.not_mem_nil, or_false, q4] at hd
    omega
theorem octs_len {r : List Int} (h : Row r) : ((octs r).length = 3 ∨ (octs r).length = 6) := by
  rcases row_cases h with ⟨p0, p1, p2, p3, rfl⟩ | ⟨p0, p1, p2, p3, p4, p5, p6, p7, rfl⟩
  · exact .inl rfl
  · exact .inr rfl
/-- the sign of a place -/
def sgn (p : Int) : Nat := (b64By p).toNat
theorem sgn_ok {p : Int} (h : p = 63 ∨ p = 0 ∨ p = 41 ∨ p = 62 ∨ p = 5) : OkSign (sgn p) ∧ plc (sgn p) = p := by
  unfold OkSign
  rcases h with rfl | rfl | rfl | rfl | rfl <;> decide +kernel
theorem row_signs {r : List Int} (h : Row r) : (∀ c ∈ r.map sgn, OkSign c) ∧ (r.map sgn).map plc = r := by
  refine ⟨fun c hc => ?_, ?_⟩
  · obtain ⟨p, hp, rfl⟩ := List.mem_map.mp hc
    exact (sgn_ok (h.2 p hp)).1
  · rw [List.map_map]
    conv => rhs; rw [← List.map_id r]
    exact List.map_congr_left fun p hp => (sgn_ok (h.2 p hp)).2
theorem digs_dval (nn : Nat) : ∀ l : List Int, (∀ d ∈ l, 0 ≤ d ∧ d < 2 ^ nn) → digs nn l.length (dval nn l) = l
  | [], _ => rfl
  | d :: l, h => by
    have hd := h d (.head _)
    have e1 : (d + 2 ^ nn * dval nn l) % 2 ^ nn = d := by rw [Int.add_mul_emod_self_left, Int.emod_eq_of_lt hd.1 hd.2]
    have e2 : (d + 2 ^ nn * dval nn l) / 2 ^ nn = dval nn l := by rw [Int.add_mul_ediv_left _ _ (Int.ne_of_gt (pow_pos2 nn)), Int.ediv_eq_zero_of_lt hd.1 hd.2, Int.zero_add]
    rw [List.length_cons, digs, dval, e1, e2, digs_dval nn l fun x hx => h x (.tail _ hx)]
theorem dval_zeros (nn : Nat) : ∀ l : List Int, (∀ d ∈ l, d = 0) → dval nn l = 0
  | [], _ => rfl
  | d :: l, h => by rw [dval, h d (.head _), dval_zeros nn l fun x hx => h x (.tail _ hx), Int.mul_zero]; rfl
theorem dropWhile_head {α : Type} {p : α → Bool} {a : α} {t : List α} : ∀ {l : List α}, l.dropWhile p = a :: t → p a = false
  | [], e => by cases e
  | b :: l, e => by
    rw [List.dropWhile_cons] at e
    by_cases hb : p b = true
    · rw [if_pos hb] at e; exact dropWhile_head e
    · rw [if_neg hb] at e
      cases e
      simpa using hb
theorem bareL_split (sg : Int) (l : List Int) : ∃ z, l = bareL sg l ++ z ∧ ∀ x ∈ z, x = sg := by
  refine ⟨(l.reverse.takeWhile (· == sg)).reverse, ?_, fun x hx => ?_⟩
  · unfold bareL
    rw [← List.reverse_append, List.takeWhile_append_dropWhile, List.reverse_reverse]
  · have := List.all_takeWhile (l := l.reverse) (p := (· == sg))
    have z := List.all_eq_true.mp this x (List.mem_reverse.mp hx)
    simpa using z
theorem bits_exact {x : Int} {m : Nat} (h0 : 0 ≤ x) (h1 : x < 2 ^ (6 * m)) (h2 : m = 0 ∨ 2 ^ (6 * (m - 1)) ≤ x) {k : Nat} (hk : ((Builtin.Int.intBits x : Int) + (6 : Nat) - 1).fdiv (6 : Nat) = k) : k = m := by
  have q : Builtin.Int.intBits x ≤ 6 * m := PySem.intBits_le_iff.mpr (by have e := pow_cast (6 * m); omega)
  rw [Int.fdiv_eq_ediv_of_nonneg _ (by decide)] at hk
  rcases h2 with rfl | h2
  · omega
  · rcases Nat.eq_zero_or_pos m with rfl | hm
    · omega
    · have q2 : ¬ Builtin.Int.intBits x ≤ 6 * (m - 1) := fun h => by
        have z := PySem.intBits_le_iff.mp h
        have e := pow_cast (6 * (m - 1))
        omega
      omega
theorem digs_bare {ds : List Int} (h : ∀ d ∈ ds, 0 ≤ d ∧ d < 2 ^ 6) {k : Nat} (hk : ((Builtin.Int.intBits (dval 6 ds) : Int) + (6 : Nat) - 1).fdiv (6 : Nat) = k) : digs 6 k (dval 6 ds) = bareL 0 ds := by
  obtain ⟨z, e, hz⟩ := bareL_split 0 ds
  have hb : ∀ d ∈ bareL 0 ds, 0 ≤ d ∧ d < 2 ^ 6 := fun d hd => h d (by rw [e]; exact List.mem_append_left _ hd)
  have ev : dval 6 ds = dval 6 (bareL 0 ds) := by
    conv => lhs; rw [e]
    rw [dval_append, dval_zeros 6 z hz, Int.mul_zero, Int.add_zero]
  rw [ev] at hk ⊢
  have b := dval_bound 6 _ hb
  have hm : k = (bareL 0 ds).length := by
    refine bits_exact b.1 b.2 ?_ hk
    cases q : ds.reverse.dropWhile (· == 0) with
    | nil => left; unfold bareL; rw [q]; rfl
    | cons a t =>
      right
      have ha := dropWhile_head q
      have e1 : bareL 0 ds = t.reverse ++ [a] := by unfold bareL; rw [q, List.reverse_cons]
      have ha2 := hb a (by rw [e1]; simp)
      have ha3 : a ≠ 0 := by simpa using ha
      have hb3 : ∀ d ∈ t.reverse, 0 ≤ d ∧ d < 2 ^ 6 := fun d hd => hb d (by rw [e1]; exact List.mem_append_left _ hd)
      have b3 := dval_bound 6 _ hb3
      rw [e1, dval_append, List.length_append, List.length_singleton, Nat.add_sub_cancel]
      have : dval 6 [a] = a := by simp [dval]
      rw [this]
      have pp := pow_pos2 (6 * t.reverse.length)
      have := Int.mul_le_mul_of_nonneg_left (show 1 ≤ a by omega) (Int.le_of_lt pp)
      rw [Int.mul_one] at this
      omega
  rw [hm]
  exact digs_dval 6 _ hb
theorem Row.num {r : List Int} (h : Row r) : 0 ≤ num r ∧ num r < 2 ^ 48 := by
  have b := dval_bound 6 r.reverse (pl_rev h.pl)
  unfold Mine.num
  refine ⟨b.1, ?_⟩
  have hl : 6 * r.reverse.length ≤ 48 := by rw [List.length_reverse]; rcases h.1 with h | h <;> omega
  have e1 := pow_cast (6 * r.reverse.length)
  have e2 : (2 : Nat) ^ (6 * r.reverse.length) ≤ 2 ^ 48 := Nat.pow_le_pow_right (by decide) hl
  have e3 := pow_cast 48
  omega
theorem num_div {r : List Int} (h : Pl r) (c : Nat) : Mine.num r / 64 ^ (r.length - c) = Mine.num (r.take c) ∧ Mine.num r % 64 ^ (r.length - c) = Mine.num (r.drop c) := by
  have e := num_app (r.take c) (r.drop c)
  rw [List.take_append_drop, List.length_drop] at e
  have b := dval_bound 6 (r.drop c).reverse (pl_rev fun d hd => h d (List.mem_of_mem_drop hd))
  rw [List.length_reverse, List.length_drop, Int.pow_mul] at b
  have : (2 : Int) ^ 6 = 64 := rfl
  rw [this] at b
  have z := div_unique (a := Mine.num r) (b := 64 ^ (r.length - c)) (q := Mine.num (r.take c)) (r := Mine.num (r.drop c)) (Int.pow_pos (by decide)) e.symm b.1 b.2
  exact ⟨z.1.symm, z.2.symm⟩
theorem bits48 {x : Int} (h0 : 0 ≤ x) (h1 : x < 2 ^ 48) : Builtin.Int.intBits x ≤ 48 := PySem.intBits_le_iff.mpr (by have e := pow_cast 48; omega)
theorem filter_cut (c : Nat) : ∀ n a : Nat, a + n ≥ c → (List.range' a n).filter (fun k => decide (c ≤ k)) = List.range' (max a c) (a + n - max a c)
  | 0, a, h => by
    have : a + 0 - max a c = 0 := by omega
    rw [this]; rfl
  | n + 1, a, h => by
    rw [List.range'_succ, List.filter_cons]
    by_cases hc : c ≤ a
    · rw [if_pos (by simpa using hc), filter_cut c n (a + 1) (by omega)]
      have e1 : max (a + 1) c = a + 1 := by omega
      have e2 : max a c = a := by omega
      have e3 : a + 1 + n - (a + 1) = n := by omega
      have e4 : a + (n + 1) - a = n + 1 := by omega
      rw [e1, e2, e3, e4, List.range'_succ]
    · rw [if_neg (by simpa using hc), filter_cut c n (a + 1) (by omega)]
      have e1 : max (a + 1) c = c := by omega
      have e2 : max a c = c := by omega
      have e3 : a + 1 + n - c = a + (n + 1) - c := by omega
      rw [e1, e2, e3]
end Mine

end
section
open PySem PySem.W PyProof.Rows PySem.Spec PySem.Calls
namespace Mine
def dl (r : List Int) : PyData := .list (r.map PyData.int)
def dll (rs : List (List Int)) : PyData := .list (rs.map dl)
/-- these values are lists of ints, standing in the heap -/
def RowsAt (h : Heap) : List Value → List (List Int) → Prop
  | [], [] => True
  | y :: ys, r :: rs => (∃ a vs n, y = .ref a ∧ h.get? a = some (listObj vs n) ∧ IntsAre vs r) ∧ RowsAt h ys rs
  | _, _ => False
theorem RowsAt.keeps {h h' : Heap} (k : Kept h h') : ∀ {ys : List Value} {rs : List (List Int)}, RowsAt h ys rs → RowsAt h' ys rs
  | [], [], _ => trivial
  | _ :: _, _ :: _, ⟨⟨a, vs, n, e, g, i⟩, p⟩ => ⟨⟨a, vs, n, e, k _ _ g, i⟩, RowsAt.keeps k p⟩
  | [], _ :: _, p => p.elim
  | _ :: _, [], p => p.elim
theorem reads_row {h : Heap} {a : Addr} {vs : List Value} {n : Nat} {r : List Int} (g : h.get? a = some (listObj vs n)) (i : IntsAre vs r) : Reads h (.ref a) (dl r) [a] :=
  reads_newData ⟨_, g, rfl, _, rfl⟩ (ke_carried i)
theorem RowsAt.reads {h : Heap} : ∀ {ys : List Value} {rs : List (List Int)}, RowsAt h ys rs → ∃ as, ReadsAll h ys (rs.map dl) as
  | [], [], _ => ⟨_, .nil⟩
  | _ :: _, _ :: _, ⟨⟨a, vs, n, e, g, i⟩, p⟩ => by
    obtain ⟨as, R⟩ := RowsAt.reads p
    subst e
    exact ⟨_, .cons (reads_row g i) R⟩
  | [], _ :: _, p => p.elim
  | _ :: _, [], p => p.elim
theorem RowsAt.length {h : Heap} : ∀ {ys : List Value} {rs : List (List Int)}, RowsAt h ys rs → ys.length = rs.length
  | [], [], _ => rfl
  | _ :: _, _ :: _, ⟨_, p⟩ => congrArg (· + 1) (RowsAt.length p)
  | [], _ :: _, p => p.elim
  | _ :: _, [], p => p.elim
theorem RowsAt.at {h : Heap} : ∀ {ys : List Value} {rs : List (List Int)} (i : Nat) {v : Value}, RowsAt h ys rs → ys[i]? = some v → ∃ a vs n r, v = .ref a ∧ rs[i]? = some r ∧ h.get? a = some (listObj vs n) ∧ IntsAre vs r
  | y :: ys, r :: rs, 0, v, ⟨⟨a, vs, n, e, g, i⟩, p⟩, hv => by
    simp at hv
    subst hv
    exact ⟨a, vs, n, r, e, rfl, g, i⟩
  | y :: ys, r :: rs, i + 1, v, ⟨_, p⟩, hv => by
    obtain ⟨a, vs, n, r', e, h1, g, i'⟩ := RowsAt.at i p (by simpa using hv)
    exact ⟨a, vs, n, r', e, by simpa using h1, g, i'⟩
  | [], [], _, _, _, hv => by simp at hv
  | [], _ :: _, _, _, p, _ => p.elim
  | _ :: _, [], _, _, p, _ => p.elim
theorem RowsAt.snoc {h : Heap} {a : Addr} {us : List Value} {n : Nat} {r : List Int} (g : h.get? a = some (listObj us n)) (i : IntsAre us r) : ∀ {ys : List Value} {rs : List (List Int)}, RowsAt h ys rs → RowsAt h (ys ++ [.ref a]) (rs ++ [r])
  | [], [], _ => ⟨⟨a, us, n, rfl, g, i⟩, trivial⟩
  | _ :: _, _ :: _, ⟨q, p⟩ => ⟨q, RowsAt.snoc g i p⟩
  | [], _ :: _, p => p.elim
  | _ :: _, [], p => p.elim
theorem dl_lay (r : List Int) : (dl r).canLay0 = true ∧ (dl r).depth = 1 := by
  unfold dl
  refine ⟨?_, ?_⟩
  · simp only [PyData.canLay0]; exact ke_canLayAll0 r
  · simp only [PyData.depth, ke_depthAll]
theorem dll_lay : ∀ rs : List (List Int), PyData.canLayAll0 (rs.map dl) = true ∧ PyData.depthAll (rs.map dl) ≤ 1
  | [] => ⟨rfl, Nat.zero_le _⟩
  | r :: rs => by
    have h1 := dl_lay r
    have h2 := dll_lay rs
    refine ⟨?_, ?_⟩
    · rw [List.map_cons]; simp only [PyData.canLayAll0, h1.1, h2.1, Bool.and_self]
    · rw [List.map_cons]; simp only [PyData.depthAll, h1.2]; omega
theorem dll_shaped (rs : List (List Int)) : SeqAt.shaped (dll rs) = true := by
  unfold SeqAt.shaped dll
  have h := dll_lay rs
  rw [Bool.and_eq_true]
  refine ⟨by simp only [PyData.canLay0]; exact h.1, decide_eq_true (by simp only [PyData.depth]; omega)⟩
theorem dll_self (rs : List (List Int)) : PyData.eqv (dll rs) (dll rs) = true := PySem.SeqAt.eqv_refl _ (SeqAt.canLay_of_shaped (dll_shaped rs))
section
variable {prog : Program} {w : World} {A : Around} {E : Value → Shared → Prop} {s : Shared} {a b : Addr} {ys zs : List Value} {n k : Nat} {rs : List (List Int)} {Q : Value → Shared → Prop}
theorem rows_reads {h : Heap} {a : Addr} {ys : List Value} {n : Nat} {rs : List (List Int)} (ea : h.get? a = some (listObj ys n)) (ra : RowsAt h ys rs) : ∃ as, Reads h (.ref a) (dll rs) as := by
  obtain ⟨as, R⟩ := ra.reads
  exact ⟨_, .list ea rfl rfl R⟩
theorem ne_rows (ea : s.heap.get? a = some (listObj ys n)) (eb : s.heap.get? b = some (listObj zs k)) (ra : RowsAt s.heap ys rs) (rb : RowsAt s.heap zs rs) (hu : A.units + 64 < cLine) (h : Q (.bool false) s) :
    wpAny (model prog w) A (compareOp .NotEq (.ref a) (.ref b)) Q E s := by
  obtain ⟨as, ra⟩ := rows_reads ea ra
  obtain ⟨bs, rb⟩ := rows_reads eb rb
  refine ne_dataH ra rb (dll_shaped rs) (dll_shaped rs) hu ?_
  rw [dll_self]
  exact h
theorem eq_rows (ea : s.heap.get? a = some (listObj ys n)) (eb : s.heap.get? b = some (listObj zs k)) (ra : RowsAt s.heap ys rs) (rb : RowsAt s.heap zs rs) (hu : A.units + 64 < cLine) (h : Q (.bool true) s) :
    wpAny (model prog w) A (compareOp .Eq (.ref a) (.ref b)) Q E s := by
  obtain ⟨as, ra⟩ := rows_reads ea ra
  obtain ⟨bs, rb⟩ := rows_reads eb rb
  refine eq_dataH ra rb (dll_shaped rs) (dll_shaped rs) hu ?_
  rw [dll_self]
  exact h
theorem ne_ints (ea : s.heap.get? a = some (listObj ys n)) (eb : s.heap.get? b = some (listObj zs k)) {ns ms : List Int} (ra : IntsAre ys ns) (rb : IntsAre zs ms) (hu : A.units + 64 < cLine) (h : Q (.bool (decide (ns ≠ ms))) s) :
    wpAny (model prog w) A (compareOp .NotEq (.ref a) (.ref b)) Q E s :=
  ke_ne_ints ⟨_, ea, rfl, _, rfl⟩ ⟨_, eb, rfl, _, rfl⟩ ra rb hu (by rw [show (!decide (ns = ms)) = decide (ns ≠ ms) by simp]; exact h)
end
end Mine

end
section
open PySem PySem.W PyProof.Rows PySem.Spec PySem.Calls PySem.SeqAt
namespace Mine
/-- this value is the int z -/
def isInt (z : Int) : Value → Bool
  | .int y _ => y == z
  | _ => false
theorem any_ints {vs : List Value} {ns : List Int} (h : IntsAre vs ns) (z : Int) : vs.any (isInt z) = decide (z ∈ ns) := by
  induction h with
  | nil => simp
  | cons n t h ih =>
    rw [List.any_cons, ih]
    show ((n == z) || _) = _
    rw [Bool.eq_iff_iff]
    simp
    constructor
    · rintro (h | h)
      · exact .inl h.symm
      · exact .inr h
    · rintro (h | h)
      · exact .inl h.symm
      · exact .inr h
theorem ints_mem {vs : List Value} {ns : List Int} (h : IntsAre vs ns) : ∀ v ∈ vs, ∃ n t, v = .int n t := by
  induction h with
  | nil => intro v hv; cases hv
  | cons n t h ih =>
    intro v hv
    rcases List.mem_cons.mp hv with rfl | hv
    · exact ⟨_, _, rfl⟩
    · exact ih v hv
theorem eq_isInt {A : Around} {s : Shared} {z : Int} {u : Tok} {v : Value} (h : ∃ n t, v = .int n t) : EqAt A s v (.int z u) (isInt z v) := by
  obtain ⟨n, t, rfl⟩ := h
  exact EqAt.int_int n t z u
/-- whether z stands behind the k-th place -/
theorem notIn_drop {prog : Program} {w : World} {A : Around} {E : Value → Shared → Prop} {s : Shared} {Q : Value → Shared → Prop} {D : Addr} {vs : List Value} {ns : List Int} {k : Int} {z : Int} {u : Tok} (hI : IntsAre vs ns) (h0 : 0 ≤ k)
    (hl : s.heap.IsList D (slicePick vs.toArray (some k) none none)) (h : Q (.bool (decide (z ∉ ns.drop k.toNat))) s) : wpAny (model prog w) A (compareOp .NotIn (.int z u) (.ref D)) Q E s := by
  have e := slice_ints_fromW hI h0
  refine notIn_listAt (isInt z) hl (fun y hy => eq_isInt (ints_mem e y (Array.mem_toList_iff.mpr hy))) ?_
  rw [← Array.any_toList, any_ints e]
  rw [show (!decide (z ∈ ns.drop k.toNat)) = decide (z ∉ ns.drop k.toNat) by simp]
  exact h
theorem after_comp {g h h' : Heap} {L D : Addr} {m m' : Str → Option Value} {news : List (Addr × Obj)} {o : Obj} {ys : Array Value} (F : Fr g L h m) (N : News g L h news) (hn' : h'.Ns L m') (hnew : (h.push o).get? D = none) (hpl : h'.PlainList D ys)
    (hk : ∀ b o', b ≠ L → b ∉ [h.objs.size] → (h.push o).get? b = some o' → h'.get? b = some o') : Fr g L h' m' ∧ ∃ n, News g L h' ((D, listObj ys.toList n) :: news) := by
  have old : ∀ b o', b ≠ L → h.get? b = some o' → h'.get? b = some o' := fun b o' hb e => hk b o' hb (by rw [List.mem_singleton]; exact Nat.ne_of_lt (Heap.lt_size e)) (Heap.get?_push_of_some _ e)
  have gL : g.get? L = none := Heap.get?_none_of_le F.above
  refine ⟨⟨hn', fun b o' e => old b o' (by rintro rfl; rw [gL] at e; cases e) (F.keep _ _ e), F.above⟩, ?_⟩
  obtain ⟨n, hD⟩ := hpl
  refine ⟨n, fun p hp => ?_⟩
  rcases List.mem_cons.mp hp with rfl | hp
  · refine ⟨by simpa [listObj] using hD, ?_, ?_⟩
    · rintro rfl
      obtain ⟨oL, _, _, hL, _⟩ := F.ns
      have := Heap.get?_push_of_some o hL
      rw [hnew] at this; cases this
    · cases q : g.get? D with
      | none => rfl
      | some o' =>
        have := Heap.get?_push_of_some o (F.keep _ _ q)
        rw [hnew] at this; cases this
  · exact ⟨old _ _ (N p hp).2.1 (N p hp).1, (N p hp).2⟩
theorem paired_ints : ∀ {vs ys : List Value} {ns : List Int}, IntsAre vs ns → Paired (fun v u => ∃ k t, v = Value.int k t ∧ u = .int k t) vs ys → IntsAre ys ns
  | [], _, _, .nil, .nil => .nil
  | _ :: _, _, _, .cons n t r, .cons h1 h2 => by
    obtain ⟨k, u, e1, e2⟩ := h1
    cases e1
    subst e2
    exact .cons _ _ (paired_ints r h2)
theorem ints_filter (f : Int → Bool) : ∀ {vs : List Value} {ns : List Int}, IntsAre vs ns → IntsAre (vs.filter (fun v => match v with | .int k _ => f k | _ => false)) (ns.filter f)
  | _, _, .nil => .nil
  | _, _, .cons n t r => by
    rw [List.filter_cons, List.filter_cons]
    dsimp only
    split
    · exact .cons _ _ (ints_filter f r)
    · exact ints_filter f r
theorem ints_range : ∀ (n a : Nat) (vs : List Value), vs.length = n → (∀ (j : Nat) v, vs[j]? = some v → ∃ t, v = .int ((a : Int) + (j : Int)) t) → IntsAre vs ((List.range' a n).map fun k : Nat => (k : Int))
  | 0, _, [], _, _ => .nil
  | n + 1, a, v :: vs, hl, h => by
    obtain ⟨t, e⟩ := h 0 v rfl
    subst e
    rw [List.range'_succ, List.map_cons]
    have e0 : (a : Int) + ((0 : Nat) : Int) = a := by omega
    rw [e0]
    refine .cons _ _ (ints_range n (a + 1) vs (by simpa using hl) fun j v hv => ?_)
    obtain ⟨t, e⟩ := h (j + 1) v (by simpa using hv)
    exact ⟨t, by rw [e]; congr 1; omega⟩
/-- what the comprehension of _law_cut gives -/
theorem behind_ints {r : List Int} {c : Nat} {vs ys : List Value} (hcut : ∀ k : Nat, k < r.length → decide (63 ∉ r.drop k) = decide (c ≤ k)) (hc : c ≤ r.length) (hl : vs.length = r.length)
    (hv : ∀ (j : Nat) v, vs[j]? = some v → j < r.length ∧ ∃ t, v = .int (0 + (j : Int) * 1) t)
    (h : Paired (fun v u => ∃ k t, v = Value.int k t ∧ u = .int k t) (vs.filter (fun v => match v with | .int k _ => decide (63 ∉ r.drop k.toNat) | _ => false)) ys) :
    IntsAre ys ((List.range' c (r.length - c)).map fun k : Nat => (k : Int)) := by
  have h1 := ints_range r.length 0 vs hl fun j v e => by
    obtain ⟨_, t, e⟩ := hv j v e
    exact ⟨t, by rw [e]; congr 1; omega⟩
  have h2 := paired_ints (ints_filter (fun k => decide (63 ∉ r.drop k.toNat)) h1) h
  refine ints_eq h2 ?_
  rw [List.filter_map]
  have h3 : (List.range' 0 r.length).filter ((fun k => decide (63 ∉ r.drop k.toNat)) ∘ fun k : Nat => (k : Int)) = (List.range' 0 r.length).filter (fun k => decide (c ≤ k)) := by
    refine List.filter_congr fun k hk => ?_
    have := (List.mem_range'_1.mp hk).2
    show decide (63 ∉ r.drop ((k : Int)).toNat) = _
    rw [Int.toNat_natCast]
    exact hcut k (by omega)
  rw [h3, filter_cut c r.length 0 (by omega)]
  have e1 : max 0 c = c := by omega
  have e2 : 0 + r.length - c = r.length - c := by omega
  rw [e1, e2]
theorem news_add {g h : Heap} {L : Addr} {a : Addr} {o : Obj} {news : List (Addr × Obj)} (x : News g L h [(a, o)]) (N : News g L h news) : News g L h ((a, o) :: news) := fun p hp =>
  (List.mem_cons.mp hp).elim (fun e => e ▸ x _ (List.mem_cons_self)) (N p)
theorem news_sub {g h : Heap} {L : Addr} {news sub : List (Addr × Obj)} (N : News g L h news) (hs : ∀ p ∈ sub, p ∈ news) : News g L h sub := fun p hp => N p (hs p hp)
theorem pair_reads {h : Heap} {a : Addr} {u v : Int} {t1 t2 : Tok} {n : Nat} (e : h.get? a = some { cls := .type "tuple", data := .seq #[.int u t1, .int v t2] n }) : ∃ as, Reads h (.ref a) (.tuple [.int u, .int v]) as :=
  ⟨_, .tuple e rfl rfl (.cons (.int _ _) (.cons (.int _ _) .nil))⟩
theorem pair_shaped (u v : Int) : SeqAt.shaped (.tuple [.int u, .int v]) = true := rfl
theorem eq_pairs {prog : Program} {w : World} {A : Around} {E : Value → Shared → Prop} {s : Shared} {a b : Addr} {u v : Int} {t1 t2 t3 t4 : Tok} {n k : Nat} {Q : Value → Shared → Prop} (ea : s.heap.get? a = some { cls := .type "tuple", data := .seq #[.int u t1, .int v t2] n })
    (eb : s.heap.get? b = some { cls := .type "tuple", data := .seq #[.int u t3, .int v t4] k }) (hu : A.units + 64 < cLine) (h : Q (.bool true) s) : wpAny (model prog w) A (compareOp .Eq (.ref a) (.ref b)) Q E s := by
  obtain ⟨as, ra⟩ := pair_reads ea
  obtain ⟨bs, rb⟩ := pair_reads eb
  refine eq_dataH ra rb (pair_shaped u v) (pair_shaped u v) hu ?_
  rw [PySem.SeqAt.eqv_refl _ (SeqAt.canLay_of_shaped (pair_shaped u v))]
  exact h
theorem idiv_ok (j : Nat) (h1 : 1 ≤ j) (h2 : j ≤ 8) (x : Nat) (hx : x ≤ 48) : ∃ nn k : Nat, Builtin.Int.intBits ((64 : Int) ^ j) = nn ∧ (0 < nn ∧ nn ≤ 64) ∧ ((x : Int) + nn - 1).fdiv nn = k ∧ k ≤ 32 := by
  have key : ∀ nn : Nat, 7 ≤ nn → nn ≤ 64 → Builtin.Int.intBits ((64 : Int) ^ j) = nn → ∃ nn k : Nat, Builtin.Int.intBits ((64 : Int) ^ j) = nn ∧ (0 < nn ∧ nn ≤ 64) ∧ ((x : Int) + nn - 1).fdiv nn = k ∧ k ≤ 32 := by
    intro nn h7 h64 e
    have e1 : (x : Int) + nn - 1 = ((x + nn - 1 : Nat) : Int) := by omega
    refine ⟨nn, (x + nn - 1) / nn, e, ⟨by omega, h64⟩, ?_, ?_⟩
    · rw [Int.fdiv_eq_ediv_of_nonneg _ (by omega), e1, Int.natCast_ediv]
    · have h3 : (x + nn - 1) / nn ≤ 32 := by
        refine Nat.le_of_lt_succ (Nat.div_lt_of_lt_mul ?_)
        have : 7 * 33 ≤ nn * 33 := Nat.mul_le_mul_right 33 h7
        show x + nn - 1 < nn * 33
        omega
      exact h3
  rcases (by omega : j = 1 ∨ j = 2 ∨ j = 3 ∨ j = 4 ∨ j = 5 ∨ j = 6 ∨ j = 7 ∨ j = 8) with rfl | rfl | rfl | rfl | rfl | rfl | rfl | rfl
  · exact key 7 (by decide) (by decide) (by decide +kernel)
  · exact key 13 (by decide) (by decide) (by decide +kernel)
  · exact key 19 (by decide) (by decide) (by decide +kernel)
  · exact key 25 (by decide) (by decide) (by decide +kernel)
  · exact key 31 (by decide) (by decide) (by decide +kernel)
  · exact key 37 (by decide) (by decide) (by decide +kernel)
  · exact key 43 (by decide) (by decide) (by decide +kernel)
  · exact key 49 (by decide) (by decide) (by decide +kernel)
/-- a tree that may go several ways to the same end -/
theorem same_val {α : Type} {M : Model} {A : Around} {E : Value → Shared → Prop} {tree : Sem α} {Q : α → Shared → Prop} {s : Shared} {g : Heap} {L : Addr} {m : Str → Option Value} {news : List (Addr × Obj)} (F : Fr g L s.heap m) (N : News g L s.heap news) (P : α → Heap → Prop)
    (h1 : wpAny M A tree (fun v s' => Halt (∃ h' tk', s' = { s with heap := h', toks := tk' } ∧ Fr g L h' m ∧ News g L h' news ∧ P v h')) E s)
    (h2 : ∀ v h' tk', P v h' → Fr g L h' m → News g L h' news → Q v { s with heap := h', toks := tk' }) : wpAny M A tree Q E s :=
  wpAny_mono h1 (fun v s' h => by
    obtain ⟨h', tk', e, F', N', p⟩ := h.out
    subst e
    exact h2 v h' tk' p F' N') fun _ _ e => e
theorem get2 (h : Heap) (o o2 : Obj) (hf : o2.isFreed = false) : ((h.push o).push o2).get? (h.objs.size + 1) = some o2 := by
  have := Heap.get?_push_size (h.push o) hf
  rwa [Heap.size_push] at this
theorem sub_halt {prog : Program} {w : World} {A : Around} {E : Value → Shared → Prop} {s : Shared} {env : Env} {value : Expr} {lower upper : Option Expr} {p pos : Pos} {Q : Value → Shared → Prop}
    (h : wpAny (model prog w) A (eval value env) (fun o s₁ => wpAny (model prog w) A (evalPart lower env) (fun vl s₂ => wpAny (model prog w) A (evalPart upper env) (fun vu s₃ => Halt (
      ∃ l items lo hi, o = .ref l ∧ s₃.heap.IsList l items ∧ items.size ≤ sizeLine ∧ IsPart vl lo ∧ IsPart vu hi ∧
        Q (.ref (s₃.heap.objs.size + 1)) { s₃ with heap := (s₃.heap.push { cls := .type "slice", data := .fields #[vl, vu, .none] }).push { cls := .type "list", data := .seq (slicePick items lo hi none) } })) E s₂) E s₁) E s)
    (ht : ∀ o r, letTemporaryGo value o r = pure () := by intro _ _; rfl) :
    wpAny (model prog w) A (eval (.Subscript value (.Slice lower upper none p) pos) env) Q E s :=
  wpAny_Subscript_list_slice (wpAny_mono h (fun _ _ h1 => wpAny_mono h1 (fun _ _ h2 => wpAny_mono h2 (fun _ _ h3 => h3.out) fun _ _ e => e) fun _ _ e => e) fun _ _ e => e) ht
section
local macro_rules | `(tactic| walk_at "exec Assign cons ListComp") => `(tactic| (k_here; refine halt ?_))
local macro_rules | `(tactic| k_room) => `(tactic| ktr_room)
local macro_rules | `(tactic| walk_at "eval Name") => `(tactic| (k_here; (with_reducible show wpAny _ _ (eval (Expr.Name _ _) (compEnvC _ _ _ _)) _ _ _); k_dflt (first | refine wpAny_Name (wpAny_loadName_local rfl rfl (by assumption) (by assumption) ?_) (by decide) | refine wpAny_Name (wpAny_loadName_cell rfl rfl rfl ⟨_, by assumption, by assumption⟩ ?_ (by decide)) (by decide))))
local macro_rules | `(tactic| walk_at "eval Subscript") => `(tactic| (k_here; (with_reducible show wpAny _ _ (eval (Expr.Subscript _ (Expr.Slice _ _ _ _) _) (compEnvC _ _ _ _)) _ _ _); k_dflt (refine sub_halt ?_)))
local macro_rules | `(tactic| walk_at "newList") => `(tactic| (k_here; k_dflt (refine' newList_K ?k1 ?k2 ?_ (Nat.le_of_ble_eq_true rfl); (case k1 => k_asm); (case k2 => k_asm); k_whole); intro l' h' F' N' l1; (try k_lt l1); (try k_sweep)))
local macro_rules | `(tactic| walk_at "eval IfExp") => `(tactic| (k_here; refine halt ?_))
local macro_rules | `(tactic| walk_at "compareOp NotEq ref ref") => `(tactic| (k_here; refine halt ?_))
local macro_rules | `(tactic| walk_at "compareOp Eq ref ref") => `(tactic| (k_here; refine halt ?_))
local macro_rules | `(tactic| walk_at "subscriptTail Name Slice ref ref") => `(tactic| (k_here; (with_reducible show wpAny _ _ (subscriptTail _ (PySem.Expr.Slice _ _ none _) (Value.ref _) (Value.ref _)) _ _ _); k_dflt (refine' kmk_slice_ints ?F ?N ?l ?p ?q ?i ?m rfl ?_ ?s ?t ?z; (case F => k_asm); (case N => k_asm); (case l => exact isl_keep (by assumption) (Fr.keep (by k_asm))); (case i => assumption); (case p => first | exact IsPart.none | exact IsPart.int _ _); (case q => first | exact IsPart.none | exact IsPart.int _ _); (case m => first | exact slice_ints_uptoW (by assumption) (Int.natCast_nonneg _) | exact slice_ints_fromW (by assumption) (Int.natCast_nonneg _)); (case s => with_unfolding_all rfl); (case t => kmk_pure); (case z => assumption)); intro D' ws' h' F' N' l1 hI' hC' hL'; (try simp only [Int.toNat_natCast] at hI'); (try k_lt l1); (try k_sweep)))
local macro_rules | `(tactic| walk_at "call ref") => `(tactic| (k_here; (with_reducible show wpAny _ _ (call (Value.ref _) _) _ _ _); refine halt ?_))
theorem spec_cut (w : World) (a : Addr) (vs : List Value) (r : List Int) (x : Str) (t : Tok) (hI : IntsAre vs r) (h1 : Row r) (hok : ∀ c ∈ cp x, OkSign c) (hr : (cp x).map plc = r) (c1 c2 : Addr) :
    Spec w 230 [.ref a, .str x t] (fun h => h.IsList a vs.toArray ∧ W44 c1 h ∧ W37 c2 h) (fun h h' v => v = .bool true) 200 2000 := by
  have hx : x.length ≤ 8 := by
    have e := congrArg List.length hr
    rw [List.length_map] at e
    rw [cp_len, e]
    rcases h1.1 with h | h <;> omega
  have kf9 : hd.heap_39 = hd.heap_39 ∧ PySem.Challenge.rw_ik0056_01 = PySem.Challenge.rw_ik0056_01 := by (k_fill; exact ⟨rfl, rfl⟩)
  clear kf9
  refine' spec_enterC ?ho ?hcd ?hd1 ?hb ?hkind ?hnd ?hco ?hgen ?hk ?_
  case ho => k_dflt k_is
  case hcd => k_dflt k_is
  case hd1 => decide
  case hb => (intro s hX; first | exact BindsTo.of_eq rfl | exact binds_K hX rfl (by k_dflt k_is) rfl rfl rfl)
  case hkind => exact rfl
  case hnd => decide +kernel
  case hco => exact rfl
  case hgen => exact rfl
  case hk => exact rfl
  unfold P lo
  intro mean mg mb dp un gd outer base g s h₁ L tk cells Q E hg B X T hp hdp hun F N Y hret
  k_cells Y
  (try dsimp only at F N)
  obtain ⟨hl1, hw1, hw2⟩ := hp
  have p1 := h1.pl
  have l1 := h1.le32
  repeat' (first | (k_unfold; (try dsimp only)) | walk1 | (dsimp only; walk1))
  refine Halt.mk ?_
  refine' use_spec (spec_number _ _ _ _ ?d1 ?d2 ?d3 _) ?uB ?uF ?uN ?uX ?uT ?uA ?uf ?uk ?up ?ud ?uu ?_
  case uB => k_asm
  case uF => k_asm
  case uN => k_asm
  case uX => k_asm
  case uT => k_asm
  case uA => exact rfl
  case uf => exact rfl
  case uk => exact rfl
  case up => exact ⟨isl_keep (by assumption) (Fr.keep (by k_asm)), warm_keep (by assumption) (Fr.keep (by k_asm))⟩
  case d1 => assumption
  case d2 => assumption
  case d3 => assumption
  case ud => (first | (refine' room_ok ?rh ?re; (case rh => assumption); (case re => exact rfl)) | (refine' room_ok0 ?rh ?re; (case rh => assumption); (case re => exact rfl)) | ktr_room)
  case uu => (first | (refine' room_ok ?rh ?re; (case rh => assumption); (case re => exact rfl)) | (refine' room_ok0 ?rh ?re; (case rh => assumption); (case re => exact rfl)) | ktr_units)
  intro r9 h9 tk9 k9 F9 N9 e9
  obtain ⟨t9, e9⟩ := e9
  subst e9
  repeat' (first | (k_unfold; (try dsimp only)) | walk1 | (dsimp only; walk1))
  refine Halt.mk ?_
  rename Fr _ _ _ _ => F1
  rename News _ _ _ _ => N1
  refine' use_spec (spec_split w x _ hx) B F1 N1 X T rfl rfl rfl ?up ?ud ?uu ?_
  case up => trivial
  case ud => (first | (refine' room_ok ?rh ?re; (case rh => assumption); (case re => exact rfl)) | (refine' room_ok0 ?rh ?re; (case rh => assumption); (case re => exact rfl)) | ktr_room)
  case uu => (first | (refine' room_ok ?rh ?re; (case rh => assumption); (case re => exact rfl)) | (refine' room_ok0 ?rh ?re; (case rh => assumption); (case re => exact rfl)) | ktr_units)
  intro r9 h9 tk9 k9 F9 N9 e9
  obtain ⟨aH, tH1, tH2, e8, gH, iH⟩ := e9
  subst e8
  have N8 := news_cons F1 N9 gH iH
  clear N9
  repeat' (first | (k_unfold; (try dsimp only)) | walk1 | (dsimp only; walk1))
  refine Halt.mk ?_
  rename Fr _ _ _ _ => F2
  rename News _ _ _ _ => N2
  refine wpAny_Assign_ListComp_free (fun v => match v with | .int k _ => decide (63 ∉ r.drop k.toNat) | _ => false) (fun v u => ∃ k t, v = .int k t ∧ u = .int k t) (by with_unfolding_all rfl) (by with_unfolding_all rfl) (by decide) (by rfl) (by decide) (by rfl) (by rfl) (by rfl) ?_
  walk1
  repeat' (first | (k_unfold; (try dsimp only)) | walk1 | (dsimp only; walk1))
  have hvl : vs.length = r.length := hI.length
  rename IsRange _ _ _ _ _ _ _ _ => R2
  rename Fr _ _ _ _ => F3
  rename News _ _ _ _ => N3
  refine wpAny_pyIter_range R2 (small_one (by omega) (by omega) (by omega) (by omega)) ?_
  rw [rangeSize_nat]
  refine ⟨_, [_], [_], r.length, _, _, _, rfl, (Walks.range rfl _ 0 1 r.length).bound, ?_, ?_, ?_, ?_, (F3.push _).ns, ⟨?_, ?_⟩, ?_⟩
  · rw [sizeLine_eq]; omega
  · show (Heap.push _ _).get? _ = some _
    rw [Heap.get?_push_size _ rfl]
    congr 3
  · intro b hb
    rw [List.mem_singleton.mp hb]
    show _ < (Heap.push _ _).objs.size
    rw [Heap.size_push]; exact Nat.lt_succ_self _
  · intro hm
    exact absurd F3.ns.lt ((List.mem_singleton.mp hm) ▸ Nat.lt_irrefl _)
  · intro C i v s₃ m₃ E' hC hP hn hm hk ht
    obtain ⟨hi, t3, rfl⟩ := hP
    have keep3 : ∀ b o, Heap.get? _ b = some o → s₃.heap.get? b = some o := fun b o e => hk b o (by rw [List.mem_singleton]; exact Nat.ne_of_lt (Heap.lt_size e)) (Heap.get?_push_of_some _ e)
    have hpl : ∃ o, s₃.heap.get? (L + 1) = some o ∧ o.data = .cell (some (.ref a)) := ⟨_, keep3 _ _ (N3.get (by k_mem)), by assumption⟩
    have hl3 : s₃.heap.IsList a vs.toArray := isl_keep hl1 (fun b o e => keep3 b o (F3.keep b o e))
    refine wpAny_mono (Q := fun ok s₄ => Halt (ok = decide (63 ∉ r.drop (0 + (i : Int) * 1).toNat) ∧ Keeps s₃ s₄)) ?_ (fun _ _ h => h.out) fun _ _ e => e
    refine wpAny_tests_one ?_
    obtain ⟨oP, hpo, hpd⟩ := hpl
    repeat' (first | (k_unfold; (try dsimp only)) | walk1 | (dsimp only; walk1))
    refine Halt.mk ⟨_, _, _, _, rfl, hl3, ?_, .int _ _, .none, ?_⟩
    · rw [sizeLine_eq, List.size_toArray]; omega
    repeat' (first | (k_unfold; (try dsimp only)) | walk1 | (dsimp only; walk1))
    have i0 : (0 : Int) ≤ 0 + (i : Int) * 1 := by omega
    refine notIn_drop hI i0 ⟨_, get2 _ _ _ rfl, rfl, _, rfl⟩ ?_
    repeat' (first | (k_unfold; (try dsimp only)) | walk1 | (dsimp only; walk1))
    refine Halt.mk ⟨rfl, _, _, rfl, fun b o e => Heap.get?_push_of_some _ (Heap.get?_push_of_some _ e)⟩
  · intro C i v s₃ m₃ E' hC hP _ hn hm hk ht
    obtain ⟨hi, t3, rfl⟩ := hP
    refine wpAny_mono (Q := fun y s₄ => Halt ((∃ k t, Value.int (0 + (i : Int) * 1) t3 = .int k t ∧ y = .int k t) ∧ Keeps s₃ s₄)) ?_ (fun _ _ h => h.out) fun _ _ e => e
    repeat' (first | (k_unfold; (try dsimp only)) | walk1 | (dsimp only; walk1))
    exact Halt.mk ⟨⟨_, _, rfl, rfl⟩, _, _, rfl, fun _ _ e => e⟩
  · intro D h' tk' ys vs' hnew hlD hplD hlen hP hF hn' hk
    obtain ⟨c, hc, hcut, hT, hH, okT, okH, lT, lH⟩ := text_cut x r hok hr
    obtain ⟨F9, nD, N9⟩ := after_comp F3 N3 hn' hnew hplD hk
    have hB := behind_ints hcut hc hlen hP hF
    clear F3 N3
    generalize ys.toList = yl at N9 hB
    clear hP hF hplD hlD
    have uu : un + 2000 < cLine := hun
    have hz9 : vs.toArray.size ≤ sizeLine := by rw [sizeLine_eq, List.size_toArray, hvl]; exact Nat.le_trans h1.le32 (by decide)
    repeat' (first | (k_unfold; (try dsimp only)) | walk1 | (dsimp only; walk1))
    refine Halt.mk ?_
    rename Fr _ _ _ _ => F1
    rename News _ _ _ _ => N1
    refine same_val F1 N1 (fun v _ => ∃ t, v = .int (c : Int) t) ?_ ?_
    · refine wpAny_IfExp ?_
      repeat' (first | (k_unfold; (try dsimp only)) | walk1 | (dsimp only; walk1))
      refine Halt.mk ?_
      rename Fr _ _ _ _ => F2
      rename News _ _ _ _ => N2
      refine ne_ints (N2.get (by k_mem)) (N2.get (by k_mem)) hB .nil (by (first | (refine' room_ok ?rh ?re; (case rh => assumption); (case re => exact rfl)) | (refine' room_ok0 ?rh ?re; (case rh => assumption); (case re => exact rfl)) | ke_room)) ?_
      rcases Nat.lt_or_ge c r.length with hlt | hge
      · have e1 : r.length - c = (r.length - c - 1) + 1 := by omega
        rw [e1, List.range'_succ, List.map_cons] at hB ⊢
        rw [decide_eq_true (fun e => by cases e)]
        repeat' (first | (k_unfold; (try dsimp only)) | walk1 | (dsimp only; walk1))
        rename Fr _ _ _ _ => F4
        rename News _ _ _ _ => N4
        exact Halt.mk ⟨_, _, rfl, F4, fun p hp => N4 p (List.Mem.tail _ hp), _, rfl⟩
      · have e1 : r.length - c = 0 := by omega
        rw [e1, decide_eq_false (fun e => e rfl)]
        repeat' (first | (k_unfold; (try dsimp only)) | walk1 | (dsimp only; walk1))
        rename Fr _ _ _ _ => F4
        rename News _ _ _ _ => N4
        have e2 : (r.length : Int) = (c : Int) := by omega
        exact Halt.mk ⟨_, _, rfl, F4, fun p hp => N4 p (List.Mem.tail _ hp), _, congrArg (Value.int · _) e2⟩
    · rintro v h5 tk5 ⟨t5, rfl⟩ F5 N5
      clear F1 N1
      repeat' (first | (k_unfold; (try dsimp only)) | walk1 | (dsimp only; walk1))
      refine Halt.mk ?_
      rename Fr _ _ _ _ => F1
      rename News _ _ _ _ => N1
      refine' use_spec (spec_bare w _ _ (r.take c) (by assumption) (by rw [List.length_take]; omega) _ _) B F1 N1 X T rfl rfl rfl ⟨_, N1.get List.mem_cons_self, rfl, _, rfl⟩ ?udB ?uuB ?_
      case udB => (first | (refine' room_ok ?rh ?re; (case rh => assumption); (case re => exact rfl)) | (refine' room_ok0 ?rh ?re; (case rh => assumption); (case re => exact rfl)) | ktr_room)
      case uuB => (first | (refine' room_ok ?rh ?re; (case rh => assumption); (case re => exact rfl)) | (refine' room_ok0 ?rh ?re; (case rh => assumption); (case re => exact rfl)) | ktr_units)
      intro r9 h9 tk9 k9 F9 N9 e9
      obtain ⟨a9, vs9, n9, e8, g9, i9, I9⟩ := e9
      subst e8
      have N8 := news_cons F1 N9 g9 i9
      clear N9
      repeat' (first | (k_unfold; (try dsimp only)) | walk1 | (dsimp only; walk1))
      refine Halt.mk ?_
      rename Fr _ _ _ _ => F1
      rename News _ _ _ _ => N1
      refine' use_spec (spec_signs w (headOf x) _ (Nat.le_trans lH (Nat.le_trans l1 (by decide))) okH) B F1 N1 X T rfl rfl rfl trivial ?udS ?uuS ?_
      case udS => (first | (refine' room_ok ?rh ?re; (case rh => assumption); (case re => exact rfl)) | (refine' room_ok0 ?rh ?re; (case rh => assumption); (case re => exact rfl)) | ktr_room)
      case uuS => (first | (refine' room_ok ?rh ?re; (case rh => assumption); (case re => exact rfl)) | (refine' room_ok0 ?rh ?re; (case rh => assumption); (case re => exact rfl)) | ktr_units)
      intro r9 h9 tk9 k9 F9 N9 e9
      obtain ⟨aS1, vs9, n9, e8, g9, i9, IS1⟩ := e9
      subst e8
      have N8 := news_cons F1 N9 g9 i9
      clear N9
      repeat' (first | (k_unfold; (try dsimp only)) | walk1 | (dsimp only; walk1))
      refine Halt.mk ?_
      rename Fr _ _ _ _ => F1
      rename News _ _ _ _ => N1
      refine' use_spec (spec_signs w (cutTail x) _ (Nat.le_trans lT (Nat.le_trans l1 (by decide))) okT) B F1 N1 X T rfl rfl rfl trivial ?udU ?uuU ?_
      case udU => (first | (refine' room_ok ?rh ?re; (case rh => assumption); (case re => exact rfl)) | (refine' room_ok0 ?rh ?re; (case rh => assumption); (case re => exact rfl)) | ktr_room)
      case uuU => (first | (refine' room_ok ?rh ?re; (case rh => assumption); (case re => exact rfl)) | (refine' room_ok0 ?rh ?re; (case rh => assumption); (case re => exact rfl)) | ktr_units)
      intro r9 h9 tk9 k9 F9 N9 e9
      obtain ⟨aS2, vs9, n9, e8, g9, i9, IS2⟩ := e9
      subst e8
      have N8 := news_cons F1 N9 g9 i9
      clear N9
      repeat' (first | (k_unfold; (try dsimp only)) | walk1 | (dsimp only; walk1))
      refine Halt.mk ?_
      rename Fr _ _ _ _ => F1
      rename News _ _ _ _ => N1
      refine same_val F1 N1 (fun v h' => ∃ D ws n, v = .ref D ∧ News g L h' [(D, listObj ws n)] ∧ IntsAre ws (headR (r.take c))) ?_ ?_
      · refine wpAny_IfExp ?_
        repeat' (first | (k_unfold; (try dsimp only)) | walk1 | (dsimp only; walk1))
        refine Halt.mk ?_
        rename Fr _ _ _ _ => F2
        rename News _ _ _ _ => N2
        refine ne_ints (N2.get (by k_mem)) (N2.get (by k_mem)) (by assumption) .nil (by (first | (refine' room_ok ?rh ?re; (case rh => assumption); (case re => exact rfl)) | (refine' room_ok0 ?rh ?re; (case rh => assumption); (case re => exact rfl)) | ke_room)) ?_
        by_cases hb : bareL 63 (r.take c) = []
        · rw [hb]
          have d0 : decide (([] : List Int) ≠ []) = false := rfl
          rw [d0]
          repeat' (first | (k_unfold; (try dsimp only)) | walk1 | (dsimp only; walk1))
          rename Fr _ _ _ _ => F4
          rename News _ _ _ _ => N4
          exact Halt.mk ⟨_, _, rfl, F4, fun p hp => N4 p (List.Mem.tail _ (List.Mem.tail _ hp)), _, _, _, rfl, news_sub N4 (fun p hp => List.mem_singleton.mp hp ▸ List.mem_cons_self), ints_eq (by assumption) (by unfold headR; rw [if_pos hb])⟩
        · rw [decide_eq_true hb]
          repeat' (first | (k_unfold; (try dsimp only)) | walk1 | (dsimp only; walk1))
          rename Fr _ _ _ _ => F4
          rename News _ _ _ _ => N4
          refine Halt.mk ⟨_, _, rfl, F4, fun p hp => N4 p (List.Mem.tail _ hp), _, _, _, rfl, news_sub N4 (fun p hp => List.mem_singleton.mp hp ▸ ?_), ints_eq (by assumption) (by unfold headR; rw [if_neg hb])⟩
          k_mem
      · rintro v h5 tk5 ⟨D5, ws5, n5, rfl, N6, I5⟩ F5 N5
        have N7 := news_add N6 N5
        clear F1 N1 N5 N6
        repeat' (first | (k_unfold; (try dsimp only)) | walk1 | (dsimp only; walk1))
        refine Halt.mk ?_
        rename Fr _ _ _ _ => F1
        rename News _ _ _ _ => N1
        refine' ne_rows (rs := [headR (r.take c), r.drop c]) (N1.get ?ea) (N1.get ?eb) ?ra ?rb (by (first | (refine' room_ok ?rh ?re; (case rh => assumption); (case re => exact rfl)) | (refine' room_ok0 ?rh ?re; (case rh => assumption); (case re => exact rfl)) | ke_room)) ?_
        case ea => k_mem
        case eb => k_mem
        case ra =>
          refine' ⟨⟨_, _, _, rfl, N1.get ?ec, ints_eq IS1 hH⟩, ⟨_, _, _, rfl, N1.get ?ed, ints_eq IS2 hT⟩, trivial⟩
          case ec => k_mem
          case ed => k_mem
        case rb =>
          refine' ⟨⟨_, _, _, rfl, N1.get ?ee, I5⟩, ⟨_, _, _, rfl, N1.get ?ef, by assumption⟩, trivial⟩
          case ee => k_mem
          case ef => k_mem
        repeat' (first | (k_unfold; (try dsimp only)) | walk1 | (dsimp only; walk1))
        · exact hret _ _ _ (Fr.keep (by assumption)) (congrArg Value.bool (beq_iff_eq.mpr (by assumption)))
        · have hce : ¬ (c : Int) = (r.length : Int) := by assumption
          have hclt : c < r.length := by
            rcases Nat.lt_or_ge c r.length with h | h
            · exact h
            · exact absurd (congrArg Nat.cast (Nat.le_antisymm hc h)) hce
          have ej : ((r.length : Int) - (c : Int)).toNat = r.length - c := by omega
          have hnum := h1.num
          have hl8 : r.length ≤ 8 := by rcases h1.1 with h | h <;> omega
          obtain ⟨nn, k, hnb, hnn, hk, hk32⟩ := idiv_ok (r.length - c) (by omega) (by omega) _ (bits48 hnum.1 hnum.2)
          have hdm := num_div p1 c
          rw [ej]
          refine Halt.mk ?_
          rename Fr _ _ _ _ => F1
          rename News _ _ _ _ => N1
          refine' use_spec (spec_idiv w (num r) (64 ^ (r.length - c)) _ _ hnum.1 (Int.pow_pos (by decide)) nn hnb hnn k hk hk32 c1 c2) B F1 N1 X T rfl rfl rfl ⟨warm_keep hw1 (Fr.keep F1), warm_keep hw2 (Fr.keep F1)⟩ ?udV ?uuV ?_
          case udV => (first | (refine' room_ok ?rh ?re; (case rh => assumption); (case re => exact rfl)) | (refine' room_ok0 ?rh ?re; (case rh => assumption); (case re => exact rfl)) | ktr_room)
          case uuV => (first | (refine' room_ok ?rh ?re; (case rh => assumption); (case re => exact rfl)) | (refine' room_ok0 ?rh ?re; (case rh => assumption); (case re => exact rfl)) | ktr_units)
          intro r9 h9 tk9 k9 F9 N9 e9
          obtain ⟨a9, t91, t92, e8, g9, i9⟩ := e9
          subst e8
          rw [hdm.1, hdm.2] at i9
          have N8 := news_cons F1 N9 g9 i9
          clear N9
          repeat' (first | (k_unfold; (try dsimp only)) | walk1 | (dsimp only; walk1))
          refine Halt.mk ?_
          rename Fr _ _ _ _ => F1
          rename News _ _ _ _ => N1
          refine' use_spec (spec_number w _ _ (r.take c) (by assumption) (by rw [List.length_take]; exact Nat.le_trans (Nat.min_le_right _ _) l1) (fun d hd => p1 d (List.mem_of_mem_take hd)) c1) B F1 N1 X T rfl rfl rfl ⟨⟨_, N1.get List.mem_cons_self, rfl, _, rfl⟩, warm_keep hw1 (Fr.keep F1)⟩ ?udW ?uuW ?_
          case udW => (first | (refine' room_ok ?rh ?re; (case rh => assumption); (case re => exact rfl)) | (refine' room_ok0 ?rh ?re; (case rh => assumption); (case re => exact rfl)) | ktr_room)
          case uuW => (first | (refine' room_ok ?rh ?re; (case rh => assumption); (case re => exact rfl)) | (refine' room_ok0 ?rh ?re; (case rh => assumption); (case re => exact rfl)) | ktr_units)
          intro r9 h9 tk9 k9 F9 N9 e9
          obtain ⟨t9, e9⟩ := e9
          subst e9
          repeat' (first | (k_unfold; (try dsimp only)) | walk1 | (dsimp only; walk1))
          refine Halt.mk ?_
          rename Fr _ _ _ _ => F1
          rename News _ _ _ _ => N1
          refine' use_spec (spec_number w _ _ (r.drop c) (by assumption) (by rw [List.length_drop]; exact Nat.le_trans (Nat.sub_le _ _) l1) (fun d hd => p1 d (List.mem_of_mem_drop hd)) c1) B F1 N1 X T rfl rfl rfl ⟨⟨_, N1.get List.mem_cons_self, rfl, _, rfl⟩, warm_keep hw1 (Fr.keep F1)⟩ ?udZ ?uuZ ?_
          case udZ => (first | (refine' room_ok ?rh ?re; (case rh => assumption); (case re => exact rfl)) | (refine' room_ok0 ?rh ?re; (case rh => assumption); (case re => exact rfl)) | ktr_room)
          case uuZ => (first | (refine' room_ok ?rh ?re; (case rh => assumption); (case re => exact rfl)) | (refine' room_ok0 ?rh ?re; (case rh => assumption); (case re => exact rfl)) | ktr_units)
          intro r9 h9 tk9 k9 F9 N9 e9
          obtain ⟨t9, e9⟩ := e9
          subst e9
          repeat' (first | (k_unfold; (try dsimp only)) | walk1 | (dsimp only; walk1))
          refine Halt.mk ?_
          rename Fr _ _ _ _ => F1
          rename News _ _ _ _ => N1
          refine' eq_pairs (N1.get ?ey) (N1.get ?ez) (by (first | (refine' room_ok ?rh ?re; (case rh => assumption); (case re => exact rfl)) | (refine' room_ok0 ?rh ?re; (case rh => assumption); (case re => exact rfl)) | ke_room)) ?_
          case ey => k_mem
          case ez => k_mem
          repeat' (first | (k_unfold; (try dsimp only)) | walk1 | (dsimp only; walk1))
          exact hret _ _ _ (Fr.keep (by assumption)) rfl
end
end Mine

end
section
open PySem PySem.W PyProof.Rows PySem.Spec PySem.Calls
namespace Mine
/-- these values are lists of ints, standing in this part of the ledger -/
def RowsIn (T : List (Addr × Obj)) : List Value → List (List Int) → Prop
  | [], [] => True
  | y :: ys, r :: rs => (∃ a vs n, y = .ref a ∧ (a, listObj vs n) ∈ T ∧ IntsAre vs r) ∧ RowsIn T ys rs
  | _, _ => False
theorem RowsIn.mono {T T' : List (Addr × Obj)} (k : ∀ p ∈ T, p ∈ T') : ∀ {ys : List Value} {rs : List (List Int)}, RowsIn T ys rs → RowsIn T' ys rs
  | [], [], _ => trivial
  | _ :: _, _ :: _, ⟨⟨a, vs, n, e, g, i⟩, p⟩ => ⟨⟨a, vs, n, e, k _ g, i⟩, RowsIn.mono k p⟩
  | [], _ :: _, p => p.elim
  | _ :: _, [], p => p.elim
theorem RowsIn.here {T news : List (Addr × Obj)} {g h : Heap} {L : Addr} (N : News g L h news) (k : ∀ p ∈ T, p ∈ news) : ∀ {ys : List Value} {rs : List (List Int)}, RowsIn T ys rs → RowsAt h ys rs
  | [], [], _ => trivial
  | _ :: _, _ :: _, ⟨⟨a, vs, n, e, g, i⟩, p⟩ => ⟨⟨a, vs, n, e, (N _ (k _ g)).1, i⟩, RowsIn.here N k p⟩
  | [], _ :: _, p => p.elim
  | _ :: _, [], p => p.elim
theorem RowsIn.snoc {T : List (Addr × Obj)} {a : Addr} {us : List Value} {n : Nat} {r : List Int} (g : (a, listObj us n) ∈ T) (i : IntsAre us r) : ∀ {ys : List Value} {rs : List (List Int)}, RowsIn T ys rs → RowsIn T (ys ++ [.ref a]) (rs ++ [r])
  | [], [], _ => ⟨⟨a, us, n, rfl, g, i⟩, trivial⟩
  | _ :: _, _ :: _, ⟨q, p⟩ => ⟨q, RowsIn.snoc g i p⟩
  | [], _ :: _, p => p.elim
  | _ :: _, [], p => p.elim
theorem RowsIn.length {T : List (Addr × Obj)} : ∀ {ys : List Value} {rs : List (List Int)}, RowsIn T ys rs → ys.length = rs.length
  | [], [], _ => rfl
  | _ :: _, _ :: _, ⟨_, p⟩ => congrArg (· + 1) (RowsIn.length p)
  | [], _ :: _, p => p.elim
  | _ :: _, [], p => p.elim
theorem RowsIn.at {T : List (Addr × Obj)} : ∀ {ys : List Value} {rs : List (List Int)} (i : Nat) {v : Value}, RowsIn T ys rs → ys[i]? = some v → ∃ a vs n r, v = .ref a ∧ rs[i]? = some r ∧ (a, listObj vs n) ∈ T ∧ IntsAre vs r
  | y :: ys, r :: rs, 0, v, ⟨⟨a, vs, n, e, g, i⟩, p⟩, hv => by
    simp at hv
    subst hv
    exact ⟨a, vs, n, r, e, rfl, g, i⟩
  | y :: ys, r :: rs, i + 1, v, ⟨_, p⟩, hv => by
    obtain ⟨a, vs, n, r', e, h1, g, i'⟩ := RowsIn.at i p (by simpa using hv)
    exact ⟨a, vs, n, r', e, by simpa using h1, g, i'⟩
  | [], [], _, _, _, hv => by simp at hv
  | [], _ :: _, _, _, p, _ => p.elim
  | _ :: _, [], _, _, p, _ => p.elim
/-- all that lies here is a list -/
def Lists (T : List (Addr × Obj)) : Prop := ∀ p ∈ T, ∃ vs n, p.2 = listObj vs n
theorem Lists.cons {T : List (Addr × Obj)} {a : Addr} {vs : List Value} {n : Nat} (h : Lists T) : Lists ((a, listObj vs n) :: T) := fun p hp => by
  rcases List.mem_cons.mp hp with rfl | hp
  · exact ⟨_, _, rfl⟩
  · exact h p hp
theorem Lists.app {T T' : List (Addr × Obj)} (h : Lists T) (h' : Lists T') : Lists (T ++ T') := fun p hp => (List.mem_append.mp hp).elim (h p) (h' p)
theorem Lists.nil : Lists [] := fun _ h => nomatch h
/-- the end of a turn whose call keeps the heap -/
def TurnKept (s : Shared) (h : Heap) (R : Value → Heap → Prop) (y : Value) (s₂ : Shared) : Prop := Halt (∃ h' tk', s₂ = { s with heap := h', toks := tk' } ∧ Kept h h' ∧ R y h')
section
variable {prog : Program} {w : World} {A : Around} {h₀ : Heap} {L : Addr} {m : Str → Option Value} {env : Env} {elt : Expr} {x : Str} {scope : Scope} {cl : List (Str × Addr)} {s : Shared} {S : List (Addr × Obj) → Prop} {P : Nat → Value → Prop} {Fin : List Value → List (Addr × Obj) → Prop} {news : List (Addr × Obj)}
/-- a comprehension whose element makes a list of ints -/
theorem comp_rows {n : Nat} (Pr : Nat → List Int → Prop) (hS : ∀ made, S (made ++ news))
    (turn : ∀ i v I oI C oC D m₂ ys made h tk (E' : Value → Shared → Prop), i < n → P i v → LCg.NsObj oC m₂ → m₂ x = some v → Fr h₀ L h m → News h₀ L h ((I, oI) :: (C, oC) :: (D, LCg.lst ys) :: (made ++ news)) →
      wpAny (model prog w) A (eval elt (compEnvC scope cl C env)) (TurnKept s h (fun y h' => ∃ r, Pr i r ∧ NewInts r h h' y)) E' { s with heap := h, toks := tk })
    (fin : ∀ ys made rs, rs.length = n → (∀ i r, rs[i]? = some r → Pr i r) → RowsIn made ys rs → Lists made → Fin ys (made ++ news)) :
    ∀ (j i : Nat) (ys : List Value) (made : List (Addr × Obj)) (rs : List (List Int)), i + j = n → rs.length = i → (∀ i r, rs[i]? = some r → Pr i r) → RowsIn made ys rs → Lists made → LCg.CompRest prog w A h₀ L m env elt x scope cl s S P Fin j i ys (made ++ news) := by
  intro j
  induction j with
  | zero =>
    intro i ys made rs hi hl hP hR hM
    exact LCg.CompRest.zero (fin ys made rs (by omega) hP hR hM)
  | succ j ih =>
    intro i ys made rs hi hl hP hR hM
    refine LCg.CompRest.succ ?_
    intro v I oI C oC D m₂ h tk E' hv hC hx F N off ne
    refine wpAny_mono (turn i v I oI C oC D m₂ ys made h tk E' (by omega) hv hC hx F N) (fun y s₂ hq => ?_) fun _ _ e => e
    obtain ⟨h', tk', e, k, r, hr, a, us, un, e1, ha, hg, hI⟩ := hq.out
    subst e1
    have hN : ∀ p ∈ (I, oI) :: (C, oC) :: (D, LCg.lst ys) :: (made ++ news), p.1 ≠ a := news_ne N ha
    refine ⟨h', tk', ((a, listObj us un) :: made) ++ news, e, F.keeps k, ?_, ⟨⟨?_, ?_, ?_⟩, off⟩, hS _, ?_⟩
    · have N1 := news_cons F (N.grown k) ha hg
      intro p hp
      refine N1 p ?_
      rcases List.mem_cons.mp hp with rfl | hp
      · exact List.mem_cons_of_mem _ List.mem_cons_self
      · rcases List.mem_cons.mp hp with rfl | hp
        · exact List.mem_cons_of_mem _ (List.mem_cons_of_mem _ List.mem_cons_self)
        · rcases List.mem_cons.mp hp with rfl | hp
          · exact List.mem_cons_of_mem _ (List.mem_cons_of_mem _ (List.mem_cons_of_mem _ List.mem_cons_self))
          · rcases List.mem_cons.mp hp with rfl | hp
            · exact List.mem_cons_self
            · exact List.mem_cons_of_mem _ (List.mem_cons_of_mem _ (List.mem_cons_of_mem _ (List.mem_cons_of_mem _ hp)))
    · exact fun q => hN _ List.mem_cons_self q.symm
    · exact fun q => hN _ (List.mem_cons_of_mem _ List.mem_cons_self) q.symm
    · exact fun q => hN _ (List.mem_cons_of_mem _ (List.mem_cons_of_mem _ List.mem_cons_self)) q.symm
    · refine ih (i + 1) _ ((a, listObj us un) :: made) (rs ++ [r]) (by omega) (by rw [List.length_append, hl]; rfl) (fun t r' ht => ?_) (RowsIn.snoc List.mem_cons_self hI (hR.mono fun p hp => List.mem_cons_of_mem _ hp)) hM.cons
      rcases Nat.lt_or_ge t rs.length with h1 | h1
      · rw [List.getElem?_append_left h1] at ht
        exact hP t r' ht
      · rw [List.getElem?_append_right h1] at ht
        have e0 : t - rs.length = 0 := by
          rcases Nat.eq_zero_or_pos (t - rs.length) with h | h
          · exact h
          · rw [List.getElem?_eq_none (by simp; omega)] at ht; cases ht
        rw [e0] at ht
        simp at ht
        subst ht
        have : t = i := by omega
        rw [this]; exact hr
/-- a comprehension whose element is a plain value -/
theorem comp_vals {n : Nat} (R : Nat → Value → Prop) (hS : S news)
    (turn : ∀ i v I oI C oC D m₂ ys h tk (E' : Value → Shared → Prop), i < n → P i v → LCg.NsObj oC m₂ → m₂ x = some v → Fr h₀ L h m → News h₀ L h ((I, oI) :: (C, oC) :: (D, LCg.lst ys) :: news) →
      wpAny (model prog w) A (eval elt (compEnvC scope cl C env)) (TurnKept s h (fun y _ => R i y)) E' { s with heap := h, toks := tk })
    (fin : ∀ ys, ys.length = n → (∀ i y, ys[i]? = some y → R i y) → Fin ys news) :
    ∀ (j i : Nat) (ys : List Value), i + j = n → ys.length = i → (∀ i y, ys[i]? = some y → R i y) → LCg.CompRest prog w A h₀ L m env elt x scope cl s S P Fin j i ys news := by
  intro j
  induction j with
  | zero =>
    intro i ys hi hl hP
    exact LCg.CompRest.zero (fin ys (by omega) hP)
  | succ j ih =>
    intro i ys hi hl hP
    refine LCg.CompRest.succ ?_
    intro v I oI C oC D m₂ h tk E' hv hC hx F N off ne
    refine wpAny_mono (turn i v I oI C oC D m₂ ys h tk E' (by omega) hv hC hx F N) (fun y s₂ hq => ?_) fun _ _ e => e
    obtain ⟨h', tk', e, k, hr⟩ := hq.out
    refine ⟨h', tk', news, e, F.keeps k, N.grown k, off, hS, ?_⟩
    refine ih (i + 1) _ (by omega) (by rw [List.length_append, hl]; rfl) (fun t r' ht => ?_)
    rcases Nat.lt_or_ge t ys.length with h1 | h1
    · rw [List.getElem?_append_left h1] at ht
      exact hP t r' ht
    · rw [List.getElem?_append_right h1] at ht
      have e0 : t - ys.length = 0 := by
        rcases Nat.eq_zero_or_pos (t - ys.length) with h | h
        · exact h
        · rw [List.getElem?_eq_none (by simp; omega)] at ht; cases ht
      rw [e0] at ht
      simp at ht
      subst ht
      have : t = i := by omega
      rw [this]; exact hr
end
theorem rows_det {rs rs' : List (List Int)} (hl : rs.length = rs'.length) (h : ∀ (i : Nat) (r : List Int), rs[i]? = some r → rs'[i]? = some r) : rs = rs' := by
  apply List.ext_getElem? 
  intro i
  rcases Nat.lt_or_ge i rs.length with h1 | h1
  · rw [List.getElem?_eq_getElem h1]
    exact (h i _ (List.getElem?_eq_getElem h1)).symm
  · rw [List.getElem?_eq_none h1, List.getElem?_eq_none (by omega)]
theorem vals_ints {ys : List Value} {ns : List Int} (hl : ys.length = ns.length) (h : ∀ (i : Nat) (y : Value), ys[i]? = some y → ∃ k t, ns[i]? = some k ∧ y = Value.int k t) : IntsAre ys ns := by
  induction ns generalizing ys with
  | nil =>
    have : ys = [] := List.eq_nil_of_length_eq_zero hl
    subst this
    exact .nil
  | cons k ns ih =>
    match ys, hl with
    | y :: ys, hl =>
      obtain ⟨k', t, e1, e2⟩ := h 0 y rfl
      simp at e1
      subst e1 e2
      refine .cons _ _ (ih (by simpa using hl) fun i y hy => ?_)
      obtain ⟨k', t, e1, e2⟩ := h (i + 1) y (by simpa using hy)
      exact ⟨k', t, by simpa using e1, e2⟩
end Mine

end
section
open PySem PySem.W PyProof.Rows PySem.Spec PySem.Calls
namespace Mine
theorem bInts_byteArr {ns : List Int} (h : ∀ n ∈ ns, 0 ≤ n ∧ n < 256) : KBw.bInts (byteArr ns) = ns := by
  unfold KBw.bInts byteArr
  rw [List.map_map]
  conv => rhs; rw [← List.map_id ns]
  refine List.map_congr_left fun n hn => ?_
  have := h n hn
  show ((n.toNat.toUInt8.toNat : Nat) : Int) = n
  have e : n.toNat.toUInt8.toNat = n.toNat % 256 := UInt8.toNat_ofNat'
  rw [e]
  omega
theorem by_congr {a b : Int} (h : a = b) : b64By a = b64By b := h ▸ rfl
theorem spec_b64r (w : World) (r : List Int) (h : Row r) (tx : Tok) : Spec w 93 [.bytes (byteArr (octs r)) tx] (fun _ => True) (fun _ _ v => ∃ t, v = .bytes (r.map b64By).toArray t) 20 200 := by
  have p := h.pl
  have hb := bInts_byteArr (octs_bound h)
  have ob := octs_bound h
  rcases row_cases h with ⟨p0, p1, p2, p3, rfl⟩ | ⟨p0, p1, p2, p3, p4, p5, p6, p7, rfl⟩
  · have h0 := p p0 (by simp); have h1 := p p1 (by simp); have h2 := p p2 (by simp); have h3 := p p3 (by simp)
    have z := spec_b64_3 w (byteArr (octs [p0, p1, p2, p3])) _ _ _ hb (ob _ (by simp [octs])) (ob _ (by simp [octs])) (ob _ (by simp [octs])) tx
    have e : [b64By (q4 p0 p1 p2 p3 / 65536 / 4), b64By (q4 p0 p1 p2 p3 / 65536 % 4 * 16 + q4 p0 p1 p2 p3 / 256 % 256 / 16), b64By (q4 p0 p1 p2 p3 / 256 % 256 % 16 * 4 + q4 p0 p1 p2 p3 % 256 / 64), b64By (q4 p0 p1 p2 p3 % 256 % 64)] = [p0, p1, p2, p3].map b64By := by
      unfold q4
      refine congr (congrArg List.cons (by_congr (by omega))) (congr (congrArg List.cons (by_congr (by omega))) (congr (congrArg List.cons (by_congr (by omega))) (congr (congrArg List.cons (by_congr (by omega))) rfl)))
    rw [e] at z
    exact z
  · have h0 := p p0 (by simp); have h1 := p p1 (by simp); have h2 := p p2 (by simp); have h3 := p p3 (by simp)
    have h4 := p p4 (by simp); have h5 := p p5 (by simp); have h6 := p p6 (by simp); have h7 := p p7 (by simp)
    have z := spec_b64_6 w (byteArr (octs [p0, p1, p2, p3, p4, p5, p6, p7])) _ _ _ _ _ _ hb (ob _ (by simp [octs])) (ob _ (by simp [octs])) (ob _ (by simp [octs])) (ob _ (by simp [octs])) (ob _ (by simp [octs])) (ob _ (by simp [octs])) tx
    have e : [b64By (q4 p0 p1 p2 p3 / 65536 / 4), b64By (q4 p0 p1 p2 p3 / 65536 % 4 * 16 + q4 p0 p1 p2 p3 / 256 % 256 / 16), b64By (q4 p0 p1 p2 p3 / 256 % 256 % 16 * 4 + q4 p0 p1 p2 p3 % 256 / 64), b64By (q4 p0 p1 p2 p3 % 256 % 64),
       b64By (q4 p4 p5 p6 p7 / 65536 / 4), b64By (q4 p4 p5 p6 p7 / 65536 % 4 * 16 + q4 p4 p5 p6 p7 / 256 % 256 / 16), b64By (q4 p4 p5 p6 p7 / 256 % 256 % 16 * 4 + q4 p4 p5 p6 p7 % 256 / 64), b64By (q4 p4 p5 p6 p7 % 256 % 64)] = [p0, p1, p2, p3, p4, p5, p6, p7].map b64By := by
      unfold q4
      refine congr (congrArg List.cons (by_congr (by omega))) (congr (congrArg List.cons (by_congr (by omega))) (congr (congrArg List.cons (by_congr (by omega))) (congr (congrArg List.cons (by_congr (by omega))) (congr (congrArg List.cons (by_congr (by omega))) (congr (congrArg List.cons (by_congr (by omega))) (congr (congrArg List.cons (by_congr (by omega))) (congr (congrArg List.cons (by_congr (by omega))) rfl)))))))
    rw [e] at z
    exact z
theorem join_cp : ∀ l : List Nat, cp (Str.join (Str.ofString "") (l.map fun c => ⟨#[c]⟩)) = l
  | [] => rfl
  | [c] => rfl
  | c :: d :: l => by
    have ih := join_cp (d :: l)
    show cp ((⟨#[c]⟩ : PySem.Str) ++ Str.ofString "" ++ Str.join (Str.ofString "") ((d :: l).map fun c => ⟨#[c]⟩)) = _
    rw [app_cp, app_cp, ih]
    rfl
theorem tjoin_cp (l : List Nat) : cp (Txt.join (Str.ofString "") (l.map fun c => ⟨#[c]⟩)) = l := by
  unfold Txt.join
  rw [StrLaws.glued_eq_join]
  exact join_cp l
theorem ones_sum : ∀ l : List Nat, ((l.map fun c => (⟨#[c]⟩ : PySem.Str)).map (·.length)).sum = l.length
  | [] => rfl
  | c :: l => by
    rw [List.map_cons, List.map_cons, List.sum_cons, ones_sum l, List.length_cons]
    show 1 + l.length = _
    omega
/-- what the signs of some bytes come to -/
theorem chr_strs {b : List UInt8} : ∀ {vs ys : List Value}, vs.length = b.length → (∀ (j : Nat) v, vs[j]? = some v → ∃ c u, b.toArray[j]? = some c ∧ v = .int (c.toNat : Int) u) →
    Paired (fun v y => ∃ k t t', v = Value.int k t ∧ y = .str ⟨#[k.toNat]⟩ t') vs ys → StrsAre ys ((b.map fun c => c.toNat).map fun c => ⟨#[c]⟩) := by
  induction b with
  | nil =>
    intro vs ys hl _ h
    have : vs = [] := List.eq_nil_of_length_eq_zero hl
    subst this
    cases h
    exact .nil
  | cons c b ih =>
    intro vs ys hl hv h
    cases h with
    | nil => simp at hl
    | cons h1 h2 =>
      obtain ⟨k, t, t', e1, e2⟩ := h1
      obtain ⟨c', u, e3, e4⟩ := hv 0 _ rfl
      simp at e3
      subst e3 e2
      rw [e1] at e4
      cases e4
      exact .cons _ _ (ih (by simpa using hl) (fun j v hv' => by
        obtain ⟨c', u, e, e'⟩ := hv (j + 1) v (by simpa using hv')
        exact ⟨c', u, by simpa using e, e'⟩) h2)
end Mine

end
section
open PySem PySem.W PyProof.Rows PySem.Spec PySem.Calls
namespace Mine
theorem dm {α : Type} {l : List α} {p : α} (k : Nat) (h : p ∈ l.drop k) : p ∈ l := List.mem_of_mem_drop h
theorem forall_cons {α : Type} {P : α → Prop} {a : α} {l : List α} (h : P a) (t : ∀ p ∈ l, P p) : ∀ p ∈ a :: l, P p := fun p hp => (List.mem_cons.mp hp).elim (fun e => e ▸ h) (t p)
theorem forall_app {α : Type} {P : α → Prop} {l r : List α} (h : ∀ p ∈ l, P p) (t : ∀ p ∈ r, P p) : ∀ p ∈ l ++ r, P p := fun p hp => (List.mem_append.mp hp).elim (h p) (t p)
theorem arr_at {α : Type} {l : List α} {i : Nat} {v : α} (h : l.toArray[i]? = some v) : l[i]? = some v := by simpa using h
/-- a list from its end to its start, at the heap itself -/
theorem rev_tail {prog : Program} {w : World} {A : Around} {E : Value → Shared → Prop} {s : Shared} {l : Addr} {vs : List Value} {vk : Value} {ops : List Value} {value slice : PySem.Expr} {Q : Value → Shared → Prop} (hl : s.heap.IsList l vs.toArray) (pk : IsPart vk (some (-1))) (hz : vs.toArray.size ≤ sizeLine)
    (h : ∀ D h' n, Kept s.heap h' → s.heap.get? D = none → h'.get? D = some (listObj vs.reverse n) → Q (.ref D) { s with heap := h' })
    (hs : subscripted slice false (.ref l) (.ref s.heap.objs.size) = operate ops (getItem (.ref l) (.ref s.heap.objs.size))) (ht : ∀ r, letTemporaryGo value (.ref l) r = pure ()) :
    wpAny (model prog w) A (subscriptTail value slice (.ref l) (.ref s.heap.objs.size)) Q E { s with heap := s.heap.push { cls := .type "slice", data := .fields #[.none, .none, vk] } } := by
  refine subscriptTail_ops (Heap.IsList.typeIs (s := { s with heap := s.heap.push { cls := .type "slice", data := .fields #[.none, .none, vk] } }) (hl.push _)) list_getitem_lookup
    (wpAny_getItem_list_slice (hl.push _) (Heap.IsSliceOf.new ..) .none .none pk (by decide) ?_ hz) hs ht
  rw [krv_pick]
  refine h _ _ 0 (fun b o e => Heap.get?_push_of_some _ (Heap.get?_push_of_some _ e)) ?_ (Heap.get?_push_size _ rfl)
  exact Heap.get?_none_of_le (by rw [Heap.size_push]; exact Nat.le_succ _)
theorem use_specT {w : World} {f Pt : Addr} {line col : Nat} {qual : Str} {vs : List Value} {Pre : Heap → Prop} {Post : Heap → Heap → Value → Prop} {d u : Nat} (S : SpecT w f Pt line col qual vs Pre Post d u)
    {A A₀ : Around} {env : Env} {outer : List Env} {base h₀ : Heap} {L : Addr} {m : Str → Option Value} {news : List (Addr × Obj)} {s : Shared} {Q E : Value → Shared → Prop} {mean : ExcName → Option Value} {mg mb : Str → Option Value} {dp un : Nat} {gd : Option (List Code)}
    (B : Below A₀ base outer h₀) (F : Fr h₀ L s.heap m) (N : News h₀ L s.heap news) (X : (hd.heap_39 w.params).In h₀) (T : Top topProg lo mean mg mb h₀)
    (hA : A = arnd dp (env :: outer) gd un) (hf : env.frame = some L) (hk : env.scope.kind = .function) (hm : (Pt, tabObj #[]) ∈ news)
    (hp : Pre (hideAll s.heap [Pt])) (hd : dp + d < recursionLimit) (hu : un + u < cLine)
    (h : ∀ r h' tk' c' oc vs' t', Kept (hideAll s.heap [Pt]) h' → Fr h₀ L h' m → h'.get? Pt = some (tabObj #[rawInt line, rawInt col, .ref c']) → h'.get? c' = some oc → s.heap.get? c' = none → oc.data = .fields vs' → vs'[1]? = some (.str qual t') → Post (hideAll s.heap [Pt]) h' r → Q r { s with heap := h', toks := tk' }) :
    wpAny (model P w) A (call (.ref f) vs) Q E s := by
  subst hA
  have No : News h₀ L s.heap [(Pt, tabObj #[])] := fun p hp => N p (List.mem_singleton.mp hp ▸ hm)
  obtain ⟨FG, BG, st, _⟩ := groundX (A := arnd dp (env :: outer) gd un) (R := fun _ _ => True) B F No rfl hf hk
  refine S mean mg mb dp un gd (env :: outer) base s Q E BG ⟨X.keeps st, T.keeps st⟩ (N _ hm).1 hp hd hu fun r h' tk' c' oc vs' t' k1 k2 k3 k4 k5 k6 k7 => ?_
  exact h r h' tk' c' oc vs' t' k1 ⟨FG.ns.keeps k1, fun b o e => k1 b o (st b o e), F.above⟩ k2 k3 k4 k5 k6 k7
theorem fresh_of_hide {h : Heap} {a Pt : Addr} (x : (hideAll h [Pt]).get? a = none) (hne : a ≠ Pt) : h.get? a = none := by
  cases q : h.get? a with
  | none => rfl
  | some o =>
    have := hideAll_get [Pt] q (by rw [List.mem_singleton]; exact hne)
    rw [x] at this; cases this
/-- a ledger behind a call that fills a code table -/
theorem news_cold {g h h' : Heap} {L Pt c' : Addr} {m : Str → Option Value} {news rest : List (Addr × Obj)} {o1 oc : Obj} (F : Fr g L h m) (N : News g L h news) (k : Kept (hideAll h [Pt]) h') (hm : (Pt, tabObj #[]) ∈ news)
    (hs : ∀ p ∈ rest, p ∈ news ∧ ((∀ ps, p.2.data ≠ .fields ps) ∨ p.1 ≠ Pt)) (e1 : h'.get? Pt = some o1) (e2 : h'.get? c' = some oc) (e3 : h.get? c' = none) : News g L h' ((c', oc) :: (Pt, o1) :: rest) := by
  have N1 : News g L h' ((Pt, o1) :: rest) := by
    intro p hp
    rcases List.mem_cons.mp hp with rfl | hp
    · exact ⟨e1, (N _ hm).2⟩
    · obtain ⟨h1, h2⟩ := hs p hp
      have h3 := N p h1
      refine ⟨k _ _ (hideAll_get _ h3.1 ?_), h3.2⟩
      rw [List.mem_singleton]
      rcases h2 with h2 | h2
      · intro e
        have e4 := h3.1
        rw [e, (N _ hm).1] at e4
        exact h2 #[] (congrArg Obj.data (Option.some.inj e4)).symm
      · exact h2
  exact news_cons F N1 e3 e2
theorem noF_list {vs : List Value} {n : Nat} {a c : Addr} : (∀ ps, (a, listObj vs n).2.data ≠ .fields ps) ∨ (a, listObj vs n).1 ≠ c := .inl fun _ h => nomatch h
theorem noF_lists {T : List (Addr × Obj)} (h : Lists T) {c : Addr} : ∀ p ∈ T, (∀ ps, p.2.data ≠ .fields ps) ∨ p.1 ≠ c := fun p hp => by
  obtain ⟨vs, n, e⟩ := h p hp
  left
  intro v
  rw [e]
  exact fun h => nomatch h
theorem noF_cell {a c : Addr} {o : Obj} {v : Option Value} (e : o.data = .cell v) : (∀ ps, (a, o).2.data ≠ .fields ps) ∨ (a, o).1 ≠ c := .inl fun ps h => by
  have h' : o.data = .fields ps := h
  rw [e] at h'
  cases h'
/-- the ledger of a comprehension behind such a call -/
theorem cold_end {g h h' : Heap} {L Pt c' I C D : Addr} {m : Str → Option Value} {news rest : List (Addr × Obj)} {oI oC oD o1 oc : Obj} (F : Fr g L h m) (N : News g L h ((I, oI) :: (C, oC) :: (D, oD) :: news)) (off : LCg.Off3 I C D news) (k : Kept (hideAll h [Pt]) h') (hm : (Pt, tabObj #[]) ∈ news)
    (hs : ∀ p ∈ rest, p ∈ news) (hf : ∀ p ∈ rest, (∀ ps, p.2.data ≠ .fields ps) ∨ p.1 ≠ Pt) (e1 : h'.get? Pt = some o1) (e2 : h'.get? c' = some oc) (e3 : h.get? c' = none) :
    News g L h' ((I, oI) :: (C, oC) :: (D, oD) :: ((c', oc) :: (Pt, o1) :: rest)) ∧ LCg.Off3 I C D ((c', oc) :: (Pt, o1) :: rest) := by
  have off' := off.mem
  have hP := off' _ hm
  have N1 := news_cold (rest := (I, oI) :: (C, oC) :: (D, oD) :: rest) F N k (List.mem_cons_of_mem _ (List.mem_cons_of_mem _ (List.mem_cons_of_mem _ hm))) (by
    intro p hp
    rcases List.mem_cons.mp hp with rfl | hp
    · exact ⟨List.mem_cons_self, .inr (Ne.symm hP.1)⟩
    · rcases List.mem_cons.mp hp with rfl | hp
      · exact ⟨List.mem_cons_of_mem _ List.mem_cons_self, .inr (Ne.symm hP.2.1)⟩
      · rcases List.mem_cons.mp hp with rfl | hp
        · exact ⟨List.mem_cons_of_mem _ (List.mem_cons_of_mem _ List.mem_cons_self), .inr (Ne.symm hP.2.2)⟩
        · exact ⟨List.mem_cons_of_mem _ (List.mem_cons_of_mem _ (List.mem_cons_of_mem _ (hs p hp))), hf p hp⟩) e1 e2 e3
  have hN := news_ne N e3
  refine ⟨news_sub N1 (forall_cons (dm 2 (.head _)) (forall_cons (dm 3 (.head _)) (forall_cons (dm 4 (.head _)) (forall_cons (.head _) (forall_cons (dm 1 (.head _)) (fun _ hp => (dm 5 hp))))))), ⟨⟨?_, ?_, ?_⟩, ⟨hP, LCg.Off3.of fun p hp => off' p (hs p hp)⟩⟩⟩
  · exact fun q => hN _ List.mem_cons_self q.symm
  · exact fun q => hN _ (List.mem_cons_of_mem _ List.mem_cons_self) q.symm
  · exact fun q => hN _ (List.mem_cons_of_mem _ (List.mem_cons_of_mem _ List.mem_cons_self)) q.symm
theorem add_new {g h h' : Heap} {L I C D a : Addr} {m : Str → Option Value} {news X : List (Addr × Obj)} {oI oC oD o : Obj} (F : Fr g L h m) (N : News g L h ((I, oI) :: (C, oC) :: (D, oD) :: news)) (N' : News g L h' ((I, oI) :: (C, oC) :: (D, oD) :: X)) (off : LCg.Off3 I C D X) (ha : h.get? a = none) (hg : h'.get? a = some o) :
    News g L h' ((I, oI) :: (C, oC) :: (D, oD) :: ((a, o) :: X)) ∧ LCg.Off3 I C D ((a, o) :: X) := by
  have hN := news_ne N ha
  refine ⟨news_sub (news_cons F N' ha hg) (forall_cons (dm 1 (.head _)) (forall_cons (dm 2 (.head _)) (forall_cons (dm 3 (.head _)) (forall_cons (.head _) (fun _ hp => (dm 4 hp)))))), ⟨⟨?_, ?_, ?_⟩, off⟩⟩
  · exact fun q => hN _ List.mem_cons_self q.symm
  · exact fun q => hN _ (List.mem_cons_of_mem _ List.mem_cons_self) q.symm
  · exact fun q => hN _ (List.mem_cons_of_mem _ (List.mem_cons_of_mem _ List.mem_cons_self)) q.symm
theorem new_back {r : List Int} {h h4 h5 : Heap} {y : Value} (k : Kept h h4) (x : NewInts r h4 h5 y) : NewInts r h h5 y := by
  obtain ⟨a, vs, n, e, ha, hg, hI⟩ := x
  refine ⟨a, vs, n, e, ?_, hg, hI⟩
  cases q : h.get? a with
  | none => rfl
  | some o => have := k _ _ q; rw [ha] at this; cases this
theorem i2d_ok {r : List Int} (h : Row r) : ∃ k : Nat, ((Builtin.Int.intBits (Mine.num r) : Int) + (6 : Nat) - 1).fdiv (6 : Nat) = k ∧ k ≤ 32 ∧ digs 6 k (Mine.num r) = bareL 0 r.reverse := by
  have hb := bits48 h.num.1 h.num.2
  have e1 : ((Builtin.Int.intBits (Mine.num r) : Int) + (6 : Nat) - 1).fdiv (6 : Nat) = (((Builtin.Int.intBits (Mine.num r) : Int) + 5) / 6).toNat := by
    rw [Int.fdiv_eq_ediv_of_nonneg _ (by decide)]
    omega
  refine ⟨_, e1, by omega, ?_⟩
  exact digs_bare (pl_rev h.pl) e1
theorem warm_news {g h : Heap} {L c Pt c' : Addr} {line col : Nat} {qual : Str} {m : Str → Option Value} {news : List (Addr × Obj)} {oc : Obj} {vs' : Array Value} {t' : Tok} (F : Fr g L h m) (N : News g L h news) (hC : CodeHd g c Pt) (h1 : (Pt, tabObj #[rawInt line, rawInt col, .ref c']) ∈ news) (h2 : (c', oc) ∈ news)
    (d1 : oc.data = .fields vs') (d2 : vs'[1]? = some (.str qual t')) : Warm c Pt line col qual c' h := ⟨hC.keeps F.keep, (N _ h1).1, c', oc, vs', t', rfl, (N _ h2).1, d1, d2⟩
theorem fr_but1 {g h h' : Heap} {L : Addr} {m : Str → Option Value} {o : Obj} (F : Fr g L h m) (hk : ∀ b o', b ∉ [h.objs.size] → (h.push o).get? b = some o' → h'.get? b = some o') : Fr g L h' m :=
  LCg.fr_but (F.push o) hk (Nat.ne_of_lt F.ns.lt) (next_is_new F)
theorem news_but1 {g h h' : Heap} {L : Addr} {news : List (Addr × Obj)} {o : Obj} (N : News g L h news) (hk : ∀ b o', b ∉ [h.objs.size] → (h.push o).get? b = some o' → h'.get? b = some o') : News g L h' news := fun p hp =>
  ⟨hk _ _ (by rw [List.mem_singleton]; exact Nat.ne_of_lt (Heap.lt_size (N p hp).1)) (Heap.get?_push_of_some _ (N p hp).1), (N p hp).2⟩
theorem keep_but1 {h h' : Heap} {o : Obj} (hk : ∀ b o', b ∉ [h.objs.size] → (h.push o).get? b = some o' → h'.get? b = some o') : Kept h h' := fun b o' e =>
  hk b o' (by rw [List.mem_singleton]; exact Nat.ne_of_lt (Heap.lt_size e)) (Heap.get?_push_of_some _ e)
end Mine

end
section
open PySem PySem.W PyProof.Rows PySem.Spec PySem.Calls
namespace Mine
/-- the place before this one, the last before the first -/
def prev (n i : Nat) : Nat := if i = 0 then n - 1 else i - 1
theorem prev_lt {n i : Nat} (h : i < n) : prev n i < n := by unfold prev; split <;> omega
section
variable {prog : Program} {w : World} {A : Around} {E : Value → Shared → Prop} {s : Shared} {l : Addr} {vs : List Value} {i : Nat} {t : Tok} {v : Value} {value slice : PySem.Expr} {Q : Value → Shared → Prop} {k : Int}
theorem item_here (hl : s.heap.IsList l vs.toArray) (hn : vs.length ≤ 100) (hi : i < vs.length) (e : k = i) (hx : vs[i]? = some v) (h : Q v s)
    (hs : subscripted slice false (.ref l) (.int k t) = operate [.ref l, .int k t] (getItem (.ref l) (.int k t))) (hg : ∀ r, letTemporaryGo value (.ref l) r = pure ()) : wpAny (model prog w) A (subscriptTail value slice (.ref l) (.int k t)) Q E s := by
  subst e
  have : (i : Int) < 2 ^ 63 := by have h2 : (2 : Int) ^ 63 = 9223372036854775808 := rfl; omega
  exact item_list hl (Int.natCast_nonneg _) this (by simpa using hx) h hs hg
theorem item_prev (hl : s.heap.IsList l vs.toArray) (hn : vs.length ≤ 100) (hi : i < vs.length) (e : k = (i : Int) - 1) (hx : vs[prev vs.length i]? = some v) (h : Q v s)
    (hs : subscripted slice false (.ref l) (.int k t) = operate [.ref l, .int k t] (getItem (.ref l) (.int k t))) (hg : ∀ r, letTemporaryGo value (.ref l) r = pure ()) : wpAny (model prog w) A (subscriptTail value slice (.ref l) (.int k t)) Q E s := by
  have h2 : (2 : Int) ^ 63 = 9223372036854775808 := rfl
  rcases Nat.eq_zero_or_pos i with h0 | h0
  · subst h0
    unfold prev at hx
    rw [if_pos rfl] at hx
    have hk : k = -1 := by omega
    subst hk
    refine subscriptTail_ops hl.typeIs list_getitem_lookup (wpAny_getItem_list_neg hl (by decide) ?_ (by decide) ?_ h) hs hg
    · rw [List.size_toArray]; omega
    · rw [List.size_toArray]
      have : ((-1 : Int) + (vs.length : Int)).toNat = vs.length - 1 := by omega
      rw [this]
      simpa using hx
  · unfold prev at hx
    rw [if_neg (by omega)] at hx
    refine item_list hl (by omega) (by omega) ?_ h hs hg
    have : k.toNat = i - 1 := by omega
    rw [this]
    simpa using hx
end
theorem Paired.nil_inv {F : Value → Value → Prop} {ys : List Value} (h : Paired F [] ys) : ys = [] := by
  cases h; rfl
theorem filter_false {α : Type} (l : List α) : l.filter (fun _ => false) = [] := by
  rw [List.filter_eq_nil_iff]
  intro a _ h
  cases h
/-- the ledger behind a comprehension that makes nothing but its list -/
theorem after_free {g h h' : Heap} {L D : Addr} {m : Str → Option Value} {news : List (Addr × Obj)} {o : Obj} {ys : Array Value} (F : Fr g L h m) (N : News g L h news) (hnew : (h.push o).get? D = none) (hpl : h'.PlainList D ys)
    (hk : ∀ b o', b ∉ [h.objs.size] → (h.push o).get? b = some o' → h'.get? b = some o') : Fr g L h' m ∧ ∃ n, News g L h' ((D, listObj ys.toList n) :: news) := by
  obtain ⟨n, hD⟩ := hpl
  refine ⟨fr_but1 F hk, n, ?_⟩
  have hnone : h.get? D = none := by
    cases q : h.get? D with
    | none => rfl
    | some o' => have := Heap.get?_push_of_some o q; rw [hnew] at this; cases this
  exact news_cons F (news_but1 N hk) hnone (by simpa [listObj] using hD)
theorem Row.le8 {r : List Int} (h : Row r) : r.length ≤ 8 := by rcases h.1 with h | h <;> omega
theorem Row.pos {r : List Int} (h : Row r) : 0 < r.length := by rcases h.1 with h | h <;> omega
theorem joinRow_len {a b : List Int} (ha : Row a) (hb : Row b) : (joinRow a b).length ≤ 17 := by
  have h1 := ha.le8
  have h2 := hb.le8
  unfold joinRow
  split
  · omega
  · split
    · rw [List.length_append]; omega
    · rw [List.length_append, List.length_cons]; omega
theorem joinRow_pl {a b : List Int} (ha : Row a) (hb : Row b) : Pl (joinRow a b) := by
  have h1 := ha.pl
  have h2 := hb.pl
  unfold joinRow
  split
  · exact h2
  · split
    · intro d hd
      exact (List.mem_append.mp hd).elim (h1 d) (h2 d)
    · intro d hd
      rcases List.mem_append.mp hd with h | h
      · exact h1 d h
      · rcases List.mem_cons.mp h with rfl | h
        · decide
        · exact h2 d h
/-- the text of two texts joined -/
theorem join_ok {x y : PySem.Str} {a b : List Int} (ha : Row a) (hb : Row b) (hx : cp x = a.map sgn) (hy : cp y = b.map sgn) : x.length ≤ 8 ∧ y.length ≤ 8 ∧ (joinOf x y).length ≤ 100 ∧ (∀ c ∈ (joinOf x y).cps.toList, OkSign c) ∧ (joinOf x y).cps.toList.map plc = joinRow a b := by
  have ra := row_signs ha
  have rb := row_signs hb
  rw [← hx] at ra
  rw [← hy] at rb
  obtain ⟨z1, z2⟩ := joinOf_map x y a b ra.2 rb.2 ra.1 rb.1 ha.pos hb.pos
  refine ⟨by rw [cp_len, hx, List.length_map]; exact ha.le8, by rw [cp_len, hy, List.length_map]; exact hb.le8, ?_, z2, z1⟩
  have e := congrArg List.length z1
  rw [List.length_map] at e
  rw [cp_len, e]
  exact Nat.le_trans (joinRow_len ha hb) (by decide)
/-- number and length of a row -/
def numLen (j : List Int) : List Int := [Mine.num j, (j.length : Int)]
end Mine

end
section
open PySem PySem.W PyProof.Rows PySem.Spec PySem.Calls
namespace Mine
abbrev nmL : Str := Str.ofString "law"
noncomputable def lawBody : List Stmt := match P.theDef nmL with | some x => x.2.1 | none => []
noncomputable def lawScope : Scope := match P.theDef nmL with | some x => x.2.2 | none => ⟨.function, [], false, false, []⟩
/-- a store in a cell -/
theorem store_cell {M : Model} {A : Around} {E : Value → Shared → Prop} {s : Shared} {g : Heap} {L c : Addr} {m : Str → Option Value} {env : Env} {x : Str} {v : Value} {v₀ : Option Value} {Q : Unit → Shared → Prop} {o : Obj} {rest : List (Addr × Obj)} (F : Fr g L s.heap m) (N : News g L s.heap ((c, o) :: rest)) (hd : o.data = .cell v₀)
    (hne : ∀ p ∈ rest, (∀ v, p.2.data ≠ .cell v) ∨ p.1 ≠ c) (hk : env.scope.kind = .function) (hl : env.kindOf x = some .cell) (hc : env.cells.lookup x = some c)
    (h : ∀ h' o', Fr g L h' m → News g L h' ((c, o') :: rest) → o'.data = .cell (some v) → Q () { s with heap := h' }) : wpAny M A (storeName env x v) Q E s := by
  have hm := N _ List.mem_cons_self
  refine wpAny_storeName_cell hk hl hc ⟨o, hm.1, hd⟩ fun h' hv hs => ?_
  obtain ⟨o', ho', hd'⟩ := hv
  refine h h' o' ⟨F.ns.sameBut hs (Ne.symm hm.2.1), fun b ob e => (hs.2 b (fun q => ?_)).trans (F.keep b ob e), F.above⟩ (fun p hp => ?_) hd'
  · rw [q, hm.2.2] at e; cases e
  · rcases List.mem_cons.mp hp with rfl | hp'
    · exact ⟨ho', hm.2⟩
    · have hp2 := N p (List.mem_cons_of_mem _ hp')
      refine ⟨(hs.2 p.1 fun q => ?_).trans hp2.1, hp2.2⟩
      rcases hne p hp' with h1 | h1
      · have e1 := hp2.1
        rw [q, hm.1] at e1
        cases e1
        exact h1 _ hd
      · exact h1 q
theorem lists_noCell {T : List (Addr × Obj)} (h : Lists T) {c : Addr} : ∀ p ∈ T, (∀ v, p.2.data ≠ .cell v) ∨ p.1 ≠ c := fun p hp => by
  obtain ⟨vs, n, e⟩ := h p hp
  left
  intro v
  rw [e]
  exact fun h => nomatch h
theorem noCell_list {a c : Addr} {vs : List Value} {n : Nat} : (∀ v, (a, listObj vs n).2.data ≠ .cell v) ∨ (a, listObj vs n).1 ≠ c := .inl fun _ h => nomatch h
theorem noCell_tab {a c : Addr} {ps : Array Value} : (∀ v, (a, tabObj ps).2.data ≠ .cell v) ∨ (a, tabObj ps).1 ≠ c := .inl fun _ h => by cases h
theorem spec_oct (w : World) (a : Addr) (vs : List Value) (r : List Int) (hI : IntsAre vs r) (h : Row r) : Spec w 206 [.ref a] (fun h => h.IsList a vs.toArray) (fun h h' v => NewInts (octs r) h h' v) 5 50 := by
  rcases row_vals h hI with ⟨q0, q1, q2, q3, u0, u1, u2, u3, e1, e2⟩ | ⟨q0, q1, q2, q3, q4, q5, q6, q7, u0, u1, u2, u3, u4, u5, u6, u7, e1, e2⟩
  · subst e1 e2
    exact spec_octets4 w a q0 q1 q2 q3 u0 u1 u2 u3
  · subst e1 e2
    exact spec_octets8 w a q0 q1 q2 q3 q4 q5 q6 q7 u0 u1 u2 u3 u4 u5 u6 u7
section
local macro_rules | `(tactic| walk_at "newList cons int cons") => `(tactic| (k_here; (with_reducible show wpAny _ _ (newList [Value.int _ _, Value.int _ _]) _ _ _); refine halt ?_))
local macro_rules | `(tactic| walk_at "call builtin:len") => `(tactic| (k_here; refine halt ?_))
local macro_rules | `(tactic| walk_at "pyIter ref") => `(tactic| (k_here; refine halt ?_))
local macro_rules | `(tactic| walk_at "compareOp NotEq ref ref") => `(tactic| (k_here; refine halt ?_))
local macro_rules | `(tactic| walk_at "compareOp Eq ref ref") => `(tactic| (k_here; refine halt ?_))
local macro_rules | `(tactic| walk_at "subscriptTail Name Slice ref ref") => `(tactic| (k_here; (with_reducible show wpAny _ _ (subscriptTail _ (PySem.Expr.Slice none none (some _) _) (Value.ref _) (Value.ref _)) _ _ _); refine halt ?_))
local macro_rules | `(tactic| walk_at "subscriptTail Name Name ref int") => `(tactic| (k_here; refine halt ?_))
local macro_rules | `(tactic| walk_at "subscriptTail Name BinOp ref int") => `(tactic| (k_here; refine halt ?_))
local macro_rules | `(tactic| walk_at "call type:bytes") => `(tactic| (k_here; refine halt ?_))
local macro_rules | `(tactic| walk_at "pyIter bytes") => `(tactic| (k_here; refine halt ?_))
local macro_rules | `(tactic| walk_at "call builtin:str.join") => `(tactic| (k_here; refine halt ?_))
local macro_rules | `(tactic| walk_at "call ref") => `(tactic| (k_here; (with_reducible show wpAny _ _ (call (Value.ref _) _) _ _ _); refine halt ?_))
local macro_rules | `(tactic| walk_at "storeName") => `(tactic| (k_here; (with_reducible show wpAny _ _ (storeName _ _ (Value.ref _)) _ _ _); refine halt ?_))
local macro_rules | `(tactic| k_room) => `(tactic| ktr_room)
local macro_rules | `(tactic| walk_at "newList") => `(tactic| (k_here; k_dflt (refine' newList_K ?k1 ?k2 ?_ (Nat.le_of_ble_eq_true rfl); (case k1 => k_asm); (case k2 => k_asm); k_whole); intro l' h' F' N' l1; (try k_lt l1); (try k_sweep)))
local macro_rules | `(tactic| walk_at "eval ListComp") => `(tactic| (k_here; refine halt ?_))
local macro_rules | `(tactic| walk_at "CompSrc") => `(tactic| (k_here; refine halt ?_))
local macro_rules | `(tactic| walk_at "CompRest") => `(tactic| (k_here; refine halt ?_))
local macro_rules | `(tactic| walk_at "exec Assign cons ListComp") => `(tactic| (k_here; k_dflt (refine LCg.Assign_ListComp_U (F₀ := by k_asm) (by rfl) (by with_unfolding_all rfl) (by with_unfolding_all rfl) (by decide) (by rfl) (by decide) (by rfl) (by rfl) (by rfl) ?_)))
theorem law_walk (w : World) (mean : ExcName → Option Value) (mg mb : Str → Option Value) (dp un : Nat) (gd : Option (List Code)) (outer : List Env) (base g h₁ : Heap) (L fa a : Addr) (tk : Nat) (cd : Value) (s : Shared) (Q : Flow → Shared → Prop) (E : Value → Shared → Prop) (vs : List Value) (ns : List Int) (oA oB : Obj)
    (hI : IntsAre vs ns) (hn : ns.length ≤ 63) (B : Below (arnd dp outer gd un) base outer g) (X : (hd.heap_39 w.params).In g) (T : Top topProg lo mean mg mb g) (hl : g.IsList a vs.toArray) (c1 : CodeHd g 48 44) (c2 : CodeHd g 41 37)
    (hdp : dp + 300 < recursionLimit) (hun : un + 3000 < cLine) (F : Fr g L h₁ (bindL (envOfC nmL lawScope L fa cd).kindOf [(Str.ofString "script", .ref a)] fun _ => none))
    (N : News g L h₁ [(L + 1 + 1, oA), (L + 1, oB), (44, tabObj #[]), (37, tabObj #[])]) (hA : oA.data = .cell none) (hB : oB.data = .cell none)
    (hret : ∀ h' tk' p1 p2, Kept g h' → h'.get? 44 = some (tabObj p1) → h'.get? 37 = some (tabObj p2) → Q (.ret (.bool true)) { s with heap := h', toks := tk' }) :
    wpAny (model P w) ((arnd dp outer gd un).deeper (envOfC nmL lawScope L fa cd)) (execs lawBody (envOfC nmL lawScope L fa cd)) Q E { s with heap := h₁, toks := tk } := by
  have e2 : lawBody = lawBody := rfl
  conv at e2 => rhs; whnf
  have e3 : lawScope = lawScope := rfl
  conv at e3 => rhs; whnf
  rw [e3] at F ⊢
  rw [e2]
  clear e2 e3
  have kf9 : hd.heap_39 = hd.heap_39 ∧ PySem.Challenge.rw_ik0056_01 = PySem.Challenge.rw_ik0056_01 := by (k_fill; exact ⟨rfl, rfl⟩)
  clear kf9
  unfold P
  unfold lo at T
  have hvl : vs.length = ns.length := hI.length
  repeat' (first | (k_unfold; (try dsimp only)) | walk1 | (dsimp only; walk1))
  refine Halt.mk ?_
  rename Fr _ _ _ _ => F1
  rename News _ _ _ _ => N1
  refine LCg.ListComp_U F1 (by with_unfolding_all rfl) (by decide) (by rfl) (by decide) (by rfl) ?_
  repeat' (first | (k_unfold; (try dsimp only)) | walk1 | (dsimp only; walk1))
  refine Halt.mk ?_
  rename Fr _ _ _ _ => F2
  rename News _ _ _ _ => N2
  rename IntsAre _ (List.take 3 ns ++ _) => hX
  have hXl := hX.length
  rw [List.length_append, List.length_take] at hXl
  refine LCg.CompSrc.ledger rfl F2 N2 List.mem_cons_self ?sz ?_
  case sz =>
    rw [List.size_toArray, hXl, sizeLine_eq]
    exact Nat.le_trans (Nat.add_le_add_right (Nat.min_le_left _ _) _) (by decide)
  intro gX
  refine' comp_rows (fun _ r => Row r) ?hS ?turn ?fin _ 0 [] [] [] (Nat.zero_add _) rfl (fun _ _ h => by cases h) trivial Lists.nil
  case hS => exact fun made => .inr ⟨_, List.mem_append_right _ List.mem_cons_self, rfl, _, rfl⟩
  case turn =>
    intro i v I oI C oC D m₂ ys made h tk E' hi hv hC hx F3 N3
    obtain ⟨k, t, e, hk⟩ := IntsAre.at hX i v (arr_at hv)
    subst e
    have hC9 := hC.ns (N3 (C, oC) (dm 1 (.head _))).1
    repeat' (first | (k_unfold; (try dsimp only)) | walk1 | (dsimp only; walk1))
    refine Halt.mk ?_
    refine' use_spec (spec_places w k _) B F3 N3 X T rfl rfl rfl trivial ?udA ?uuA ?_
    case udA => (first | (refine' room_ok ?rh ?re; (case rh => assumption); (case re => exact rfl)) | (refine' room_ok0 ?rh ?re; (case rh => assumption); (case re => exact rfl)) | ktr_room)
    case uuA => (first | (refine' room_ok ?rh ?re; (case rh => assumption); (case re => exact rfl)) | (refine' room_ok0 ?rh ?re; (case rh => assumption); (case re => exact rfl)) | ktr_units)
    intro r9 h9 tk9 k9 F9 N9 e9
    exact Halt.mk ⟨_, _, rfl, k9, e9⟩
  case fin =>
    intro ysR T1 rs hrs hrow RT LT D1 h9 tk9 F9 N9 _
    have hrow' : ∀ r ∈ rs, Row r := fun r hr => by
      obtain ⟨i, hi, e⟩ := List.mem_iff_getElem.mp hr
      exact hrow i r (by rw [List.getElem?_eq_getElem hi, e])
    have hrl : rs.length ≤ 9 ∧ 0 < rs.length := by
      rw [hrs, List.size_toArray, hXl]
      simp only [List.length_cons, List.length_nil]
      omega
    have N4 : News g L h9 ((L + 1, oB) :: (D1, listObj ysR ysR.length) :: (L + 1 + 1, oA) :: (44, tabObj #[]) :: (37, tabObj #[]) :: T1) := news_sub N9 (forall_cons (dm 1 (List.mem_append_right _ (dm 4 (.head _)))) (forall_cons (.head _) (forall_cons (dm 1 (List.mem_append_right _ (dm 3 (.head _)))) (forall_cons (dm 1 (List.mem_append_right _ (dm 5 (.head _)))) (forall_cons (dm 1 (List.mem_append_right _ (dm 6 (.head _)))) (fun _ hp => (dm 1 (List.mem_append_left _ hp))))))))
    clear N9 F2 N2 hX hXl hrs hrow
    repeat' (first | (k_unfold; (try dsimp only)) | walk1 | (dsimp only; walk1))
    refine Halt.mk ?_
    refine store_cell F9 N4 hB (forall_cons noCell_list (forall_cons (.inr (Nat.succ_ne_self _)) (forall_cons noCell_tab (forall_cons noCell_tab (lists_noCell LT))))) rfl rfl rfl ?_
    intro hC oB1 FC NC hB1
    clear N4 F9
    repeat' (first | (k_unfold; (try dsimp only)) | walk1 | (dsimp only; walk1))
    refine Halt.mk ?_
    rename Fr _ _ _ _ => F2
    rename News _ _ _ _ => N2
    refine' LCg.CompSrc.ledger rfl F2 N2 ?m2 ?sz2 ?_
    case m2 => k_mem
    case sz2 => rw [List.size_toArray, RT.length, sizeLine_eq]; exact Nat.le_trans hrl.1 (by decide)
    intro gX2
    refine' comp_rows (fun i r => (rs.map octs)[i]? = some r) ?hS2 ?turn2 ?fin2 _ 0 [] [] [] (Nat.zero_add _) rfl (fun _ _ h => by cases h) trivial Lists.nil
    case hS2 => exact fun made => .inr ⟨_, List.mem_append_right _ (by k_mem), rfl, _, rfl⟩
    case turn2 =>
      intro i v I oI C oC D m₂ ys made h tk E' hi hv hC hx F3 N3
      obtain ⟨aR, us, un9, r, e, hr, hm, hU⟩ := RT.at i (arr_at hv)
      subst e
      have hC9 := hC.ns (N3 (C, oC) (dm 1 (.head _))).1
      have hg9 := (N3 (aR, listObj us un9) (dm 3 (List.mem_append_right _ (dm 5 hm)))).1
      repeat' (first | (k_unfold; (try dsimp only)) | walk1 | (dsimp only; walk1))
      refine Halt.mk ?_
      refine' use_spec (spec_oct w _ us r hU (hrow' r (List.mem_of_getElem? hr))) B F3 N3 X T rfl rfl rfl ⟨_, hg9, rfl, _, rfl⟩ ?udB ?uuB ?_
      case udB => (first | (refine' room_ok ?rh ?re; (case rh => assumption); (case re => exact rfl)) | (refine' room_ok0 ?rh ?re; (case rh => assumption); (case re => exact rfl)) | ktr_room)
      case uuB => (first | (refine' room_ok ?rh ?re; (case rh => assumption); (case re => exact rfl)) | (refine' room_ok0 ?rh ?re; (case rh => assumption); (case re => exact rfl)) | ktr_units)
      intro r9 h9 tk9 k9 F9 N9 e9
      exact Halt.mk ⟨_, _, rfl, k9, _, by rw [List.getElem?_map, hr]; rfl, e9⟩
    case fin2 =>
      intro ysO T2 os hos hoct RO LO D2 h9 tk9 F9 N9 _
      have e := rows_det (rs' := rs.map octs) (by rw [hos, List.size_toArray, RT.length, List.length_map]) hoct
      subst e
      clear F2 N2 hos hoct
      have N4 : News g L h9 ((D2, listObj ysO ysO.length) :: (L + 1, oB1) :: (D1, listObj ysR ysR.length) :: (L + 1 + 1, oA) :: (44, tabObj #[]) :: (37, tabObj #[]) :: (T2 ++ T1)) := news_sub N9 (forall_cons (.head _) (forall_cons (dm 1 (List.mem_append_right _ (.head _))) (forall_cons (dm 1 (List.mem_append_right _ (dm 1 (.head _)))) (forall_cons (dm 1 (List.mem_append_right _ (dm 2 (.head _)))) (forall_cons (dm 1 (List.mem_append_right _ (dm 3 (.head _)))) (forall_cons (dm 1 (List.mem_append_right _ (dm 4 (.head _)))) (forall_app (fun _ hp => (dm 1 (List.mem_append_left _ hp))) (fun _ hp => (dm 1 (List.mem_append_right _ (dm 5 hp)))))))))))
      repeat' (first | (k_unfold; (try dsimp only)) | walk1 | (dsimp only; walk1))
      refine Halt.mk ?_
      rename Fr _ _ _ _ => F2
      rename News _ _ _ _ => N2
      refine LCg.ListComp_U F2 (by with_unfolding_all rfl) (by decide) (by rfl) (by decide) (by rfl) ?_
      repeat' (first | (k_unfold; (try dsimp only)) | walk1 | (dsimp only; walk1))
      refine Halt.mk ?_
      refine' LCg.CompSrc.ledger rfl F2 N2 ?m3 ?sz3 ?_
      case m3 => k_mem
      case sz3 => rw [List.size_toArray, RO.length, List.length_map, sizeLine_eq]; exact Nat.le_trans hrl.1 (by decide)
      intro gX3
      refine' comp_vals (fun i y => ∃ r x t, rs[i]? = some r ∧ y = .str x t ∧ cp x = r.map sgn) ?hS3 ?turn3 ?fin3 _ 0 [] (Nat.zero_add _) rfl (fun _ _ h => by cases h)
      case hS3 => exact .inr ⟨_, by k_mem, rfl, _, rfl⟩
      case turn3 =>
        intro i v I oI C oC D m₂ ys h tk E' hi hv hC hx F3 N3
        obtain ⟨aO, us, un9, os, e, hr, hm, hU⟩ := RO.at i (arr_at hv)
        subst e
        rw [List.getElem?_map] at hr
        obtain ⟨r, hr9, e⟩ := Option.map_eq_some_iff.mp hr
        subst e
        have hR9 := hrow' r (List.mem_of_getElem? hr9)
        have hC9 := hC.ns (N3 (C, oC) (dm 1 (.head _))).1
        have hg9 := (N3 (aO, listObj us un9) (dm 9 (List.mem_append_left _ hm))).1
        repeat' (first | (k_unfold; (try dsimp only)) | walk1 | (dsimp only; walk1))
        refine Halt.mk ?_
        refine wpAny_ListComp_free (fun _ => true) (fun v y => ∃ k t t', v = Value.int k t ∧ y = .str ⟨#[k.toNat]⟩ t') (by with_unfolding_all rfl) (by decide) (by rfl) (by decide) (by rfl) ?_
        repeat' (first | (k_unfold; (try dsimp only)) | walk1 | (dsimp only; walk1))
        refine Halt.mk ?_
        have huz : us.length ≤ sizeLine := by
          rw [hU.length, sizeLine_eq]
          rcases octs_len hR9 with e | e <;> (rw [e]; decide)
        refine call_bytes_ints ⟨_, hg9, rfl, _, rfl⟩ hU (octs_bound hR9) huz rfl ?_
        intro h4 t4 k4 hk4
        have F4 : Fr g L h4 _ := F3.keeps hk4
        have N4 : News g L h4 _ := N3.grown hk4
        repeat' (first | (k_unfold; (try dsimp only)) | walk1 | (dsimp only; walk1))
        refine Halt.mk ?_
        refine' use_spec (spec_b64r w r hR9 t4) B F4 N4 X T rfl rfl rfl trivial ?udC ?uuC ?_
        case udC => (first | (refine' room_ok ?rh ?re; (case rh => assumption); (case re => exact rfl)) | (refine' room_ok0 ?rh ?re; (case rh => assumption); (case re => exact rfl)) | ktr_room)
        case uuC => (first | (refine' room_ok ?rh ?re; (case rh => assumption); (case re => exact rfl)) | (refine' room_ok0 ?rh ?re; (case rh => assumption); (case re => exact rfl)) | ktr_units)
        intro r9 h9 tk9 k9 F9 N9 e9
        obtain ⟨t9, e9⟩ := e9
        subst e9
        repeat' (first | (k_unfold; (try dsimp only)) | walk1 | (dsimp only; walk1))
        refine Halt.mk ?_
        refine KBw.pyIter_bytes ?_
        refine ⟨_, [_], [_], _, _, _, rfl, KBw.walks rfl _ _ _, ?sz4, ⟨_, Heap.get?_push_size _ rfl, rfl, rfl⟩, ?fp4, ⟨?tests4, ?elt4⟩, ?fin4⟩
        case sz4 =>
          rw [List.size_toArray, List.length_map, sizeLine_eq]
          exact Nat.le_trans hR9.le32 (by decide)
        case fp4 =>
          intro b hb
          rw [List.mem_singleton.mp hb]
          show _ < (Heap.push _ _).objs.size
          rw [Heap.size_push]; exact Nat.lt_succ_self _
        case tests4 =>
          intro C i v s₃ m₃ E' hC hP hn hm hk ht
          exact wpAny_tests_nil ⟨rfl, _, _, rfl, fun _ _ e => e⟩
        case elt4 =>
          intro C i v s₃ m₃ E' hC hP _ hn hm hk ht
          obtain ⟨c, u, hc, e⟩ := hP
          subst e
          refine wpAny_mono (Q := fun y s₄ => Halt ((∃ k t t', Value.int (c.toNat : Int) u = Value.int k t ∧ y = .str ⟨#[k.toNat]⟩ t') ∧ Keeps s₃ s₄)) ?_ (fun _ _ h => h.out) fun _ _ e => e
          have F5 := fr_but1 F9 hk
          repeat' (first | (k_unfold; (try dsimp only)) | walk1 | (dsimp only; walk1))
          refine chr_of_range (Int.natCast_nonneg _) (by have := c.toNat_lt; omega) ?_
          repeat' (first | (k_unfold; (try dsimp only)) | walk1 | (dsimp only; walk1))
          exact Halt.mk ⟨⟨_, _, _, rfl, rfl⟩, _, _, rfl, fun _ _ e => e⟩
        case fin4 =>
          intro D h' tk' zs vs' hnew hlD hplD hlen hP hF hk
          rw [List.filter_eq_self.mpr (fun _ _ => rfl)] at hF
          have hS := chr_strs (b := r.map b64By) (by simpa using hlen) hP hF
          repeat' (first | (k_unfold; (try dsimp only)) | walk1 | (dsimp only; walk1))
          refine Halt.mk ?_
          refine join_list hlD hS ?hok ?_
          case hok =>
            rw [ones_sum]
            have e0 : (Str.ofString "").length = 0 := by decide +kernel
            rw [e0, Nat.mul_zero, List.length_map, List.length_map]
            exact Nat.le_trans hR9.le32 (by decide)
          intro t5 k5
          repeat' (first | (k_unfold; (try dsimp only)) | walk1 | (dsimp only; walk1))
          refine Halt.mk ⟨_, _, rfl, fun b o e => keep_but1 hk _ _ (k9 _ _ (hk4 _ _ e)), r, _, _, hr9, rfl, ?_⟩
          rw [tjoin_cp, List.map_map]
          rfl
      case fin3 =>
        intro ysT hTl hT D3 h9 tk9 F9 N9 _
        clear F2 N2
        have N4 : News g L h9 ((L + 1 + 1, oA) :: (D3, listObj ysT ysT.length) :: (D2, listObj ysO ysO.length) :: (L + 1, oB1) :: (D1, listObj ysR ysR.length) :: (44, tabObj #[]) :: (37, tabObj #[]) :: (T2 ++ T1)) := news_sub N9 (forall_cons (dm 4 (.head _)) (forall_cons (.head _) (forall_cons (dm 1 (.head _)) (forall_cons (dm 2 (.head _)) (forall_cons (dm 3 (.head _)) (fun _ hp => (dm 5 hp)))))))
        repeat' (first | (k_unfold; (try dsimp only)) | walk1 | (dsimp only; walk1))
        refine Halt.mk ?_
        refine store_cell F9 N4 hA (forall_cons noCell_list (forall_cons noCell_list (forall_cons (.inr (Nat.ne_of_lt (Nat.lt_succ_self _))) (forall_cons noCell_list (forall_cons noCell_tab (forall_cons noCell_tab (lists_noCell (LO.app LT)))))))) rfl rfl rfl ?_
        intro hC3 oA1 FC NC hA1
        clear N4 F9
        rw [List.size_toArray, RO.length, List.length_map] at hTl
        repeat' (first | (k_unfold; (try dsimp only)) | walk1 | (dsimp only; walk1))
        refine Halt.mk ?_
        rename Fr _ _ _ _ => F2
        rename News _ _ _ _ => N2
        refine LCg.ListComp_U F2 (by with_unfolding_all rfl) (by decide) (by rfl) (by decide) (by rfl) ?_
        repeat' (first | (k_unfold; (try dsimp only)) | walk1 | (dsimp only; walk1))
        refine Halt.mk ?_
        have hTz : ysT.toArray.size ≤ sizeLine := by rw [List.size_toArray, hTl, sizeLine_eq]; exact Nat.le_trans hrl.1 (by decide)
        refine' LCg.CompSrc.ledger rfl F2 N2 ?m4 hTz ?_
        case m4 => k_mem
        intro gX4
        refine' comp_rows (fun i r => rs[i]? = some r) ?hS4 ?turn4 ?fin4 _ 0 [] [] [] (Nat.zero_add _) rfl (fun _ _ h => by cases h) trivial Lists.nil
        case hS4 => exact fun made => .inr ⟨_, List.mem_append_right _ (by k_mem), rfl, _, rfl⟩
        case turn4 =>
          intro i v I oI C oC D m₂ ys made h tk E' hi hv hC hx F3 N3
          obtain ⟨r, x, t, hr9, e, hcx⟩ := hT i v (arr_at hv)
          subst e
          have hR9 := hrow' r (List.mem_of_getElem? hr9)
          have hrs := row_signs hR9
          rw [← hcx] at hrs
          have hxl : x.length ≤ 100 := by
            rw [cp_len, hcx, List.length_map]
            exact Nat.le_trans hR9.le32 (by decide)
          have hC9 := hC.ns (N3 (C, oC) (dm 1 (.head _))).1
          repeat' (first | (k_unfold; (try dsimp only)) | walk1 | (dsimp only; walk1))
          refine Halt.mk ?_
          refine' use_spec (spec_signs w x _ hxl hrs.1) B F3 N3 X T rfl rfl rfl trivial ?udD ?uuD ?_
          case udD => (first | (refine' room_ok ?rh ?re; (case rh => assumption); (case re => exact rfl)) | (refine' room_ok0 ?rh ?re; (case rh => assumption); (case re => exact rfl)) | ktr_room)
          case uuD => (first | (refine' room_ok ?rh ?re; (case rh => assumption); (case re => exact rfl)) | (refine' room_ok0 ?rh ?re; (case rh => assumption); (case re => exact rfl)) | ktr_units)
          intro r9 h9 tk9 k9 F9 N9 e9
          rw [hrs.2] at e9
          exact Halt.mk ⟨_, _, rfl, k9, _, hr9, e9⟩
        case fin4 =>
          intro ysS T3 ss hsl hss RS LS D4 h9 tk9 F9 N9 _
          have e := rows_det (rs' := rs) (by rw [hsl, List.size_toArray, hTl]) hss
          rw [e] at RS
          have N4 : News g L h9 ((D4, listObj ysS ysS.length) :: (L + 1 + 1, oA1) :: (D3, listObj ysT ysT.length) :: (D2, listObj ysO ysO.length) :: (L + 1, oB1) :: (D1, listObj ysR ysR.length) :: (44, tabObj #[]) :: (37, tabObj #[]) :: (T3 ++ (T2 ++ T1))) := news_sub N9 (forall_cons (.head _) (forall_cons (dm 1 (List.mem_append_right _ (.head _))) (forall_cons (dm 1 (List.mem_append_right _ (dm 1 (.head _)))) (forall_cons (dm 1 (List.mem_append_right _ (dm 2 (.head _)))) (forall_cons (dm 1 (List.mem_append_right _ (dm 3 (.head _)))) (forall_cons (dm 1 (List.mem_append_right _ (dm 4 (.head _)))) (forall_cons (dm 1 (List.mem_append_right _ (dm 5 (.head _)))) (forall_cons (dm 1 (List.mem_append_right _ (dm 6 (.head _)))) (forall_app (fun _ hp => (dm 1 (List.mem_append_left _ hp))) (fun _ hp => (dm 1 (List.mem_append_right _ (dm 7 hp)))))))))))))
          clear F2 N2 hsl hss e N9
          repeat' (first | (k_unfold; (try dsimp only)) | walk1 | (dsimp only; walk1))
          refine Halt.mk ?_
          rename Fr _ _ _ _ => F2
          rename News _ _ _ _ => N2
          refine' ne_rows (rs := rs) (N2.get ?ea) (N2.get ?eb) (RS.here N2 ?ka) (RT.here N2 ?kb) (by (first | (refine' room_ok ?rh ?re; (case rh => assumption); (case re => exact rfl)) | (refine' room_ok0 ?rh ?re; (case rh => assumption); (case re => exact rfl)) | ke_room)) ?_
          case ea => k_mem
          case eb => k_mem
          case ka => exact (fun _ hp => (dm 8 (List.mem_append_left _ hp)))
          case kb => exact (fun _ hp => (dm 8 (List.mem_append_right _ (List.mem_append_right _ hp))))
          repeat' (first | (k_unfold; (try dsimp only)) | walk1 | (dsimp only; walk1))
          refine Halt.mk ?_
          rename Fr _ _ _ _ => F2
          rename News _ _ _ _ => N2
          refine LCg.ListComp_U F2 (by with_unfolding_all rfl) (by decide) (by rfl) (by decide) (by rfl) ?_
          repeat' (first | (k_unfold; (try dsimp only)) | walk1 | (dsimp only; walk1))
          refine Halt.mk ?_
          have hOz : ysO.toArray.size ≤ sizeLine := by rw [List.size_toArray, RO.length, List.length_map, sizeLine_eq]; exact Nat.le_trans hrl.1 (by decide)
          refine' LCg.CompSrc.ledger rfl F2 N2 ?m5 hOz ?_
          case m5 => k_mem
          intro gX5
          obtain ⟨j5, hj5⟩ : ∃ j, ysO.toArray.size = j + 1 := ⟨rs.length - 1, by rw [List.size_toArray, RO.length, List.length_map]; omega⟩
          have hjr : rs.length = j5 + 1 := by rw [← hj5, List.size_toArray, RO.length, List.length_map]
          rw [hj5]
          refine LCg.CompRest.succ ?_
          intro v I oI C oC D m₂ h tk E' hv hC hx F3 N3 off ne
          obtain ⟨aO, us, un9, os, e, hr, hm, hU⟩ := RO.at 0 (arr_at hv)
          subst e
          rw [List.getElem?_map] at hr
          obtain ⟨r, hr9, e⟩ := Option.map_eq_some_iff.mp hr
          subst e
          have hR9 := hrow' r (List.mem_of_getElem? hr9)
          have hC9 := hC.ns (N3 (C, oC) (dm 1 (.head _))).1
          have hg9 := (N3 (aO, listObj us un9) (dm 11 (List.mem_append_right _ (List.mem_append_left _ hm)))).1
          have hl9 : h.IsList aO us.toArray := ⟨_, hg9, rfl, _, rfl⟩
          have hol : (octs r).length ≤ 6 ∧ 0 < (octs r).length := by rcases octs_len hR9 with e | e <;> (rw [e]; decide)
          have huz : us.toArray.size ≤ sizeLine := by
            rw [List.size_toArray, hU.length, sizeLine_eq]
            exact Nat.le_trans hol.1 (by decide)
          repeat' (first | (k_unfold; (try dsimp only)) | walk1 | (dsimp only; walk1))
          refine Halt.mk ?_
          refine rev_tail hl9 (.int _ _) huz ?_ (by with_unfolding_all rfl) (by intro _; with_unfolding_all rfl)
          intro Dv h5 nv k5 hDn hDv
          have F5 : Fr g L h5 _ := F3.keeps k5
          have N5 : News g L h5 _ := N3.grown k5
          repeat' (first | (k_unfold; (try dsimp only)) | walk1 | (dsimp only; walk1))
          refine Halt.mk ?_
          have e28 : (2 : Int) ^ 8 = 256 := rfl
          refine' use_specT (cold_d2i w Dv us.reverse (octs r).reverse (ints_rev hU) (by rw [List.length_reverse]; exact Nat.le_trans hol.1 (by decide)) (by rw [List.length_reverse]; exact hol.2) 8 (by decide) _ (fun d hd => by rw [e28]; exact octs_bound hR9 d (List.mem_reverse.mp hd))) B F5 N5 X T rfl rfl rfl ?hm5 ⟨⟨_, hideAll_get _ hDv ?ne5, rfl, _, rfl⟩, c1.keeps (keep_hideN F5 N5 ?hm6)⟩ ?udE ?uuE ?_
          case udE => (first | (refine' room_ok ?rh ?re; (case rh => assumption); (case re => exact rfl)) | (refine' room_ok0 ?rh ?re; (case rh => assumption); (case re => exact rfl)) | ktr_room)
          case uuE => (first | (refine' room_ok ?rh ?re; (case rh => assumption); (case re => exact rfl)) | (refine' room_ok0 ?rh ?re; (case rh => assumption); (case re => exact rfl)) | ktr_units)
          case hm5 => k_mem
          case hm6 => k_mem
          case ne5 =>
            rw [List.mem_singleton]
            rintro rfl
            rw [(N3 (44, tabObj #[]) (by k_mem)).1] at hDn
            cases hDn
          intro r9 h9 tk9 c9 oc vs9 t9 k9 F9 e1 e2 e3 d1 d2 e9
          obtain ⟨tt, e9⟩ := e9
          subst e9
          have z := cold_end (rest := (L + 1 + 1, oA1) :: (D3, listObj ysT ysT.length) :: (D2, listObj ysO ysO.length) :: (L + 1, oB1) :: (D1, listObj ysR ysR.length) :: (37, tabObj #[]) :: (T2 ++ T1)) F5 N5 off k9 (by k_mem) (forall_cons (dm 1 (.head _)) (forall_cons (dm 2 (.head _)) (forall_cons (dm 3 (.head _)) (forall_cons (dm 4 (.head _)) (forall_cons (dm 5 (.head _)) (forall_cons (dm 7 (.head _)) (fun _ hp => (dm 8 (List.mem_append_right _ hp))))))))) (forall_cons (noF_cell hA1) (forall_cons noF_list (forall_cons noF_list (forall_cons (noF_cell hB1) (forall_cons noF_list (forall_cons (.inr (by decide)) (noF_lists (LO.app LT)))))))) e1 e2 e3
          refine ⟨h9, tk9, _, rfl, F9, z.1, z.2, .inr ⟨_, by k_mem, rfl, _, rfl⟩, ?_⟩
          refine' comp_vals (n := rs.length) (fun i y => ∃ k t, (rs.map Mine.num)[i]? = some k ∧ y = .int k t) ?hS5 ?turn5 ?fin5 j5 1 _ (by omega) rfl ?st5
          case hS5 => exact .inr ⟨_, by k_mem, rfl, _, rfl⟩
          case st5 =>
            intro i y hy
            have h0 : i = 0 := by
              rcases Nat.eq_zero_or_pos i with h | h
              · exact h
              · rw [List.getElem?_eq_none (by simp; omega)] at hy; cases hy
            subst h0
            simp at hy
            exact ⟨_, _, by rw [List.getElem?_map, hr9]; rfl, by rw [← hy, octs_val hR9]⟩
          case turn5 =>
            clear hl9 hg9 hC9 hU hm huz hol hr9 hR9 N5 F5 hDv hDn k5 k9 F9 z N3 F3 off ne hx hv hC
            intro i v I oI C oC D m₂ ys h tk E' hi hv hC hx F3 N3
            obtain ⟨aO, us, un9, os, e, hr, hm, hU⟩ := RO.at i (arr_at hv)
            subst e
            rw [List.getElem?_map] at hr
            obtain ⟨r, hr9, e⟩ := Option.map_eq_some_iff.mp hr
            subst e
            have hR9 := hrow' r (List.mem_of_getElem? hr9)
            have hC9 := hC.ns (N3 (C, oC) (dm 1 (.head _))).1
            have hg9 := (N3 (aO, listObj us un9) (dm 11 (List.mem_append_left _ hm))).1
            have hl9 : h.IsList aO us.toArray := ⟨_, hg9, rfl, _, rfl⟩
            have hol : (octs r).length ≤ 6 := by rcases octs_len hR9 with e | e <;> (rw [e]; decide)
            have huz : us.toArray.size ≤ sizeLine := by
              rw [List.size_toArray, hU.length, sizeLine_eq]
              exact Nat.le_trans hol (by decide)
            repeat' (first | (k_unfold; (try dsimp only)) | walk1 | (dsimp only; walk1))
            refine Halt.mk ?_
            refine rev_tail hl9 (.int _ _) huz ?_ (by with_unfolding_all rfl) (by intro _; with_unfolding_all rfl)
            intro Dv h5 nv k5 hDn hDv
            have F5 : Fr g L h5 _ := F3.keeps k5
            have N5 : News g L h5 _ := N3.grown k5
            repeat' (first | (k_unfold; (try dsimp only)) | walk1 | (dsimp only; walk1))
            refine Halt.mk ?_
            refine' use_spec (spec_d2i w Dv us.reverse (octs r).reverse (ints_rev hU) (by rw [List.length_reverse]; exact Nat.le_trans hol (by decide)) 8 (by decide) _ (fun d hd => by rw [e28]; exact octs_bound hR9 d (List.mem_reverse.mp hd)) c9) B F5 N5 X T rfl rfl rfl ⟨⟨_, hDv, rfl, _, rfl⟩, warm_news F5 N5 c1 ?m7 ?m8 d1 d2⟩ ?udF ?uuF ?_
            case udF => (first | (refine' room_ok ?rh ?re; (case rh => assumption); (case re => exact rfl)) | (refine' room_ok0 ?rh ?re; (case rh => assumption); (case re => exact rfl)) | ktr_room)
            case uuF => (first | (refine' room_ok ?rh ?re; (case rh => assumption); (case re => exact rfl)) | (refine' room_ok0 ?rh ?re; (case rh => assumption); (case re => exact rfl)) | ktr_units)
            case m7 => k_mem
            case m8 => k_mem
            intro r8 h8 tk8 k8 F8 N8 e8
            obtain ⟨t8, e8⟩ := e8
            subst e8
            exact Halt.mk ⟨_, _, rfl, fun b o e => k8 _ _ (k5 _ _ e), _, _, by rw [List.getElem?_map, hr9]; rfl, by rw [octs_val hR9]⟩
          case fin5 =>
            clear hl9 hg9 hC9 hU hm huz hol hr9 hR9 N5 F5 hDv hDn k5 k9 F9 z N3 F3 off ne hx hv hC
            intro ys5 hl5 hP5 D5 h9 tk9 F9 N9 _
            have I5 : IntsAre ys5 (rs.map Mine.num) := vals_ints (by rw [hl5, List.length_map]) hP5
            have N4 : News g L h9 ((D5, listObj ys5 ys5.length) :: (L + 1 + 1, oA1) :: (D3, listObj ysT ysT.length) :: (D2, listObj ysO ysO.length) :: (L + 1, oB1) :: (D1, listObj ysR ysR.length) :: (c9, oc) :: (44, tabObj #[rawInt (50 : Nat), rawInt (4 : Nat), .ref c9]) :: (37, tabObj #[]) :: (T2 ++ T1)) := news_sub N9 (forall_cons (.head _) (forall_cons (dm 3 (.head _)) (forall_cons (dm 4 (.head _)) (forall_cons (dm 5 (.head _)) (forall_cons (dm 6 (.head _)) (forall_cons (dm 7 (.head _)) (forall_cons (dm 1 (.head _)) (forall_cons (dm 2 (.head _)) (fun _ hp => (dm 8 hp))))))))))
            clear N9
            repeat' (first | (k_unfold; (try dsimp only)) | walk1 | (dsimp only; walk1))
            refine Halt.mk ?_
            rename Fr _ _ _ _ => F2
            rename News _ _ _ _ => N2
            refine LCg.ListComp_U F2 (by with_unfolding_all rfl) (by decide) (by rfl) (by decide) (by rfl) ?_
            repeat' (first | (k_unfold; (try dsimp only)) | walk1 | (dsimp only; walk1))
            refine Halt.mk ?_
            have hRz : ysR.toArray.size ≤ sizeLine := by rw [List.size_toArray, RT.length, sizeLine_eq]; exact Nat.le_trans hrl.1 (by decide)
            refine' LCg.CompSrc.ledger rfl F2 N2 ?m9 hRz ?_
            case m9 => k_mem
            intro gX6
            refine' comp_vals (n := ysR.toArray.size) (fun i y => ∃ k t, (rs.map Mine.num)[i]? = some k ∧ y = .int k t) ?hS6 ?turn6 ?fin6 _ 0 [] (Nat.zero_add _) rfl (fun _ _ h => by cases h)
            case hS6 => exact .inr ⟨_, by k_mem, rfl, _, rfl⟩
            case turn6 =>
              intro i v I oI C oC D m₂ ys h tk E' hi hv hC hx F3 N3
              obtain ⟨aR, us, un9, r, e, hr9, hm, hU⟩ := RT.at i (arr_at hv)
              subst e
              have hR9 := hrow' r (List.mem_of_getElem? hr9)
              have hC9 := hC.ns (N3 (C, oC) (dm 1 (.head _))).1
              have hg9 := (N3 (aR, listObj us un9) (dm 12 (List.mem_append_right _ hm))).1
              repeat' (first | (k_unfold; (try dsimp only)) | walk1 | (dsimp only; walk1))
              refine Halt.mk ?_
              refine' use_spec (spec_number w aR us r hU hR9.le32 hR9.pl c9) B F3 N3 X T rfl rfl rfl ⟨⟨_, hg9, rfl, _, rfl⟩, warm_news F3 N3 c1 ?m10 ?m11 d1 d2⟩ ?udG ?uuG ?_
              case udG => (first | (refine' room_ok ?rh ?re; (case rh => assumption); (case re => exact rfl)) | (refine' room_ok0 ?rh ?re; (case rh => assumption); (case re => exact rfl)) | ktr_room)
              case uuG => (first | (refine' room_ok ?rh ?re; (case rh => assumption); (case re => exact rfl)) | (refine' room_ok0 ?rh ?re; (case rh => assumption); (case re => exact rfl)) | ktr_units)
              case m10 => k_mem
              case m11 => k_mem
              intro r8 h8 tk8 k8 F8 N8 e8
              obtain ⟨t8, e8⟩ := e8
              subst e8
              exact Halt.mk ⟨_, _, rfl, k8, _, _, by rw [List.getElem?_map, hr9]; rfl, rfl⟩
            case fin6 =>
              intro ys6 hl6 hP6 D6 h9 tk9 F9 N9 _
              have I6 : IntsAre ys6 (rs.map Mine.num) := vals_ints (by rw [hl6, List.size_toArray, RT.length, List.length_map]) hP6
              clear F2 N2
              repeat' (first | (k_unfold; (try dsimp only)) | walk1 | (dsimp only; walk1))
              refine Halt.mk ?_
              rename Fr _ _ _ _ => F2
              rename News _ _ _ _ => N2
              refine ne_ints (N2.get (by k_mem)) (N2.get (by k_mem)) I5 I6 (by (first | (refine' room_ok ?rh ?re; (case rh => assumption); (case re => exact rfl)) | (refine' room_ok0 ?rh ?re; (case rh => assumption); (case re => exact rfl)) | ke_room)) ?_
              have d0 : decide (rs.map Mine.num ≠ rs.map Mine.num) = false := decide_eq_false (fun h => h rfl)
              rw [d0]
              have N4 : News g L _ ((L + 1 + 1, oA1) :: (D3, listObj ysT ysT.length) :: (L + 1, oB1) :: (D1, listObj ysR ysR.length) :: (c9, oc) :: (44, tabObj #[rawInt (50 : Nat), rawInt (4 : Nat), .ref c9]) :: (37, tabObj #[]) :: T1) := news_sub N2 (forall_cons (dm 2 (.head _)) (forall_cons (dm 3 (.head _)) (forall_cons (dm 5 (.head _)) (forall_cons (dm 6 (.head _)) (forall_cons (dm 7 (.head _)) (forall_cons (dm 8 (.head _)) (forall_cons (dm 9 (.head _)) (fun _ hp => (dm 10 (List.mem_append_right _ hp))))))))))
              clear N2
              repeat' (first | (k_unfold; (try dsimp only)) | walk1 | (dsimp only; walk1))
              refine Halt.mk ?_
              rename Fr _ _ _ _ => F2
              rename News _ _ _ _ => N2
              refine LCg.ListComp_U F2 (by with_unfolding_all rfl) (by decide) (by rfl) (by decide) (by rfl) ?_
              repeat' (first | (k_unfold; (try dsimp only)) | walk1 | (dsimp only; walk1))
              refine Halt.mk ?_
              refine' LCg.CompSrc.ledger rfl F2 N2 ?m12 hRz ?_
              case m12 => k_mem
              intro gX7
              have hj7 : ysR.toArray.size = j5 + 1 := by rw [List.size_toArray, RT.length, hjr]
              rw [hj7]
              refine LCg.CompRest.succ ?_
              intro v I oI C oC D m₂ h tk E' hv hC hx F3 N3 off ne
              obtain ⟨aR, us, un9, r, e, hr9, hm, hU⟩ := RT.at 0 (arr_at hv)
              subst e
              have hR9 := hrow' r (List.mem_of_getElem? hr9)
              have hC9 := hC.ns (N3 (C, oC) (dm 1 (.head _))).1
              have hg9 := (N3 (aR, listObj us un9) (dm 10 hm)).1
              repeat' (first | (k_unfold; (try dsimp only)) | walk1 | (dsimp only; walk1))
              refine Halt.mk ?_
              refine' use_spec (spec_number w aR us r hU hR9.le32 hR9.pl c9) B F3 N3 X T rfl rfl rfl ⟨⟨_, hg9, rfl, _, rfl⟩, warm_news F3 N3 c1 ?m13 ?m14 d1 d2⟩ ?udH ?uuH ?_
              case udH => (first | (refine' room_ok ?rh ?re; (case rh => assumption); (case re => exact rfl)) | (refine' room_ok0 ?rh ?re; (case rh => assumption); (case re => exact rfl)) | ktr_room)
              case uuH => (first | (refine' room_ok ?rh ?re; (case rh => assumption); (case re => exact rfl)) | (refine' room_ok0 ?rh ?re; (case rh => assumption); (case re => exact rfl)) | ktr_units)
              case m13 => k_mem
              case m14 => k_mem
              intro r8 h8 tk8 k8 F8 N8 e8
              obtain ⟨t8, e8⟩ := e8
              subst e8
              repeat' (first | (k_unfold; (try dsimp only)) | walk1 | (dsimp only; walk1))
              refine Halt.mk ?_
              obtain ⟨k6, hk6, hk32, hdig⟩ := i2d_ok hR9
              refine' use_specT (cold_i2d w (Mine.num r) _ hR9.num.1 6 _ (by decide) k6 hk6 hk32) B F8 N8 X T rfl rfl rfl ?m15 (c2.keeps (keep_hideN F8 N8 ?m16)) ?udI ?uuI ?_
              case udI => (first | (refine' room_ok ?rh ?re; (case rh => assumption); (case re => exact rfl)) | (refine' room_ok0 ?rh ?re; (case rh => assumption); (case re => exact rfl)) | ktr_room)
              case uuI => (first | (refine' room_ok ?rh ?re; (case rh => assumption); (case re => exact rfl)) | (refine' room_ok0 ?rh ?re; (case rh => assumption); (case re => exact rfl)) | ktr_units)
              case m15 => k_mem
              case m16 => k_mem
              intro r7 h7 tk7 cI oc7 vs7 t7 k7 F7 e1 e2 e3 d3 d4 e7
              obtain ⟨aN, uN, nN, e6, haN, hgN, hIN⟩ := e7
              subst e6
              rw [hdig] at hIN
              have haN' := fresh_of_hide haN (by rintro rfl; rw [e1] at hgN; cases hgN)
              have hc937 : c9 ≠ 37 := by
                intro e
                have q1 := (N8 (c9, oc) (by k_mem)).1
                have q2 := (N8 (37, tabObj #[]) (by k_mem)).1
                dsimp only at q1 q2
                rw [e, q2] at q1
                have q3 := congrArg Obj.data (Option.some.inj q1)
                rw [d1] at q3
                injection q3 with q3
                rw [← q3] at d2
                simp at d2
              have z := cold_end (rest := (L + 1 + 1, oA1) :: (D3, listObj ysT ysT.length) :: (L + 1, oB1) :: (D1, listObj ysR ysR.length) :: (c9, oc) :: (44, tabObj #[rawInt (50 : Nat), rawInt (4 : Nat), .ref c9]) :: T1) F8 N8 off k7 (by k_mem) (forall_cons (.head _) (forall_cons (dm 1 (.head _)) (forall_cons (dm 2 (.head _)) (forall_cons (dm 3 (.head _)) (forall_cons (dm 4 (.head _)) (forall_cons (dm 5 (.head _)) (fun _ hp => (dm 7 hp)))))))) (forall_cons (noF_cell hA1) (forall_cons noF_list (forall_cons (noF_cell hB1) (forall_cons noF_list (forall_cons (.inr hc937) (forall_cons (.inr (show (44 : Nat) ≠ 37 from by decide)) (noF_lists LT))))))) e1 e2 e3
              have z2 := add_new F8 N8 z.1 z.2 haN' hgN
              refine ⟨h7, tk7, _, rfl, F7, z2.1, z2.2, .inr ⟨_, by k_mem, rfl, _, rfl⟩, ?_⟩
              refine' comp_rows (n := rs.length) (news := (cI, oc7) :: (37, tabObj #[rawInt (35 : Nat), rawInt (4 : Nat), .ref cI]) :: (L + 1 + 1, oA1) :: (D3, listObj ysT ysT.length) :: (L + 1, oB1) :: (D1, listObj ysR ysR.length) :: (c9, oc) :: (44, tabObj #[rawInt (50 : Nat), rawInt (4 : Nat), .ref c9]) :: T1) (fun i r' => (rs.map fun r => bareL 0 r.reverse)[i]? = some r') ?hS7 ?turn7 ?fin7 j5 1 [.ref aN] [(aN, listObj uN nN)] [bareL 0 r.reverse] (by omega) rfl ?st7 ⟨⟨_, _, _, rfl, List.mem_cons_self, hIN⟩, trivial⟩ Lists.nil.cons
              case hS7 => exact fun made => .inr ⟨_, List.mem_append_right _ (by k_mem), rfl, _, rfl⟩
              case st7 =>
                intro i y hy
                have h0 : i = 0 := by
                  rcases Nat.eq_zero_or_pos i with h | h
                  · exact h
                  · rw [List.getElem?_eq_none (by simp; omega)] at hy; cases hy
                subst h0
                simp at hy
                rw [List.getElem?_map, hr9, ← hy]; rfl
              case turn7 =>
                clear hg9 hC9 hU hm hr9 hR9 F8 N8 k7 k8 F7 z z2 N3 F3 off ne hx hv hC haN haN' hgN hIN hdig hk6 hk32
                intro i v I oI C oC D m₂ ys made h tk E' hi hv hC hx F3 N3
                obtain ⟨aR, us, un9, r, e, hr9, hm, hU⟩ := RT.at i (arr_at hv)
                subst e
                have hR9 := hrow' r (List.mem_of_getElem? hr9)
                have hC9 := hC.ns (N3 (C, oC) (dm 1 (.head _))).1
                have hg9 := (N3 (aR, listObj us un9) (dm 3 (List.mem_append_right _ (dm 8 hm)))).1
                repeat' (first | (k_unfold; (try dsimp only)) | walk1 | (dsimp only; walk1))
                refine Halt.mk ?_
                refine' use_spec (spec_number w aR us r hU hR9.le32 hR9.pl c9) B F3 N3 X T rfl rfl rfl ⟨⟨_, hg9, rfl, _, rfl⟩, warm_news F3 N3 c1 ?m17 ?m18 d1 d2⟩ ?udJ ?uuJ ?_
                case udJ => (first | (refine' room_ok ?rh ?re; (case rh => assumption); (case re => exact rfl)) | (refine' room_ok0 ?rh ?re; (case rh => assumption); (case re => exact rfl)) | ktr_room)
                case uuJ => (first | (refine' room_ok ?rh ?re; (case rh => assumption); (case re => exact rfl)) | (refine' room_ok0 ?rh ?re; (case rh => assumption); (case re => exact rfl)) | ktr_units)
                case m17 => exact (dm 3 (List.mem_append_right _ (dm 7 (.head _))))
                case m18 => exact (dm 3 (List.mem_append_right _ (dm 6 (.head _))))
                intro r8 h8 tk8 k8 F8 N8 e8
                obtain ⟨t8, e8⟩ := e8
                subst e8
                repeat' (first | (k_unfold; (try dsimp only)) | walk1 | (dsimp only; walk1))
                refine Halt.mk ?_
                obtain ⟨k6, hk6, hk32, hdig⟩ := i2d_ok hR9
                refine' use_spec (spec_i2d w (Mine.num r) _ hR9.num.1 6 _ (by decide) k6 hk6 hk32 cI) B F8 N8 X T rfl rfl rfl (warm_news F8 N8 c2 ?m19 ?m20 d3 d4) ?udK ?uuK ?_
                case udK => (first | (refine' room_ok ?rh ?re; (case rh => assumption); (case re => exact rfl)) | (refine' room_ok0 ?rh ?re; (case rh => assumption); (case re => exact rfl)) | ktr_room)
                case uuK => (first | (refine' room_ok ?rh ?re; (case rh => assumption); (case re => exact rfl)) | (refine' room_ok0 ?rh ?re; (case rh => assumption); (case re => exact rfl)) | ktr_units)
                case m19 => exact (dm 3 (List.mem_append_right _ (dm 1 (.head _))))
                case m20 => exact (dm 3 (List.mem_append_right _ (.head _)))
                intro r7 h7 tk7 k7 F7 N7 e7
                rw [hdig] at e7
                exact Halt.mk ⟨_, _, rfl, fun b o e => k7 _ _ (k8 _ _ e), _, by rw [List.getElem?_map, hr9]; rfl, new_back k8 e7⟩
              case fin7 =>
                clear hg9 hC9 hU hm hr9 hR9 F8 N8 k7 k8 F7 z z2 N3 F3 off ne hx hv hC haN haN' hgN hIN hdig hk6 hk32
                intro ysI T3 ss hsl hss RI LI D4 h9 tk9 F9 N9 _
                have e := rows_det (rs' := rs.map fun r => bareL 0 r.reverse) (by rw [hsl, List.length_map]) hss
                rw [e] at RI
                have N4 : News g L h9 ((D4, listObj ysI ysI.length) :: (L + 1 + 1, oA1) :: (D3, listObj ysT ysT.length) :: (L + 1, oB1) :: (D1, listObj ysR ysR.length) :: (c9, oc) :: (44, tabObj #[rawInt (50 : Nat), rawInt (4 : Nat), .ref c9]) :: (cI, oc7) :: (37, tabObj #[rawInt (35 : Nat), rawInt (4 : Nat), .ref cI]) :: (T3 ++ T1)) := news_sub N9 (forall_cons (.head _) (forall_cons (dm 1 (List.mem_append_right _ (dm 2 (.head _)))) (forall_cons (dm 1 (List.mem_append_right _ (dm 3 (.head _)))) (forall_cons (dm 1 (List.mem_append_right _ (dm 4 (.head _)))) (forall_cons (dm 1 (List.mem_append_right _ (dm 5 (.head _)))) (forall_cons (dm 1 (List.mem_append_right _ (dm 6 (.head _)))) (forall_cons (dm 1 (List.mem_append_right _ (dm 7 (.head _)))) (forall_cons (dm 1 (List.mem_append_right _ (.head _))) (forall_cons (dm 1 (List.mem_append_right _ (dm 1 (.head _)))) (forall_app (fun _ hp => (dm 1 (List.mem_append_left _ hp))) (fun _ hp => (dm 1 (List.mem_append_right _ (dm 8 hp))))))))))))))
                clear N9 hsl hss e
                repeat' (first | (k_unfold; (try dsimp only)) | walk1 | (dsimp only; walk1))
                refine Halt.mk ?_
                rename Fr _ _ _ _ => F2
                rename News _ _ _ _ => N2
                refine LCg.ListComp_U F2 (by with_unfolding_all rfl) (by decide) (by rfl) (by decide) (by rfl) ?_
                repeat' (first | (k_unfold; (try dsimp only)) | walk1 | (dsimp only; walk1))
                refine Halt.mk ?_
                refine' LCg.CompSrc.ledger rfl F2 N2 ?m21 hRz ?_
                case m21 => k_mem
                intro gX8
                refine' comp_rows (n := ysR.toArray.size) (fun i r' => (rs.map fun r => bareL 0 r.reverse)[i]? = some r') ?hS8 ?turn8 ?fin8 _ 0 [] [] [] (Nat.zero_add _) rfl (fun _ _ h => by cases h) trivial Lists.nil
                case hS8 => exact fun made => .inr ⟨_, List.mem_append_right _ (by k_mem), rfl, _, rfl⟩
                case turn8 =>
                  intro i v I oI C oC D m₂ ys made h tk E' hi hv hC hx F3 N3
                  obtain ⟨aR, us, un9, r, e, hr9, hm, hU⟩ := RT.at i (arr_at hv)
                  subst e
                  have hR9 := hrow' r (List.mem_of_getElem? hr9)
                  have hC9 := hC.ns (N3 (C, oC) (dm 1 (.head _))).1
                  have hg9 := (N3 (aR, listObj us un9) (dm 3 (List.mem_append_right _ (dm 9 (List.mem_append_right _ hm))))).1
                  have hl9 : h.IsList aR us.toArray := ⟨_, hg9, rfl, _, rfl⟩
                  have huz : us.toArray.size ≤ sizeLine := by
                    rw [List.size_toArray, hU.length, sizeLine_eq]
                    exact Nat.le_trans hR9.le32 (by decide)
                  repeat' (first | (k_unfold; (try dsimp only)) | walk1 | (dsimp only; walk1))
                  refine Halt.mk ?_
                  refine rev_tail hl9 (.int _ _) huz ?_ (by with_unfolding_all rfl) (by intro _; with_unfolding_all rfl)
                  intro Dv h5 nv k5 hDn hDv
                  have F5 : Fr g L h5 _ := F3.keeps k5
                  have N5 : News g L h5 _ := N3.grown k5
                  repeat' (first | (k_unfold; (try dsimp only)) | walk1 | (dsimp only; walk1))
                  refine Halt.mk ?_
                  refine' use_spec (spec_bare w Dv us.reverse r.reverse (ints_rev hU) (by rw [List.length_reverse]; exact Nat.le_trans hR9.le32 (by decide)) 0 _) B F5 N5 X T rfl rfl rfl ⟨_, hDv, rfl, _, rfl⟩ ?udL ?uuL ?_
                  case udL => (first | (refine' room_ok ?rh ?re; (case rh => assumption); (case re => exact rfl)) | (refine' room_ok0 ?rh ?re; (case rh => assumption); (case re => exact rfl)) | ktr_room)
                  case uuL => (first | (refine' room_ok ?rh ?re; (case rh => assumption); (case re => exact rfl)) | (refine' room_ok0 ?rh ?re; (case rh => assumption); (case re => exact rfl)) | ktr_units)
                  intro r8 h8 tk8 k8 F8 N8 e8
                  exact Halt.mk ⟨_, _, rfl, fun b o e => k8 _ _ (k5 _ _ e), _, by rw [List.getElem?_map, hr9]; rfl, new_back k5 e8⟩
                case fin8 =>
                  intro ysB T4 ss hsl hss RB LB D5 h9 tk9 F9 N9 _
                  have e := rows_det (rs' := rs.map fun r => bareL 0 r.reverse) (by rw [hsl, List.size_toArray, RT.length, List.length_map]) hss
                  rw [e] at RB
                  have N4 : News g L h9 ((D5, listObj ysB ysB.length) :: (D4, listObj ysI ysI.length) :: (L + 1 + 1, oA1) :: (D3, listObj ysT ysT.length) :: (L + 1, oB1) :: (D1, listObj ysR ysR.length) :: (c9, oc) :: (44, tabObj #[rawInt (50 : Nat), rawInt (4 : Nat), .ref c9]) :: (cI, oc7) :: (37, tabObj #[rawInt (35 : Nat), rawInt (4 : Nat), .ref cI]) :: (T4 ++ (T3 ++ T1))) := news_sub N9 (forall_cons (.head _) (forall_cons (dm 1 (List.mem_append_right _ (.head _))) (forall_cons (dm 1 (List.mem_append_right _ (dm 1 (.head _)))) (forall_cons (dm 1 (List.mem_append_right _ (dm 2 (.head _)))) (forall_cons (dm 1 (List.mem_append_right _ (dm 3 (.head _)))) (forall_cons (dm 1 (List.mem_append_right _ (dm 4 (.head _)))) (forall_cons (dm 1 (List.mem_append_right _ (dm 5 (.head _)))) (forall_cons (dm 1 (List.mem_append_right _ (dm 6 (.head _)))) (forall_cons (dm 1 (List.mem_append_right _ (dm 7 (.head _)))) (forall_cons (dm 1 (List.mem_append_right _ (dm 8 (.head _)))) (forall_app (fun _ hp => (dm 1 (List.mem_append_left _ hp))) (fun _ hp => (dm 1 (List.mem_append_right _ (dm 9 hp)))))))))))))))
                  clear N9 hsl hss e F2 N2
                  repeat' (first | (k_unfold; (try dsimp only)) | walk1 | (dsimp only; walk1))
                  refine Halt.mk ?_
                  rename Fr _ _ _ _ => F2
                  rename News _ _ _ _ => N2
                  refine' ne_rows (rs := rs.map fun r => bareL 0 r.reverse) (N2.get ?ec) (N2.get ?ed) (RI.here N2 ?kc) (RB.here N2 ?kd) (by (first | (refine' room_ok ?rh ?re; (case rh => assumption); (case re => exact rfl)) | (refine' room_ok0 ?rh ?re; (case rh => assumption); (case re => exact rfl)) | ke_room)) ?_
                  case ec => k_mem
                  case ed => k_mem
                  case kc => exact (fun _ hp => (dm 10 (List.mem_append_right _ (List.mem_append_left _ hp))))
                  case kd => exact (fun _ hp => (dm 10 (List.mem_append_left _ hp)))
                  have N4 : News g L _ ((L + 1 + 1, oA1) :: (D3, listObj ysT ysT.length) :: (L + 1, oB1) :: (D1, listObj ysR ysR.length) :: (c9, oc) :: (44, tabObj #[rawInt (50 : Nat), rawInt (4 : Nat), .ref c9]) :: (cI, oc7) :: (37, tabObj #[rawInt (35 : Nat), rawInt (4 : Nat), .ref cI]) :: T1) := news_sub N2 (forall_cons (dm 2 (.head _)) (forall_cons (dm 3 (.head _)) (forall_cons (dm 4 (.head _)) (forall_cons (dm 5 (.head _)) (forall_cons (dm 6 (.head _)) (forall_cons (dm 7 (.head _)) (forall_cons (dm 8 (.head _)) (forall_cons (dm 9 (.head _)) (fun _ hp => (dm 10 (List.mem_append_right _ (List.mem_append_right _ hp))))))))))))
                  clear N2
                  repeat' (first | (k_unfold; (try dsimp only)) | walk1 | (dsimp only; walk1))
                  refine Halt.mk ?_
                  rename Fr _ _ _ _ => F2
                  rename News _ _ _ _ => N2
                  refine wpAny_ListComp_free (fun _ => false) (fun _ _ => True) (by with_unfolding_all rfl) (by decide) (by rfl) (by decide) (by rfl) ?_
                  repeat' (first | (k_unfold; (try dsimp only)) | walk1 | (dsimp only; walk1))
                  refine Halt.mk ?_
                  rename Fr _ _ _ _ => F3
                  rename News _ _ _ _ => N3
                  refine len_list ⟨_, N3.get (by k_mem), rfl, _, rfl⟩ (by rw [List.size_toArray, RT.length]; have h2 : (2 : Int) ^ 63 = 9223372036854775808 := rfl; omega) ?_
                  rw [List.size_toArray, RT.length]
                  repeat' (first | (k_unfold; (try dsimp only)) | walk1 | (dsimp only; walk1))
                  refine Halt.mk ?_
                  rename IsRange _ _ _ _ _ _ _ _ => R2
                  rename Fr _ _ _ _ => F3
                  rename News _ _ _ _ => N3
                  refine wpAny_pyIter_range R2 (small_one (by omega) (by omega) (by omega) (by omega)) ?_
                  rw [rangeSize_nat]
                  refine ⟨_, [_], [_], rs.length, _, _, rfl, (Walks.range rfl _ 0 1 rs.length).bound, ?sz9, ?st9, ?fp9, ⟨?tests9, ?elt9⟩, ?fin9⟩
                  case sz9 => rw [sizeLine_eq]; exact Nat.le_trans hrl.1 (by decide)
                  case st9 =>
                    show (Heap.push _ _).get? _ = some _
                    rw [Heap.get?_push_size _ rfl]
                    congr 3
                  case fp9 =>
                    intro b hb
                    rw [List.mem_singleton.mp hb]
                    show _ < (Heap.push _ _).objs.size
                    rw [Heap.size_push]; exact Nat.lt_succ_self _
                  case tests9 =>
                    intro C i v s₃ m₃ E' hC hP hn hm hk ht
                    obtain ⟨hi, t3, e⟩ := hP
                    subst e
                    have F4 := fr_but1 F3 hk
                    have N4 := news_but1 N3 hk
                    refine wpAny_mono (Q := fun ok s₄ => Halt (ok = false ∧ Keeps s₃ s₄)) ?_ (fun _ _ h => h.out) fun _ _ e => e
                    refine wpAny_tests_one ?_
                    repeat' (first | (k_unfold; (try dsimp only)) | walk1 | (dsimp only; walk1))
                    refine Halt.mk ?_
                    obtain ⟨v9, hv9⟩ : ∃ v, ysR[i]? = some v := ⟨_, List.getElem?_eq_getElem (by rw [RT.length]; exact hi)⟩
                    obtain ⟨aR, us, un9, r, e, hr9, hm, hU⟩ := RT.at i hv9
                    subst e
                    obtain ⟨v8, hv8⟩ : ∃ v, ysT[i]? = some v := ⟨_, List.getElem?_eq_getElem (by rw [hTl]; exact hi)⟩
                    obtain ⟨r', x, t, hr8, e, hcx⟩ := hT i v8 hv8
                    subst e
                    have er := Option.some.inj (hr8.symm.trans hr9)
                    subst er
                    have hR9 := hrow' r' (List.mem_of_getElem? hr9)
                    have hrs := row_signs hR9
                    rw [← hcx] at hrs
                    refine item_here (vs := ysR) (i := i) ⟨_, N4.get (by k_mem), rfl, _, rfl⟩ (by rw [RT.length]; exact Nat.le_trans hrl.1 (by decide)) (by rw [RT.length]; exact hi) (by omega) hv9 ?_ (by with_unfolding_all rfl) (by intro _; with_unfolding_all rfl)
                    repeat' (first | (k_unfold; (try dsimp only)) | walk1 | (dsimp only; walk1))
                    refine Halt.mk ?_
                    refine item_here (vs := ysT) (i := i) ⟨_, N4.get (by k_mem), rfl, _, rfl⟩ (by rw [hTl]; exact Nat.le_trans hrl.1 (by decide)) (by rw [hTl]; exact hi) (by omega) hv8 ?_ (by with_unfolding_all rfl) (by intro _; with_unfolding_all rfl)
                    repeat' (first | (k_unfold; (try dsimp only)) | walk1 | (dsimp only; walk1))
                    refine Halt.mk ?_
                    refine' use_spec (spec_cut w aR us r' x _ hU hR9 hrs.1 hrs.2 c9 cI) B F4 N4 X T rfl rfl rfl ⟨⟨_, (N4 (aR, listObj us un9) ?m22).1, rfl, _, rfl⟩, warm_news F4 N4 c1 ?m23 ?m24 d1 d2, warm_news F4 N4 c2 ?m25 ?m26 d3 d4⟩ ?udM ?uuM ?_
                    case udM => (first | (refine' room_ok ?rh ?re; (case rh => assumption); (case re => exact rfl)) | (refine' room_ok0 ?rh ?re; (case rh => assumption); (case re => exact rfl)) | ktr_room)
                    case uuM => (first | (refine' room_ok ?rh ?re; (case rh => assumption); (case re => exact rfl)) | (refine' room_ok0 ?rh ?re; (case rh => assumption); (case re => exact rfl)) | ktr_units)
                    case m22 => simp [hm]
                    case m23 => k_mem
                    case m24 => k_mem
                    case m25 => k_mem
                    case m26 => k_mem
                    intro r8 h8 tk8 k8 F8 N8 e8
                    subst e8
                    repeat' (first | (k_unfold; (try dsimp only)) | walk1 | (dsimp only; walk1))
                    exact Halt.mk ⟨rfl, _, _, rfl, k8⟩
                  case elt9 =>
                    intro C i v s₃ m₃ E' hC hP hp
                    cases hp
                  case fin9 =>
                    intro D5 h' tk' zs vs' hnew hlD hplD hlen hP hF hk
                    rw [filter_false] at hF
                    have hz := Mine.Paired.nil_inv hF
                    obtain ⟨F4, n4, N4⟩ := after_free F3 N3 hnew hplD hk
                    rw [hz] at N4
                    clear F3 N3
                    repeat' (first | (k_unfold; (try dsimp only)) | walk1 | (dsimp only; walk1))
                    refine Halt.mk ?_
                    rename Fr _ _ _ _ => F2
                    rename News _ _ _ _ => N2
                    refine ne_ints (N2.get (by k_mem)) (N2.get (by k_mem)) .nil .nil (by (first | (refine' room_ok ?rh ?re; (case rh => assumption); (case re => exact rfl)) | (refine' room_ok0 ?rh ?re; (case rh => assumption); (case re => exact rfl)) | ke_room)) ?_
                    have d0 : decide (([] : List Int) ≠ []) = false := rfl
                    rw [d0]
                    have N4 : News g L _ ((L + 1 + 1, oA1) :: (D3, listObj ysT ysT.length) :: (L + 1, oB1) :: (D1, listObj ysR ysR.length) :: (c9, oc) :: (44, tabObj #[rawInt (50 : Nat), rawInt (4 : Nat), .ref c9]) :: (cI, oc7) :: (37, tabObj #[rawInt (35 : Nat), rawInt (4 : Nat), .ref cI]) :: T1) := news_sub N2 (fun _ hp => (dm 2 hp))
                    clear N2
                    repeat' (first | (k_unfold; (try dsimp only)) | walk1 | (dsimp only; walk1))
                    refine Halt.mk ?_
                    rename Fr _ _ _ _ => F2
                    rename News _ _ _ _ => N2
                    have hrz : ((rs.length : Nat) : Int) < 2 ^ 63 := by have h2 : (2 : Int) ^ 63 = 9223372036854775808 := rfl; omega
                    have hrs8 : rs.length ≤ sizeLine := by rw [sizeLine_eq]; exact Nat.le_trans hrl.1 (by decide)
                    refine len_list ⟨_, N2.get (by k_mem), rfl, _, rfl⟩ (by rw [List.size_toArray, RT.length]; exact hrz) ?_
                    rw [List.size_toArray, RT.length]
                    repeat' (first | (k_unfold; (try dsimp only)) | walk1 | (dsimp only; walk1))
                    refine Halt.mk ?_
                    rename IsRange _ _ _ _ _ _ _ _ => R2
                    rename Fr _ _ _ _ => F2
                    rename News _ _ _ _ => N2
                    refine LCg.CompSrc.range rfl F2 N2 R2 (small_one (by omega) (by omega) (by omega) (by omega)) (rangeSize_nat _ _) hrs8 ?_
                    intro gX9
                    refine' comp_rows (n := rs.length) (fun i j => ∃ r1 r2, rs[prev rs.length i]? = some r1 ∧ rs[i]? = some r2 ∧ j = joinRow r1 r2) ?hS10 ?turn10 ?fin10 _ 0 [] [] [] (Nat.zero_add _) rfl (fun _ _ h => by cases h) trivial Lists.nil
                    case hS10 => exact fun _ => trivial
                    case turn10 =>
                      intro i v I oI C oC D m₂ ys made h tk E' hi hv hC hx F3 N3
                      obtain ⟨t3, e⟩ := hv
                      subst e
                      have hC9 := hC.ns (N3 (C, oC) (dm 1 (.head _))).1
                      obtain ⟨v9, hv9⟩ : ∃ v, ysT[i]? = some v := ⟨_, List.getElem?_eq_getElem (by rw [hTl]; exact hi)⟩
                      obtain ⟨r2, x2, t2, hr2, e, hc2⟩ := hT i v9 hv9
                      subst e
                      obtain ⟨v8, hv8⟩ : ∃ v, ysT[prev rs.length i]? = some v := ⟨_, List.getElem?_eq_getElem (by rw [hTl]; exact prev_lt hi)⟩
                      obtain ⟨r1, x1, t1, hr1, e, hc1⟩ := hT _ v8 hv8
                      subst e
                      have hR1 := hrow' r1 (List.mem_of_getElem? hr1)
                      have hR2 := hrow' r2 (List.mem_of_getElem? hr2)
                      obtain ⟨jx, jy, jl, jok, jm⟩ := join_ok hR1 hR2 hc1 hc2
                      have hTg := (N3 (D3, listObj ysT ysT.length) (dm 3 (List.mem_append_right _ (dm 1 (.head _))))).1
                      have N4 : News g L h ((I, oI) :: (C, oC) :: (D, LCg.lst ys) :: (L + 1 + 1, oA1) :: (D3, listObj ysT ysT.length) :: (made ++ T1)) := news_sub N3 (forall_cons (.head _) (forall_cons (dm 1 (.head _)) (forall_cons (dm 2 (.head _)) (forall_cons (dm 3 (List.mem_append_right _ (.head _))) (forall_cons (dm 3 (List.mem_append_right _ (dm 1 (.head _)))) (forall_app (fun _ hp => (dm 3 (List.mem_append_left _ hp))) (fun _ hp => (dm 3 (List.mem_append_right _ (dm 8 hp))))))))))
                      clear N3
                      repeat' (first | (k_unfold; (try dsimp only)) | walk1 | (dsimp only; walk1))
                      refine Halt.mk ?_
                      refine item_prev (vs := ysT) (i := i) ⟨_, hTg, rfl, _, rfl⟩ (by rw [hTl]; exact Nat.le_trans hrl.1 (by decide)) (by rw [hTl]; exact hi) (by omega) (by rw [hTl]; exact hv8) ?_ (by with_unfolding_all rfl) (by intro _; with_unfolding_all rfl)
                      repeat' (first | (k_unfold; (try dsimp only)) | walk1 | (dsimp only; walk1))
                      refine Halt.mk ?_
                      refine item_here (vs := ysT) (i := i) ⟨_, hTg, rfl, _, rfl⟩ (by rw [hTl]; exact Nat.le_trans hrl.1 (by decide)) (by rw [hTl]; exact hi) (by omega) hv9 ?_ (by with_unfolding_all rfl) (by intro _; with_unfolding_all rfl)
                      repeat' (first | (k_unfold; (try dsimp only)) | walk1 | (dsimp only; walk1))
                      refine Halt.mk ?_
                      refine' use_spec (spec_join w x1 x2 _ _ jx jy) B F3 N4 X T rfl rfl rfl trivial ?udN ?uuN ?_
                      case udN => (first | (refine' room_ok ?rh ?re; (case rh => assumption); (case re => exact rfl)) | (refine' room_ok0 ?rh ?re; (case rh => assumption); (case re => exact rfl)) | ktr_room)
                      case uuN => (first | (refine' room_ok ?rh ?re; (case rh => assumption); (case re => exact rfl)) | (refine' room_ok0 ?rh ?re; (case rh => assumption); (case re => exact rfl)) | ktr_units)
                      intro r8 h8 tk8 k8 F8 N8 e8
                      obtain ⟨t8, e8⟩ := e8
                      subst e8
                      repeat' (first | (k_unfold; (try dsimp only)) | walk1 | (dsimp only; walk1))
                      refine Halt.mk ?_
                      refine' use_spec (spec_signs w (joinOf x1 x2) _ jl jok) B F8 N8 X T rfl rfl rfl trivial ?udO ?uuO ?_
                      case udO => (first | (refine' room_ok ?rh ?re; (case rh => assumption); (case re => exact rfl)) | (refine' room_ok0 ?rh ?re; (case rh => assumption); (case re => exact rfl)) | ktr_room)
                      case uuO => (first | (refine' room_ok ?rh ?re; (case rh => assumption); (case re => exact rfl)) | (refine' room_ok0 ?rh ?re; (case rh => assumption); (case re => exact rfl)) | ktr_units)
                      intro r7 h7 tk7 k7 F7 N7 e7
                      rw [jm] at e7
                      exact Halt.mk ⟨_, _, rfl, fun b o e => k7 _ _ (k8 _ _ e), _, ⟨r1, r2, hr1, hr2, rfl⟩, new_back k8 e7⟩
                    case fin10 =>
                      intro ysJ T4 js hjl hjs RJ LJ D6 h9 tk9 F9 N9 _
                      have N4 : News g L h9 ((D6, listObj ysJ ysJ.length) :: (L + 1, oB1) :: (D1, listObj ysR ysR.length) :: (c9, oc) :: (44, tabObj #[rawInt (50 : Nat), rawInt (4 : Nat), .ref c9]) :: (37, tabObj #[rawInt (35 : Nat), rawInt (4 : Nat), .ref cI]) :: (T4 ++ T1)) := news_sub N9 (forall_cons (.head _) (forall_cons (dm 1 (List.mem_append_right _ (dm 2 (.head _)))) (forall_cons (dm 1 (List.mem_append_right _ (dm 3 (.head _)))) (forall_cons (dm 1 (List.mem_append_right _ (dm 4 (.head _)))) (forall_cons (dm 1 (List.mem_append_right _ (dm 5 (.head _)))) (forall_cons (dm 1 (List.mem_append_right _ (dm 7 (.head _)))) (forall_app (fun _ hp => (dm 1 (List.mem_append_left _ hp))) (fun _ hp => (dm 1 (List.mem_append_right _ (dm 8 hp)))))))))))
                      clear N9 F2 N2 R2
                      repeat' (first | (k_unfold; (try dsimp only)) | walk1 | (dsimp only; walk1))
                      refine Halt.mk ?_
                      rename Fr _ _ _ _ => F2
                      rename News _ _ _ _ => N2
                      refine LCg.ListComp_U F2 (by with_unfolding_all rfl) (by decide) (by rfl) (by decide) (by rfl) ?_
                      repeat' (first | (k_unfold; (try dsimp only)) | walk1 | (dsimp only; walk1))
                      refine Halt.mk ?_
                      have hJz : ysJ.toArray.size ≤ sizeLine := by rw [List.size_toArray, RJ.length, hjl]; exact hrs8
                      refine' LCg.CompSrc.ledger rfl F2 N2 ?m27 hJz ?_
                      case m27 => k_mem
                      intro gX10
                      refine' comp_rows (n := ysJ.toArray.size) (fun i r' => (js.map numLen)[i]? = some r') ?hS11 ?turn11 ?fin11 _ 0 [] [] [] (Nat.zero_add _) rfl (fun _ _ h => by cases h) trivial Lists.nil
                      case hS11 => exact fun made => .inr ⟨_, List.mem_append_right _ (by k_mem), rfl, _, rfl⟩
                      case turn11 =>
                        intro i v I oI C oC D m₂ ys made h tk E' hi hv hC hx F3 N3
                        obtain ⟨aJ, us, un9, j, e, hj9, hm, hU⟩ := RJ.at i (arr_at hv)
                        subst e
                        obtain ⟨r1, r2, hr1, hr2, ej⟩ := hjs i j hj9
                        have hR1 := hrow' r1 (List.mem_of_getElem? hr1)
                        have hR2 := hrow' r2 (List.mem_of_getElem? hr2)
                        have hjl' : j.length ≤ 17 := ej ▸ joinRow_len hR1 hR2
                        have hjp : Pl j := ej ▸ joinRow_pl hR1 hR2
                        have hC9 := hC.ns (N3 (C, oC) (dm 1 (.head _))).1
                        have hg9 := (N3 (aJ, listObj us un9) (dm 3 (List.mem_append_right _ (dm 6 (List.mem_append_left _ hm))))).1
                        repeat' (first | (k_unfold; (try dsimp only)) | walk1 | (dsimp only; walk1))
                        refine Halt.mk ?_
                        refine' use_spec (spec_number w aJ us j hU (Nat.le_trans hjl' (by decide)) hjp c9) B F3 N3 X T rfl rfl rfl ⟨⟨_, hg9, rfl, _, rfl⟩, warm_news F3 N3 c1 ?m28 ?m29 d1 d2⟩ ?udP ?uuP ?_
                        case udP => (first | (refine' room_ok ?rh ?re; (case rh => assumption); (case re => exact rfl)) | (refine' room_ok0 ?rh ?re; (case rh => assumption); (case re => exact rfl)) | ktr_room)
                        case uuP => (first | (refine' room_ok ?rh ?re; (case rh => assumption); (case re => exact rfl)) | (refine' room_ok0 ?rh ?re; (case rh => assumption); (case re => exact rfl)) | ktr_units)
                        case m28 => exact (dm 3 (List.mem_append_right _ (dm 4 (.head _))))
                        case m29 => exact (dm 3 (List.mem_append_right _ (dm 3 (.head _))))
                        intro r8 h8 tk8 k8 F8 N8 e8
                        obtain ⟨t8, e8⟩ := e8
                        subst e8
                        have hC8 := hC.ns (N8 (C, oC) (dm 1 (.head _))).1
                        repeat' (first | (k_unfold; (try dsimp only)) | walk1 | (dsimp only; walk1))
                        refine Halt.mk ?_
                        refine len_list ⟨_, k8 _ _ hg9, rfl, _, rfl⟩ (by rw [List.size_toArray, hU.length]; have h2 : (2 : Int) ^ 63 = 9223372036854775808 := rfl; omega) ?_
                        rw [List.size_toArray, hU.length]
                        repeat' (first | (k_unfold; (try dsimp only)) | walk1 | (dsimp only; walk1))
                        refine Halt.mk ?_
                        refine wpAny_newList ?_ (Nat.le_of_ble_eq_true rfl)
                        refine Halt.mk ⟨_, _, rfl, fun b o e => Heap.get?_push_of_some _ (k8 _ _ e), _, by rw [List.getElem?_map, hj9]; rfl, new_back k8 ⟨_, _, 0, rfl, Heap.get?_none_of_le (Nat.le_refl _), Heap.get?_push_size _ rfl, .cons _ _ (.cons _ _ .nil)⟩⟩
                      case fin11 =>
                        intro ysL T5 ss hsl hss RL LL D7 h9 tk9 F9 N9 _
                        have e := rows_det (rs' := js.map numLen) (by rw [hsl, List.size_toArray, RJ.length, List.length_map]) hss
                        rw [e] at RL
                        have N4 : News g L h9 ((D7, listObj ysL ysL.length) :: (L + 1, oB1) :: (D1, listObj ysR ysR.length) :: (c9, oc) :: (44, tabObj #[rawInt (50 : Nat), rawInt (4 : Nat), .ref c9]) :: (37, tabObj #[rawInt (35 : Nat), rawInt (4 : Nat), .ref cI]) :: (T5 ++ T1)) := news_sub N9 (forall_cons (.head _) (forall_cons (dm 1 (List.mem_append_right _ (dm 1 (.head _)))) (forall_cons (dm 1 (List.mem_append_right _ (dm 2 (.head _)))) (forall_cons (dm 1 (List.mem_append_right _ (dm 3 (.head _)))) (forall_cons (dm 1 (List.mem_append_right _ (dm 4 (.head _)))) (forall_cons (dm 1 (List.mem_append_right _ (dm 5 (.head _)))) (forall_app (fun _ hp => (dm 1 (List.mem_append_left _ hp))) (fun _ hp => (dm 1 (List.mem_append_right _ (dm 6 (List.mem_append_right _ hp))))))))))))
                        clear N9 hsl hss e F2 N2
                        repeat' (first | (k_unfold; (try dsimp only)) | walk1 | (dsimp only; walk1))
                        refine Halt.mk ?_
                        rename Fr _ _ _ _ => F2
                        rename News _ _ _ _ => N2
                        refine LCg.ListComp_U F2 (by with_unfolding_all rfl) (by decide) (by rfl) (by decide) (by rfl) ?_
                        repeat' (first | (k_unfold; (try dsimp only)) | walk1 | (dsimp only; walk1))
                        refine Halt.mk ?_
                        rename Fr _ _ _ _ => F2
                        rename News _ _ _ _ => N2
                        refine len_list ⟨_, N2.get (by k_mem), rfl, _, rfl⟩ (by rw [List.size_toArray, RT.length]; exact hrz) ?_
                        rw [List.size_toArray, RT.length]
                        repeat' (first | (k_unfold; (try dsimp only)) | walk1 | (dsimp only; walk1))
                        refine Halt.mk ?_
                        rename IsRange _ _ _ _ _ _ _ _ => R2
                        rename Fr _ _ _ _ => F2
                        rename News _ _ _ _ => N2
                        refine LCg.CompSrc.range rfl F2 N2 R2 (small_one (by omega) (by omega) (by omega) (by omega)) (rangeSize_nat _ _) hrs8 ?_
                        intro gX11
                        refine' comp_rows (n := rs.length) (fun i r' => (js.map numLen)[i]? = some r') ?hS12 ?turn12 ?fin12 _ 0 [] [] [] (Nat.zero_add _) rfl (fun _ _ h => by cases h) trivial Lists.nil
                        case hS12 => exact fun _ => trivial
                        case turn12 =>
                          intro i v I oI C oC D m₂ ys made h tk E' hi hv hC hx F3 N3
                          obtain ⟨t3, e⟩ := hv
                          subst e
                          have hC9 := hC.ns (N3 (C, oC) (dm 1 (.head _))).1
                          obtain ⟨v9, hv9⟩ : ∃ v, ysR[i]? = some v := ⟨_, List.getElem?_eq_getElem (by rw [RT.length]; exact hi)⟩
                          obtain ⟨a2, us2, un2, r2, e, hr2, hm2, hU2⟩ := RT.at i hv9
                          subst e
                          obtain ⟨v8, hv8⟩ : ∃ v, ysR[prev rs.length i]? = some v := ⟨_, List.getElem?_eq_getElem (by rw [RT.length]; exact prev_lt hi)⟩
                          obtain ⟨a1, us1, un1, r1, e, hr1, hm1, hU1⟩ := RT.at _ hv8
                          subst e
                          have hR1 := hrow' r1 (List.mem_of_getElem? hr1)
                          have hR2 := hrow' r2 (List.mem_of_getElem? hr2)
                          have hjq : (js.map numLen)[i]? = some (joinedN r1 r2) := by
                            obtain ⟨q, hq⟩ : ∃ q, js[i]? = some q := ⟨_, List.getElem?_eq_getElem (by rw [hjl]; exact hi)⟩
                            obtain ⟨s1, s2, hs1, hs2, eq⟩ := hjs i q hq
                            rw [hr1] at hs1
                            rw [hr2] at hs2
                            cases hs1
                            cases hs2
                            rw [List.getElem?_map, hq, eq, joined_eq]
                            rfl
                          have hRg := (N3 (D1, listObj ysR ysR.length) (dm 3 (List.mem_append_right _ (dm 2 (.head _))))).1
                          have hg1 := (N3 (a1, listObj us1 un1) (dm 3 (List.mem_append_right _ (dm 6 (List.mem_append_right _ hm1))))).1
                          have hg2 := (N3 (a2, listObj us2 un2) (dm 3 (List.mem_append_right _ (dm 6 (List.mem_append_right _ hm2))))).1
                          have hW : W44 c9 h := warm_news F3 N3 c1 (dm 3 (List.mem_append_right _ (dm 4 (.head _)))) (dm 3 (List.mem_append_right _ (dm 3 (.head _)))) d1 d2
                          have N4 : News g L h ((I, oI) :: (C, oC) :: (D, LCg.lst ys) :: (L + 1, oB1) :: (D1, listObj ysR ysR.length) :: (made ++ T1)) := news_sub N3 (forall_cons (.head _) (forall_cons (dm 1 (.head _)) (forall_cons (dm 2 (.head _)) (forall_cons (dm 3 (List.mem_append_right _ (dm 1 (.head _)))) (forall_cons (dm 3 (List.mem_append_right _ (dm 2 (.head _)))) (forall_app (fun _ hp => (dm 3 (List.mem_append_left _ hp))) (fun _ hp => (dm 3 (List.mem_append_right _ (dm 6 (List.mem_append_right _ hp)))))))))))
                          clear N3
                          repeat' (first | (k_unfold; (try dsimp only)) | walk1 | (dsimp only; walk1))
                          refine Halt.mk ?_
                          refine item_prev (vs := ysR) (i := i) ⟨_, hRg, rfl, _, rfl⟩ (by rw [RT.length]; exact Nat.le_trans hrl.1 (by decide)) (by rw [RT.length]; exact hi) (by omega) (by rw [RT.length]; exact hv8) ?_ (by with_unfolding_all rfl) (by intro _; with_unfolding_all rfl)
                          repeat' (first | (k_unfold; (try dsimp only)) | walk1 | (dsimp only; walk1))
                          refine Halt.mk ?_
                          refine item_here (vs := ysR) (i := i) ⟨_, hRg, rfl, _, rfl⟩ (by rw [RT.length]; exact Nat.le_trans hrl.1 (by decide)) (by rw [RT.length]; exact hi) (by omega) hv9 ?_ (by with_unfolding_all rfl) (by intro _; with_unfolding_all rfl)
                          repeat' (first | (k_unfold; (try dsimp only)) | walk1 | (dsimp only; walk1))
                          refine Halt.mk ?_
                          refine' use_spec (spec_joined w a1 a2 us1 us2 r1 r2 hU1 hU2 hR1 hR2 c9) B F3 N4 X T rfl rfl rfl ⟨⟨_, hg1, rfl, _, rfl⟩, ⟨_, hg2, rfl, _, rfl⟩, hW⟩ ?udQ ?uuQ ?_
                          case udQ => (first | (refine' room_ok ?rh ?re; (case rh => assumption); (case re => exact rfl)) | (refine' room_ok0 ?rh ?re; (case rh => assumption); (case re => exact rfl)) | ktr_room)
                          case uuQ => (first | (refine' room_ok ?rh ?re; (case rh => assumption); (case re => exact rfl)) | (refine' room_ok0 ?rh ?re; (case rh => assumption); (case re => exact rfl)) | ktr_units)
                          intro r8 h8 tk8 k8 F8 N8 e8
                          exact Halt.mk ⟨_, _, rfl, k8, _, hjq, e8⟩
                        case fin12 =>
                          intro ysM T6 ss hsl hss RM LM D8 h9 tk9 F9 N9 _
                          have e := rows_det (rs' := js.map numLen) (by rw [hsl, List.length_map, hjl]) hss
                          rw [e] at RM
                          have N4 : News g L h9 ((D8, listObj ysM ysM.length) :: (D7, listObj ysL ysL.length) :: (44, tabObj #[rawInt (50 : Nat), rawInt (4 : Nat), .ref c9]) :: (37, tabObj #[rawInt (35 : Nat), rawInt (4 : Nat), .ref cI]) :: (T6 ++ (T5 ++ T1))) := news_sub N9 (forall_cons (.head _) (forall_cons (dm 1 (List.mem_append_right _ (.head _))) (forall_cons (dm 1 (List.mem_append_right _ (dm 4 (.head _)))) (forall_cons (dm 1 (List.mem_append_right _ (dm 5 (.head _)))) (forall_app (fun _ hp => (dm 1 (List.mem_append_left _ hp))) (fun _ hp => (dm 1 (List.mem_append_right _ (dm 6 hp)))))))))
                          clear N9 hsl hss e F2 N2 R2
                          repeat' (first | (k_unfold; (try dsimp only)) | walk1 | (dsimp only; walk1))
                          refine Halt.mk ?_
                          rename Fr _ _ _ _ => F2
                          rename News _ _ _ _ => N2
                          refine' eq_rows (rs := js.map numLen) (N2.get ?ee) (N2.get ?ef) (RL.here N2 ?ke) (RM.here N2 ?kf) (by (first | (refine' room_ok ?rh ?re; (case rh => assumption); (case re => exact rfl)) | (refine' room_ok0 ?rh ?re; (case rh => assumption); (case re => exact rfl)) | ke_room)) ?_
                          case ee => k_mem
                          case ef => k_mem
                          case ke => exact (fun _ hp => (dm 4 (List.mem_append_right _ (List.mem_append_left _ hp))))
                          case kf => exact (fun _ hp => (dm 4 (List.mem_append_left _ hp)))
                          repeat' (first | (k_unfold; (try dsimp only)) | walk1 | (dsimp only; walk1))
                          rename Fr _ _ _ _ => F2
                          rename News _ _ _ _ => N2
                          exact hret _ _ _ _ F2.keep (N2.get (by k_mem)) (N2.get (by k_mem))
end
end Mine

end
section
open PySem PySem.W PyProof.Rows PySem.Spec PySem.Calls
namespace Mine
theorem law_holds : PySem.Challenge.rw_ik0056_01.Holds := by
  refine hd ?_
  k_go0
  rename IntsAre _ _ => hI9
  rename ¬ _ => hn9
  rename Top topProg _ _ _ _ _ => T9
  rename Below _ _ _ _ => B9
  rename Frag.In _ _ => X9
  rename Fr _ _ _ _ => F9
  rename News _ _ _ _ => N9
  refine law_walk _ _ _ _ (1 + claimMargin) 4 (some []) [] _ _ _ _ _ _ _ _ _ _ _ _ _ _ _ hI9 (by omega) B9 X9 T9 (by assumption) (by assumption) (by assumption) (by decide) (by decide) F9 N9 (by assumption) (by assumption) ?_
  intro h' tk' p1 p2 k e1 e2
  refine ⟨⟨.inl ⟨.bool true, .bool true, [], rfl, fun _ => rfl, ?_, ?_, ?_⟩, k, rfl, by assumption⟩, ⟨p1, e1⟩, ⟨p2, e2⟩, trivial⟩
  · constructor
  · skip
    first | with_unfolding_all rfl | kernel_rfl | (show (WShape.has _ _ _ && WTm.holds _ _ _) = true; simp [WShape.has, WTm.holds, WTm.value])
  · intro _
    exact ⟨List.nodup_nil, fun _ h => nomatch h⟩
end Mine

end
theorem PySem.Challenge.cw_ik0056_01_holds : PySem.Challenge.rw_ik0056_01.Holds :=
  Mine.law_holds
#print axioms PySem.Challenge.cw_ik0056_01_holds
