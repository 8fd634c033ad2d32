import PyProof.Rows.All
import Wide.All
import OpenK.AllK
import Wide.FinOn
import PySem.Challenge.RW_xo0014_01
open PySem PySem.W PySem.Calls PyProof.Rows
set_option Elab.async false
set_option maxRecDepth 100000
set_option maxHeartbeats 8000000
namespace Mine
section
/-- the definitions of the text alone -/
def isDef : Stmt → Bool
  | .Assign .. => false
  | _ => true
def viewK : Program := { PySem.Challenge.pw_xo0014_01 with main := { PySem.Challenge.pw_xo0014_01.main with body := PySem.Challenge.pw_xo0014_01.main.body.filter isDef } }
/-- the head by one run of the text's top, in the kernel -/
local macro_rules | `(tactic| o_head $H) => `(tactic| (
  refine holds_open (q := viewK) (loose := []) (Xt := fun s => xlAt viewK [] s && recOk (RowW.records (OpenRow.toRowW _)) s) (XP := XL viewK []) (Yf := Hook.obs $H) (Ya := Hook.val $H) (YP := Hook.says $H) (N := 3062) ?hl (Hook.of $H) (Hook.keeps $H) (fun s e => xl_of s (Bool.and_eq_true_iff.mp e).1) XL.keeps (by rfl) (by rfl) (by rfl) (fun s e => recFacts_of (Bool.and_eq_true_iff.mp e).2) (by rfl) (by first | assumption | decide +kernel) (by decide +kernel) ⟨rfl, rfl, rfl, rfl, rfl, by decide +kernel⟩ ?hw ?hc
  case hl => (intro w; kernel_rfl)))
local macro_rules | `(tactic| o_law) => `(tactic| refine holds_law (by decide +kernel) fun said => ?_)
open_top hd for PySem.Challenge.rw_xo0014_01
end
theorem top_off : True := by
  w_top off
  trivial
/-- the end of a def that leaves all that stood before as it was: what it made is the list news' -/
def LeaveP (h₀ : Heap) (L : Addr) (m : Str → Option Value) (g : Heap) (R : Result → Shared → Prop) (v : Value) (s' : Shared) : Prop :=
  ∃ L' m' news', Fr g L' s'.heap m' ∧ News g L' s'.heap news' ∧ ((∀ b o, g.get? b = some o → s'.heap.get? b = some o) → Fr h₀ L s'.heap m → News g L s'.heap news' → R (.ok (.ret v)) s')
theorem leaveP_ {h₀ g : Heap} {L L' : Addr} {m m' : Str → Option Value} {news' : List (Addr × Obj)} {R : Result → Shared → Prop} {v : Value} {s' : Shared} (F' : Fr g L' s'.heap m') (N' : News g L' s'.heap news')
    (k : (∀ b o, g.get? b = some o → s'.heap.get? b = some o) → Fr h₀ L s'.heap m → News g L s'.heap news' → R (.ok (.ret v)) s') : LeaveP h₀ L m g R v s' := ⟨L', m', news', F', N', k⟩
theorem leaveP_fr {h₀ g h : Heap} {L : Addr} {m : Str → Option Value} (F : Fr h₀ L g m) (st : ∀ b o, g.get? b = some o → h.get? b = some o) : Fr h₀ L h m := by
  obtain ⟨oL, es, ep, hL, r⟩ := F.ns
  exact ⟨⟨oL, es, ep, st L oL hL, r⟩, fun b o e => st b o (F.keep b o e), F.above⟩
theorem news_off {g h : Heap} {L L' : Addr} {m : Str → Option Value} {h₀ : Heap} {news : List (Addr × Obj)} (F : Fr h₀ L g m) (N : News g L' h news) : News g L h news := by
  intro p hp
  refine ⟨(N p hp).1, ?_, (N p hp).2.2⟩
  intro e
  obtain ⟨oL, es, ep, hL, r⟩ := F.ns
  have := (N p hp).2.2
  rw [e, hL] at this
  cases this
section
variable {prog : Program} {w : World} {A A₀ : Around} {E : Value → Shared → Prop} {s : Shared} {K : Frag} {L : Addr} {h₀ base : Heap} {m mg mb : Str → Option Value} {p : Program} {loose : List Str} {mean : ExcName → Option Value} {Q : Value → Shared → Prop}
theorem code_defP {env : Env} {outer : List Env} {R : Result → Shared → Prop} {name qual : Str} {params : Arguments} {body : List Stmt} {scope : Scope} {dV kV doc pm cdv ct oc : Value} {an od : Option Addr} {osl : Array (Option Value)} {f : Addr} {args : Args} {binds : List (Str × Value)}
    (B : Below A₀ base outer h₀) (F : Fr h₀ L s.heap m) (X₀ : K.In h₀) (T : Top p loose mean mg mb h₀) (hA : A.frames = some (env :: outer)) (hf : env.frame = some L) (hke : env.scope.kind = .function)
    (ho : K.lookup f = some ⟨oc, od, .func (fnOf name qual params body scope dV kV doc pm an cdv ct), osl⟩) (hcd : codeIn K cdv qual = true) (hroom : A.depth < recursionLimit)
    (hbind : BindsTo s (fnOf name qual params body scope dV kV doc pm an cdv ct) args binds) (hloc : ∀ y ∈ binds, scope.names.lookup y.1 = some .local)
    (h : ∀ L' h₁, Fr s.heap L' h₁ (fun y => binds.reverse.lookup y) → News s.heap L' h₁ [] → Below A base (env :: outer) s.heap → K.In s.heap → Top p loose mean mg mb s.heap →
      wpAny (model prog w) (A.deeper (envOf qual scope L' f cdv)) (execs body (envOf qual scope L' f cdv))
        (fun fl s' => LeaveP h₀ L m s.heap R (match fl with | .ret v => v | _ => .none) s')
        (fun e s' => wpAny (model prog w) (A.deeper (envOf qual scope L' f cdv)) (leaving (envOf qual scope L' f cdv) e) (fun _ s'' => R (.error e) s'') (fun e' s'' => R (.error e') s'') s')
        { s with heap := h₁, toks := s.toks + binds.length })
    (hco : scope.isCoroutine = false) (hgen : scope.isGenerator = false) (hk : scope.kind = .function)
    (hcell : ∀ x ∈ scope.names, x.2 ≠ .cell) : codeAny (model prog w) A (.call (.ref f) args) R s := by
  obtain ⟨FG, BG, st, lv⟩ := groundX (R := R) B F News.nil hA hf hke
  refine codeAny_call_def (fd := fnOf name qual params body scope dV kV doc pm an cdv ct) (body := body) (binds := binds) hroom ((X₀.keeps F.keep) _ _ ho) rfl (T.nolimit.keeps F.keep) (codeRec_of (X₀.keeps F.keep) hcd) rfl hbind hcell hloc (fun h₁ hns hk₁ => ?_) hco hgen hk
  refine wpAny_mono (h s.heap.objs.size h₁ ⟨hns, hk₁, Nat.le_refl _⟩ News.nil BG (X₀.keeps F.keep) (T.keeps F.keep)) (fun fl s' hl => ?_) fun _ _ y => y
  obtain ⟨L', m', news', F', N', k⟩ := hl
  exact k F'.keep (leaveP_fr F F'.keep) (news_off F N')
end
/-- a contract of a def: from a heap that meets Pre it gives back v; it leaves all as it was and has made tl, Out -/
def Con (w : World) (mean : ExcName → Option Value) (mg mb : Str → Option Value) (k : Nat) (f : Addr) (args : List Value)
    (Pre : Heap → Prop) (Out : Value → List (Addr × Obj) → Prop) : Prop :=
  ∀ (dp un : Nat) (gd : Option (List Code)) (cn : Str) (cs : Scope) (a : Addr) (ccd : Value) (cl : List (Str × Addr)) (outer : List Env) (A₀ : Around) (base h₀ : Heap) (L : Addr) (m : Str → Option Value) (s : Shared) (Q E : Value → Shared → Prop),
    Below A₀ base outer h₀ → Fr h₀ L s.heap m → (hd.heap_1 w.params).In h₀ → Top viewK (looseW viewK []) mean mg mb h₀ → cs.kind = .function → dp + k < recursionLimit → un + 8 * k + 200 < cLine → Pre s.heap →
    (∀ (v : Value) (tl : List (Addr × Obj)) (h' : Heap) (tk' : Nat), (∀ b o, s.heap.get? b = some o → h'.get? b = some o) → Fr h₀ L h' m → News s.heap L h' tl → Out v tl → Q v { s with heap := h', toks := tk' }) →
    wpAny (model Challenge.rw_xo0014_01.row.prog w) (ktrTop dp un gd cn cs L a ccd cl outer) (call (.ref f) args) Q E s
theorem con_news {h₀ h h' : Heap} {L : Addr} {m : Str → Option Value} {news tl : List (Addr × Obj)} (F : Fr h₀ L h m) (N : News h₀ L h news) (st : ∀ b o, h.get? b = some o → h'.get? b = some o) (N' : News h L h' tl) : News h₀ L h' (tl ++ news) := fun p hp => by
  rcases List.mem_append.mp hp with q | q
  · refine ⟨(N' p q).1, (N' p q).2.1, ?_⟩
    cases e : h₀.get? p.1 with
    | none => rfl
    | some o => have := (N' p q).2.2; rw [F.keep _ _ e] at this; cases this
  · exact ⟨st _ _ (N p q).1, (N p q).2⟩
/-- every address of the list is another one than d -/
def AllNe (d : Addr) : List (Addr × Obj) → Prop
  | [] => True
  | p :: r => ¬ (@Eq Nat p.1 d) ∧ AllNe d r
theorem allNe_of {d : Addr} : ∀ {l : List (Addr × Obj)}, (∀ p ∈ l, p.1 ≠ d) → AllNe d l
  | [], _ => trivial
  | p :: _, h => ⟨h p (.head _), allNe_of fun q hq => h q (.tail _ hq)⟩
theorem con_ne {h₀ h h' : Heap} {L : Addr} {news tl : List (Addr × Obj)} (N : News h₀ L h news) (N' : News h L h' tl) : ∀ p ∈ tl, AllNe p.1 news := fun p hp => allNe_of fun q hq e => by
  have h1 := (N q hq).1
  have h2 := (N' p hp).2.2
  rw [e, h2] at h1
  cases h1
def hostT : List Str := [Str.ofString "a.b", Str.ofString "", Str.ofString "[::1]", Str.ofString "::1", Str.ofString "b["]
def markT : List Str := [Str.ofString "|", Str.ofString "!", Str.ofString "(", Str.ofString "x"]
def junkT : List Str := [Str.ofString "", Str.ofString "a", Str.ofString "1", Str.ofString " "]
def leadT : List Str := [Str.ofString "", Str.ofString "0", Str.ofString " ", Str.ofString "00"]
def sHost (x : Int) : Str := hostT.getD ((x.fdiv 512).fmod 5).toNat Str.empty
def sMark (x : Int) : Str := markT.getD (((x.fdiv 512).fdiv 5).fmod 4).toNat Str.empty
def sJunk (x : Int) : Str := junkT.getD (((x.fdiv 512).fdiv 20).fmod 4).toNat Str.empty
def sLead (x : Int) : Str := leadT.getD (((x.fdiv 512).fdiv 80).fmod 4).toNat Str.empty
def sPort (x count : Int) : Int := ((x.fdiv 8).fmod 64).fmod count
def btw (mk jk ld : Str) (p : Int) : Str := mk ++ jk ++ mk ++ mk ++ ld ++ Str.ofString (toString p) ++ mk
def sBetween (x count : Int) : Str := btw (sMark x) (sJunk x) (sLead x) (sPort x count)
def replyOf (c : Int) (mk jk ld : Str) (p : Int) : Str :=
  if c = 5 then Str.ofString "227 ok (" ++ btw mk jk ld p ++ Str.ofString ") go"
  else if c = 6 then Str.ofString "229 ok (" ++ mk ++ btw mk jk ld p ++ Str.ofString ") go"
  else if c = 7 then Str.ofString "229 ok (" ++ btw mk jk ld p ++ Str.ofString " go"
  else Str.ofString "229 ok (" ++ btw mk jk ld p ++ Str.ofString ") go"
def sReply (x count : Int) : Str := replyOf (x.fmod 8) (sMark x) (sJunk x) (sLead x) (sPort x count)
def sBad (x : Int) : Bool := x.fmod 8 = 5 ∨ x.fmod 8 = 6 ∨ x.fmod 8 = 7
def sFault (x : Int) : Str := if x.fmod 8 = 5 then Str.ofString "another code" else Str.ofString "another form"
abbrev tupOf (vs : Array Value) (n : Nat) : Obj := { cls := .type "tuple", data := .seq vs n }
/-- the answer that _law_sent hands out -/
def AnsIs (x count : Int) (tl : List (Addr × Obj)) (ans : Value) : Prop :=
  (sBad x = true ∧ ∃ t, ans = .str (sFault x) t) ∨ (sBad x = false ∧ ∃ q n t1 t2, ans = .ref q ∧ (q, tupOf #[.str (sHost x) t1, .int (sPort x count) t2] n) ∈ tl)
def SentOut (x count : Int) (v : Value) (tl : List (Addr × Obj)) : Prop :=
  ∃ q n t1 t2 ans, v = .ref q ∧ (q, tupOf #[.str (sReply x count) t1, .str (sHost x) t2, ans] n) ∈ tl ∧ AnsIs x count tl ans
/-- the end of a def in which an exception was raised and caught: the outer frame's own record may have another slot -/
def LeaveT (fs : List Addr) (h₀ : Heap) (L : Addr) (m : Str → Option Value) (g : Heap) (R : Result → Shared → Prop) (v : Value) (s' : Shared) : Prop :=
  ∃ g' L' m' news', KtsTurn fs g g' ∧ Fr g' L' s'.heap m' ∧ News g' L' s'.heap news' ∧ ((∀ b o, g.get? b = some o → b ≠ L → s'.heap.get? b = some o) → Fr h₀ L s'.heap m → News g L s'.heap news' → R (.ok (.ret v)) s')
theorem leaveT_ {fs : List Addr} {h₀ g g' : Heap} {L L' : Addr} {m m' : Str → Option Value} {news' : List (Addr × Obj)} {R : Result → Shared → Prop} {v : Value} {s' : Shared} (T : KtsTurn fs g g') (F' : Fr g' L' s'.heap m') (N' : News g' L' s'.heap news')
    (k : (∀ b o, g.get? b = some o → b ≠ L → s'.heap.get? b = some o) → Fr h₀ L s'.heap m → News g L s'.heap news' → R (.ok (.ret v)) s') : LeaveT fs h₀ L m g R v s' := ⟨g', L', m', news', T, F', N', k⟩
section
variable {prog : Program} {w : World} {A A₀ : Around} {E : Value → Shared → Prop} {s : Shared} {K : Frag} {L : Addr} {h₀ base : Heap} {m mg mb : Str → Option Value} {p : Program} {loose : List Str} {mean : ExcName → Option Value} {Q : Value → Shared → Prop}
theorem code_defT {R : Result → Shared → Prop} {cn name qual : Str} {cs : Scope} {a : Addr} {ccd : Value} {cl : List (Str × Addr)} {params : Arguments} {body : List Stmt} {scope : Scope} {dV kV doc pm cdv ct oc : Value} {an od : Option Addr} {osl : Array (Option Value)} {f : Addr} {args : Args} {binds : List (Str × Value)}
    (B : Below A₀ base [] h₀) (F : Fr h₀ L s.heap m) (X₀ : K.In h₀) (T : Top p loose mean mg mb h₀) (hA : A.frames = some [envX cn cs L a ccd cl])
    (ho : K.lookup f = some ⟨oc, od, .func (fnOf name qual params body scope dV kV doc pm an cdv ct), osl⟩) (hcd : codeIn K cdv qual = true) (hroom : A.depth < recursionLimit)
    (hbind : BindsTo s (fnOf name qual params body scope dV kV doc pm an cdv ct) args binds) (hloc : ∀ y ∈ binds, scope.names.lookup y.1 = some .local)
    (h : ∀ L' h₁, Fr s.heap L' h₁ (fun y => binds.reverse.lookup y) → News s.heap L' h₁ [] → Below A base [envX cn cs L a ccd cl] s.heap → K.In s.heap → Top p loose mean mg mb s.heap → KtsDicts ([envX cn cs L a ccd cl].filterMap (·.frame)) s.heap →
      wpAny (model prog w) (A.deeper (envOf qual scope L' f cdv)) (execs body (envOf qual scope L' f cdv))
        (fun fl s' => LeaveT ([envX cn cs L a ccd cl].filterMap (·.frame)) h₀ L m s.heap R (match fl with | .ret v => v | _ => .none) s')
        (fun e s' => wpAny (model prog w) (A.deeper (envOf qual scope L' f cdv)) (leaving (envOf qual scope L' f cdv) e) (fun _ s'' => R (.error e) s'') (fun e' s'' => R (.error e') s'') s')
        { s with heap := h₁, toks := s.toks + binds.length })
    (hck : cs.kind = .function) (hco : scope.isCoroutine = false) (hgen : scope.isGenerator = false) (hk : scope.kind = .function)
    (hcell : ∀ x ∈ scope.names, x.2 ≠ .cell) : codeAny (model prog w) A (.call (.ref f) args) R s := by
  refine codeAny_call_def (fd := fnOf name qual params body scope dV kV doc pm an cdv ct) (body := body) (binds := binds) hroom ((X₀.keeps F.keep) _ _ ho) rfl (T.nolimit.keeps F.keep) (codeRec_of (X₀.keeps F.keep) hcd) rfl hbind hcell hloc (fun h₁ hns hk₁ => ?_) hco hgen hk
  obtain ⟨oL, es, ep, hLg, hLd, hLk, hLf⟩ := F.ns
  have hNs : ∀ (sl : Array (Option Value)) h', h'.get? L = some { oL with slots := sl } → Heap.Ns h' L m := fun sl h' e => ⟨_, es, ep, e, hLd, hLk, hLf⟩
  obtain ⟨_, B₂, _, _⟩ := groundX (R := R) B F News.nil hA rfl hck
  refine wpAny_mono (h s.heap.objs.size h₁ ⟨hns, hk₁, Nat.le_refl _⟩ News.nil B₂ (X₀.keeps F.keep) (T.keeps F.keep) (fun b hb => ?_)) (fun fl s' hl => ?_) fun _ _ y => y
  · have hb' : b ∈ [L] := hb
    rw [List.mem_singleton.mp hb']
    exact ⟨oL, es, ep, hLg, hLd⟩
  obtain ⟨g', L', m', news', T', F', N', k⟩ := hl
  have nL₀ : h₀.get? L = none := kts_self F
  have hLs : s.heap.get? L = some oL := hLg
  obtain ⟨sl, hs⟩ := T'.up hLs
  have ot : ∀ b o, s.heap.get? b = some o → b ≠ L → s'.heap.get? b = some o := fun b o e ne => F'.keep b o (T'.other b o e fun q => by
    have q' : b ∈ [L] := q
    exact ne (List.mem_singleton.mp q'))
  refine k ot ⟨hNs sl _ (F'.keep _ _ hs), fun b o e => ot b o (F.keep b o e) (fun z => by rw [z, nL₀] at e; cases e), F.above⟩ fun p hp => ⟨(N' p hp).1, fun q => ?_, ?_⟩
  · have := (N' p hp).2.2; rw [q, hs] at this; cases this
  · cases q : s.heap.get? p.1 with
    | none => rfl
    | some o =>
      obtain ⟨sl', hs'⟩ := T'.up q
      have := (N' p hp).2.2
      rw [hs'] at this
      cases this
end
/-- a contract of a def that catches, called from the law's own frame -/
def ConT (w : World) (mean : ExcName → Option Value) (mg mb : Str → Option Value) (k : Nat) (f : Addr) (args : List Value)
    (Pre : Heap → Prop) (Out : Value → List (Addr × Obj) → Prop) : Prop :=
  ∀ (dp un : Nat) (gd : Option (List Code)) (cn : Str) (cs : Scope) (a : Addr) (ccd : Value) (cl : List (Str × Addr)) (A₀ : Around) (base h₀ : Heap) (L : Addr) (m : Str → Option Value) (s : Shared) (Q E : Value → Shared → Prop),
    Below A₀ base [] h₀ → (hd.heap_1 w.params).In base → Top viewK (looseW viewK []) mean mg mb base → Fr h₀ L s.heap m → (hd.heap_1 w.params).In h₀ → Top viewK (looseW viewK []) mean mg mb h₀ → cs.kind = .function → dp + k < recursionLimit → un + 8 * k + 200 < cLine → Pre s.heap →
    (∀ (v : Value) (tl : List (Addr × Obj)) (h' : Heap) (tk' : Nat), (∀ b o, s.heap.get? b = some o → b ≠ L → h'.get? b = some o) → Fr h₀ L h' m → News s.heap L h' tl → Out v tl → Q v { s with heap := h', toks := tk' }) →
    wpAny (model Challenge.rw_xo0014_01.row.prog w) (ktrTop dp un gd cn cs L a ccd cl []) (call (.ref f) args) Q E s
section
local macro_rules | `(tactic| k_room) => `(tactic| ktr_room)
local macro_rules | `(tactic| k_units) => `(tactic| ktr_units)
section
variable {prog : Program} {w : World} {A : Around} {E : Value → Shared → Prop} {s : Shared} {value slice : PySem.Expr} {x y z : Str} {t u v : Tok} {i j k : Int} {Q : Value → Shared → Prop} {h₀ : Heap} {L : Addr} {m : Str → Option Value} {news : List (Addr × Obj)}
theorem find_as (e : Txt.find x y = k) (h : ∀ t tk, Q (.int k t) { s with toks := tk }) : wpAny (model prog w) A (call (.builtin "str.find") [.str x t, .str y u]) Q E s := SC.find (by rw [e]; exact h _ _)
theorem find3_as (e : Txt.find3 x y i = k) (h : ∀ t tk, Q (.int k t) { s with toks := tk }) : wpAny (model prog w) A (call (.builtin "str.find") [.str x t, .str y u, .int i v]) Q E s := SC.find3 (by rw [e]; exact h _ _)
theorem slice_ns_as {uj : Tok} (e : Txt.slice x none (some j) = z) (hsz : x.length ≤ sizeLine) (hF : Fr h₀ L s.heap m) (hN : News h₀ L s.heap news) (h : ∀ h' t' k, Fr h₀ L h' m → News h₀ L h' news → Q (.str z t') { s with heap := h', toks := k })
    (hs : subscripted slice false (.str x t) (.ref s.heap.objs.size) = operate [.ref s.heap.objs.size, .str x t] (getItem (.str x t) (.ref s.heap.objs.size)) := by with_unfolding_all rfl)
    (ht : ∀ r, letTemporaryGo value (.str x t) r = pure () := by intro _; with_unfolding_all rfl) :
    wpAny (model prog w) A (subscriptTail value slice (.str x t) (.ref s.heap.objs.size)) Q E { s with heap := s.heap.push { cls := .type "slice", data := .fields #[.none, .int j uj, .none] } } :=
  slice_strN_ns hF hN (fun h' t' k a b => by rw [e]; exact h h' t' k a b) hs ht hsz
theorem slice_ss_as {ui uj : Tok} (e : Txt.slice x (some i) (some j) = z) (hsz : x.length ≤ sizeLine) (hF : Fr h₀ L s.heap m) (hN : News h₀ L s.heap news) (h : ∀ h' t' k, Fr h₀ L h' m → News h₀ L h' news → Q (.str z t') { s with heap := h', toks := k })
    (hs : subscripted slice false (.str x t) (.ref s.heap.objs.size) = operate [.ref s.heap.objs.size, .str x t] (getItem (.str x t) (.ref s.heap.objs.size)) := by with_unfolding_all rfl)
    (ht : ∀ r, letTemporaryGo value (.str x t) r = pure () := by intro _; with_unfolding_all rfl) :
    wpAny (model prog w) A (subscriptTail value slice (.str x t) (.ref s.heap.objs.size)) Q E { s with heap := s.heap.push { cls := .type "slice", data := .fields #[.int i ui, .int j uj, .none] } } :=
  slice_strN_ss hF hN (fun h' t' k a b => by rw [e]; exact h h' t' k a b) hs ht hsz
theorem item_as (e : Txt.item x i = z) (h0 : 0 ≤ i) (h1 : i < (x.length : Int)) (hn : x.length ≤ 16777216) (h : ∀ t tk, Q (.str z t) { s with toks := tk })
    (hs : subscripted slice false (.str x t) (.int i u) = operate [.str x t, .int i u] (getItem (.str x t) (.int i u)) := by with_unfolding_all rfl)
    (ht : ∀ r, letTemporaryGo value (.str x t) r = pure () := by intro _; with_unfolding_all rfl) :
    wpAny (model prog w) A (subscriptTail value slice (.str x t) (.int i u)) Q E s :=
  KXi.item rfl (by omega) h1 hn (fun _ => by rw [e]; exact h _ _) hs ht
theorem split_as {l : List Str} (e : Txt.split x y = l) (hsz : x.length + 2 ≤ sizeLine) (hy : (y.length == 0) = false) (hF : Fr h₀ L s.heap m) (hN : News h₀ L s.heap news)
    (h : ∀ D l' h' k, l'.map (·.1) = l → Fr h₀ L h' m → News h₀ L h' ((D, listOf (strValues l').toArray 0) :: news) → (∀ p ∈ news, p.1 < D) → Q (.ref D) { s with heap := h', toks := k }) :
    wpAny (model prog w) A (call (.builtin "str.split") [.str x t, .str y u]) Q E s :=
  KSpl.split1 hF hN hy (fun D l' h' k e' _ F N a => h D l' h' k (e'.trans e) F N a) hsz
theorem ite_f {b : Bool} {X Y : Prop} (hb : b = false) (h : Y) : if b = true then X else Y := by rw [hb]; exact h
end
theorem len_line {x : Str} {n : Nat} (h : x.length ≤ n) (hn : n + 2 ≤ 16777216) : x.length + 2 ≤ sizeLine := by rw [sizeLine_eq]; omega
section
open Builtin.Str StrLaws
theorem find_at (x : Str) (c k : Nat) (h : x.cps.toList[k]? = some c) (hn : ∀ v, v < k → x.cps.toList[v]? ≠ some c) : Txt.find x ⟨#[c]⟩ = (k : Int) := by
  unfold Txt.find
  rcases occ_head x ⟨#[c]⟩ 1 (Nat.le_refl 1) with ⟨h0, hn'⟩ | ⟨i, r, h0, hi, hn'⟩
  · exact absurd ((subAt_one x c k).mpr h) (hn' k)
  · rw [h0]
    have hi' := (subAt_one x c i).mp hi
    rcases Nat.lt_trichotomy i k with q | q | q
    · exact absurd hi' (hn i q)
    · rw [q]
    · exact absurd ((subAt_one x c k).mpr h) (hn' k q)
theorem find3_at (x : Str) (c lo k : Nat) (hlo : lo ≤ k) (h : x.cps.toList[k]? = some c) (hn : ∀ v, lo ≤ v → v < k → x.cps.toList[v]? ≠ some c) : Txt.find3 x ⟨#[c]⟩ (lo : Int) = (k : Int) := by
  unfold Txt.find3
  have e : fromIndex x.length (lo : Int) = lo := by unfold fromIndex; rw [if_neg (by omega)]; omega
  rw [e]
  rcases occ_head_from x ⟨#[c]⟩ lo 1 (Nat.le_refl 1) with ⟨h0, hn'⟩ | ⟨i, r, h0, hl, hi, hn'⟩
  · exact absurd ((subAt_one x c k).mpr h) (hn' k hlo)
  · rw [h0]
    have hi' := (subAt_one x c i).mp hi
    rcases Nat.lt_trichotomy i k with q | q | q
    · exact absurd hi' (hn i hl q)
    · rw [q]
    · exact absurd ((subAt_one x c k).mpr h) (hn' k hlo q)
theorem find3_none (x : Str) (c lo : Nat) (hn : ∀ v : Nat, lo ≤ v → x.cps.toList[v]? ≠ some c) : Txt.find3 x ⟨#[c]⟩ (lo : Int) = -1 := by
  unfold Txt.find3
  have e : fromIndex x.length (lo : Int) = lo := by unfold fromIndex; rw [if_neg (by omega)]; omega
  rw [e]
  rcases occ_head_from x ⟨#[c]⟩ lo 1 (Nat.le_refl 1) with ⟨h0, hn'⟩ | ⟨i, r, h0, hl, hi, hn'⟩
  · rw [h0]
  · exact absurd ((subAt_one x c i).mp hi) (hn i hl)
theorem app_free {c : Nat} : ∀ {a b s t : List Nat}, c ∉ a → c ∉ b → a ++ c :: s = b ++ c :: t → a = b ∧ s = t
  | [], [], s, t, _, _, h => ⟨rfl, (List.cons.inj h).2⟩
  | [], y :: b, s, t, _, hb, h => absurd (by rw [(List.cons.inj h).1]; exact .head _) hb
  | x :: a, [], s, t, ha, _, h => absurd (by rw [← (List.cons.inj h).1]; exact .head _) ha
  | x :: a, y :: b, s, t, ha, hb, h => by
    obtain ⟨e1, e2⟩ := List.cons.inj h
    obtain ⟨e3, e4⟩ := app_free (fun q => ha (.tail _ q)) (fun q => hb (.tail _ q)) e2
    exact ⟨by rw [e1, e3], e4⟩
theorem app_free_nil {c : Nat} {a b t : List Nat} (ha : c ∉ a) (h : a = b ++ c :: t) : False := ha (by rw [h]; simp)
theorem str_toList {a b : Str} (h : a.cps.toList = b.cps.toList) : a = b := Str.ext' (Array.toList_inj.mp h)
theorem join_one_toList (c : Nat) (p q : Str) (r : List Str) : (Str.join ⟨#[c]⟩ (p :: q :: r)).cps.toList = p.cps.toList ++ c :: (Str.join ⟨#[c]⟩ (q :: r)).cps.toList := by
  show (p ++ ⟨#[c]⟩ ++ Str.join ⟨#[c]⟩ (q :: r)).cps.toList = _
  rw [KT.app_list, KT.app_list, List.append_assoc]; rfl
theorem join_inj (c : Nat) : ∀ ps qs : List Str, ps ≠ [] → qs ≠ [] → (∀ p ∈ ps, c ∉ p.cps.toList) → (∀ q ∈ qs, c ∉ q.cps.toList) → (Str.join ⟨#[c]⟩ ps).cps.toList = (Str.join ⟨#[c]⟩ qs).cps.toList → ps = qs
  | [], _, h, _, _, _, _ => absurd rfl h
  | _, [], _, h, _, _, _ => absurd rfl h
  | [p], [q], _, _, _, _, h => by rw [str_toList (a := p) (b := q) h]
  | [p], q :: q' :: r, _, _, hp, _, h => by
    rw [join_one_toList] at h
    exact (app_free_nil (hp p (.head _)) h).elim
  | p :: p' :: r, [q], _, _, _, hq, h => by
    rw [join_one_toList] at h
    exact (app_free_nil (hq q (.head _)) h.symm).elim
  | p :: p' :: r, q :: q' :: r', _, _, hp, hq, h => by
    rw [join_one_toList, join_one_toList] at h
    obtain ⟨e1, e2⟩ := app_free (hp p (.head _)) (hq q (.head _)) h
    rw [str_toList e1, join_inj c (p' :: r) (q' :: r') (by simp) (by simp) (fun z hz => hp z (.tail _ hz)) (fun z hz => hq z (.tail _ hz)) e2]
theorem split_ne (x y : Str) : Txt.split x y ≠ [] := by
  unfold Txt.split
  split
  · simp
  · split
    · simp
    · rw [partsBetween_eq]
      obtain ⟨p, r, e⟩ := partsFrom_ne x y.length 0 (occurrences x y 0 x.length (x.length + 1))
      rw [e]; simp
theorem split_is (x : Str) (c : Nat) (ps : List Str) (hne : ps ≠ []) (hf : ∀ p ∈ ps, c ∉ p.cps.toList) (h : x.cps.toList = (Str.join ⟨#[c]⟩ ps).cps.toList) : Txt.split x ⟨#[c]⟩ = ps :=
  join_inj c _ _ (split_ne x _) hne (fun p hp => split_free x c p hp) hf (by rw [join_split]; exact h)
end
section
open Builtin.Str StrLaws
theorem slice_to3 (r : Str) (a b c : Nat) (t : List Nat) (h : r.cps.toList = a :: b :: c :: t) : Txt.slice r none (some 3) = ⟨#[a, b, c]⟩ := by
  have e : Txt.slice r none (some 3) = sliceText r none (some 3) := rfl
  rw [e, sliceText_to ⟨by decide, by rw [h]; simp only [List.length_cons]; omega⟩, h]
  rfl
theorem item_at (r : Str) (k n : Nat) (h : r.cps.toList[k]? = some n) : Txt.item r (k : Int) = ⟨#[n]⟩ := by
  have e : Txt.charAt r (k : Int) = some n := at_nonneg (by omega) (by simpa using h)
  unfold Txt.item
  rw [e]; rfl
theorem slice_mid (r : Str) (a b : Nat) (pre B post : List Nat) (h : r.cps.toList = pre ++ (B ++ post)) (ha : pre.length = a) (hb : a + B.length = b) : Txt.slice r (some (a : Int)) (some (b : Int)) = ⟨B.toArray⟩ := by
  have e : Txt.slice r (some (a : Int)) (some (b : Int)) = sliceText r (some (a : Int)) (some (b : Int)) := rfl
  have hl : r.cps.toList.length = a + (B.length + post.length) := by rw [h, List.length_append, List.length_append, ha]
  have hlen : b ≤ r.length := by show b ≤ r.cps.size; rw [← Array.length_toList, hl]; omega
  rw [e, sliceText_nat r (by omega) hlen, h]
  have : b - a = B.length := by omega
  rw [this, ← ha, List.drop_left, List.take_left]
def Plain (l : List Nat) : Prop := ∀ ch ∈ l, ch = 32 ∨ ch = 97 ∨ (48 ≤ ch ∧ ch ≤ 57)
def IsMark (c : Nat) : Prop := c = 124 ∨ c = 33 ∨ c = 40 ∨ c = 120
theorem Plain.free {l : List Nat} (h : Plain l) {c : Nat} (hc : IsMark c ∨ c = 41) : c ∉ l := fun m => by
  have := h c m
  unfold IsMark at hc
  omega
theorem Plain.app {a b : List Nat} (ha : Plain a) (hb : Plain b) : Plain (a ++ b) := fun ch m => (List.mem_append.mp m).elim (ha ch) (hb ch)
def head229 : List Nat := [50, 50, 57, 32, 111, 107, 32, 40]
def head227 : List Nat := [50, 50, 55, 32, 111, 107, 32, 40]
section
variable {r : Str} {B post : List Nat} (h : r.cps.toList = head229 ++ (B ++ post))
include h
theorem h_slice : Txt.slice r none (some 3) = Str.ofString "229" := by
  rw [slice_to3 r 50 50 57 (32 :: 111 :: 107 :: 32 :: 40 :: (B ++ post)) h]; decide +kernel
theorem h_find : Txt.find r (Str.ofString "(") = 7 := by
  have e : Str.ofString "(" = ⟨#[40]⟩ := by decide +kernel
  rw [e]
  refine find_at r 40 7 (by rw [h]; rfl) fun v hv => ?_
  rw [h]
  match v, hv with
  | 0, _ => simp [head229]
  | 1, _ => simp [head229]
  | 2, _ => simp [head229]
  | 3, _ => simp [head229]
  | 4, _ => simp [head229]
  | 5, _ => simp [head229]
  | 6, _ => simp [head229]
theorem h_get (k : Nat) : r.cps.toList[8 + k]? = (B ++ post)[k]? := by
  rw [h, List.getElem?_append_right (by simp [head229])]
  congr 1
  simp [head229]
theorem h_find3 (p' : List Nat) (hp : post = 41 :: p') (hf : 41 ∉ B) : Txt.find3 r (Str.ofString ")") (7 + 1) = ((8 + B.length : Nat) : Int) := by
  have e : Str.ofString ")" = ⟨#[41]⟩ := by decide +kernel
  rw [e]
  refine find3_at r 41 8 (8 + B.length) (by omega) (by rw [h_get h, List.getElem?_append_right (Nat.le_refl _), hp]; simp) fun v h1 h2 hv => ?_
  obtain ⟨k, rfl⟩ := Nat.exists_eq_add_of_le h1
  rw [h_get h, List.getElem?_append_left (by omega)] at hv
  exact hf (List.mem_of_getElem? hv)
theorem h_find3_none (hf : 41 ∉ B ++ post) : Txt.find3 r (Str.ofString ")") (7 + 1) = -1 := by
  have e : Str.ofString ")" = ⟨#[41]⟩ := by decide +kernel
  rw [e]
  refine find3_none r 41 8 fun v h1 hv => ?_
  obtain ⟨k, rfl⟩ := Nat.exists_eq_add_of_le h1
  rw [h_get h] at hv
  exact hf (List.mem_of_getElem? hv)
theorem h_item (k n : Nat) (hk : (B ++ post)[k]? = some n) : Txt.item r ((8 + k : Nat) : Int) = ⟨#[n]⟩ := item_at r (8 + k) n (by rw [h_get h]; exact hk)
theorem h_slice2 : Txt.slice r (some (7 + 1)) (some ((8 + B.length : Nat) : Int)) = ⟨B.toArray⟩ := slice_mid r 8 (8 + B.length) head229 B post h rfl rfl
theorem h_len : r.length = 8 + (B.length + post.length) := by
  show r.cps.size = _
  rw [← Array.length_toList, h, List.length_append, List.length_append]; rfl
end
/-- the sign list of what stands between the brackets -/
def bt (c : Nat) (jl dl : List Nat) : List Nat := c :: (jl ++ c :: c :: (dl ++ [c]))
theorem bt_last (c : Nat) (jl dl : List Nat) : bt c jl dl = (c :: (jl ++ c :: c :: dl)) ++ [c] := by simp [bt]
theorem bt_split (c : Nat) (jl dl : List Nat) (hj : c ∉ jl) (hd : c ∉ dl) : Txt.split ⟨(bt c jl dl).toArray⟩ ⟨#[c]⟩ = [⟨#[]⟩, ⟨jl.toArray⟩, ⟨#[]⟩, ⟨dl.toArray⟩, ⟨#[]⟩] := by
  refine split_is _ c _ (by simp) ?_ ?_
  · intro p hp
    simp only [List.mem_cons, List.not_mem_nil, or_false] at hp
    rcases hp with rfl | rfl | rfl | rfl | rfl <;> simp_all
  · rw [join_one_toList, join_one_toList, join_one_toList, join_one_toList]
    simp [bt, Str.join]
theorem bt_split6 (c : Nat) (jl dl : List Nat) (hj : c ∉ jl) (hd : c ∉ dl) : Txt.split ⟨(c :: bt c jl dl).toArray⟩ ⟨#[c]⟩ = [⟨#[]⟩, ⟨#[]⟩, ⟨jl.toArray⟩, ⟨#[]⟩, ⟨dl.toArray⟩, ⟨#[]⟩] := by
  refine split_is _ c _ (by simp) ?_ ?_
  · intro p hp
    simp only [List.mem_cons, List.not_mem_nil, or_false] at hp
    rcases hp with rfl | rfl | rfl | rfl | rfl | rfl <;> simp_all
  · rw [join_one_toList, join_one_toList, join_one_toList, join_one_toList, join_one_toList]
    simp [bt, Str.join]
theorem bt_free (c : Nat) (jl dl : List Nat) (hc : IsMark c) (hj : Plain jl) (hd : Plain dl) : 41 ∉ bt c jl dl := by
  have h1 := hj.free (c := 41) (.inr rfl)
  have h2 := hd.free (c := 41) (.inr rfl)
  have h3 : 41 ≠ c := by unfold IsMark at hc; omega
  simp [bt, h1, h2, h3]
end
section
local macro_rules | `(tactic| walk_at "call builtin:str.find") => `(tactic| (k_here; (with_reducible show wpAny _ _ (call (Value.builtin "str.find") [Value.str _ _, Value.str _ _]) _ _ _); (with_reducible refine find_as (by with_reducible assumption) ?_); intro _ _))
local macro_rules | `(tactic| walk_at "call builtin:str.find") => `(tactic| (k_here; (with_reducible show wpAny _ _ (call (Value.builtin "str.find") [Value.str _ _, Value.str _ _, Value.int _ _]) _ _ _); (with_reducible refine find3_as (by with_reducible assumption) ?_); intro _ _))
local macro_rules | `(tactic| walk_at "subscriptTail Name Slice str ref") => `(tactic| (k_here; (with_reducible show wpAny _ _ (subscriptTail _ (Expr.Slice none (some _) none _) (Value.str _ _) (Value.ref _)) _ _ _); (with_reducible rename Fr _ _ _ _ => F'); (with_reducible rename News _ _ _ _ => N'); k_dflt (refine slice_ns_as (s := ⟨_, _, _, _, _⟩) (by with_reducible assumption) (by with_reducible assumption) F' N' ?_); intro _ _ _ _ _))
local macro_rules | `(tactic| walk_at "subscriptTail Name Slice str ref") => `(tactic| (k_here; (with_reducible show wpAny _ _ (subscriptTail _ (Expr.Slice (some _) (some _) none _) (Value.str _ _) (Value.ref _)) _ _ _); (with_reducible rename Fr _ _ _ _ => F'); (with_reducible rename News _ _ _ _ => N'); k_dflt (refine slice_ss_as (s := ⟨_, _, _, _, _⟩) (by with_reducible assumption) (by with_reducible assumption) F' N' ?_); intro _ _ _ _ _))
local macro_rules | `(tactic| walk_at "subscriptTail Name BinOp str int") => `(tactic| (k_here; (with_reducible show wpAny _ _ (subscriptTail _ _ (Value.str _ _) (Value.int _ _)) _ _ _); k_dflt (refine item_as (by with_reducible assumption) (by omega) (by omega) (by omega) ?_); intro _ _))
local macro_rules | `(tactic| walk_at "call builtin:str.split") => `(tactic| (k_here; (with_reducible show wpAny _ _ (call (Value.builtin "str.split") [Value.str _ _, Value.str _ _]) _ _ _); k_dflt (refine split_as (by with_reducible assumption) (by with_reducible assumption) (by with_reducible assumption) (by k_asm) (by k_asm) ?_); intro D' l' h' k' e' F' N' l1; (try k_lt l1); (kspl_open e'); (simp only [strValues, List.map_cons, List.map_nil] at N')))
local macro_rules | `(tactic| walk_at "ite") => `(tactic| (k_here; (with_reducible refine ite_f (by with_reducible assumption) ?_)))
local macro_rules | `(tactic| walk_at "ite") => `(tactic| (k_here; (with_reducible refine W.ite_pos (by with_reducible assumption) ?_)))
theorem told_A {w : World} {mean : ExcName → Option Value} {mg mb : Str → Option Value} (r host : Str) (tr th : Tok) (hr : r.length ≤ 100) (hrl : r.length ≤ sizeLine)
  (z : Str) (h0 : Txt.slice r none (some 3) = z) (h1 : (z != Str.ofString "229") = true) :
  ConT w mean mg mb 3 185 [.str r tr, .str host th] (fun _ => True) (fun v _ => ∃ t, v = .str (Str.ofString "another code") t) := by
  unfold ConT
  k_fill
  intro dp un gd cn cs a ccd cl A₀ base h₀ L m s Q E B XB TB F X T hk hd hu hp hret
  refine wpAny_call ?_
  k_dflt (refine' code_defT ?k1 ?k2 ?k3 ?k5 ?kA ?k6 ?k7 ?k8 ?k9 ?kB ?_ ?kK ?c2 ?c3 ?c4 ?c5; (case kA => exact rfl); (case kK => assumption); (case k1 => k_asm); (case k2 => k_asm); (case k3 => k_asm); (case k5 => k_asm); (case k6 => k_is); (case k7 => k_is); (case k8 => ktr_room); (case k9 => exact BindsTo.of_eq rfl); (case c5 => decide); (case kB => exact locs rfl); (case c2 => exact rfl); (case c3 => exact rfl); (case c4 => exact rfl); k_whole)
  clear F X B T
  intro L' h₁ F N B X T D
  (try dsimp only); (try k_fold)
  k_steps
  all_goals (try dsimp only)
  all_goals (repeat (k_unfold; (try dsimp only)))
  all_goals (
    refine leaveT_ (by first | assumption | exact KtsTurn.refl) (by assumption) (by assumption) fun st kF kN => ?_
    try dsimp only)
  exact hret _ _ _ _ st kF kN ⟨_, rfl⟩
theorem told_B {w : World} {mean : ExcName → Option Value} {mg mb : Str → Option Value} (r host : Str) (tr th : Tok) (hr : r.length ≤ 100) (hrl : r.length ≤ sizeLine)
  (h0 : Txt.slice r none (some 3) = Str.ofString "229") (h1 : Txt.find r (Str.ofString "(") = 7) (h2 : Txt.find3 r (Str.ofString ")") (7 + 1) = -1) :
  ConT w mean mg mb 3 185 [.str r tr, .str host th] (fun _ => True) (fun v _ => ∃ t, v = .str (Str.ofString "another form") t) := by
  unfold ConT
  k_fill
  intro dp un gd cn cs a ccd cl A₀ base h₀ L m s Q E B XB TB F X T hk hd hu hp hret
  refine wpAny_call ?_
  k_dflt (refine' code_defT ?k1 ?k2 ?k3 ?k5 ?kA ?k6 ?k7 ?k8 ?k9 ?kB ?_ ?kK ?c2 ?c3 ?c4 ?c5; (case kA => exact rfl); (case kK => assumption); (case k1 => k_asm); (case k2 => k_asm); (case k3 => k_asm); (case k5 => k_asm); (case k6 => k_is); (case k7 => k_is); (case k8 => ktr_room); (case k9 => exact BindsTo.of_eq rfl); (case c5 => decide); (case kB => exact locs rfl); (case c2 => exact rfl); (case c3 => exact rfl); (case c4 => exact rfl); k_whole)
  clear F X B T
  intro L' h₁ F N B X T D
  (try dsimp only); (try k_fold)
  k_steps
  all_goals (try dsimp only)
  all_goals (repeat (k_unfold; (try dsimp only)))
  all_goals (
    refine leaveT_ (by first | assumption | exact KtsTurn.refl) (by assumption) (by assumption) fun st kF kN => ?_
    try dsimp only)
  exact hret _ _ _ _ st kF kN ⟨_, rfl⟩
theorem told_C {w : World} {mean : ExcName → Option Value} {mg mb : Str → Option Value} (r host : Str) (tr th : Tok) (hr : r.length ≤ 100) (hrl : r.length ≤ sizeLine)
  (h0 : Txt.slice r none (some 3) = Str.ofString "229") (h1 : Txt.find r (Str.ofString "(") = 7) (R : Int) (h2 : Txt.find3 r (Str.ofString ")") (7 + 1) = R) (hR : 8 < R) (hR2 : R < r.length) (mk : Str) (h3 : Txt.item r (7 + 1) = mk) (h4 : Txt.item r (R - 1) = mk) (hmk : (mk.length == 0) = false) (hmm : (mk != mk) = false) (z : Str) (h5 : Txt.slice r (some (7 + 1)) (some R) = z) (hz : z.length + 2 ≤ sizeLine) (p0 p1 p2 p3 p4 p5 : Str) (h6 : Txt.split z mk = [p0, p1, p2, p3, p4, p5]) :
  ConT w mean mg mb 3 185 [.str r tr, .str host th] (fun _ => True) (fun v _ => ∃ t, v = .str (Str.ofString "another form") t) := by
  unfold ConT
  k_fill
  intro dp un gd cn cs a ccd cl A₀ base h₀ L m s Q E B XB TB F X T hk hd hu hp hret
  refine wpAny_call ?_
  k_dflt (refine' code_defT ?k1 ?k2 ?k3 ?k5 ?kA ?k6 ?k7 ?k8 ?k9 ?kB ?_ ?kK ?c2 ?c3 ?c4 ?c5; (case kA => exact rfl); (case kK => assumption); (case k1 => k_asm); (case k2 => k_asm); (case k3 => k_asm); (case k5 => k_asm); (case k6 => k_is); (case k7 => k_is); (case k8 => ktr_room); (case k9 => exact BindsTo.of_eq rfl); (case c5 => decide); (case kB => exact locs rfl); (case c2 => exact rfl); (case c3 => exact rfl); (case c4 => exact rfl); k_whole)
  clear F X B T
  intro L' h₁ F N B X T D
  (try dsimp only); (try k_fold)
  k_steps
  all_goals (try dsimp only)
  all_goals (repeat (k_unfold; (try dsimp only)))
  all_goals (
    refine leaveT_ (by first | assumption | exact KtsTurn.refl) (by assumption) (by assumption) fun st kF kN => ?_
    try dsimp only)
  exact hret _ _ _ _ st kF kN ⟨_, rfl⟩
theorem told_D {w : World} {mean : ExcName → Option Value} {mg mb : Str → Option Value} (r host : Str) (tr th : Tok) (hr : r.length ≤ 100) (hrl : r.length ≤ sizeLine)
  (h0 : Txt.slice r none (some 3) = Str.ofString "229") (h1 : Txt.find r (Str.ofString "(") = 7) (R : Int) (h2 : Txt.find3 r (Str.ofString ")") (7 + 1) = R) (hR : 8 < R) (hR2 : R < r.length) (mk : Str) (h3 : Txt.item r (7 + 1) = mk) (h4 : Txt.item r (R - 1) = mk) (hmk : (mk.length == 0) = false) (hmm : (mk != mk) = false) (z : Str) (h5 : Txt.slice r (some (7 + 1)) (some R) = z) (hz : z.length + 2 ≤ sizeLine) (p0 p1 p2 p3 p4 : Str) (h6 : Txt.split z mk = [p0, p1, p2, p3, p4]) (port : Int) (h7 : PySem.intText? p3 = some port) (h8 : p3.length ≤ 640) :
  ConT w mean mg mb 3 185 [.str r tr, .str host th] (fun _ => True) (fun v tl => ∃ q n t1 t2, v = .ref q ∧ (q, tupOf #[.str host t1, .int port t2] n) ∈ tl) := by
  unfold ConT
  k_fill
  intro dp un gd cn cs a ccd cl A₀ base h₀ L m s Q E B XB TB F X T hk hd hu hp hret
  refine wpAny_call ?_
  k_dflt (refine' code_defT ?k1 ?k2 ?k3 ?k5 ?kA ?k6 ?k7 ?k8 ?k9 ?kB ?_ ?kK ?c2 ?c3 ?c4 ?c5; (case kA => exact rfl); (case kK => assumption); (case k1 => k_asm); (case k2 => k_asm); (case k3 => k_asm); (case k5 => k_asm); (case k6 => k_is); (case k7 => k_is); (case k8 => ktr_room); (case k9 => exact BindsTo.of_eq rfl); (case c5 => decide); (case kB => exact locs rfl); (case c2 => exact rfl); (case c3 => exact rfl); (case c4 => exact rfl); k_whole)
  clear F X B T
  intro L' h₁ F N B X T D
  (try dsimp only); (try k_fold)
  k_steps
  all_goals (try dsimp only)
  all_goals (repeat (k_unfold; (try dsimp only)))
  all_goals (
    refine leaveT_ (by first | assumption | exact KtsTurn.refl) (by assumption) (by assumption) fun st kF kN => ?_
    try dsimp only)
  exact hret _ _ _ _ st kF kN ⟨_, _, _, _, rfl, .head _⟩
end
section
open Builtin.Str StrLaws
theorem ConT.mono {w : World} {mean : ExcName → Option Value} {mg mb : Str → Option Value} {k : Nat} {f : Addr} {args : List Value} {Pre : Heap → Prop} {Out Out' : Value → List (Addr × Obj) → Prop} (h : ConT w mean mg mb k f args Pre Out) (hO : ∀ v tl, Out v tl → Out' v tl) : ConT w mean mg mb k f args Pre Out' := by
  unfold ConT at *
  intro dp un gd cn cs a ccd cl A₀ base h₀ L m s Q E B XB TB F X T hk hd hu hp hret
  exact h dp un gd cn cs a ccd cl A₀ base h₀ L m s Q E B XB TB F X T hk hd hu hp fun v tl h' tk' a b c d => hret v tl h' tk' a b c (hO v tl d)
def digs (p : Int) : List Nat := (Str.ofString (toString p)).cps.toList
theorem mark_is : ∀ i, i < 4 → ∃ c, markT.getD i Str.empty = ⟨#[c]⟩ ∧ IsMark c
  | 0, _ => ⟨124, by decide +kernel, .inl rfl⟩
  | 1, _ => ⟨33, by decide +kernel, .inr (.inl rfl)⟩
  | 2, _ => ⟨40, by decide +kernel, .inr (.inr (.inl rfl))⟩
  | 3, _ => ⟨120, by decide +kernel, .inr (.inr (.inr rfl))⟩
def plainB (l : List Nat) : Bool := l.all fun ch => ch == 32 || ch == 97 || (decide (48 ≤ ch) && decide (ch ≤ 57))
theorem plain_of {l : List Nat} (h : plainB l = true) : Plain l := fun ch hm => by
  have := List.all_eq_true.mp h ch hm
  simp only [Bool.or_eq_true, beq_iff_eq, Bool.and_eq_true, decide_eq_true_eq] at this
  omega
theorem junk_plain (i : Nat) (h : i < 4) : plainB (junkT.getD i Str.empty).cps.toList = true ∧ (junkT.getD i Str.empty).length ≤ 1 := by
  revert i; decide +kernel
theorem lead_plain (i : Nat) (h : i < 4) : plainB (leadT.getD i Str.empty).cps.toList = true ∧ (leadT.getD i Str.empty).length ≤ 2 := by
  revert i; decide +kernel
theorem digs_plain (p : Nat) (h : p < 20) : plainB (digs (p : Int)) = true ∧ (digs (p : Int)).length ≤ 2 := by
  revert p; decide +kernel
theorem int_reads (i : Nat) (hi : i < 4) (p : Nat) (h : p < 20) : PySem.intText? ⟨((leadT.getD i Str.empty).cps.toList ++ digs (p : Int)).toArray⟩ = some (p : Int) := by
  revert p; revert i; decide +kernel
theorem btw_list {mk jk ld : Str} {cc : Nat} {p : Int} (hm : mk = ⟨#[cc]⟩) : (btw mk jk ld p).cps.toList = bt cc jk.cps.toList (ld.cps.toList ++ digs p) := by
  subst hm
  simp only [btw, KT.app_list, bt, digs, List.append_assoc, List.cons_append, List.nil_append]
theorem bt_getlast (c : Nat) (jl dl post : List Nat) : (bt c jl dl ++ post)[(bt c jl dl).length - 1]? = some c := by
  rw [bt_last]
  generalize (c :: (jl ++ c :: c :: dl)) = q
  rw [List.length_append, List.length_singleton, Nat.add_sub_cancel, List.append_assoc, List.getElem?_append_right (Nat.le_refl _)]
  simp
theorem small_line {x : Str} (h : x.length ≤ 100) : x.length ≤ sizeLine := by rw [sizeLine_eq]; omega
theorem of_list (l : List Nat) : (⟨l.toArray⟩ : Str).cps.toList = l := rfl
theorem told_core {w : World} {mean : ExcName → Option Value} {mg mb : Str → Option Value} (c : Int) (mk jk ld host : Str) (cc p : Nat) (tr th : Tok) (hm : mk = ⟨#[cc]⟩) (hc : IsMark cc) (hj : Plain jk.cps.toList) (hjl : jk.length ≤ 1) (hl : Plain ld.cps.toList) (hll : ld.length ≤ 2)
    (hd : Plain (digs (p : Int))) (hdl : (digs (p : Int)).length ≤ 2) (hint : PySem.intText? ⟨(ld.cps.toList ++ digs (p : Int)).toArray⟩ = some (p : Int)) :
    ConT w mean mg mb 3 185 [.str (replyOf c mk jk ld (p : Int)) tr, .str host th] (fun _ => True)
      (fun v tl => (c = 5 → ∃ t, v = .str (Str.ofString "another code") t) ∧ (c = 6 ∨ c = 7 → ∃ t, v = .str (Str.ofString "another form") t) ∧ (c ≠ 5 → c ≠ 6 → c ≠ 7 → ∃ q n t1 t2, v = .ref q ∧ (q, tupOf #[.str host t1, .int (p : Int) t2] n) ∈ tl)) := by
  have hB := btw_list (jk := jk) (ld := ld) (p := (p : Int)) hm
  have hld : Plain (ld.cps.toList ++ digs (p : Int)) := hl.app hd
  have hBf : 41 ∉ bt cc jk.cps.toList (ld.cps.toList ++ digs (p : Int)) := bt_free cc _ _ hc hj hld
  have hjf : cc ∉ jk.cps.toList := hj.free (.inl hc)
  have hdf : cc ∉ ld.cps.toList ++ digs (p : Int) := hld.free (.inl hc)
  have e1 : jk.cps.toList.length = jk.length := Array.length_toList
  have e2 : ld.cps.toList.length = ld.length := Array.length_toList
  have hBl : (bt cc jk.cps.toList (ld.cps.toList ++ digs (p : Int))).length ≤ 20 := by
    simp only [bt, List.length_cons, List.length_append, List.length_nil]; omega
  have hBl0 : 2 ≤ (bt cc jk.cps.toList (ld.cps.toList ++ digs (p : Int))).length := by
    simp only [bt, List.length_cons, List.length_append, List.length_nil]; omega
  have hmm : (mk != mk) = false := by simp
  have hmz : (mk.length == 0) = false := by subst hm; rfl
  have hh9 : (Str.ofString "229 ok (").cps.toList = head229 := by decide +kernel
  have hh7 : (Str.ofString "227 ok (").cps.toList = head227 := by decide +kernel
  have hg1 : (Str.ofString ") go").cps.toList = [41, 32, 103, 111] := by decide +kernel
  have hg2 : (Str.ofString " go").cps.toList = [32, 103, 111] := by decide +kernel
  have hp3 : (⟨(ld.cps.toList ++ digs (p : Int)).toArray⟩ : Str).length ≤ 640 := by
    show (ld.cps.toList ++ digs (p : Int)).toArray.size ≤ 640
    simp only [List.size_toArray, List.length_append]; omega
  generalize hBB : bt cc jk.cps.toList (ld.cps.toList ++ digs (p : Int)) = B at *
  by_cases h5 : c = 5
  · subst h5
    have hL : (replyOf 5 mk jk ld (p : Int)).cps.toList = head227 ++ (B ++ [41, 32, 103, 111]) := by
      simp only [replyOf, if_true, KT.app_list, hB, hh7, hg1, List.append_assoc]
    have hlen : (replyOf 5 mk jk ld (p : Int)).length ≤ 100 := by
      show Array.size _ ≤ _
      rw [← Array.length_toList, hL]; simp only [head227, List.length_append, List.length_cons, List.length_nil]; omega
    refine (told_A _ host tr th hlen (small_line hlen) _ (slice_to3 _ 50 50 55 (32 :: 111 :: 107 :: 32 :: 40 :: (B ++ [41, 32, 103, 111])) hL) (by decide +kernel)).mono fun v tl h => ⟨fun _ => h, fun o => by omega, fun o => absurd rfl o⟩
  by_cases h6 : c = 6
  · subst h6
    have hL : (replyOf 6 mk jk ld (p : Int)).cps.toList = head229 ++ ((cc :: B) ++ [41, 32, 103, 111]) := by
      have em : mk.cps.toList = [cc] := by rw [hm]
      unfold replyOf
      rw [if_neg (by decide), if_pos rfl]
      simp only [KT.app_list, hB, hh9, hg1, em, List.append_assoc, List.cons_append, List.nil_append]
    have hlen : (replyOf 6 mk jk ld (p : Int)).length ≤ 100 := by
      rw [h_len hL]; simp only [List.length_append, List.length_cons, List.length_nil]; omega
    have hlast : ((cc :: B) ++ [41, 32, 103, 111])[B.length]? = some cc := by
      obtain ⟨n, hn⟩ := Nat.exists_eq_add_of_le hBl0
      have q := bt_getlast cc jk.cps.toList (ld.cps.toList ++ digs (p : Int)) [41, 32, 103, 111]
      rw [hBB, hn] at q
      rw [hn, show 2 + n = (1 + n) + 1 from by omega, List.cons_append, List.getElem?_cons_succ]
      rw [show 2 + n - 1 = 1 + n from by omega] at q
      exact q
    refine (told_C _ host tr th hlen (small_line hlen) (h_slice hL) (h_find hL) ((8 + (cc :: B).length : Nat) : Int) (h_find3 hL _ rfl (by
        intro q; rcases List.mem_cons.mp q with q | q
        · unfold IsMark at hc; omega
        · exact hBf q)) (by simp only [List.length_cons]; omega) (by rw [h_len hL]; simp only [List.length_cons, List.length_nil]; omega) ⟨#[cc]⟩ (h_item hL 0 cc rfl)
        (by rw [show (((8 + (cc :: B).length : Nat) : Int) - 1) = ((8 + B.length : Nat) : Int) from by simp only [List.length_cons]; omega]; exact h_item hL B.length cc hlast) rfl (by simp) _ (h_slice2 hL)
        (by rw [sizeLine_eq]; show Array.size _ + 2 ≤ _; simp only [List.size_toArray, List.length_cons]; omega) _ _ _ _ _ _ (by rw [← hBB]; exact bt_split6 cc _ _ hjf hdf)).mono fun v tl h => ⟨fun o => by omega, fun _ => h, fun _ o => absurd rfl o⟩
  by_cases h7 : c = 7
  · subst h7
    have hL : (replyOf 7 mk jk ld (p : Int)).cps.toList = head229 ++ (B ++ [32, 103, 111]) := by
      unfold replyOf
      rw [if_neg (by decide), if_neg (by decide), if_pos rfl]
      simp only [KT.app_list, hB, hh9, hg2, List.append_assoc]
    have hlen : (replyOf 7 mk jk ld (p : Int)).length ≤ 100 := by
      rw [h_len hL]; simp only [List.length_cons, List.length_nil]; omega
    refine (told_B _ host tr th hlen (small_line hlen) (h_slice hL) (h_find hL) (h_find3_none hL (by
        intro q; rcases List.mem_append.mp q with q | q
        · exact hBf q
        · simp at q))).mono fun v tl h => ⟨fun o => by omega, fun _ => h, fun _ _ o => absurd rfl o⟩
  · have hL : (replyOf c mk jk ld (p : Int)).cps.toList = head229 ++ (B ++ [41, 32, 103, 111]) := by
      unfold replyOf
      rw [if_neg h5, if_neg h6, if_neg h7]
      simp only [KT.app_list, hB, hh9, hg1, List.append_assoc]
    have hlen : (replyOf c mk jk ld (p : Int)).length ≤ 100 := by
      rw [h_len hL]; simp only [List.length_cons, List.length_nil]; omega
    have hb0 : (B ++ [41, 32, 103, 111])[0]? = some cc := by rw [← hBB]; rfl
    have hlast : (B ++ [41, 32, 103, 111])[B.length - 1]? = some cc := by
      rw [← hBB]; exact bt_getlast _ _ _ _
    refine (told_D _ host tr th hlen (small_line hlen) (h_slice hL) (h_find hL) ((8 + B.length : Nat) : Int) (h_find3 hL _ rfl hBf) (by omega) (by rw [h_len hL]; simp only [List.length_cons, List.length_nil]; omega) ⟨#[cc]⟩ (h_item hL 0 cc hb0)
        (by rw [show (((8 + B.length : Nat) : Int) - 1) = ((8 + (B.length - 1) : Nat) : Int) from by omega]; exact h_item hL (B.length - 1) cc hlast) rfl (by simp) _ (h_slice2 hL)
        (by rw [sizeLine_eq]; show Array.size _ + 2 ≤ _; simp only [List.size_toArray]; omega) _ _ _ _ _ (by rw [← hBB]; exact bt_split cc _ _ hjf hdf) (p : Int) hint hp3).mono fun v tl h => ⟨fun o => absurd o h5, fun o => o.elim (fun z => absurd z h6) fun z => absurd z h7, fun _ _ _ => h⟩
theorem told_ok {w : World} {mean : ExcName → Option Value} {mg mb : Str → Option Value} (x count : Int) (tr th : Tok) (hc : 0 < count) (hc2 : count < 20) :
    ConT w mean mg mb 3 185 [.str (sReply x count) tr, .str (sHost x) th] (fun _ => True) (fun v tl => AnsIs x count tl v) := by
  have f4 : ∀ z : Int, 0 ≤ z.fmod 4 ∧ z.fmod 4 < 4 := fun z => ⟨Int.fmod_nonneg_of_pos _ (by decide), Int.fmod_lt_of_pos _ (by decide)⟩
  have h1 := f4 ((x.fdiv 512).fdiv 5)
  have h2 := f4 ((x.fdiv 512).fdiv 20)
  have h3 := f4 ((x.fdiv 512).fdiv 80)
  have hp0 : 0 ≤ sPort x count := Int.fmod_nonneg_of_pos _ hc
  have hp1 : sPort x count < 20 := Int.lt_trans (Int.fmod_lt_of_pos _ hc) hc2
  obtain ⟨p, hp⟩ := Int.eq_ofNat_of_zero_le hp0
  obtain ⟨cc, hm, hcc⟩ := mark_is (((x.fdiv 512).fdiv 5).fmod 4).toNat (by omega)
  have hj := junk_plain (((x.fdiv 512).fdiv 20).fmod 4).toNat (by omega)
  have hl := lead_plain (((x.fdiv 512).fdiv 80).fmod 4).toNat (by omega)
  have hd := digs_plain p (by omega)
  have hi := int_reads (((x.fdiv 512).fdiv 80).fmod 4).toNat (by omega) p (by omega)
  have core := told_core (w := w) (mean := mean) (mg := mg) (mb := mb) (x.fmod 8) (sMark x) (sJunk x) (sLead x) (sHost x) cc p tr th hm hcc (plain_of hj.1) hj.2 (plain_of hl.1) hl.2 (plain_of hd.1) hd.2 hi
  have er : sReply x count = replyOf (x.fmod 8) (sMark x) (sJunk x) (sLead x) (p : Int) := by unfold sReply; rw [hp]
  rw [er]
  refine core.mono fun v tl ⟨a, b, c⟩ => ?_
  unfold AnsIs sBad sFault
  by_cases h5 : x.fmod 8 = 5
  · exact .inl ⟨decide_eq_true (.inl h5), by rw [if_pos h5]; exact a h5⟩
  by_cases h67 : x.fmod 8 = 6 ∨ x.fmod 8 = 7
  · exact .inl ⟨decide_eq_true (.inr h67), by rw [if_neg h5]; exact b h67⟩
  · refine .inr ⟨decide_eq_false (fun o => o.elim h5 h67), ?_⟩
    rw [hp]
    exact c h5 (fun z => h67 (.inl z)) fun z => h67 (.inr z)
end
/-- what stands within the quotation marks, told twice -/
def unq : List Nat → List Nat
  | [] => []
  | [34] => []
  | 34 :: 34 :: r => 34 :: unq r
  | 34 :: _ :: _ => []
  | c :: r => c :: unq r
section
variable {prog : Program} {w : World} {A : Around} {E : Value → Shared → Prop} {s : Shared} {value slice : PySem.Expr} {x : PySem.Str} {t u : Tok} {i : Int} {Q : Value → Shared → Prop}
theorem item_free (h0 : 0 ≤ i) (h1 : i < (x.length : Int)) (hn : x.length ≤ 16777216) (h : (Txt.item x i).length = 1 → Q (.str (Txt.item x i) s.toks) { s with toks := s.toks + 1 })
    (hs : subscripted slice false (.str x t) (.int i u) = operate [.str x t, .int i u] (getItem (.str x t) (.int i u)) := by with_unfolding_all rfl)
    (ht : ∀ r, letTemporaryGo value (.str x t) r = pure () := by intro _; with_unfolding_all rfl) :
    wpAny (model prog w) A (subscriptTail value slice (.str x t) (.int i u)) Q E s := KXi.item rfl (by omega) h1 hn h hs ht
end
theorem item_code {r : Str} {i : Int} (h0 : 0 ≤ i) (h1 : i < (r.length : Int)) : ∃ c, r.cps.toList.drop i.toNat = c :: r.cps.toList.drop (i.toNat + 1) ∧ Txt.item r i = ⟨#[c]⟩ := by
  have hl : r.cps.toList.length = r.length := Array.length_toList
  have hk : i.toNat < r.cps.toList.length := by omega
  refine ⟨r.cps.toList[i.toNat], (List.drop_eq_getElem_cons hk), ?_⟩
  have := item_at r i.toNat r.cps.toList[i.toNat] (List.getElem?_eq_getElem hk)
  rw [Int.toNat_of_nonneg h0] at this
  exact this
theorem quote_is : Str.ofString "\"" = ⟨#[34]⟩ := by decide +kernel
theorem one_beq {c : Nat} : ((⟨#[c]⟩ : Str) == ⟨#[34]⟩) = true → c = 34 := fun h => by
  have := beq_iff_eq.mp h
  simpa using this
theorem one_nbeq {c : Nat} : ((⟨#[c]⟩ : Str) == ⟨#[34]⟩) = false → c ≠ 34 := fun h e => by
  subst e; simp at h
theorem unq_other {c : Nat} {t : List Nat} (h : c ≠ 34) : unq (c :: t) = c :: unq t := by
  rw [unq] <;> (intros; simp_all)
theorem unq_stop {c : Nat} {t : List Nat} (h : c ≠ 34) : unq (34 :: c :: t) = [] := by
  rw [unq]
  all_goals (intros; simp_all)
section
variable {r d : Str} {i : Int}
theorem q_end1 (h0 : 0 ≤ i) (h1 : d.cps.toList ++ unq (r.cps.toList.drop i.toNat) = unq (r.cps.toList.drop 5)) (hi : i < (r.length : Int)) (q : (Txt.item r i == Str.ofString "\"") = true) (hl : (r.length : Int) ≤ i + 1) : d.cps.toList = unq (r.cps.toList.drop 5) := by
  obtain ⟨c, hc, hit⟩ := item_code h0 hi
  rw [hit, quote_is] at q
  rw [← h1, hc, one_beq q, List.drop_eq_nil_of_le (by have : r.cps.toList.length = r.length := Array.length_toList; omega)]
  simp [unq]
theorem q_end2 (h0 : 0 ≤ i) (h1 : d.cps.toList ++ unq (r.cps.toList.drop i.toNat) = unq (r.cps.toList.drop 5)) (hi : i < (r.length : Int)) (q : (Txt.item r i == Str.ofString "\"") = true) (hl : ¬ (r.length : Int) ≤ i + 1) (q2 : (Txt.item r (i + 1) != Str.ofString "\"") = true) : d.cps.toList = unq (r.cps.toList.drop 5) := by
  obtain ⟨c, hc, hit⟩ := item_code h0 hi
  obtain ⟨c2, hc2, hit2⟩ := item_code (i := i + 1) (r := r) (by omega) (by omega)
  rw [hit, quote_is] at q
  rw [hit2, quote_is] at q2
  have hn : c2 ≠ 34 := one_nbeq (by simpa using q2)
  have e : (i + 1).toNat = i.toNat + 1 := by omega
  rw [e] at hc2
  rw [← h1, hc, one_beq q, hc2, unq_stop hn, List.append_nil]
theorem q_turn1 (h0 : 0 ≤ i) (hd : d.length ≤ i.toNat) (h1 : d.cps.toList ++ unq (r.cps.toList.drop i.toNat) = unq (r.cps.toList.drop 5)) (hi : i < (r.length : Int)) (q : (Txt.item r i == Str.ofString "\"") = true) (hl : ¬ (r.length : Int) ≤ i + 1) (q2 : (Txt.item r (i + 1) != Str.ofString "\"") = false) :
    0 ≤ i + 1 + 1 ∧ (d ++ Txt.item r i).length ≤ (i + 1 + 1).toNat ∧ (d ++ Txt.item r i).cps.toList ++ unq (r.cps.toList.drop (i + 1 + 1).toNat) = unq (r.cps.toList.drop 5) := by
  obtain ⟨c, hc, hit⟩ := item_code h0 hi
  obtain ⟨c2, hc2, hit2⟩ := item_code (i := i + 1) (r := r) (by omega) (by omega)
  rw [hit, quote_is] at q
  rw [hit2, quote_is] at q2
  have hn : c2 = 34 := one_beq (by simpa using q2)
  have e : (i + 1).toNat = i.toNat + 1 := by omega
  have e2 : (i + 1 + 1).toNat = i.toNat + 1 + 1 := by omega
  rw [e] at hc2
  refine ⟨by omega, by rw [PySem.Str.length_append, hit]; show d.length + 1 ≤ _; omega, ?_⟩
  rw [← h1, hc, one_beq q, hc2, hn, unq, KT.app_list, hit, one_beq q, e2]
  simp
theorem q_turn2 (h0 : 0 ≤ i) (hd : d.length ≤ i.toNat) (h1 : d.cps.toList ++ unq (r.cps.toList.drop i.toNat) = unq (r.cps.toList.drop 5)) (hi : i < (r.length : Int)) (q : (Txt.item r i == Str.ofString "\"") = false) :
    0 ≤ i + 1 ∧ (d ++ Txt.item r i).length ≤ (i + 1).toNat ∧ (d ++ Txt.item r i).cps.toList ++ unq (r.cps.toList.drop (i + 1).toNat) = unq (r.cps.toList.drop 5) := by
  obtain ⟨c, hc, hit⟩ := item_code h0 hi
  rw [hit, quote_is] at q
  have e : (i + 1).toNat = i.toNat + 1 := by omega
  refine ⟨by omega, by rw [PySem.Str.length_append, hit]; show d.length + 1 ≤ _; omega, ?_⟩
  rw [← h1, hc, unq_other (one_nbeq q), KT.app_list, hit, e]
  simp
theorem q_end3 (h0 : 0 ≤ i) (h1 : d.cps.toList ++ unq (r.cps.toList.drop i.toNat) = unq (r.cps.toList.drop 5)) (hi : ¬ i < (r.length : Int)) : d.cps.toList = unq (r.cps.toList.drop 5) := by
  rw [← h1, List.drop_eq_nil_of_le (by have : r.cps.toList.length = r.length := Array.length_toList; omega)]
  simp [unq]
end
section
local macro_rules | `(tactic| walk_at "subscriptTail Name Slice str ref") => `(tactic| (k_here; (with_reducible show wpAny _ _ (subscriptTail _ (Expr.Slice none (some _) none _) (Value.str _ _) (Value.ref _)) _ _ _); (with_reducible rename Fr _ _ _ _ => F'); (with_reducible rename News _ _ _ _ => N'); k_dflt (refine slice_ns_as (s := ⟨_, _, _, _, _⟩) (by with_reducible assumption) (by with_reducible assumption) F' N' ?_); intro _ _ _ _ _))
local macro_rules | `(tactic| walk_at "subscriptTail Name Slice str ref") => `(tactic| (k_here; (with_reducible show wpAny _ _ (subscriptTail _ (Expr.Slice (some _) (some _) none _) (Value.str _ _) (Value.ref _)) _ _ _); (with_reducible rename Fr _ _ _ _ => F'); (with_reducible rename News _ _ _ _ => N'); k_dflt (refine slice_ss_as (s := ⟨_, _, _, _, _⟩) (by with_reducible assumption) (by with_reducible assumption) F' N' ?_); intro _ _ _ _ _))
local macro_rules | `(tactic| walk_at "subscriptTail Name Name str int") => `(tactic| (k_here; (with_reducible show wpAny _ _ (subscriptTail _ _ (Value.str _ _) (Value.int _ _)) _ _ _); k_dflt (refine item_free (by omega) (by omega) (by omega) ?_); intro _))
local macro_rules | `(tactic| walk_at "ite") => `(tactic| (k_here; (with_reducible refine ite_f (by with_reducible assumption) ?_)))
local macro_rules | `(tactic| walk_at "ite") => `(tactic| (k_here; (with_reducible refine W.ite_pos (by with_reducible assumption) ?_)))
theorem p257_bare {w : World} {mean : ExcName → Option Value} {mg mb : Str → Option Value} (r : Str) (tr : Tok) (hr : r.length ≤ 100) (hrl : r.length ≤ sizeLine) (h0 : Txt.slice r none (some 3) = Str.ofString "257") (z : Str) (h1 : Txt.slice r (some 3) (some 5) = z) (h2 : (z != Str.ofString " \"") = true) :
  Con w mean mg mb 2 72 [.str r tr] (fun _ => True) (fun v _ => ∃ t, v = .str (Str.ofString "") t) := by
  unfold Con
  k_fill
  intro dp un gd cn cs a ccd cl outer A₀ base h₀ L m s Q E B F X T hk hd hu hp hret
  refine wpAny_call ?_
  k_dflt (refine' code_defP ?k1 ?k2 ?k3 ?k5 ?kA ?kF ?kK ?k6 ?k7 ?k8 ?k9 ?kB ?_ ?c2 ?c3 ?c4 ?c5; (case kA => exact rfl); (case kF => exact rfl); (case kK => assumption); (case k1 => k_asm); (case k2 => k_asm); (case k3 => k_asm); (case k5 => k_asm); (case k6 => k_is); (case k7 => k_is); (case k8 => ktr_room); (case k9 => exact BindsTo.of_eq rfl); (case c5 => decide); (case kB => exact locs rfl); (case c2 => exact rfl); (case c3 => exact rfl); (case c4 => exact rfl); k_whole)
  clear F X B T
  intro L' h₁ F N B X T
  (try dsimp only); (try k_fold)
  k_steps
  all_goals (try dsimp only)
  all_goals (repeat (k_unfold; (try dsimp only)))
  all_goals (
    refine leaveP_ (by assumption) (by assumption) fun st kF kN => ?_
    try dsimp only)
  exact hret _ _ _ _ st kF kN ⟨_, rfl⟩
theorem p257_ok {w : World} {mean : ExcName → Option Value} {mg mb : Str → Option Value} (r : Str) (tr : Tok) (hr : r.length ≤ 100) (hrl : r.length ≤ sizeLine) (h0 : Txt.slice r none (some 3) = Str.ofString "257") (h1 : Txt.slice r (some 3) (some 5) = Str.ofString " \"") (h5 : 5 ≤ r.length) :
  Con w mean mg mb 2 72 [.str r tr] (fun _ => True) (fun v _ => ∃ d t, v = .str d t ∧ d.cps.toList = unq (r.cps.toList.drop 5)) := by
  unfold Con
  k_fill
  intro dp un gd cn cs a ccd cl outer A₀ base h₀ L m s Q E B F X T hk hd hu hp hret
  refine wpAny_call ?_
  k_dflt (refine' code_defP ?k1 ?k2 ?k3 ?k5 ?kA ?kF ?kK ?k6 ?k7 ?k8 ?k9 ?kB ?_ ?c2 ?c3 ?c4 ?c5; (case kA => exact rfl); (case kF => exact rfl); (case kK => assumption); (case k1 => k_asm); (case k2 => k_asm); (case k3 => k_asm); (case k5 => k_asm); (case k6 => k_is); (case k7 => k_is); (case k8 => ktr_room); (case k9 => exact BindsTo.of_eq rfl); (case c5 => decide); (case kB => exact locs rfl); (case c2 => exact rfl); (case c3 => exact rfl); (case c4 => exact rfl); k_whole)
  clear F X B T
  intro L' h₁ F N B X T
  (try dsimp only); (try k_fold)
  k_with "exec While Compare cons nil" => k_while (fun _ (i : Int) (d : Str) => 0 ≤ i ∧ d.length ≤ i.toNat ∧ d.cps.toList ++ unq (r.cps.toList.drop i.toNat) = unq (r.cps.toList.drop 5)) (fun _ (i : Int) (_ : Str) => ((r.length : Int) - i).toNat) "i" "dirname"
  k_with "state" => first | exact q_turn1 (by assumption) (by assumption) (by assumption) (by assumption) (by assumption) (by assumption) (by assumption) | exact q_turn2 (by assumption) (by assumption) (by assumption) (by assumption) (by assumption)
  k_steps
  all_goals (try dsimp only)
  all_goals (repeat (k_unfold; (try dsimp only)))
  all_goals (
    refine leaveP_ (by assumption) (by assumption) fun st kF kN => ?_
    try dsimp only)
  · exact hret _ _ _ _ st kF kN ⟨_, _, rfl, q_end1 (by assumption) (by assumption) (by assumption) (by assumption) (by assumption)⟩
  · exact hret _ _ _ _ st kF kN ⟨_, _, rfl, q_end2 (by assumption) (by assumption) (by assumption) (by assumption) (by assumption) (by assumption)⟩
  · exact hret _ _ _ _ st kF kN ⟨_, _, rfl, q_end3 (by assumption) (by assumption) (by assumption)⟩
end
/-- the lists of ints under the given values -/
def RowsIn (tl : List (Addr × Obj)) : List Value → List (List Int) → Prop
  | [], [] => True
  | v :: vs, W :: Ws => (∃ r n ws, v = .ref r ∧ (r, listOf ws.toArray n) ∈ tl ∧ IntsAre ws W) ∧ RowsIn tl vs Ws
  | _, _ => False
def TabIn (tl : List (Addr × Obj)) (v : Value) (Ws : List (List Int)) : Prop := ∃ tb n vs, v = .ref tb ∧ (tb, listOf vs.toArray n) ∈ tl ∧ RowsIn tl vs Ws
section
variable {prog : Program} {w : World} {A : Around} {E : Value → Shared → Prop} {s : Shared} {env : Env} {h₀ : Heap} {x : Str} {body : List Stmt} {Q : Flow → Shared → Prop}
theorem range_eq (j : Int) {i a : Int} {t u : Tok} {Q : Value → Shared → Prop} (e : i = j) (h : wpAny (model prog w) A (call (.type "range") [.int a t, .int j u]) Q E s) : wpAny (model prog w) A (call (.type "range") [.int a t, .int i u]) Q E s := by
  rw [e]; exact h
theorem rr_succ (k' : Int) {I : Addr} {a : Int} {n k i : Nat} {m : Str → Option Value} {news : List (Addr × Obj)} (hk : a + (i : Int) = k')
    (h : ∀ t h tk, Fr h₀ env.locals h (fun y => if y = x then some (.int k' t) else m y) → News h₀ env.locals h ((I, itR (a + ((i + 1 : Nat) : Int)) ((n : Int) - ((i + 1 : Nat) : Int))) :: news) →
      wpAny (model prog w) A (execs body env) (UnrPost h₀ env.locals { s with heap := h, toks := tk } I (itR (a + ((i + 1 : Nat) : Int)) ((n : Int) - ((i + 1 : Nat) : Int))) (RangeRest prog w A E h₀ env x body Q s I a n k (i + 1)) Q) E { s with heap := h, toks := tk }) :
    RangeRest prog w A E h₀ env x body Q s I a n (k + 1) i m news := RangeRest.succ (by rw [hk]; exact h)
end
section
theorem sent_mem {q : Addr} {r r' h h' : Str} {t1 t2 : Tok} {ans : Value} {n : Nat} {rest : List (Addr × Obj)} (e : r' = r) (e2 : h' = h) : (q, tupOf #[.str r' t1, .str h' t2, ans] n) ∈ (q, tupOf #[.str r t1, .str h t2, ans] n) :: rest := by
  subst e e2; exact .head _
theorem tup2_mem {q q' : Addr} {h h' : Str} {i i' : Int} {t1 t2 : Tok} {o : Obj} {n : Nat} {rest : List (Addr × Obj)} (e : h' = h) (e2 : i' = i) : (q, tupOf #[.str h' t1, .int i' t2] n) ∈ (q', o) :: (q, tupOf #[.str h t1, .int i t2] n) :: rest := by
  subst e e2; exact .tail _ (.head _)
theorem sentOut5 {x count : Int} {q : Addr} {r h : Str} {t1 t2 t : Tok} {n : Nat} {rest : List (Addr × Obj)} (h5 : x.fmod 8 = 5) (hr : sReply x count = r) (hh : sHost x = h) :
    SentOut x count (.ref q) ((q, tupOf #[.str r t1, .str h t2, .str (Str.ofString "another code") t] n) :: rest) :=
  ⟨q, n, t1, t2, _, rfl, sent_mem hr hh, .inl ⟨decide_eq_true (.inl h5), t, by unfold sFault; rw [if_pos h5]⟩⟩
theorem sentOut6 {x count : Int} {q : Addr} {r h : Str} {t1 t2 t : Tok} {n : Nat} {rest : List (Addr × Obj)} (h5 : x.fmod 8 ≠ 5) (h6 : x.fmod 8 = 6 ∨ x.fmod 8 = 7) (hr : sReply x count = r) (hh : sHost x = h) :
    SentOut x count (.ref q) ((q, tupOf #[.str r t1, .str h t2, .str (Str.ofString "another form") t] n) :: rest) :=
  ⟨q, n, t1, t2, _, rfl, sent_mem hr hh, .inl ⟨decide_eq_true (.inr h6), t, by unfold sFault; rw [if_neg h5]⟩⟩
theorem sentOut0 {x count : Int} {q q2 : Addr} {r h h' : Str} {i : Int} {t1 t2 t3 t4 : Tok} {n n2 : Nat} {rest : List (Addr × Obj)} (h5 : x.fmod 8 ≠ 5) (h6 : x.fmod 8 ≠ 6) (h7 : x.fmod 8 ≠ 7) (hr : sReply x count = r) (hh : sHost x = h) (hi : sPort x count = i) (hh' : h' = h) :
    SentOut x count (.ref q) ((q, tupOf #[.str r t1, .str h t2, .ref q2] n) :: (q2, tupOf #[.str h' t3, .int i t4] n2) :: rest) :=
  ⟨q, n, t1, t2, _, rfl, sent_mem hr hh, .inr ⟨decide_eq_false (fun o => o.elim h5 fun o => o.elim h6 h7), q2, n2, t3, t4, rfl, tup2_mem (hh.trans hh'.symm) hi⟩⟩
theorem tab_item {prog : Program} {w : World} {A : Around} {E : Value → Shared → Prop} {s : Shared} {value slice : PySem.Expr} {l : Addr} {vs : List Value} {ws : List PySem.Str} {i : Int} {u : Tok} {Q : Value → Shared → Prop}
    (hl : s.heap.IsList l vs.toArray) (hw : StrsAre vs ws) (h0 : 0 ≤ i) (h1 : i < (ws.length : Int)) (hfit : i < 2 ^ 63) (B : Nat) (hB : ∀ z ∈ ws, z.length ≤ B)
    (h : ∀ t' (z : PySem.Str), ws.getD i.toNat PySem.Str.empty = z → z.length ≤ B → Q (.str z t') s)
    (hs : subscripted slice false (.ref l) (.int i u) = operate [.ref l, .int i u] (getItem (.ref l) (.int i u)) := by with_unfolding_all rfl) :
    wpAny (model prog w) A (subscriptTail value slice (.ref l) (.int i u)) Q E s :=
  KTb.item_list hl hw h0 h1 hfit (fun t' hlt => h t' _ rfl (by
    rw [List.getD_eq_getElem?_getD, List.getElem?_eq_getElem hlt]; exact hB _ (List.getElem_mem _))) hs
theorem add_len {prog : Program} {w : World} {A : Around} {E : Value → Shared → Prop} {s : Shared} {x y : PySem.Str} {t u : Tok} {Q : Value → Shared → Prop} {a b : Nat} (ha : x.length ≤ a) (hb : y.length ≤ b) (hab : a + b ≤ 1000000)
    (h : ∀ t' tk, (x ++ y).length ≤ a + b → Q (.str (x ++ y) t') { s with toks := tk }) :
    wpAny (model prog w) A (binaryOp .Add (.str x t) (.str y u)) Q E s :=
  add_str (fun t' tk => h t' tk (by rw [PySem.Str.length_append]; omega)) (by rw [sizeLine_eq]; omega)
local macro_rules | `(tactic| walk_at "subscriptTail") => `(tactic| (k_here; (with_reducible show wpAny _ _ (subscriptTail _ _ (Value.ref _) (Value.int _ _)) _ _ _); ktb_letter; k_dflt (refine' tab_item ?ktbl ?ktbw ?ktb0 ?ktb1 ?ktbf 5 ?ktbB ?_; (case ktbl => ktb_isList); (case ktbw => repeat constructor); (case ktb0 => ktb_idx); (case ktb1 => ktb_idx); (case ktbf => ktb_idx); (case ktbB => decide +kernel)); intro _ _ _ _))
local macro_rules | `(tactic| walk_at "binaryOp Add str str") => `(tactic| (k_here; (with_reducible show wpAny _ _ (binaryOp Operator.Add (Value.str _ _) (Value.str _ _)) _ _ _); (with_reducible refine' add_len ?ha ?hb ?hab ?_); (case ha => with_reducible assumption); (case hb => with_reducible assumption); (case hab => k_dflt decide); intro _ _ _))
theorem sent_ok {w : World} {mean : ExcName → Option Value} {mg mb : Str → Option Value} (x count : Int) (tx tc : Tok) (h0 : 0 ≤ x) (h1 : x < 1000000000) (hc : 0 < count) (hc2 : count < 20) :
  Con w mean mg mb 1 178 [.int x tx, .int count tc] (fun _ => True) (SentOut x count) := by
  unfold Con
  k_fill
  intro dp un gd cn cs a ccd cl outer A₀ base h₀ L m s Q E B F X T hk hd hu hp hret
  have l1 : (Str.ofString "227 ok (").length ≤ 10 := by decide +kernel
  have l2 : (Str.ofString "229 ok (").length ≤ 10 := by decide +kernel
  have l3 : (Str.ofString ") go").length ≤ 10 := by decide +kernel
  have l4 : (Str.ofString " go").length ≤ 10 := by decide +kernel
  have hp1 : 0 ≤ ((x.fdiv 8).fmod 64).fmod count := Int.fmod_nonneg_of_pos _ hc
  have hp2 : ((x.fdiv 8).fmod 64).fmod count < 20 := Int.lt_trans (Int.fmod_lt_of_pos _ hc) hc2
  have l5 : (Str.ofString (toString (((x.fdiv 8).fmod 64).fmod count))).length ≤ 10 := KT.len_num hp1 (Int.lt_trans hp2 (by decide))
  refine wpAny_call ?_
  k_dflt (refine' code_defP ?k1 ?k2 ?k3 ?k5 ?kA ?kF ?kK ?k6 ?k7 ?k8 ?k9 ?kB ?_ ?c2 ?c3 ?c4 ?c5; (case kA => exact rfl); (case kF => exact rfl); (case kK => assumption); (case k1 => k_asm); (case k2 => k_asm); (case k3 => k_asm); (case k5 => k_asm); (case k6 => k_is); (case k7 => k_is); (case k8 => ktr_room); (case k9 => exact BindsTo.of_eq rfl); (case c5 => decide); (case kB => exact locs rfl); (case c2 => exact rfl); (case c3 => exact rfl); (case c4 => exact rfl); k_whole)
  clear F X B T
  intro L' h₁ F N B X T
  (try dsimp only); (try k_fold)
  k_steps
  all_goals (
    refine leaveP_ (by assumption) (by assumption) fun st kF kN => ?_
    dsimp only
    refine hret _ _ _ _ st kF kN ?_
    subst_vars)
  · (refine sentOut5 (by assumption) ?_ rfl); unfold sReply replyOf; rw [if_pos (by assumption)]; rfl
  · (refine sentOut6 (by assumption) (.inl (by assumption)) ?_ rfl); unfold sReply replyOf; rw [if_neg (by assumption), if_pos (by assumption)]; rfl
  · (refine sentOut6 (by assumption) (.inr (by assumption)) ?_ rfl); unfold sReply replyOf; rw [if_neg (by assumption), if_neg (by assumption), if_pos (by assumption)]; rfl
  · (refine sentOut0 (by assumption) (by assumption) (by assumption) ?_ rfl rfl rfl); unfold sReply replyOf; rw [if_neg (by assumption), if_neg (by assumption), if_neg (by assumption)]; rfl
end
section
local macro_rules | `(tactic| walk_at "pad 3 0") => `(tactic| fail "pad")
local macro_rules | `(tactic| walk_at "call type:range") => `(tactic| (k_here; (with_reducible show wpAny _ _ (call (Value.type "range") [Value.int _ _, Value.int (_ + _) _]) _ _ _); k_dflt (first | refine range_eq 2 (by decide) ?_ | refine range_eq 3 (by decide) ?_ | refine range_eq 4 (by decide) ?_ | refine range_eq 5 (by decide) ?_)))
local macro_rules | `(tactic| walk_at "RangeRest") => `(tactic| (with_unfolding_all first
  | (refine rr_succ 1 (by decide) (fun t' h' tk' F' N' => ?_))
  | (refine rr_succ 2 (by decide) (fun t' h' tk' F' N' => ?_))
  | (refine rr_succ 3 (by decide) (fun t' h' tk' F' N' => ?_))
  | (refine rr_succ 4 (by decide) (fun t' h' tk' F' N' => ?_))
  | (refine RangeRest.zero (fun h' tk' F' N' => ?_))))
theorem woods_2 {w : World} {mean : ExcName → Option Value} {mg mb : Str → Option Value} (tr : Tok) :
  Con w mean mg mb 1 157 [.int 2 tr] (fun _ => True) (fun v tl => TabIn tl v [[1,1,1,1],[0,1,2],[0,2]]) := by
  unfold Con
  k_fill
  intro dp un gd cn cs a ccd cl outer A₀ base h₀ L m s Q E B F X T hk hd hu hp hret
  refine wpAny_call ?_
  k_dflt (refine' code_defP ?k1 ?k2 ?k3 ?k5 ?kA ?kF ?kK ?k6 ?k7 ?k8 ?k9 ?kB ?_ ?c2 ?c3 ?c4 ?c5; (case kA => exact rfl); (case kF => exact rfl); (case kK => assumption); (case k1 => k_asm); (case k2 => k_asm); (case k3 => k_asm); (case k5 => k_asm); (case k6 => k_is); (case k7 => k_is); (case k8 => ktr_room); (case k9 => exact BindsTo.of_eq rfl); (case c5 => decide); (case kB => exact locs rfl); (case c2 => exact rfl); (case c3 => exact rfl); (case c4 => exact rfl); k_whole)
  clear F X B T
  intro L' h₁ F N B X T
  (try dsimp only); (try k_fold)
  k_steps
  all_goals (try dsimp only)
  all_goals (repeat (k_unfold; (try dsimp only)))
  all_goals (
    refine leaveP_ (by assumption) (by assumption) fun st kF kN => ?_
    try dsimp only)
  refine hret _ _ _ _ st kF kN ⟨_, _, [.ref _, .ref _, .ref _], rfl, by k_mem, ?_⟩
  repeat' (first | exact trivial | refine And.intro ⟨_, _, _, rfl, by k_mem, ?_⟩ ?_)
  all_goals first | assumption | (repeat (first | exact IntsAre.nil | refine IntsAre.cons _ _ ?_))
theorem woods_3 {w : World} {mean : ExcName → Option Value} {mg mb : Str → Option Value} (tr : Tok) :
  Con w mean mg mb 1 157 [.int 3 tr] (fun _ => True) (fun v tl => TabIn tl v [[1,1,1,1,1],[0,1,2,3],[0,2,5],[0,5]]) := by
  unfold Con
  k_fill
  intro dp un gd cn cs a ccd cl outer A₀ base h₀ L m s Q E B F X T hk hd hu hp hret
  refine wpAny_call ?_
  k_dflt (refine' code_defP ?k1 ?k2 ?k3 ?k5 ?kA ?kF ?kK ?k6 ?k7 ?k8 ?k9 ?kB ?_ ?c2 ?c3 ?c4 ?c5; (case kA => exact rfl); (case kF => exact rfl); (case kK => assumption); (case k1 => k_asm); (case k2 => k_asm); (case k3 => k_asm); (case k5 => k_asm); (case k6 => k_is); (case k7 => k_is); (case k8 => ktr_room); (case k9 => exact BindsTo.of_eq rfl); (case c5 => decide); (case kB => exact locs rfl); (case c2 => exact rfl); (case c3 => exact rfl); (case c4 => exact rfl); k_whole)
  clear F X B T
  intro L' h₁ F N B X T
  (try dsimp only); (try k_fold)
  k_steps
  all_goals (try dsimp only)
  all_goals (repeat (k_unfold; (try dsimp only)))
  all_goals (
    refine leaveP_ (by assumption) (by assumption) fun st kF kN => ?_
    try dsimp only)
  refine hret _ _ _ _ st kF kN ⟨_, _, [.ref _, .ref _, .ref _, .ref _], rfl, by k_mem, ?_⟩
  repeat' (first | exact trivial | refine And.intro ⟨_, _, _, rfl, by k_mem, ?_⟩ ?_)
  all_goals first | assumption | (repeat (first | exact IntsAre.nil | refine IntsAre.cons _ _ ?_))
theorem woods_4 {w : World} {mean : ExcName → Option Value} {mg mb : Str → Option Value} (tr : Tok) :
  Con w mean mg mb 1 157 [.int 4 tr] (fun _ => True) (fun v tl => TabIn tl v [[1,1,1,1,1,1],[0,1,2,3,4],[0,2,5,9],[0,5,14],[0,14]]) := by
  unfold Con
  k_fill
  intro dp un gd cn cs a ccd cl outer A₀ base h₀ L m s Q E B F X T hk hd hu hp hret
  refine wpAny_call ?_
  k_dflt (refine' code_defP ?k1 ?k2 ?k3 ?k5 ?kA ?kF ?kK ?k6 ?k7 ?k8 ?k9 ?kB ?_ ?c2 ?c3 ?c4 ?c5; (case kA => exact rfl); (case kF => exact rfl); (case kK => assumption); (case k1 => k_asm); (case k2 => k_asm); (case k3 => k_asm); (case k5 => k_asm); (case k6 => k_is); (case k7 => k_is); (case k8 => ktr_room); (case k9 => exact BindsTo.of_eq rfl); (case c5 => decide); (case kB => exact locs rfl); (case c2 => exact rfl); (case c3 => exact rfl); (case c4 => exact rfl); k_whole)
  clear F X B T
  intro L' h₁ F N B X T
  (try dsimp only); (try k_fold)
  k_steps
  all_goals (try dsimp only)
  all_goals (repeat (k_unfold; (try dsimp only)))
  all_goals (
    refine leaveP_ (by assumption) (by assumption) fun st kF kN => ?_
    try dsimp only)
  refine hret _ _ _ _ st kF kN ⟨_, _, [.ref _, .ref _, .ref _, .ref _, .ref _], rfl, by k_mem, ?_⟩
  repeat' (first | exact trivial | refine And.intro ⟨_, _, _, rfl, by k_mem, ?_⟩ ?_)
  all_goals first | assumption | (repeat (first | exact IntsAre.nil | refine IntsAre.cons _ _ ?_))
end
section
theorem inst_base {g h : Heap} {L x C dx : Addr} {m : Str → Option Value} {od : Obj} (F : Fr g L h m) (h1 : g.get? x = some (instObj C dx)) (h2 : g.get? dx = some od) : InstAt h x (instObj C dx) C (some od) := ⟨F.keep _ _ h1, rfl, rfl, F.keep _ _ h2⟩
theorem inst_base2 {g g1 h : Heap} {L L1 x C dx : Addr} {m m1 : Str → Option Value} {od : Obj} (F1 : Fr g1 L1 h m1) (F : Fr g L g1 m) (h1 : g.get? x = some (instObj C dx)) (h2 : g.get? dx = some od) : InstAt h x (instObj C dx) C (some od) := ⟨F1.keep _ _ (F.keep _ _ h1), rfl, rfl, F1.keep _ _ (F.keep _ _ h2)⟩
theorem eqv_bools5 {a b c d e a' b' c' d' e' : Bool} (q : [a, b, c, d, e] = [a', b', c', d', e']) : PyData.eqv (.tuple [.bool a, .bool b, .bool c, .bool d, .bool e]) (.tuple [.bool a', .bool b', .bool c', .bool d', .bool e']) = true := by
  simp only [List.cons.injEq, and_true] at q
  obtain ⟨rfl, rfl, rfl, rfl, rfl⟩ := q
  simp only [PyData.eqv, PyData.eqvAll, beq_self_eq_true, Bool.and_true]
section
variable {prog : Program} {w : World} {A : Around} {E : Value → Shared → Prop} {s : Shared} {u v : Value} {as bs : List Addr} {a b c d e a' b' c' d' e' : Bool} {Q : Value → Shared → Prop}
theorem ne_alike (ra : Reads s.heap u (.tuple [.bool a, .bool b, .bool c, .bool d, .bool e]) as) (rb : Reads s.heap v (.tuple [.bool a', .bool b', .bool c', .bool d', .bool e']) bs) (q : [a, b, c, d, e] = [a', b', c', d', e']) (hu : A.units + 64 < cLine)
    (h : Q (.bool false) s) : wpAny (model prog w) A (compareOp .NotEq u v) Q E s := ne_dataH ra rb rfl rfl hu (by rw [eqv_bools5 q]; exact h)
theorem eq_alike (ra : Reads s.heap u (.tuple [.bool a, .bool b, .bool c, .bool d, .bool e]) as) (rb : Reads s.heap v (.tuple [.bool a', .bool b', .bool c', .bool d', .bool e']) bs) (q : [a, b, c, d, e] = [a', b', c', d', e']) (hu : A.units + 64 < cLine)
    (h : Q (.bool true) s) : wpAny (model prog w) A (compareOp .Eq u v) Q E s := eq_dataH ra rb rfl rfl hu (by rw [eqv_bools5 q]; exact h)
end
local macro_rules | `(tactic| ke_room) => `(tactic| ktr_units)
local macro_rules | `(tactic| k_inst) => `(tactic| exact inst_base2 (by assumption) (by assumption) (by assumption) (by assumption))
local macro_rules | `(tactic| k_inst) => `(tactic| exact inst_base (by assumption) (by assumption) (by assumption))
local macro_rules | `(tactic| walk_at "pad 4 0") => `(tactic| fail "pad")
local macro_rules | `(tactic| walk_at "pad 4 1") => `(tactic| fail "pad")
local macro_rules | `(tactic| walk_at "compareOp NotEq ref ref") => `(tactic| (k_here; k_dflt (refine ne_alike (by ke_read) (by ke_read) (by with_reducible assumption) (by ke_room) ?_)))
local macro_rules | `(tactic| walk_at "compareOp Eq ref ref") => `(tactic| (k_here; k_dflt (refine eq_alike (by ke_read) (by ke_read) (by with_reducible assumption) (by ke_room) ?_)))
theorem alike_ok {w : World} {mean : ExcName → Option Value} {mg mb : Str → Option Value} (one other d1 d2 : Addr) (i j : Int) (ti tj : Tok) (x y : Str) (t1 t2 k1 k2 : Tok) (hs1 hs2 : Int) (n1 n2 : Nat)
  (hsame : [decide (x.cps.toList < y.cps.toList), !decide (y.cps.toList < x.cps.toList), x == y, decide (y.cps.toList < x.cps.toList), !decide (x.cps.toList < y.cps.toList)] = [decide (i < j), decide (i ≤ j), i == j, decide (j < i), decide (j ≤ i)]) :
  Con w mean mg mb 2 192 [.ref one, .ref other, .int i ti, .int j tj] (fun h => h.get? one = some (instObj 146 d1) ∧ h.get? other = some (instObj 146 d2) ∧ h.get? d1 = some (dictOf [⟨hs1, .str (Str.ofString "text") k1, .str x t1⟩] n1) ∧ h.get? d2 = some (dictOf [⟨hs2, .str (Str.ofString "text") k2, .str y t2⟩] n2)) (fun v _ => v = .bool true) := by
  unfold Con
  k_fill
  intro dp un gd cn cs a ccd cl outer A₀ base h₀ L m s Q E B F X T hk hd hu hp hret
  obtain ⟨hx, hy, hdx, hdy⟩ := hp
  refine wpAny_call ?_
  k_dflt (refine' code_defP ?k1 ?k2 ?k3 ?k5 ?kA ?kF ?kK ?k6 ?k7 ?k8 ?k9 ?kB ?_ ?c2 ?c3 ?c4 ?c5; (case kA => exact rfl); (case kF => exact rfl); (case kK => assumption); (case k1 => k_asm); (case k2 => k_asm); (case k3 => k_asm); (case k5 => k_asm); (case k6 => k_is); (case k7 => k_is); (case k8 => ktr_room); (case k9 => exact BindsTo.of_eq rfl); (case c5 => decide); (case kB => exact locs rfl); (case c2 => exact rfl); (case c3 => exact rfl); (case c4 => exact rfl); k_whole)
  clear F X B T
  intro L' h₁ F N B X T
  (try dsimp only); (try k_fold)
  k_steps
  all_goals (try dsimp only)
  all_goals (repeat (k_unfold; (try dsimp only)))
  all_goals (
    refine leaveP_ (by assumption) (by assumption) fun st kF kN => ?_
    try dsimp only)
  exact hret _ _ _ _ st kF kN rfl
end
/-- where the walk is to stop, for a step by hand -/
def Stopped (p : Prop) : Prop := p
theorem stop_here {p : Prop} (h : Stopped p) : p := h
theorem Stopped.go {p : Prop} (h : p) : Stopped p := h
section
variable {prog : Program} {w : World} {A : Around} {E : Value → Shared → Prop} {Q : Flow → Shared → Prop} {s : Shared} {env : Env} {h₀ : Heap} {L : Addr}
/-- what a turn of a while has to show at its end -/
def WEnd {σ : Type} (h₀ : Heap) (L : Addr) (s : Shared) (Led : σ → List (Addr × Obj)) (ps : σ → List (Str × Value)) (P : σ → Prop) (μ : σ → Nat) (c : σ) (s₂ : Shared) : Prop :=
  ∃ (c' : σ) (h' : Heap) (tk : Nat) (m' : Str → Option Value) (news' : List (Addr × Obj)), s₂ = { s with heap := h', toks := tk } ∧ Fr h₀ L h' m' ∧ News h₀ L h' news' ∧ (∀ p ∈ Led c', p ∈ news') ∧ (∀ p ∈ ps c', m' p.1 = some p.2) ∧ P c' ∧ μ c' < μ c
def WPost {σ : Type} (h₀ : Heap) (L : Addr) (s : Shared) (Led : σ → List (Addr × Obj)) (ps : σ → List (Str × Value)) (P : σ → Prop) (μ : σ → Nat) (Q : Flow → Shared → Prop) (c : σ) (f : Flow) (s₂ : Shared) : Prop :=
  match f with
  | .ret v => Q (.ret v) s₂
  | .brk => Q .next s₂
  | _ => WEnd h₀ L s Led ps P μ c s₂
theorem my_while {σ : Type} {test : Expr} {body : List Stmt} {pos : Pos} {m₀ : Str → Option Value} {news : List (Addr × Obj)} (Led : σ → List (Addr × Obj)) (ps : σ → List (Str × Value)) (P : σ → Prop) (μ : σ → Nat)
    (F : Fr h₀ L s.heap m₀) (N : News h₀ L s.heap news) (start : ∃ c₀ : σ, (∀ p ∈ Led c₀, p ∈ news) ∧ (∀ p ∈ ps c₀, m₀ p.1 = some p.2) ∧ P c₀)
    (turn : ∀ (c : σ) (u : Str → Option Value) h tk, P c → Fr h₀ L h (kstB u (ps c)) → News h₀ L h (Led c) →
      wpAny (model prog w) A (isTrue test env (eval test env)) (fun b s₂ =>
        if b = true then wpAny (model prog w) A (execs body env) (WPost h₀ L s Led ps P μ Q c) E s₂ else Q .next s₂) E { s with heap := h, toks := tk })
    (hE : PassesOwn (model prog w) A env E := by passes_own) :
    wpAny (model prog w) A (exec (.While test body [] pos) env) Q E s := by
  obtain ⟨c₀, hn, hk, hp⟩ := start
  refine While_inv2 (fun n m nx => ∃ c : σ, nx = Led c ∧ μ c = n ∧ (∀ p ∈ ps c, m p.1 = some p.2) ∧ P c) F (fun p hp => N p (hn p hp)) ⟨c₀, rfl, rfl, hk, hp⟩ ?_ hE
  rintro n m₁ nx h tk F₁ N₁ ⟨c, hnx, hsz, h1, hp'⟩
  rw [hnx] at N₁
  have em : kstB m₁ (ps c) = m₁ := by
    funext y
    exact kstB_eq h1 fun _ => rfl
  refine wpAny_mono (turn c m₁ h tk hp' (by rw [em]; exact F₁) N₁) (fun b s₂ p => ?_) fun _ _ x => x
  cases b with
  | false => simpa using p
  | true =>
    simp only [if_true] at p ⊢
    refine wpAny_mono p (fun f s₃ q => ?_) fun _ _ x => x
    cases f with
    | ret v => exact q
    | brk => exact q
    | next =>
      obtain ⟨c', h', tk', m', news', rfl, F', N', hn, hk9, hp9, hm9⟩ := q
      exact ⟨h', tk', m', Led c', μ c', rfl, F', fun p hp => N' p (hn p hp), hsz ▸ hm9, c', rfl, rfl, hk9, hp9⟩
    | cont =>
      obtain ⟨c', h', tk', m', news', rfl, F', N', hn, hk9, hp9, hm9⟩ := q
      exact ⟨h', tk', m', Led c', μ c', rfl, F', fun p hp => N' p (hn p hp), hsz ▸ hm9, c', rfl, rfl, hk9, hp9⟩
end
section
variable {prog : Program} {w : World} {A : Around} {E : Value → Shared → Prop} {s : Shared}
theorem fits_m1 : Builtin.List.listFitsIndex (-1) = true := fitsIndex_neg (by decide) (by decide)
theorem set_last {l : Addr} {items : Array Value} {n j : Nat} {t : Tok} {v : Value} {Q : Unit → Shared → Prop} (ho : s.heap.get? l = some (listOf items n)) (hj : items.size = j + 1)
    (hQ : Q () { s with heap := s.heap.update l (Obj.mapSeq (·.setIfInBounds j v)) }) : wpAny (model prog w) A (setItem (.ref l) (.int (-1) t) v) Q E s := by
  have hl : s.heap.IsList l items := PySem.IsL.isList (n := n) ho
  have hi : seqIndex? (-1) items.size = some j := by
    rw [seqIndex_neg (by decide) (by omega)]
    congr 1
    omega
  have hx : items[j]? = some items[j] := Array.getElem?_eq_getElem (by omega)
  unfold setItem
  try with_reducible refine wpAny_holding ?_
  first | refine wpAny_bind (wpAny_pure ?_) | skip
  refine wpAny_bind (wpAny_sequenceKey hl.typeIs (by decide) ?_)
  refine wpAny_bind (wpAny_callSpecial?_slot (name := Str.ofString "__setitem__") hl.typeIs slot_list_setitem
    (wpAny_call_entry slot_list_setitem hl.typeIs entry_list_setitem ?_ (args_list_setitem _ _ _)))
  show wpAny _ _ (Builtin.List.listSubscript? (.int (-1) t) >>= _) _ _ s
  refine wpAny_bind (wpAny_listSubscript_int fits_m1 ?_)
  show wpAny _ _ ((Builtin.List.listItems (.ref l) >>= fun xs => pure ((seqIndex? (-1) xs.size).bind fun i => xs[i]?.map (i, ·))) >>= _) _ _ s
  refine wpAny_bind (wpAny_bind ?_)
  show wpAny _ _ (seqItems? (.ref l) >>= _) _ _ s
  refine wpAny_bind (wpAny_seqItems ho rfl (wpAny_pure (wpAny_pure ?_)))
  rw [hi]
  simp only [Option.bind_some, hx, Option.map_some]
  show wpAny _ _ (setSeqItemAt l j v >>= _) _ _ s
  refine wpAny_bind (wpAny_setSeqItemAt ho rfl ?_)
  first
    | exact wpAny_bind (wpAny_pure (wpAny_pure ⟨.none, rfl, wpAny_pure hQ⟩))
    | exact wpAny_pure ⟨.none, rfl, wpAny_pure hQ⟩
end
section
variable {prog : Program} {w : World} {A : Around} {E : Value → Shared → Prop} {s : Shared} {h₀ : Heap} {L D : Addr} {m : Str → Option Value} {news news' : List (Addr × Obj)} {vi : List Value} {x v : Value} {n : Nat} {t : Tok}
theorem last_get {Q : Value → Shared → Prop} (N : News h₀ L s.heap news) (hm : (D, listOf (vi ++ [x]).toArray n) ∈ news) (hsz : vi.length ≤ 1000) (h : Q x s) : wpAny (model prog w) A (getItem (.ref D) (.int (-1) t)) Q E s := by
  refine wpAny_getItem_list_neg (N.isList hm) (by decide) (by simp; omega) (by decide) ?_ h
  have e : ((-1 : Int) + ((vi ++ [x]).toArray.size : Nat)).toNat = vi.length := by simp; omega
  rw [e]
  simp
theorem last_set {Q : Unit → Shared → Prop} (F : Fr h₀ L s.heap m) (N : News h₀ L s.heap news) (U : Upd D (listOf (vi ++ [x]).toArray n) (listOf (vi ++ [v]).toArray n) news news')
    (h : ∀ h', Fr h₀ L h' m → News h₀ L h' news' → Q () { s with heap := h' }) : wpAny (model prog w) A (setItem (.ref D) (.int (-1) t) v) Q E s := by
  obtain ⟨pre, post, rfl, rfl, a, b⟩ := U.split
  have z := N (D, listOf (vi ++ [x]).toArray n) (List.mem_append.mpr (.inr (.head _)))
  have hsz : (vi ++ [x]).toArray.size = vi.length + 1 := by simp
  have e : (vi ++ [x]).toArray.setIfInBounds vi.length v = (vi ++ [v]).toArray := by
    apply Array.toList_inj.mp
    simp
  refine set_last z.1 hsz (h _ (F.change (Heap.SameBut.update ..) z.2.1 z.2.2) (ki_turn _ N a b e ?_))
  rw [if_pos (by simp)]
end
def RowsAt (h : Heap) : List Value → List (List Int) → Prop
  | [], [] => True
  | v :: vs, W :: Ws => (∃ r ws, v = .ref r ∧ h.IsList r ws.toArray ∧ IntsAre ws W) ∧ RowsAt h vs Ws
  | _, _ => False
theorem rowsAt_get {h : Heap} : ∀ {vs : List Value} {Ws : List (List Int)}, RowsAt h vs Ws → vs.length = Ws.length ∧ ∀ k, k < Ws.length → ∃ r ws, vs[k]? = some (.ref r) ∧ h.IsList r ws.toArray ∧ IntsAre ws (Ws.getD k [])
  | [], [], _ => ⟨rfl, fun k hk => absurd hk (Nat.not_lt_zero _)⟩
  | v :: vs, W :: Ws, ⟨⟨r, ws, e, h1, h2⟩, hr⟩ => by
    obtain ⟨hl, hg⟩ := rowsAt_get hr
    refine ⟨by rw [List.length_cons, List.length_cons, hl], fun k hk => ?_⟩
    cases k with
    | zero => exact ⟨r, ws, by rw [e]; rfl, h1, h2⟩
    | succ k =>
      obtain ⟨r', ws', a, b, c⟩ := hg k (Nat.lt_of_succ_lt_succ hk)
      exact ⟨r', ws', a, b, c⟩
  | [], _ :: _, h => h.elim
  | _ :: _, [], h => h.elim
theorem rowsAt_of {h₀ h : Heap} {L : Addr} {tl : List (Addr × Obj)} (N : News h₀ L h tl) : ∀ {vs : List Value} {Ws : List (List Int)}, RowsIn tl vs Ws → RowsAt h vs Ws
  | [], [], _ => trivial
  | v :: vs, W :: Ws, ⟨⟨r, n, ws, e, h1, h2⟩, hr⟩ => ⟨⟨r, ws, e, N.isList h1, h2⟩, rowsAt_of N hr⟩
  | [], _ :: _, h => h.elim
  | _ :: _, [], h => h.elim
theorem RowsAt.keeps {h h' : Heap} (k : ∀ b o, h.get? b = some o → h'.get? b = some o) : ∀ {vs : List Value} {Ws : List (List Int)}, RowsAt h vs Ws → RowsAt h' vs Ws
  | [], [], _ => trivial
  | v :: vs, W :: Ws, ⟨⟨r, ws, e, ⟨o, h1, q⟩, h2⟩, hr⟩ => ⟨⟨r, ws, e, ⟨o, k _ _ h1, q⟩, h2⟩, RowsAt.keeps k hr⟩
  | [], _ :: _, h => h.elim
  | _ :: _, [], h => h.elim
section
variable {prog : Program} {w : World} {A : Around} {E : Value → Shared → Prop} {s : Shared} {value slice : PySem.Expr} {g : Heap} {L l : Addr} {m : Str → Option Value} {vs : List Value} {Ws : List (List Int)} {W : List Int} {i : Int} {u : Tok} {Q : Value → Shared → Prop}
theorem tab_row (F : Fr g L s.heap m) (hl : g.IsList l vs.toArray) (hR : RowsAt g vs Ws) (h0 : 0 ≤ i) (h1 : i < (Ws.length : Int)) (hfit : i < 2 ^ 63)
    (h : ∀ r ws, g.IsList r ws.toArray → IntsAre ws (Ws.getD i.toNat []) → Q (.ref r) s)
    (hs : subscripted slice false (.ref l) (.int i u) = operate [.ref l, .int i u] (getItem (.ref l) (.int i u)) := by with_unfolding_all rfl) :
    wpAny (model prog w) A (subscriptTail value slice (.ref l) (.int i u)) Q E s := by
  obtain ⟨r, ws, e, h2, h3⟩ := (rowsAt_get hR).2 i.toNat (by omega)
  have hl' : s.heap.IsList l vs.toArray := hl.at fun o e => F.keep l o e
  exact tail_any hl'.typeIs slot_list_getitem.lookup (wpAny_getItem_list hl' h0 hfit (by simpa using e) (h r ws h2 h3)) hs
theorem len_base {k : Int} (F : Fr g L s.heap m) (hl : g.IsList l vs.toArray) (e : (vs.length : Int) = k) (hfit : k < 2 ^ 63) (h : ∀ t tk, Q (.int k t) { s with toks := tk }) :
    wpAny (model prog w) A (call (.builtin "len") [.ref l]) Q E s := by
  have hl' : s.heap.IsList l vs.toArray := hl.at fun o e => F.keep l o e
  refine len_list hl' (by rw [List.size_toArray, e]; exact hfit) ?_
  rw [List.size_toArray, e]
  exact h _ _
theorem row_item (F : Fr g L s.heap m) (hl : g.IsList l vs.toArray) (hi : IntsAre vs W) (h0 : 0 ≤ i) (h1 : i < (W.length : Int)) (hfit : i < 2 ^ 63)
    (h : ∀ t, Q (.int (W.getD i.toNat 0) t) s)
    (hs : subscripted slice false (.ref l) (.int i u) = operate [.ref l, .int i u] (getItem (.ref l) (.int i u)) := by with_unfolding_all rfl) :
    wpAny (model prog w) A (subscriptTail value slice (.ref l) (.int i u)) Q E s := by
  have hk : i.toNat < W.length := by omega
  obtain ⟨t, e⟩ := hi.get i.toNat (W.getD i.toNat 0) (by rw [List.getD_eq_getElem?_getD, List.getElem?_eq_getElem hk]; rfl)
  have hl' : s.heap.IsList l vs.toArray := hl.at fun o e => F.keep l o e
  exact tail_any hl'.typeIs slot_list_getitem.lookup (wpAny_getItem_list hl' h0 hfit (by simpa using e) (h t)) hs
end
/-- sums along a row, each from the row before, one place on -/
def triRow (f : Nat → Nat) : Nat → Nat
  | 0 => 0
  | m + 1 => triRow f m + f (m + 2)
/-- the number of rows of m trees with l inner nodes -/
def tri : Nat → Nat → Nat
  | 0 => fun _ => 1
  | l + 1 => triRow (tri l)
/-- how many nodes begin ahead of each leaf -/
def dec (lf : Bool) : Nat → Nat → Nat → Nat → Nat → List Nat
  | 0, _, _, _, _ => []
  | _ + 1, _, 0, _, _ => []
  | f + 1, l, m + 1, n, c =>
    let leaf := tri l m
    let node := if l = 0 then 0 else tri (l - 1) (m + 2)
    if lf = true then (if n < leaf then c :: dec lf f l m n 0 else dec lf f (l - 1) (m + 2) (n - leaf) (c + 1))
    else (if n < node then dec lf f (l - 1) (m + 2) n (c + 1) else c :: dec lf f l m (n - node) 0)
def W2 : List (List Int) := [[1,1,1,1],[0,1,2],[0,2]]
def W3 : List (List Int) := [[1,1,1,1,1],[0,1,2,3],[0,2,5],[0,5]]
def W4 : List (List Int) := [[1,1,1,1,1,1],[0,1,2,3,4],[0,2,5,9],[0,5,14],[0,14]]
def WoodsAre (size : Nat) (Ws : List (List Int)) : Prop := Ws.length = size + 1 ∧ ∀ l, l ≤ size → (Ws.getD l []).length = size - l + 2 ∧ ∀ m, m ≤ size - l + 1 → (Ws.getD l []).getD m 0 = (tri l m : Int)
theorem woods2 : WoodsAre 2 W2 := ⟨rfl, by decide +kernel⟩
theorem woods3 : WoodsAre 3 W3 := ⟨rfl, by decide +kernel⟩
theorem woods4 : WoodsAre 4 W4 := ⟨rfl, by decide +kernel⟩
section
variable {prog : Program} {w : World} {A : Around} {E : Value → Shared → Prop} {s : Shared} {value slice : PySem.Expr} {g : Heap} {L l : Addr} {m : Str → Option Value} {vs : List Value} {Ws : List (List Int)} {i lft : Int} {u : Tok} {Q : Value → Shared → Prop} {size : Nat}
theorem row_tri (F : Fr g L s.heap m) (hl : g.IsList l vs.toArray) (hi : IntsAre vs (Ws.getD lft.toNat [])) (hW : WoodsAre size Ws) (hl0 : 0 ≤ lft) (hl1 : lft ≤ size) (h0 : 0 ≤ i) (h1 : i + lft ≤ size + 1) (hs9 : size ≤ 4)
    (h : ∀ t, Q (.int ((tri lft.toNat i.toNat : Nat) : Int) t) s)
    (hs : subscripted slice false (.ref l) (.int i u) = operate [.ref l, .int i u] (getItem (.ref l) (.int i u)) := by with_unfolding_all rfl) :
    wpAny (model prog w) A (subscriptTail value slice (.ref l) (.int i u)) Q E s := by
  obtain ⟨a, b⟩ := hW.2 lft.toNat (by omega)
  refine row_item F hl hi h0 (by rw [a]; omega) (by omega) (fun t => ?_) hs
  rw [b i.toNat (by omega)]
  exact h t
end
theorem int_eq {i j : Int} {t : Tok} (h : i = j) : Value.int i t = Value.int j t := by rw [h]
theorem cut_last (vi : List Value) (x : Value) : (slicePick (vi ++ [x]).toArray none (some (-1)) none).toList = vi := by
  have e : sliceBounds none (some (-1)) none (vi ++ [x]).toArray.size = (((0 : Nat) : Int), ((vi.length : Nat) : Int), 1) := by
    simp [sliceBounds]
    omega
  rw [kmk_pick_nat _ e]
  simp
theorem pull {h₀ h : Heap} {L a : Addr} {o : Obj} (_ : News h₀ L h [(a, o)]) : ∃ lc, lc = a := ⟨a, rfl⟩
section
variable {prog : Program} {w : World} {A : Around} {E : Value → Shared → Prop} {s : Shared} {h₀ : Heap} {L D : Addr} {m : Str → Option Value} {news news' : List (Addr × Obj)} {vi : List Value} {x y : Value} {n : Nat} {value slice : PySem.Expr} {vu : Value}
theorem app_list {Q : Value → Shared → Prop} (F : Fr h₀ L s.heap m) (N : News h₀ L s.heap news) (hsz : vi.length ≤ 1000) (U : Upd D (listOf (vi ++ [x]).toArray n) (listOf ((vi ++ [x]) ++ [y]).toArray (n + 1)) news news')
    (h : ∀ h', Fr h₀ L h' m → News h₀ L h' news' → Q .none { s with heap := h' }) : wpAny (model prog w) A (call (.builtin "list.append") [.ref D, y]) Q E s := by
  have e : (vi ++ [x]).toArray.push y = ((vi ++ [x]) ++ [y]).toArray := by rw [List.push_toArray]
  rw [← e] at U
  exact append_K F N U h (by simp [sizeLine_eq]; omega)
theorem cut_rule {Q : Value → Shared → Prop} (F : Fr h₀ L s.heap m) (N : News h₀ L s.heap news) (hm : (D, listOf (vi ++ [x]).toArray n) ∈ news) (hsz : vi.length ≤ 1000) (pu : IsPart vu (some (-1)))
    (h : ∀ D' h', Fr h₀ L h' m → News h₀ L h' ((D', listOf vi.toArray 0) :: news) → Q (.ref D') { s with heap := h' })
    (hs : subscripted slice false (.ref D) (.ref s.heap.objs.size) = operate [.ref s.heap.objs.size, .ref D] (getItem (.ref D) (.ref s.heap.objs.size))) (ht : ∀ r, letTemporaryGo value (.ref D) r = pure ()) :
    wpAny (model prog w) A (subscriptTail value slice (.ref D) (.ref s.heap.objs.size)) Q E { s with heap := s.heap.push { cls := .type "slice", data := .fields #[.none, vu, .none] } } :=
  kmk_slice_lit F N (N.isList hm) .none pu (cut_last vi x) (fun D' h' F' N' _ => h D' h' F' N') hs ht (by simp [sizeLine_eq]; omega)
end
structure CS where
  (n l m : Nat) (tn tl tm : Tok) (vi : List Value) (tc : Tok) (cap : Nat) (init : List Nat) (c : Nat)
def CInv (lf : Bool) (size n0 : Nat) (c : CS) : Prop :=
  IntsAre c.vi (c.init.map Int.ofNat) ∧ c.n < tri c.l c.m ∧ c.l + c.m ≤ size + 1 ∧ c.init.length + c.m + c.l = size + 1 ∧ c.init ++ dec lf (2 * c.l + c.m) c.l c.m c.n c.c = dec lf (2 * size + 1) size 1 n0 0
def CodeOut (lf : Bool) (size n0 : Nat) (v : Value) (tl : List (Addr × Obj)) : Prop := ∃ q n vs, v = .ref q ∧ (q, listOf (List.toArray vs) n) ∈ tl ∧ IntsAre vs ((dec lf (2 * size + 1) size 1 n0 0).map Int.ofNat)
theorem tri_zero (m : Nat) : tri 0 m = 1 := rfl
theorem tri_z (l : Nat) : tri (l + 1) 0 = 0 := rfl
theorem tri_s (l m : Nat) : tri (l + 1) (m + 1) = tri (l + 1) m + tri l (m + 2) := rfl
theorem ints_snoc {vi : List Value} {ns : List Nat} {c : Nat} {t : Tok} (h : IntsAre vi (ns.map Int.ofNat)) : IntsAre (vi ++ [.int (c : Int) t]) ((ns ++ [c]).map Int.ofNat) := by
  rw [List.map_append]
  exact h.append (.cons _ _ .nil)
section
variable {size n0 n l m cap cap' : Nat} {tn tl tm tc tn' tl' tm' tc' : Tok} {vi : List Value} {init : List Nat} {c : Nat}
theorem inv_leaf_t (h : CInv true size n0 ⟨n, l, m + 1, tn, tl, tm, vi, tc, cap, init, c⟩) (h1 : n < tri l m) : CInv true size n0 ⟨n, l, m, tn', tl', tm', vi ++ [.int (c : Int) tc], tc', cap', init ++ [c], 0⟩ := by
  obtain ⟨a, b, d, e, f⟩ := h
  dsimp only at a b d e f
  refine ⟨ints_snoc a, h1, by dsimp only; omega, by simp only [List.length_append, List.length_cons, List.length_nil]; omega, ?_⟩
  dsimp only
  rw [← f, show 2 * l + (m + 1) = (2 * l + m) + 1 by omega]
  simp only [dec, if_pos h1, if_true, List.append_assoc, List.cons_append, List.nil_append]
theorem inv_node_t (h : CInv true size n0 ⟨n, l + 1, m + 1, tn, tl, tm, vi, tc, cap, init, c⟩) (h1 : ¬ n < tri (l + 1) m) : CInv true size n0 ⟨n - tri (l + 1) m, l, m + 2, tn', tl', tm', vi, tc', cap', init, c + 1⟩ := by
  obtain ⟨a, b, d, e, f⟩ := h
  dsimp only at a b d e f
  rw [tri_s] at b
  refine ⟨a, by dsimp only; omega, by dsimp only; omega, by dsimp only; omega, ?_⟩
  dsimp only
  rw [← f, show 2 * (l + 1) + (m + 1) = (2 * l + (m + 2)) + 1 by omega]
  simp only [dec, if_neg h1, if_true, Nat.add_sub_cancel]
theorem inv_no_t (h : CInv true size n0 ⟨n, 0, m, tn, tl, tm, vi, tc, cap, init, c⟩) (h1 : ¬ n < tri 0 k) : False := by
  have b := h.2.1
  dsimp only at b
  rw [tri_zero] at b h1
  omega
theorem inv_node_f (h : CInv false size n0 ⟨n, l + 1, m + 1, tn, tl, tm, vi, tc, cap, init, c⟩) (h1 : n < tri l (m + 2)) : CInv false size n0 ⟨n, l, m + 2, tn', tl', tm', vi, tc', cap', init, c + 1⟩ := by
  obtain ⟨a, b, d, e, f⟩ := h
  dsimp only at a b d e f
  refine ⟨a, h1, by dsimp only; omega, by dsimp only; omega, ?_⟩
  dsimp only
  rw [← f, show 2 * (l + 1) + (m + 1) = (2 * l + (m + 2)) + 1 by omega]
  simp only [dec, if_pos h1, Bool.false_eq_true, Nat.succ_ne_zero, if_false, Nat.add_sub_cancel]
theorem inv_leaf_f (h : CInv false size n0 ⟨n, l + 1, m + 1, tn, tl, tm, vi, tc, cap, init, c⟩) (h1 : ¬ n < tri l (m + 2)) : CInv false size n0 ⟨n - tri l (m + 2), l + 1, m, tn', tl', tm', vi ++ [.int (c : Int) tc], tc', cap', init ++ [c], 0⟩ := by
  obtain ⟨a, b, d, e, f⟩ := h
  dsimp only at a b d e f
  rw [tri_s] at b
  refine ⟨ints_snoc a, by dsimp only; omega, by dsimp only; omega, by simp only [List.length_append, List.length_cons, List.length_nil]; omega, ?_⟩
  dsimp only
  rw [← f, show 2 * (l + 1) + (m + 1) = (2 * (l + 1) + m) + 1 by omega]
  simp only [dec, if_neg h1, Bool.false_eq_true, Nat.succ_ne_zero, if_false, Nat.add_sub_cancel, List.append_assoc, List.cons_append, List.nil_append]
theorem inv_leaf0_f (h : CInv false size n0 ⟨n, 0, m + 1, tn, tl, tm, vi, tc, cap, init, c⟩) : CInv false size n0 ⟨n, 0, m, tn', tl', tm', vi ++ [.int (c : Int) tc], tc', cap', init ++ [c], 0⟩ := by
  obtain ⟨a, b, d, e, f⟩ := h
  dsimp only at a b d e f
  refine ⟨ints_snoc a, b, by dsimp only; omega, by simp only [List.length_append, List.length_cons, List.length_nil]; omega, ?_⟩
  dsimp only
  rw [← f, show 2 * 0 + (m + 1) = (2 * 0 + m) + 1 by omega]
  simp only [dec, Bool.false_eq_true, if_true, if_false, Nat.not_lt_zero, Nat.sub_zero, List.append_assoc, List.cons_append, List.nil_append]
theorem inv_end {lf : Bool} (h : CInv lf size n0 ⟨n, l, 0, tn, tl, tm, vi, tc, cap, init, c⟩) : IntsAre vi ((dec lf (2 * size + 1) size 1 n0 0).map Int.ofNat) := by
  obtain ⟨a, b, d, e, f⟩ := h
  dsimp only at a b d e f
  cases l with
  | zero =>
    have e0 : dec lf (2 * 0 + 0) 0 0 n c = [] := rfl
    rw [e0, List.append_nil] at f
    rw [← f]
    exact a
  | succ l => rw [tri_z] at b; omega
end
theorem dec_t {p : Prop} {i : Decidable p} (h : (decide p == true) = true) : p := by simpa using h
theorem dec_f {p : Prop} {i : Decidable p} (h : (decide p == true) = false) : ¬ p := by simpa using h
theorem dec_tf {p : Prop} {i : Decidable p} (h : (decide p == false) = true) : ¬ p := by simpa using h
theorem dec_ff {p : Prop} {i : Decidable p} (h : (decide p == false) = false) : p := by simpa using h
section
local macro_rules | `(tactic| walk_at "pad 9 0") => `(tactic| fail "pad")
local macro_rules | `(tactic| walk_at "exec While Compare cons nil") => `(tactic| (k_here; refine stop_here ?_))
local macro_rules | `(tactic| walk_at "call builtin:len") => `(tactic| (k_here; (with_reducible show wpAny _ _ (call (Value.builtin "len") [Value.ref _]) _ _ _); (with_reducible rename Fr _ _ _ _ => F'); k_dflt (refine' len_base F' ?hl ?e ?hf ?_; (case hl => assumption); (case e => assumption); (case hf => omega)); intro _ _))
local macro_rules | `(tactic| walk_at "subscriptTail Name") => `(tactic| (k_here; (with_reducible rename Fr _ _ _ _ => F'); k_dflt (refine' tab_row F' ?hl ?hR ?h0 ?h1 ?hf ?_; (case hl => assumption); (case hR => assumption); (case h0 => omega); (case h1 => omega); (case hf => omega)); intro r' ws' rl' ri'))
local macro_rules | `(tactic| walk_at "subscriptTail Subscript") => `(tactic| (k_here; (with_reducible rename Fr _ _ _ _ => F'); k_dflt (refine' row_tri F' ?hl ?hi ?hW ?a ?b ?c ?d ?e ?_; (case hl => assumption); (case hi => assumption); (case hW => assumption); (case a => omega); (case b => omega); (case c => omega); (case d => omega); (case e => assumption)); intro _))
local macro_rules | `(tactic| walk_at "subscriptTail Name Slice ref ref") => `(tactic| (k_here; (with_reducible show wpAny _ _ (subscriptTail _ (PySem.Expr.Slice _ _ none _) (Value.ref _) (Value.ref _)) _ _ _); k_dflt (refine' cut_rule ?F ?N ?l ?z ?q ?_ ?s ?t; (case F => k_asm); (case N => k_asm); (case l => k_mem); (case z => with_reducible assumption); (case q => exact IsPart.int _ _); (case s => with_unfolding_all rfl); (case t => (intro _; with_unfolding_all rfl))); intro D' h' F' N'; (try k_sweep)))
local macro_rules | `(tactic| walk_at "call builtin:list.append") => `(tactic| (k_here; (with_reducible show wpAny _ _ (call (Value.builtin _) [Value.ref _, _]) _ _ _); k_dflt (refine' app_list ?k1 ?k2 ?z ?k3 ?_; (case k1 => k_asm); (case k2 => k_asm); (case z => with_reducible assumption); (case k3 => k_upd); k_whole); intro h' F' N'; (try k_sweep)))
local macro_rules | `(tactic| walk_at "getItem ref int") => `(tactic| (k_here; k_dflt (refine' last_get ?N ?hm ?z ?_; (case N => k_asm); (case hm => k_mem); (case z => with_reducible assumption))))
local macro_rules | `(tactic| walk_at "setItem ref int") => `(tactic| (k_here; k_dflt (refine' last_set ?F ?N ?U ?_; (case F => k_asm); (case N => k_asm); (case U => k_upd)); intro h' F' N'; (try k_sweep)))
theorem code_t {w : World} {mean : ExcName → Option Value} {mg mb : Str → Option Value} (n0 : Nat) (tn : Tok) (tb : Addr) (size : Nat) (vs : List Value) (Ws : List (List Int)) (hW : WoodsAre size Ws) (hs4 : size ≤ 4) (hn : n0 < tri size 1) :
  Con w mean mg mb 2 164 [.ref tb, .int (n0 : Int) tn, .bool true] (fun h => h.IsList tb vs.toArray ∧ RowsAt h vs Ws) (CodeOut true size n0) := by
  unfold Con
  k_fill
  intro dp un gd cn cs a ccd cl outer A₀ base h₀ L m s Q E B F X T hk hd hu hp hret
  obtain ⟨hT, hR⟩ := hp
  have hWl := hW.1
  have hvl : (vs.length : Int) = (size : Int) + 1 := by rw [(rowsAt_get hR).1, hW.1]; omega
  refine wpAny_call ?_
  k_dflt (refine' code_defP ?k1 ?k2 ?k3 ?k5 ?kA ?kF ?kK ?k6 ?k7 ?k8 ?k9 ?kB ?_ ?c2 ?c3 ?c4 ?c5; (case kA => exact rfl); (case kF => exact rfl); (case kK => assumption); (case k1 => k_asm); (case k2 => k_asm); (case k3 => k_asm); (case k5 => k_asm); (case k6 => k_is); (case k7 => k_is); (case k8 => ktr_room); (case k9 => exact BindsTo.of_eq rfl); (case c5 => decide); (case kB => exact locs rfl); (case c2 => exact rfl); (case c3 => exact rfl); (case c4 => exact rfl); k_whole)
  clear F X B T
  intro L' h₁ F N B X T
  (try dsimp only); (try k_fold)
  k_steps
  refine Stopped.go ?_
  (with_reducible rename Fr _ _ _ _ => F)
  (with_reducible rename News _ _ _ _ => N)
  obtain ⟨lc, rfl⟩ := pull N
  refine' my_while (σ := CS) (fun c => [(lc, listOf (c.vi ++ [Value.int (c.c : Int) c.tc]).toArray c.cap)]) (fun c => [(Str.ofString "number", .int (c.n : Int) c.tn), (Str.ofString "left", .int (c.l : Int) c.tl), (Str.ofString "many", .int (c.m : Int) c.tm), (Str.ofString "code", .ref lc), (Str.ofString "table", .ref tb), (Str.ofString "leaf_first", .bool true)])
    (CInv true size n0) (fun c => 2 * c.l + c.m) F N ?start ?turn
  case start =>
    exact ⟨⟨n0, size, 1, tn, _, _, [], _, _, [], 0⟩, List.forall_mem_cons.mpr ⟨List.Mem.head _, List.forall_mem_nil _⟩,
      List.forall_mem_cons.mpr ⟨rfl, List.forall_mem_cons.mpr ⟨congrArg some (int_eq (by dsimp only; omega)), List.forall_mem_cons.mpr ⟨congrArg some (int_eq rfl), List.forall_mem_cons.mpr ⟨rfl, List.forall_mem_cons.mpr ⟨rfl, List.forall_mem_cons.mpr ⟨rfl, List.forall_mem_nil _⟩⟩⟩⟩⟩⟩,
      .nil, hn, by dsimp only; omega, by simp only [List.length_nil]; omega, rfl⟩
  case turn =>
    clear F N
    rintro ⟨n, l, m', tn', tl', tm', vi, tc, cap, init, c⟩ u h tk hI F N
    obtain ⟨hvi, hlt, hlm, hlen, hdec⟩ := id hI
    dsimp only at hvi hlt hlm hlen hdec F N
    dsimp only [kstB] at F
    have hvz : vi.length ≤ 1000 := by rw [hvi.length, List.length_map]; omega
    (try k_fold)
    k_steps
    all_goals (try dsimp only [WPost])
    all_goals (try (exfalso; first | (have q := dec_t (by assumption); omega) | (have q := dec_f (by assumption); omega)))
    all_goals (with_reducible rename Fr _ _ _ _ => F)
    all_goals (with_reducible rename News _ _ _ _ => N)
    focus
      obtain ⟨k, rfl⟩ : ∃ k, m' = k + 1 := ⟨m' - 1, by omega⟩
      have e1 : (((k + 1 : Nat) : Int) - 1).toNat = k := by omega
      have e2 : (l : Int).toNat = l := by omega
      have h1 :  n < tri l k := by
        have q :  (n : Int) < ((tri (l : Int).toNat (((k + 1 : Nat) : Int) - 1).toNat : Nat) : Int) := by assumption
        rw [e1, e2] at q
        omega
      (exact ⟨⟨n, l, k, _, _, _, vi ++ [.int (c : Int) tc], _, _, init ++ [c], 0⟩, _, _, _, _, rfl, F, N, List.forall_mem_cons.mpr ⟨List.Mem.head _, List.forall_mem_nil _⟩,
        List.forall_mem_cons.mpr ⟨congrArg some (int_eq (by first | (dsimp only; omega) | rfl)), List.forall_mem_cons.mpr ⟨congrArg some (int_eq (by first | (dsimp only; omega) | rfl)), List.forall_mem_cons.mpr ⟨congrArg some (int_eq (by first | (dsimp only; omega) | rfl)), List.forall_mem_cons.mpr ⟨rfl, List.forall_mem_cons.mpr ⟨rfl, List.forall_mem_cons.mpr ⟨rfl, List.forall_mem_nil _⟩⟩⟩⟩⟩⟩,
        inv_leaf_t hI h1, by first | (dsimp only; omega) | rfl⟩)
    focus
      obtain ⟨k, rfl⟩ : ∃ k, m' = k + 1 := ⟨m' - 1, by omega⟩
      have e1 : (((k + 1 : Nat) : Int) - 1).toNat = k := by omega
      have e2 : (l : Int).toNat = l := by omega
      have h1 : ¬ n < tri l k := by
        have q : ¬ (n : Int) < ((tri (l : Int).toNat (((k + 1 : Nat) : Int) - 1).toNat : Nat) : Int) := by assumption
        rw [e1, e2] at q
        omega
      obtain ⟨j, rfl⟩ : ∃ j, l = j + 1 := ⟨l - 1, by omega⟩
      rw [e1, e2] at F
      (exact ⟨⟨n - tri (j + 1) k, j, k + 2, _, _, _, vi, _, _, init, c + 1⟩, _, _, _, _, rfl, F, N, List.forall_mem_cons.mpr ⟨List.Mem.head _, List.forall_mem_nil _⟩,
        List.forall_mem_cons.mpr ⟨congrArg some (int_eq (by first | (dsimp only; omega) | rfl)), List.forall_mem_cons.mpr ⟨congrArg some (int_eq (by first | (dsimp only; omega) | rfl)), List.forall_mem_cons.mpr ⟨congrArg some (int_eq (by first | (dsimp only; omega) | rfl)), List.forall_mem_cons.mpr ⟨rfl, List.forall_mem_cons.mpr ⟨rfl, List.forall_mem_cons.mpr ⟨rfl, List.forall_mem_nil _⟩⟩⟩⟩⟩⟩,
        inv_node_t hI h1, by first | (dsimp only; omega) | rfl⟩)
    focus
      obtain ⟨k, rfl⟩ : ∃ k, m' = k + 1 := ⟨m' - 1, by omega⟩
      have e1 : (((k + 1 : Nat) : Int) - 1).toNat = k := by omega
      have e2 : (l : Int).toNat = l := by omega
      have h1 :  n < tri l k := by
        have q :  (n : Int) < ((tri (l : Int).toNat (((k + 1 : Nat) : Int) - 1).toNat : Nat) : Int) := by assumption
        rw [e1, e2] at q
        omega
      (exact ⟨⟨n, l, k, _, _, _, vi ++ [.int (c : Int) tc], _, _, init ++ [c], 0⟩, _, _, _, _, rfl, F, N, List.forall_mem_cons.mpr ⟨List.Mem.head _, List.forall_mem_nil _⟩,
        List.forall_mem_cons.mpr ⟨congrArg some (int_eq (by first | (dsimp only; omega) | rfl)), List.forall_mem_cons.mpr ⟨congrArg some (int_eq (by first | (dsimp only; omega) | rfl)), List.forall_mem_cons.mpr ⟨congrArg some (int_eq (by first | (dsimp only; omega) | rfl)), List.forall_mem_cons.mpr ⟨rfl, List.forall_mem_cons.mpr ⟨rfl, List.forall_mem_cons.mpr ⟨rfl, List.forall_mem_nil _⟩⟩⟩⟩⟩⟩,
        inv_leaf_t hI h1, by first | (dsimp only; omega) | rfl⟩)
    focus
      obtain ⟨k, rfl⟩ : ∃ k, m' = k + 1 := ⟨m' - 1, by omega⟩
      have e1 : (((k + 1 : Nat) : Int) - 1).toNat = k := by omega
      have e2 : (l : Int).toNat = l := by omega
      have h1 : ¬ n < tri l k := by
        have q : ¬ (n : Int) < ((tri (l : Int).toNat (((k + 1 : Nat) : Int) - 1).toNat : Nat) : Int) := by assumption
        rw [e1, e2] at q
        omega
      obtain rfl : l = 0 := by omega
      exact (inv_no_t hI h1).elim
    focus
      obtain rfl : m' = 0 := by omega
      refine leaveP_ F N fun st kF kN => ?_
      try dsimp only
      exact hret _ _ _ _ st kF kN ⟨_, _, _, rfl, List.Mem.head _, inv_end hI⟩
theorem code_f {w : World} {mean : ExcName → Option Value} {mg mb : Str → Option Value} (n0 : Nat) (tn : Tok) (tb : Addr) (size : Nat) (vs : List Value) (Ws : List (List Int)) (hW : WoodsAre size Ws) (hs4 : size ≤ 4) (hn : n0 < tri size 1) :
  Con w mean mg mb 2 164 [.ref tb, .int (n0 : Int) tn, .bool false] (fun h => h.IsList tb vs.toArray ∧ RowsAt h vs Ws) (CodeOut false size n0) := by
  unfold Con
  k_fill
  intro dp un gd cn cs a ccd cl outer A₀ base h₀ L m s Q E B F X T hk hd hu hp hret
  obtain ⟨hT, hR⟩ := hp
  have hWl := hW.1
  have hvl : (vs.length : Int) = (size : Int) + 1 := by rw [(rowsAt_get hR).1, hW.1]; omega
  refine wpAny_call ?_
  k_dflt (refine' code_defP ?k1 ?k2 ?k3 ?k5 ?kA ?kF ?kK ?k6 ?k7 ?k8 ?k9 ?kB ?_ ?c2 ?c3 ?c4 ?c5; (case kA => exact rfl); (case kF => exact rfl); (case kK => assumption); (case k1 => k_asm); (case k2 => k_asm); (case k3 => k_asm); (case k5 => k_asm); (case k6 => k_is); (case k7 => k_is); (case k8 => ktr_room); (case k9 => exact BindsTo.of_eq rfl); (case c5 => decide); (case kB => exact locs rfl); (case c2 => exact rfl); (case c3 => exact rfl); (case c4 => exact rfl); k_whole)
  clear F X B T
  intro L' h₁ F N B X T
  (try dsimp only); (try k_fold)
  k_steps
  refine Stopped.go ?_
  (with_reducible rename Fr _ _ _ _ => F)
  (with_reducible rename News _ _ _ _ => N)
  obtain ⟨lc, rfl⟩ := pull N
  refine' my_while (σ := CS) (fun c => [(lc, listOf (c.vi ++ [Value.int (c.c : Int) c.tc]).toArray c.cap)]) (fun c => [(Str.ofString "number", .int (c.n : Int) c.tn), (Str.ofString "left", .int (c.l : Int) c.tl), (Str.ofString "many", .int (c.m : Int) c.tm), (Str.ofString "code", .ref lc), (Str.ofString "table", .ref tb), (Str.ofString "leaf_first", .bool false)])
    (CInv false size n0) (fun c => 2 * c.l + c.m) F N ?start ?turn
  case start =>
    exact ⟨⟨n0, size, 1, tn, _, _, [], _, _, [], 0⟩, List.forall_mem_cons.mpr ⟨List.Mem.head _, List.forall_mem_nil _⟩,
      List.forall_mem_cons.mpr ⟨rfl, List.forall_mem_cons.mpr ⟨congrArg some (int_eq (by dsimp only; omega)), List.forall_mem_cons.mpr ⟨congrArg some (int_eq rfl), List.forall_mem_cons.mpr ⟨rfl, List.forall_mem_cons.mpr ⟨rfl, List.forall_mem_cons.mpr ⟨rfl, List.forall_mem_nil _⟩⟩⟩⟩⟩⟩,
      .nil, hn, by dsimp only; omega, by simp only [List.length_nil]; omega, rfl⟩
  case turn =>
    clear F N
    rintro ⟨n, l, m', tn', tl', tm', vi, tc, cap, init, c⟩ u h tk hI F N
    obtain ⟨hvi, hlt, hlm, hlen, hdec⟩ := id hI
    dsimp only at hvi hlt hlm hlen hdec F N
    dsimp only [kstB] at F
    have hvz : vi.length ≤ 1000 := by rw [hvi.length, List.length_map]; omega
    (try k_fold)
    k_steps
    all_goals (try dsimp only [WPost])
    all_goals (try (exfalso; first | (have q := dec_t (by assumption); omega) | (have q := dec_f (by assumption); omega) | (have q := dec_tf (by assumption); omega) | (have q := dec_ff (by assumption); omega)))
    all_goals (with_reducible rename Fr _ _ _ _ => F)
    all_goals (with_reducible rename News _ _ _ _ => N)
    focus
      obtain ⟨k, rfl⟩ : ∃ k, m' = k + 1 := ⟨m' - 1, by omega⟩
      obtain ⟨j, rfl⟩ : ∃ j, l = j + 1 := ⟨l - 1, by omega⟩
      have e1 : (((k + 1 : Nat) : Int) + 1).toNat = k + 2 := by omega
      have e2 : (((j + 1 : Nat) : Int) - 1).toNat = j := by omega
      have h1 :  n < tri j (k + 2) := by
        have q :  (n : Int) < ((tri (((j + 1 : Nat) : Int) - 1).toNat (((k + 1 : Nat) : Int) + 1).toNat : Nat) : Int) := by assumption
        rw [e1, e2] at q
        omega
      (try rw [e1, e2] at F)
      (exact ⟨⟨n, j, k + 2, _, _, _, vi, _, _, init, c + 1⟩, _, _, _, _, rfl, F, N, List.forall_mem_cons.mpr ⟨List.Mem.head _, List.forall_mem_nil _⟩,
        List.forall_mem_cons.mpr ⟨congrArg some (int_eq (by first | (dsimp only; omega) | rfl)), List.forall_mem_cons.mpr ⟨congrArg some (int_eq (by first | (dsimp only; omega) | rfl)), List.forall_mem_cons.mpr ⟨congrArg some (int_eq (by first | (dsimp only; omega) | rfl)), List.forall_mem_cons.mpr ⟨rfl, List.forall_mem_cons.mpr ⟨rfl, List.forall_mem_cons.mpr ⟨rfl, List.forall_mem_nil _⟩⟩⟩⟩⟩⟩,
        inv_node_f hI h1, by first | (dsimp only; omega) | rfl⟩)
    focus
      obtain ⟨k, rfl⟩ : ∃ k, m' = k + 1 := ⟨m' - 1, by omega⟩
      obtain ⟨j, rfl⟩ : ∃ j, l = j + 1 := ⟨l - 1, by omega⟩
      have e1 : (((k + 1 : Nat) : Int) + 1).toNat = k + 2 := by omega
      have e2 : (((j + 1 : Nat) : Int) - 1).toNat = j := by omega
      have h1 : ¬ n < tri j (k + 2) := by
        have q : ¬ (n : Int) < ((tri (((j + 1 : Nat) : Int) - 1).toNat (((k + 1 : Nat) : Int) + 1).toNat : Nat) : Int) := by assumption
        rw [e1, e2] at q
        omega
      (try rw [e1, e2] at F)
      (exact ⟨⟨n - tri j (k + 2), j + 1, k, _, _, _, vi ++ [.int (c : Int) tc], _, _, init ++ [c], 0⟩, _, _, _, _, rfl, F, N, List.forall_mem_cons.mpr ⟨List.Mem.head _, List.forall_mem_nil _⟩,
        List.forall_mem_cons.mpr ⟨congrArg some (int_eq (by first | (dsimp only; omega) | rfl)), List.forall_mem_cons.mpr ⟨congrArg some (int_eq (by first | (dsimp only; omega) | rfl)), List.forall_mem_cons.mpr ⟨congrArg some (int_eq (by first | (dsimp only; omega) | rfl)), List.forall_mem_cons.mpr ⟨rfl, List.forall_mem_cons.mpr ⟨rfl, List.forall_mem_cons.mpr ⟨rfl, List.forall_mem_nil _⟩⟩⟩⟩⟩⟩,
        inv_leaf_f hI h1, by first | (dsimp only; omega) | rfl⟩)
    focus
      obtain ⟨k, rfl⟩ : ∃ k, m' = k + 1 := ⟨m' - 1, by omega⟩
      obtain rfl : l = 0 := by omega
      (exact ⟨⟨n, 0, k, _, _, _, vi ++ [.int (c : Int) tc], _, _, init ++ [c], 0⟩, _, _, _, _, rfl, F, N, List.forall_mem_cons.mpr ⟨List.Mem.head _, List.forall_mem_nil _⟩,
        List.forall_mem_cons.mpr ⟨congrArg some (int_eq (by first | (dsimp only; omega) | rfl)), List.forall_mem_cons.mpr ⟨congrArg some (int_eq (by first | (dsimp only; omega) | rfl)), List.forall_mem_cons.mpr ⟨congrArg some (int_eq (by first | (dsimp only; omega) | rfl)), List.forall_mem_cons.mpr ⟨rfl, List.forall_mem_cons.mpr ⟨rfl, List.forall_mem_cons.mpr ⟨rfl, List.forall_mem_nil _⟩⟩⟩⟩⟩⟩,
        inv_leaf0_f hI, by first | (dsimp only; omega) | rfl⟩)
    focus
      obtain rfl : m' = 0 := by omega
      refine leaveP_ F N fun st kF kN => ?_
      try dsimp only
      exact hret _ _ _ _ st kF kN ⟨_, _, _, rfl, List.Mem.head _, inv_end hI⟩
end
def isIter (o : Obj) : Bool := o.cls == .type "list_iterator" || o.cls == .type "range_iterator"
section
variable {prog : Program} {w : World} {A : Around} {E : Value → Shared → Prop} {Q : Flow → Shared → Prop} {s : Shared} {env : Env} {h₀ : Heap} {x : Str} {body : List Stmt}
def FEnd {σ : Type} (h₀ : Heap) (L : Addr) (s : Shared) (Led : σ → List (Addr × Obj)) (ps : σ → List (Str × Value)) (R : Nat → σ → Prop) (i : Nat) (rest : List (Addr × Obj)) (s₂ : Shared) : Prop :=
  ∃ (c' : σ) (h' : Heap) (tk : Nat) (m' : Str → Option Value) (news' : List (Addr × Obj)), s₂ = { s with heap := h', toks := tk } ∧ Fr h₀ L h' m' ∧ News h₀ L h' news' ∧ (∀ p ∈ rest, p ∈ news') ∧ (∀ p ∈ Led c', p ∈ news') ∧ (∀ p ∈ ps c', m' p.1 = some p.2) ∧ R (i + 1) c'
def FPost {σ : Type} (h₀ : Heap) (L : Addr) (s : Shared) (Led : σ → List (Addr × Obj)) (ps : σ → List (Str × Value)) (R : Nat → σ → Prop) (i : Nat) (rest : List (Addr × Obj)) (Q : Flow → Shared → Prop) (f : Flow) (s₂ : Shared) : Prop :=
  match f with
  | .ret v => Q (.ret v) s₂
  | .brk => Q .next s₂
  | _ => FEnd h₀ L s Led ps R i rest s₂
theorem for_core {σ : Type} {I : Addr} {fp : List Addr} {n : Nat} {P : Nat → Value → Prop} {St : Nat → Heap → Prop} {m₀ : Str → Option Value} {news keep : List (Addr × Obj)}
    (W : Walks prog w A I fp [I] n P St) (hf : ∀ b ∈ fp, b = I ∨ (∃ o, (b, o) ∈ keep) ∨ ∃ o, h₀.get? b = some o) (hit : ∀ i h, St i h → ∃ o, h.get? I = some o ∧ isIter o = true) (hI0 : h₀.get? I = none) (hLf : env.locals ∉ fp) (hkI : ∀ p ∈ keep, p.1 ≠ I)
    (Led : σ → List (Addr × Obj)) (ps : σ → List (Str × Value)) (R : Nat → σ → Prop) (hcls : ∀ i c, R i c → ∀ p ∈ Led c, isIter p.2 = false)
    (hst : St 0 s.heap) (F : Fr h₀ env.locals s.heap m₀) (N : News h₀ env.locals s.heap news) (hkn : ∀ p ∈ keep, p ∈ news) (start : ∃ c₀ : σ, (∀ p ∈ Led c₀, p ∈ news) ∧ (∀ p ∈ ps c₀, m₀ p.1 = some p.2) ∧ R 0 c₀)
    (turn : ∀ i v (c : σ) u oI h tk, i < n → P i v → (∀ p ∈ Led c, p.1 ≠ I) → (∀ p ∈ keep, p.1 ≠ I) → R i c → Fr h₀ env.locals h (fun y => if y = x then some v else kstB u (ps c) y) → News h₀ env.locals h (Led c ++ (I, oI) :: keep) →
      wpAny (model prog w) A (execs body env) (FPost h₀ env.locals { s with heap := h, toks := tk } Led ps R i ((I, oI) :: keep) Q) E { s with heap := h, toks := tk })
    (done : ∀ (c : σ) u h tk, R n c → Fr h₀ env.locals h (kstB u (ps c)) → News h₀ env.locals h (Led c ++ keep) → Q .next { s with heap := h, toks := tk }) :
    LoopAtV prog w A h₀ env x body Q E (.ref I) s := by
  obtain ⟨c₀, s1, s2, s3⟩ := start
  have hLI : ∀ i h (c : σ) news', R i c → (∃ o, h.get? I = some o ∧ isIter o = true) → News h₀ env.locals h news' → (∀ p ∈ Led c, p ∈ news') → ∀ p ∈ Led c, p.1 ≠ I := by
    rintro i h c news' hR ⟨o, ho, hio⟩ N' hs p hp e
    have h1 := (N' p (hs p hp)).1
    rw [e, ho] at h1
    have h2 := hcls i c hR p hp
    rw [← Option.some.inj h1, hio] at h2
    cases h2
  refine ⟨I, fp, [I], n, P, St, m₀, Led c₀ ++ keep, fun i m nx => ∃ c : σ, nx = Led c ++ keep ∧ (∀ p ∈ ps c, m p.1 = some p.2) ∧ R i c, rfl, W, hLf, ?_, ?_, hst, F, ?_, ⟨c₀, rfl, s2, s3⟩, ?_, ?_⟩
  · intro b hb
    rw [List.mem_singleton.mp hb]
    exact hI0
  · intro p hp hq
    rcases List.mem_append.mp hp with q | q
    · exact hLI 0 s.heap c₀ news s3 (hit 0 _ hst) N s1 p q (List.mem_singleton.mp hq)
    · exact hkI p q (List.mem_singleton.mp hq)
  · intro p hp
    rcases List.mem_append.mp hp with q | q
    · exact N p (s1 p q)
    · exact N p (hkn p q)
  · rintro i v m₁ news₁ s₁ own ⟨hh, tk, rfl⟩ hi hP ⟨c, rfl, hps, hR⟩ hoff hown hget hfp hst' F₁ N₁
    obtain ⟨oI, hoI, hio⟩ := hit _ _ hst'
    have hIown : (I, oI) ∈ own := hfp I (W.sub I (List.mem_singleton.mpr rfl)) hI0 oI hoI
    have em : kstB m₁ (ps c) = m₁ := by
      funext y
      exact kstB_eq hps fun _ => rfl
    have N₂ : News h₀ env.locals hh (Led c ++ (I, oI) :: keep) := by
      intro p hp
      rcases List.mem_append.mp hp with q | q
      · exact N₁ p (List.mem_append.mpr (.inr (List.mem_append.mpr (.inl q))))
      · rcases List.mem_cons.mp q with rfl | q
        · exact N₁ _ (List.mem_append.mpr (.inl hIown))
        · exact N₁ p (List.mem_append.mpr (.inr (List.mem_append.mpr (.inr q))))
    refine wpAny_mono (turn i v c m₁ oI hh tk hi hP (fun p hp e => hoff p (List.mem_append.mpr (.inl hp)) (List.mem_singleton.mpr e)) hkI hR (by rw [em]; exact F₁) N₂) (fun f s₂ p => ?_) fun _ _ e => e
    have fin : FEnd h₀ env.locals { s with heap := hh, toks := tk } Led ps R i ((I, oI) :: keep) s₂ → LoopStepU h₀ env.locals [I] own (fun m nx => ∃ c : σ, nx = Led c ++ keep ∧ (∀ p ∈ ps c, m p.1 = some p.2) ∧ R (i + 1) c) { s with heap := hh, toks := tk } .next s₂ := by
      rintro ⟨c', h', tk', m', news', rfl, F', N', hr, hl, hp', hR'⟩
      have hI' : h'.get? I = some oI := (N' _ (hr _ (.head _))).1
      refine ⟨rfl, h', tk', m', Led c' ++ keep, rfl, F', ?_, ?_, c', rfl, hp', hR'⟩
      · intro p hp
        rcases List.mem_append.mp hp with q | q
        · rcases hf p.1 (hown p q) with e | ⟨o, e⟩ | ⟨o, e⟩
          · have h1 := hget p q
            rw [e, show ({ s with heap := hh, toks := tk } : Shared).heap.get? I = some oI from hoI] at h1
            have h3 : p = (I, oI) := Prod.ext e (Option.some.inj h1).symm
            rw [h3]
            exact N' _ (hr _ (.head _))
          · have h1 := hget p q
            have h2 := (N₂ _ (List.mem_append.mpr (.inr (.tail _ e)))).1
            have h3 : p = (p.1, o) := Prod.ext rfl (Option.some.inj (h1.symm.trans h2))
            rw [h3]
            exact N' _ (hr _ (.tail _ e))
          · have h2 := (N₁ p (List.mem_append.mpr (.inl q))).2.2
            rw [e] at h2
            cases h2
        · rcases List.mem_append.mp q with q | q
          · exact N' p (hl p q)
          · exact N' p (hr p (.tail _ q))
      · intro p hp hq
        rcases List.mem_append.mp hp with q | q
        · exact hLI (i + 1) h' c' news' hR' ⟨oI, hI', hio⟩ N' hl p q (List.mem_singleton.mp hq)
        · exact hkI p q (List.mem_singleton.mp hq)
    cases f with
    | ret v => exact .ret p
    | brk => exact .brk p
    | next => exact .next (fin p)
    | cont => exact .cont (fin p)
  · rintro h' tk m' news' F' N' _ ⟨c, rfl, hps, hR⟩
    have em : kstB m' (ps c) = m' := by
      funext y
      exact kstB_eq hps fun _ => rfl
    exact done c m' h' tk hR (by rw [em]; exact F') N'
/-- over a list that the ledger keeps -/
theorem my_for {σ : Type} {l : Addr} {vs : List Value} {nn : Nat} {m₀ : Str → Option Value} {news : List (Addr × Obj)} (keep : List (Addr × Obj))
    (Led : σ → List (Addr × Obj)) (ps : σ → List (Str × Value)) (R : Nat → σ → Prop) (hcls : ∀ i c, R i c → ∀ p ∈ Led c, isIter p.2 = false)
    (hh : A.handled = none) (hl : (l, listOf vs.toArray nn) ∈ keep) (F : Fr h₀ env.locals s.heap m₀) (N : News h₀ env.locals s.heap news) (hkn : ∀ p ∈ keep, p ∈ news) (start : ∃ c₀ : σ, (∀ p ∈ Led c₀, p ∈ news) ∧ (∀ p ∈ ps c₀, m₀ p.1 = some p.2) ∧ R 0 c₀)
    (turn : ∀ i v (c : σ) u I oI h tk, vs[i]? = some v → (∀ p ∈ Led c, p.1 ≠ I) → (∀ p ∈ keep, p.1 ≠ I) → R i c → Fr h₀ env.locals h (fun y => if y = x then some v else kstB u (ps c) y) → News h₀ env.locals h (Led c ++ (I, oI) :: keep) →
      wpAny (model prog w) A (execs body env) (FPost h₀ env.locals { s with heap := h, toks := tk } Led ps R i ((I, oI) :: keep) Q) E { s with heap := h, toks := tk })
    (done : ∀ (c : σ) u h tk, R vs.length c → Fr h₀ env.locals h (kstB u (ps c)) → News h₀ env.locals h (Led c ++ keep) → Q .next { s with heap := h, toks := tk }) :
    wpAny (model prog w) A (pyIter (.ref l)) (fun it s₂ => LoopAtV prog w A h₀ env x body Q E it s₂) E s := by
  have hol : s.heap.get? l = some (listOf vs.toArray nn) := (N _ (hkn _ hl)).1
  have hls : s.heap.IsList l vs.toArray := ⟨_, hol, rfl, nn, rfl⟩
  have hne : l ≠ s.heap.objs.size := Nat.ne_of_lt (Heap.lt_size hol)
  refine wpAny_pyIter_list hls ?_
  have Wk := Walks.list (prog := prog) (w := w) hh s.heap.objs.size l hne vs.toArray
  refine for_core (n := vs.length) (keep := keep) Wk ?_ ?_ (next_is_new F) ?_ ?_ Led ps R hcls ⟨⟨_, Heap.get?_push_size _ rfl, rfl, rfl⟩, hls.at fun o e => Heap.get?_push_of_some _ e⟩ (F.push _) (fun p hp => ⟨Heap.get?_push_of_some _ (N p hp).1, (N p hp).2⟩) hkn start ?_ ?_
  · intro b hb
    rcases List.mem_cons.mp hb with h | h
    · exact .inl h
    · rw [List.mem_singleton.mp h]
      exact .inr (.inl ⟨_, hl⟩)
  · rintro i h ⟨⟨o, a, b, _⟩, _⟩
    exact ⟨o, a, by unfold isIter; rw [b]; rfl⟩
  · intro hm
    rcases List.mem_cons.mp hm with e | hm
    · exact absurd F.ns.lt (e ▸ Nat.lt_irrefl _)
    · exact (N _ (hkn _ hl)).2.1 ((List.mem_singleton.mp hm).symm)
  · intro p hp hI
    exact absurd (Heap.lt_size (N p (hkn p hp)).1) (hI ▸ Nat.lt_irrefl _)
  · intro i v c u oI h tk hi hP a b hR F' N'
    exact turn i v c u _ oI h tk (by simpa using hP) a b hR F' N'
  · exact done
/-- over a list of the base heap -/
theorem my_forB {σ : Type} {l : Addr} {vs : List Value} {m₀ : Str → Option Value} {news : List (Addr × Obj)} (keep : List (Addr × Obj))
    (Led : σ → List (Addr × Obj)) (ps : σ → List (Str × Value)) (R : Nat → σ → Prop) (hcls : ∀ i c, R i c → ∀ p ∈ Led c, isIter p.2 = false)
    (hh : A.handled = none) (hl : h₀.IsList l vs.toArray) (F : Fr h₀ env.locals s.heap m₀) (N : News h₀ env.locals s.heap news) (hkn : ∀ p ∈ keep, p ∈ news) (start : ∃ c₀ : σ, (∀ p ∈ Led c₀, p ∈ news) ∧ (∀ p ∈ ps c₀, m₀ p.1 = some p.2) ∧ R 0 c₀)
    (turn : ∀ i v (c : σ) u I oI h tk, vs[i]? = some v → (∀ p ∈ Led c, p.1 ≠ I) → (∀ p ∈ keep, p.1 ≠ I) → R i c → Fr h₀ env.locals h (fun y => if y = x then some v else kstB u (ps c) y) → News h₀ env.locals h (Led c ++ (I, oI) :: keep) →
      wpAny (model prog w) A (execs body env) (FPost h₀ env.locals { s with heap := h, toks := tk } Led ps R i ((I, oI) :: keep) Q) E { s with heap := h, toks := tk })
    (done : ∀ (c : σ) u h tk, R vs.length c → Fr h₀ env.locals h (kstB u (ps c)) → News h₀ env.locals h (Led c ++ keep) → Q .next { s with heap := h, toks := tk }) :
    wpAny (model prog w) A (pyIter (.ref l)) (fun it s₂ => LoopAtV prog w A h₀ env x body Q E it s₂) E s := by
  have hls : s.heap.IsList l vs.toArray := hl.at fun o e => F.keep l o e
  obtain ⟨ol, hol, _⟩ := id hl
  have hlt : l < h₀.objs.size := Heap.lt_size hol
  have hne : l ≠ s.heap.objs.size := Nat.ne_of_lt (Nat.lt_trans (Nat.lt_of_lt_of_le hlt F.above) F.ns.lt)
  refine wpAny_pyIter_list hls ?_
  have Wk := Walks.list (prog := prog) (w := w) hh s.heap.objs.size l hne vs.toArray
  refine for_core (n := vs.length) (keep := keep) Wk ?_ ?_ (next_is_new F) ?_ ?_ Led ps R hcls ⟨⟨_, Heap.get?_push_size _ rfl, rfl, rfl⟩, hls.at fun o e => Heap.get?_push_of_some _ e⟩ (F.push _) (fun p hp => ⟨Heap.get?_push_of_some _ (N p hp).1, (N p hp).2⟩) hkn start ?_ ?_
  · intro b hb
    rcases List.mem_cons.mp hb with h | h
    · exact .inl h
    · rw [List.mem_singleton.mp h]
      exact .inr (.inr ⟨_, hol⟩)
  · rintro i h ⟨⟨o, a, b, _⟩, _⟩
    exact ⟨o, a, by unfold isIter; rw [b]; rfl⟩
  · intro hm
    rcases List.mem_cons.mp hm with e | hm
    · exact absurd F.ns.lt (e ▸ Nat.lt_irrefl _)
    · exact absurd (Nat.lt_of_lt_of_le hlt F.above) ((List.mem_singleton.mp hm) ▸ Nat.lt_irrefl _)
  · intro p hp hI
    exact absurd (Heap.lt_size (N p (hkn p hp)).1) (hI ▸ Nat.lt_irrefl _)
  · intro i v c u oI h tk hi hP a b hR F' N'
    exact turn i v c u _ oI h tk (by simpa using hP) a b hR F' N'
  · exact done
/-- over a range from nought -/
theorem my_range {σ : Type} {r : Addr} {b₀ : Int} {t₀ u₀ v₀ : Tok} {n : Nat} {m₀ : Str → Option Value} {news : List (Addr × Obj)} (keep : List (Addr × Obj))
    (Led : σ → List (Addr × Obj)) (ps : σ → List (Str × Value)) (R : Nat → σ → Prop) (hcls : ∀ i c, R i c → ∀ p ∈ Led c, isIter p.2 = false)
    (hh : A.handled = none) (hr : IsRange s.heap r 0 b₀ 1 t₀ u₀ v₀) (hsmall : Builtin.Range.small 0 b₀ 1 = true) (hn : Builtin.Range.rangeSize 0 b₀ 1 = (n : Int)) (F : Fr h₀ env.locals s.heap m₀) (N : News h₀ env.locals s.heap news) (hkn : ∀ p ∈ keep, p ∈ news) (start : ∃ c₀ : σ, (∀ p ∈ Led c₀, p ∈ news) ∧ (∀ p ∈ ps c₀, m₀ p.1 = some p.2) ∧ R 0 c₀)
    (turn : ∀ (i : Nat) t (c : σ) u I oI h tk, i < n → (∀ p ∈ Led c, p.1 ≠ I) → (∀ p ∈ keep, p.1 ≠ I) → R i c → Fr h₀ env.locals h (fun y => if y = x then some (.int (i : Int) t) else kstB u (ps c) y) → News h₀ env.locals h (Led c ++ (I, oI) :: keep) →
      wpAny (model prog w) A (execs body env) (FPost h₀ env.locals { s with heap := h, toks := tk } Led ps R i ((I, oI) :: keep) Q) E { s with heap := h, toks := tk })
    (done : ∀ (c : σ) u h tk, R n c → Fr h₀ env.locals h (kstB u (ps c)) → News h₀ env.locals h (Led c ++ keep) → Q .next { s with heap := h, toks := tk }) :
    wpAny (model prog w) A (pyIter (.ref r)) (fun it s₂ => LoopAtV prog w A h₀ env x body Q E it s₂) E s := by
  refine wpAny_pyIter_range hr hsmall ?_
  have Wk := Walks.range (prog := prog) (w := w) hh s.heap.objs.size 0 1 n
  refine for_core (n := n) (keep := keep) Wk ?_ ?_ (next_is_new F) ?_ ?_ Led ps R hcls (by show IsRangeIter _ _ _ _ _; rw [hn]; simpa using Heap.get?_push_size _ rfl) (F.push _) (fun p hp => ⟨Heap.get?_push_of_some _ (N p hp).1, (N p hp).2⟩) hkn start ?_ ?_
  · intro b hb
    exact .inl (List.mem_singleton.mp hb)
  · intro i h st
    exact ⟨_, st, rfl⟩
  · intro hm
    exact absurd F.ns.lt ((List.mem_singleton.mp hm) ▸ Nat.lt_irrefl _)
  · intro p hp hI
    exact absurd (Heap.lt_size (N p (hkn p hp)).1) (hI ▸ Nat.lt_irrefl _)
  · rintro i v c u oI h tk hi ⟨t, rfl⟩ a b hR F' N'
    refine turn i t c u _ oI h tk hi a b hR ?_ N'
    simpa using F'
  · exact done
end
def qn (f s : Str) : Str := if s.length = 0 then f else Str.ofString "{" ++ f ++ Str.ofString "}" ++ s
def comb : List Str → List Str
  | f :: s :: r => qn f s :: r
  | l => l
def rep : Nat → List Str → List Str
  | 0, l => l
  | j + 1, l => comb (rep j l)
def run (label : Str) (ks : List Nat) : List Str := ks.foldl (fun T k => rep k (label :: T)) []
def big : List Str → Nat
  | [] => 0
  | x :: r => x.length + 2 + big r
theorem len_app (a b : Str) : (a ++ b).length = a.length + b.length := Str.length_append a b
theorem len_open : (Str.ofString "{").length = 1 := by decide +kernel
theorem len_shut : (Str.ofString "}").length = 1 := by decide +kernel
theorem qn_len (f s : Str) : (qn f s).length ≤ f.length + s.length + 2 := by
  unfold qn
  split
  · omega
  · rw [len_app, len_app, len_app, len_open, len_shut]
    omega
theorem comb_big : ∀ l : List Str, big (comb l) ≤ big l
  | [] => Nat.le_refl _
  | [_] => Nat.le_refl _
  | f :: s :: r => by
    show (qn f s).length + 2 + big r ≤ f.length + 2 + (s.length + 2 + big r)
    have := qn_len f s
    omega
theorem rep_big : ∀ (j : Nat) (l : List Str), big (rep j l) ≤ big l
  | 0, _ => Nat.le_refl _
  | j + 1, l => Nat.le_trans (comb_big _) (rep_big j l)
theorem run_snoc (label : Str) (ks : List Nat) (k : Nat) : run label (ks ++ [k]) = rep k (label :: run label ks) := by
  unfold run
  rw [List.foldl_append]
  rfl
theorem run_take {label : Str} {ks : List Nat} {i k : Nat} (h : ks[i]? = some k) : run label (ks.take (i + 1)) = rep k (label :: run label (ks.take i)) := by
  rw [List.take_add_one, h]
  exact run_snoc ..
theorem run_big (label : Str) (hl : label.length ≤ 2) : ∀ (ks : List Nat) (T : List Str), big (ks.foldl (fun T k => rep k (label :: T)) T) ≤ big T + 4 * ks.length
  | [], T => by simp
  | k :: r, T => by
    rw [List.foldl_cons, List.length_cons]
    have h1 := run_big label hl r (rep k (label :: T))
    have h2 := rep_big k (label :: T)
    have h3 : big (label :: T) = label.length + 2 + big T := rfl
    omega
theorem comb_len : ∀ {l : List Str}, 2 ≤ l.length → (comb l).length = l.length - 1
  | [], h => by simp at h
  | [_], h => by simp at h
  | f :: s :: r, _ => rfl
theorem rep_len : ∀ (j : Nat) (l : List Str), j + 1 ≤ l.length → (rep j l).length = l.length - j
  | 0, l, _ => rfl
  | j + 1, l, h => by
    have e := rep_len j l (by omega)
    show (comb (rep j l)).length = _
    rw [comb_len (by omega), e]
    omega
/-- the stack of texts as the list's values -/
def sv (p : Str × Tok) : Value := .str p.1 p.2
def vals (z : List (Str × Tok)) : List Value := (z.map sv).reverse
theorem vals_cons (x : Str) (t : Tok) (z : List (Str × Tok)) : vals ((x, t) :: z) = vals z ++ [.str x t] := by
  unfold vals
  rw [List.map_cons, List.reverse_cons]
  rfl
theorem vals_len (z : List (Str × Tok)) : (vals z).length = z.length := by simp [vals]
theorem two_of {z : List (Str × Tok)} {T : List Str} (h : z.map (·.1) = T) (hl : 2 ≤ T.length) : ∃ f tf s ts r, z = (f, tf) :: (s, ts) :: r := by
  match z with
  | [] => subst h; simp at hl
  | [_] => subst h; simp at hl
  | (f, tf) :: (s, ts) :: r => exact ⟨f, tf, s, ts, r, rfl⟩
theorem ints_at {ws : List Value} {ks : List Nat} {i : Nat} {v : Value} (h : IntsAre ws (ks.map Int.ofNat)) (hv : ws[i]? = some v) : ∃ (k : Nat) (t : Tok), ks[i]? = some k ∧ v = .int (k : Int) t := by
  have hi : i < ws.length := by
    rcases Nat.lt_or_ge i ws.length with h | h
    · exact h
    · rw [List.getElem?_eq_none h] at hv
      cases hv
  have hl := h.length
  rw [List.length_map] at hl
  have hk : ks[i]? = some ks[i] := List.getElem?_eq_getElem (by omega)
  obtain ⟨t, e⟩ := h.get i (Int.ofNat ks[i]) (by rw [List.getElem?_map, hk]; rfl)
  rw [hv] at e
  exact ⟨ks[i], t, hk, Option.some.inj e⟩
theorem pull2 {h₀ h : Heap} {L a b : Addr} {ws : List Value} {n : Nat} {o : Obj} (_ : News h₀ L h [(a, listOf ws.toArray n), (b, o)]) : ∃ la lb wz, la = a ∧ lb = b ∧ wz = ws := ⟨a, b, ws, rfl, rfl, rfl⟩
theorem kl_last_snoc : ∀ (vi : List Value) (x : Value), kl_last (vi ++ [x]) = some (vi, x)
  | [], x => rfl
  | y :: r, x => by
    show (match kl_last (r ++ [x]) with | some (p, z) => some (y :: p, z) | none => some ([], y)) = _
    rw [kl_last_snoc r x]
theorem pullh {h₀ h : Heap} {L a : Addr} {o : Obj} {rest : List (Addr × Obj)} (_ : News h₀ L h ((a, o) :: rest)) : ∃ lr, lr = a := ⟨a, rfl⟩
theorem small_ok : ∀ k : Nat, k ≤ 10 → Builtin.Range.small 0 (k : Int) 1 = true := by decide +kernel
theorem size_ok : ∀ k : Nat, k ≤ 10 → Builtin.Range.rangeSize 0 (k : Int) 1 = (k : Int) := by decide +kernel
theorem big_mem : ∀ {l : List Str} {x : Str}, x ∈ l → x.length ≤ big l
  | y :: r, x, h => by
    have e : big (y :: r) = y.length + 2 + big r := rfl
    rcases List.mem_cons.mp h with rfl | h
    · omega
    · have := big_mem h
      omega
theorem big_len : ∀ (l : List Str), l.length ≤ big l
  | [] => Nat.le_refl _
  | y :: r => by
    have e : big (y :: r) = y.length + 2 + big r := rfl
    have := big_len r
    rw [List.length_cons]
    omega
theorem qn_zero {f s : Str} (h : s.length = 0) : qn f s = f := if_pos h
theorem qn_more {f s : Str} (h : ¬ s.length = 0) : qn f s = Str.ofString "{" ++ f ++ Str.ofString "}" ++ s := if_neg h
section
variable {prog : Program} {w : World} {A : Around} {E : Value → Shared → Prop} {s : Shared} {h₀ : Heap} {L D : Addr} {m : Str → Option Value} {news news' : List (Addr × Obj)} {vi : List Value} {x y : Value} {n : Nat}
theorem app_any {Q : Value → Shared → Prop} (F : Fr h₀ L s.heap m) (N : News h₀ L s.heap news) (hsz : vi.length ≤ 1000) (U : Upd D (listOf vi.toArray n) (listOf (vi ++ [y]).toArray (n + 1)) news news')
    (h : ∀ h', Fr h₀ L h' m → News h₀ L h' news' → Q .none { s with heap := h' }) : wpAny (model prog w) A (call (.builtin "list.append") [.ref D, y]) Q E s := by
  have e : vi.toArray.push y = (vi ++ [y]).toArray := by rw [List.push_toArray]
  rw [← e] at U
  exact append_K F N U h (by simp [sizeLine_eq]; omega)
theorem pop_any {Q : Value → Shared → Prop} (F : Fr h₀ L s.heap m) (N : News h₀ L s.heap news) (hsz : vi.length ≤ 1000) (U : Upd D (listOf (vi ++ [x]).toArray n) (listOf vi.toArray (n + 1)) news news')
    (h : ∀ h', Fr h₀ L h' m → News h₀ L h' news' → Q x { s with heap := h' }) : wpAny (model prog w) A (call (.builtin "list.pop") [.ref D]) Q E s :=
  kl_pop F N (kl_last_snoc vi x) U (by simp [sizeLine_eq]; omega) h
end
section
local macro_rules | `(tactic| ke_room) => `(tactic| ktr_units)
local macro_rules | `(tactic| walk_at "exec For Name Subscript cons nil") => `(tactic| (k_here; (rename Fr _ _ _ _ => lF'); (with_unfolding_all refine' For_invVF lF' ?k1 ?k2 ?_; (case k1 => exact rfl); (case k2 => exact rfl); k_whole)))
local macro_rules | `(tactic| walk_at "exec For Name Call cons nil") => `(tactic| (k_here; (rename Fr _ _ _ _ => lF'); (with_unfolding_all refine' For_invVF lF' ?k1 ?k2 ?_; (case k1 => exact rfl); (case k2 => exact rfl); k_whole)))
local macro_rules | `(tactic| walk_at "exec For Name Name cons nil") => `(tactic| (k_here; (rename Fr _ _ _ _ => lF'); (with_unfolding_all refine' For_invVF lF' ?k1 ?k2 ?_; (case k1 => exact rfl); (case k2 => exact rfl); k_whole)))
local macro_rules | `(tactic| walk_at "pyIter ref") => `(tactic| (k_here; refine stop_here ?_))
local macro_rules | `(tactic| walk_at "call builtin:list.append") => `(tactic| (k_here; (with_reducible show wpAny _ _ (call (Value.builtin _) [Value.ref _, _]) _ _ _); k_dflt (refine' app_any ?k1 ?k2 ?z ?k3 ?_; (case k1 => k_asm); (case k2 => k_asm); (case k3 => k_upd); (case z => with_reducible assumption); k_whole); intro h' F' N'; (try k_sweep)))
local macro_rules | `(tactic| walk_at "call builtin:list.pop") => `(tactic| (k_here; (with_reducible show wpAny _ _ (call (Value.builtin _) [Value.ref _]) _ _ _); k_dflt (refine' pop_any ?k1 ?k2 ?z ?k3 ?_; (case k1 => k_asm); (case k2 => k_asm); (case k3 => k_upd); (case z => with_reducible assumption); k_whole); intro h' F' N'; (try k_sweep)))
theorem made_ok {w : World} {mean : ExcName → Option Value} {mg mb : Str → Option Value} (code : Addr) (label x : Str) (tl : Tok) (vs : List Value) (ns : List Nat) (hi : IntsAre vs (ns.map Int.ofNat)) (hns : ns.length ≤ 10) (hlb : label.length ≤ 2)
    (hv : ∀ i k, ns.reverse[i]? = some k → k ≤ (run label (ns.reverse.take i)).length ∧ k ≤ 10) (hr : run label ns.reverse = [x]) :
  Con w mean mg mb 3 171 [.ref code, .str label tl] (fun h => h.IsList code vs.toArray) (fun v _ => ∃ t, v = .str x t) := by
  unfold Con
  k_fill
  intro dp un gd cn cs a ccd cl outer A₀ base h₀ L m s Q E B F X T hk hd hu hp hret
  have hz : vs.toArray.size ≤ sizeLine := by rw [List.size_toArray, hi.length, List.length_map, sizeLine_eq]; omega
  refine wpAny_call ?_
  k_dflt (refine' code_defP ?k1 ?k2 ?k3 ?k5 ?kA ?kF ?kK ?k6 ?k7 ?k8 ?k9 ?kB ?_ ?c2 ?c3 ?c4 ?c5; (case kA => exact rfl); (case kF => exact rfl); (case kK => assumption); (case k1 => k_asm); (case k2 => k_asm); (case k3 => k_asm); (case k5 => k_asm); (case k6 => k_is); (case k7 => k_is); (case k8 => ktr_room); (case k9 => exact BindsTo.of_eq rfl); (case c5 => decide); (case kB => exact locs rfl); (case c2 => exact rfl); (case c3 => exact rfl); (case c4 => exact rfl); k_whole)
  clear F X B T
  intro L' h₁ F N B X T
  (try dsimp only); (try k_fold)
  k_steps
  refine Stopped.go ?_
  (with_reducible rename Fr _ _ _ _ => F)
  (with_reducible rename News _ _ _ _ => N)
  (with_reducible rename IntsAre _ (List.map Int.ofNat ns).reverse => hj)
  obtain ⟨la, lb, wz, rfl, rfl, rfl⟩ := pull2 N
  rw [← List.map_reverse] at hj
  have hlt : @LT.lt Nat _ lb la := by assumption
  refine' my_for (σ := List (Str × Tok) × Nat) [(la, listOf wz.toArray 0)] (fun c => [(lb, listOf (vals c.1).toArray c.2)]) (fun c => [(Str.ofString "trees", .ref lb), (Str.ofString "code", .ref code), (Str.ofString "label", .str label tl)])
    (fun i c => c.1.map (·.1) = run label (ns.reverse.take i)) ?cls ?hh ?hl ?F ?N ?hkn ?start ?turn ?done
  case F => exact F
  case N => exact N
  case cls => exact fun _ _ _ p hp => by rw [List.mem_singleton.mp hp]; rfl
  case hh => rfl
  case hl => exact List.Mem.head _
  case hkn => exact List.forall_mem_cons.mpr ⟨List.Mem.head _, List.forall_mem_nil _⟩
  case start =>
    exact ⟨([], _), List.forall_mem_cons.mpr ⟨List.Mem.tail _ (List.Mem.head _), List.forall_mem_nil _⟩, List.forall_mem_cons.mpr ⟨rfl, List.forall_mem_cons.mpr ⟨rfl, List.forall_mem_cons.mpr ⟨rfl, List.forall_mem_nil _⟩⟩⟩, rfl⟩
  case turn =>
    clear F N
    rintro i v ⟨z, cap⟩ u I oI h tk hv' hLI hkI hR F N
    have n1 : @Ne Nat lb I := hLI _ (.head _)
    have n2 : @Ne Nat la I := hkI _ (.head _)
    dsimp only at hR
    dsimp only [kstB, List.cons_append, List.nil_append] at F N
    obtain ⟨k, tt, hk', rfl⟩ := ints_at hj hv'
    obtain ⟨hv1, hv2⟩ := hv i k hk'
    have hbig := run_big label hlb (ns.reverse.take i) []
    have htl : (ns.reverse.take i).length ≤ 10 := by rw [List.length_take, List.length_reverse]; omega
    have hb0 : big (run label (ns.reverse.take i)) ≤ 40 := by
      have e : big [] = 0 := rfl
      have e2 : run label (ns.reverse.take i) = List.foldl (fun T k => rep k (label :: T)) [] (ns.reverse.take i) := rfl
      rw [e2]
      omega
    have hzl : z.length ≤ 40 := by
      have e := big_len (run label (ns.reverse.take i))
      rw [← hR, List.length_map] at e
      rw [← hR] at hb0
      omega
    clear hbig
    have hvz : (vals z).length ≤ 1000 := by rw [vals_len]; omega
    (try k_fold)
    k_steps
    refine Stopped.go ?_
    (with_reducible rename Fr _ _ _ _ => F)
    (with_reducible rename News _ _ _ _ => N)
    rw [← vals_cons] at N
    refine' my_range (σ := List (Str × Tok) × Nat) (n := k) [(I, oI), (la, listOf wz.toArray 0)] (fun c => [(lb, listOf (vals c.1).toArray c.2)]) (fun c => [(Str.ofString "trees", .ref lb), (Str.ofString "code", .ref code), (Str.ofString "label", .str label tl)])
      (fun j c => c.1.map (·.1) = rep j (label :: run label (ns.reverse.take i))) ?i_cls ?i_hh ?i_hr ?i_hsmall ?i_hn ?i_F ?i_N ?i_hkn ?i_start ?i_turn ?i_done
    case i_F => exact F
    case i_N => exact N
    case i_cls => exact fun _ _ _ p hp => by rw [List.mem_singleton.mp hp]; rfl
    case i_hh => rfl
    case i_hr => assumption
    case i_hsmall => exact small_ok k hv2
    case i_hn => exact size_ok k hv2
    case i_hkn => exact List.forall_mem_cons.mpr ⟨by k_mem, List.forall_mem_cons.mpr ⟨by k_mem, List.forall_mem_nil _⟩⟩
    case i_start => exact ⟨((label, tl) :: z, _), List.forall_mem_cons.mpr ⟨by k_mem, List.forall_mem_nil _⟩, List.forall_mem_cons.mpr ⟨rfl, List.forall_mem_cons.mpr ⟨rfl, List.forall_mem_cons.mpr ⟨rfl, List.forall_mem_nil _⟩⟩⟩, congrArg (label :: ·) hR⟩
    case i_turn =>
      clear F N
      rintro j t2 ⟨z2, cap2⟩ u2 I2 oI2 h2 tk2 hj2 hLI2 hkI2 hR2 F N
      have n3 : @Ne Nat lb I2 := hLI2 _ (.head _)
      have n4 : @Ne Nat I I2 := hkI2 _ (.head _)
      have n5 : @Ne Nat la I2 := hkI2 _ (.tail _ (.head _))
      dsimp only at hR2
      have hb2 := rep_big j (label :: run label (ns.reverse.take i))
      have hb3 : big (label :: run label (ns.reverse.take i)) = label.length + 2 + big (run label (ns.reverse.take i)) := rfl
      have hl2 := rep_len j (label :: run label (ns.reverse.take i)) (by rw [List.length_cons]; omega)
      obtain ⟨f, tf, sx, ts, r, rfl⟩ := two_of hR2 (by rw [hl2, List.length_cons]; omega)
      rw [List.map_cons, List.map_cons] at hR2
      dsimp only at hR2
      have hlf : f.length ≤ 1000 := by
        have := big_mem (x := f) (l := rep j (label :: run label (ns.reverse.take i))) (by rw [← hR2]; exact .head _)
        omega
      have hls : sx.length ≤ 1000 := by
        have := big_mem (x := sx) (l := rep j (label :: run label (ns.reverse.take i))) (by rw [← hR2]; exact .tail _ (.head _))
        omega
      have hrl : (vals r).length ≤ 1000 := by
        have := big_len (rep j (label :: run label (ns.reverse.take i)))
        rw [← hR2] at this hb2
        simp only [List.length_cons, List.length_map] at this
        rw [vals_len]
        omega
      have hrl2 : (vals r ++ [Value.str sx ts]).length ≤ 1000 := by
        have := big_len (rep j (label :: run label (ns.reverse.take i)))
        rw [← hR2] at this hb2
        simp only [List.length_cons, List.length_map] at this
        rw [List.length_append, List.length_singleton, vals_len]
        omega
      have hq : qn f sx :: r.map (·.1) = rep (j + 1) (label :: run label (ns.reverse.take i)) := by
        show _ = comb (rep j _)
        rw [← hR2]
        rfl
      dsimp only [kstB, List.cons_append, List.nil_append] at F N
      rw [vals_cons, vals_cons] at N
      by_cases hs0 : sx.length = 0
      · rw [qn_zero hs0] at hq
        (try k_fold)
        k_steps
        all_goals (try (exfalso; omega))
        all_goals (try dsimp only [FPost])
        (with_reducible rename Fr _ _ _ _ => F)
        (with_reducible rename News _ _ _ _ => N)
        rw [← vals_cons] at N
        exact ⟨((_, _) :: r, _), _, _, _, _, rfl, F, N, List.forall_mem_cons.mpr ⟨by k_mem, List.forall_mem_cons.mpr ⟨by k_mem, List.forall_mem_cons.mpr ⟨by k_mem, List.forall_mem_nil _⟩⟩⟩,
          List.forall_mem_cons.mpr ⟨List.Mem.tail _ (List.Mem.tail _ (List.Mem.head _)), List.forall_mem_nil _⟩, List.forall_mem_cons.mpr ⟨rfl, List.forall_mem_cons.mpr ⟨rfl, List.forall_mem_cons.mpr ⟨rfl, List.forall_mem_nil _⟩⟩⟩, hq⟩
      · rw [qn_more hs0] at hq
        (try k_fold)
        k_steps
        all_goals (try (exfalso; omega))
        all_goals (try dsimp only [FPost])
        (with_reducible rename Fr _ _ _ _ => F)
        (with_reducible rename News _ _ _ _ => N)
        rw [← vals_cons] at N
        exact ⟨((_, _) :: r, _), _, _, _, _, rfl, F, N, List.forall_mem_cons.mpr ⟨by k_mem, List.forall_mem_cons.mpr ⟨by k_mem, List.forall_mem_cons.mpr ⟨by k_mem, List.forall_mem_nil _⟩⟩⟩,
          List.forall_mem_cons.mpr ⟨List.Mem.tail _ (List.Mem.tail _ (List.Mem.head _)), List.forall_mem_nil _⟩, List.forall_mem_cons.mpr ⟨rfl, List.forall_mem_cons.mpr ⟨rfl, List.forall_mem_cons.mpr ⟨rfl, List.forall_mem_nil _⟩⟩⟩, hq⟩
    case i_done =>
      clear F N
      rintro ⟨z3, cap3⟩ u3 h3 tk3 hR3 F N
      dsimp only [kstB, List.cons_append, List.nil_append] at F N
      k_steps
      dsimp only [FPost]
      (with_reducible rename Fr _ _ _ _ => F)
      (with_reducible rename News _ _ _ _ => N)
      exact ⟨(z3, _), _, _, _, _, rfl, F, N, List.forall_mem_cons.mpr ⟨by k_mem, List.forall_mem_cons.mpr ⟨by k_mem, List.forall_mem_nil _⟩⟩,
        List.forall_mem_cons.mpr ⟨List.Mem.head _, List.forall_mem_nil _⟩, List.forall_mem_cons.mpr ⟨rfl, List.forall_mem_cons.mpr ⟨rfl, List.forall_mem_cons.mpr ⟨rfl, List.forall_mem_nil _⟩⟩⟩, hR3.trans (run_take hk').symm⟩
  case done =>
    clear F N
    rintro ⟨z, cap⟩ u h tk hR F N
    have hlen : wz.length = ns.reverse.length := by rw [hj.length, List.length_map]
    rw [hlen, List.take_length, hr] at hR
    match z, hR, N with
    | [(y, ty)], hR, N =>
      obtain rfl : y = x := by
        have e : [y] = [x] := hR
        exact (List.cons.inj e).1
      dsimp only [kstB, List.cons_append, List.nil_append] at F N
      have ev : vals [(y, ty)] = [Value.str y ty] := rfl
      rw [ev] at N
      (try k_fold)
      k_steps
      all_goals (try dsimp only)
      all_goals (repeat (k_unfold; (try dsimp only)))
      refine leaveP_ (by assumption) (by assumption) fun st kF kN => ?_
      try dsimp only
      exact hret _ _ _ _ st kF kN ⟨_, rfl⟩
end
section
variable {prog : Program} {w : World} {A : Around} {E : Value → Shared → Prop} {s : Shared} {value slice : PySem.Expr} {g : Heap} {L q : Addr} {m : Str → Option Value} {items : Array Value} {n : Nat} {k : Int} {u : Tok} {x : Value} {Q : Value → Shared → Prop}
theorem tup_at (F : Fr g L s.heap m) (hq : g.get? q = some (tupOf items n)) (hx : items[k.toNat]? = some x) (h0 : 0 ≤ k) (h1 : k < 100) (h : Q x s)
    (hs : subscripted slice false (.ref q) (.int k u) = operate [.ref q, .int k u] (getItem (.ref q) (.int k u))) :
    wpAny (model prog w) A (subscriptTail value slice (.ref q) (.int k u)) Q E s := by
  have ht : IsTup s.heap q items := ⟨_, F.keep _ _ hq, rfl, n, rfl⟩
  have hk : k.toNat < items.size := by
    rcases Nat.lt_or_ge k.toNat items.size with h | h
    · exact h
    · rw [Array.getElem?_eq_none h] at hx
      cases hx
  refine tail_any ht.typeIs slot_tuple_getitem.lookup (getItem_tuple ht (by omega) (by omega) (j := k.toNat) ?_ hx h) hs
  unfold seqIndex?
  simp only [if_neg (show ¬ k < 0 by omega)]
  rw [if_pos]
  rw [decide_eq_true h0, decide_eq_true (show k < (items.size : Int) by omega)]
  rfl
theorem tup_0 {a b : Value} (F : Fr g L s.heap m) (hq : g.get? q = some (tupOf #[a, b] n)) (h : Q a s)
    (hs : subscripted slice false (.ref q) (.int 0 u) = operate [.ref q, .int 0 u] (getItem (.ref q) (.int 0 u))) :
    wpAny (model prog w) A (subscriptTail value slice (.ref q) (.int 0 u)) Q E s := tup_at F hq rfl (by decide) (by decide) h hs
theorem tup_1 {a b : Value} (F : Fr g L s.heap m) (hq : g.get? q = some (tupOf #[a, b] n)) (h : Q b s)
    (hs : subscripted slice false (.ref q) (.int 1 u) = operate [.ref q, .int 1 u] (getItem (.ref q) (.int 1 u))) :
    wpAny (model prog w) A (subscriptTail value slice (.ref q) (.int 1 u)) Q E s := tup_at F hq rfl (by decide) (by decide) h hs
def hasB (x : Str) : Bool := !(Builtin.Str.occurrences x (Str.ofString "[") 0 x.length 1).isEmpty
theorem in_B {y : Str} {t u : Tok} {b : Bool} (hb : hasB y = b) (h : Q (.bool b) s) : wpAny (model prog w) A (compareOp .In (.str (Str.ofString "[") u) (.str y t)) Q E s := PyProof.Rows.in_str (by
  have e : (!(Builtin.Str.occurrences y (Str.ofString "[") 0 y.length 1).isEmpty) = b := hb
  rw [e]
  exact h)
end
section
local macro_rules | `(tactic| ke_room) => `(tactic| ktr_units)
local macro_rules | `(tactic| k_all) => `(tactic| with_reducible assumption)
local macro_rules | `(tactic| walk_at "exec For Name Subscript cons nil") => `(tactic| (k_here; (rename Fr _ _ _ _ => lF'); (with_unfolding_all refine' For_invVF lF' ?k1 ?k2 ?_; (case k1 => exact rfl); (case k2 => exact rfl); k_whole)))
local macro_rules | `(tactic| walk_at "exec For Name Call cons nil") => `(tactic| (k_here; (rename Fr _ _ _ _ => lF'); (with_unfolding_all refine' For_invVF lF' ?k1 ?k2 ?_; (case k1 => exact rfl); (case k2 => exact rfl); k_whole)))
local macro_rules | `(tactic| walk_at "exec For Name Name cons nil") => `(tactic| (k_here; (rename Fr _ _ _ _ => lF'); (with_unfolding_all refine' For_invVF lF' ?k1 ?k2 ?_; (case k1 => exact rfl); (case k2 => exact rfl); k_whole)))
local macro_rules | `(tactic| walk_at "subscriptTail Name Constant ref int") => `(tactic| (k_here; (with_reducible rename Fr _ _ _ _ => F'); k_dflt (refine' tup_1 F' ?hq ?_ ?c; (case hq => with_reducible assumption); (case c => with_unfolding_all rfl))))
local macro_rules | `(tactic| walk_at "compareOp In str str") => `(tactic| (k_here; k_dflt (refine' in_B ?hb ?_; (case hb => with_reducible assumption))))
local macro_rules | `(tactic| walk_at "pyIter ref") => `(tactic| (k_here; refine stop_here ?_))
local macro_rules | `(tactic| walk_at "call builtin:list.append") => `(tactic| (k_here; (with_reducible show wpAny _ _ (call (Value.builtin _) [Value.ref _, _]) _ _ _); k_dflt (refine' app_any ?k1 ?k2 ?z ?k3 ?_; (case k1 => k_asm); (case k2 => k_asm); (case k3 => k_upd); (case z => with_reducible assumption); k_whole); intro h' F' N'; (try k_sweep)))
def PairsAt (h : Heap) (vs : List Value) (ps : List (Str × Str)) : Prop := ps.length = vs.length ∧ ∀ (i : Nat) (v : Value), vs[i]? = some v → ∃ (t hst : Str) (q : Addr) (n : Nat) (t1 t2 : Tok), ps[i]? = some (t, hst) ∧ v = .ref q ∧ h.get? q = some (tupOf #[.str t t1, .str hst t2] n) ∧ hst.length ≤ 10
structure BS where
  (ws : List Value) (cap : Nat) (tl : List (Addr × Obj))
/-- what stands in the book for the pair v with that host -/
def BookAt (tl : List (Addr × Obj)) (host : Str) (v w : Value) : Prop :=
  if hasB host = true then ∃ r n t1 t2, w = .ref r ∧ (r, tupOf #[.str (Str.ofString "") t1, .str (Str.ofString "") t2] n) ∈ tl else w = v
def BookIn (tl : List (Addr × Obj)) (vs : List Value) (ps : List (Str × Str)) (ws : List Value) : Prop := ws.length = vs.length ∧ ∀ (j : Nat) (v : Value) (t hst : Str), j < vs.length → vs[j]? = some v → ps[j]? = some (t, hst) → ∃ w, ws[j]? = some w ∧ BookAt tl hst v w
theorem bookAt_mono {tl tl' : List (Addr × Obj)} {hst : Str} {v w : Value} (hs : ∀ p ∈ tl, p ∈ tl') (h : BookAt tl hst v w) : BookAt tl' hst v w := by
  unfold BookAt at h ⊢
  split at h
  · rename_i e
    rw [if_pos e]
    obtain ⟨r, n, t1, t2, a, b⟩ := h
    exact ⟨r, n, t1, t2, a, hs _ b⟩
  · rename_i e
    rw [if_neg e]
    exact h
theorem book_step {vs ws : List Value} {ps : List (Str × Str)} {tl tl' : List (Addr × Obj)} {i : Nat} {v0 w0 : Value} {t0 h0 : Str} (h1 : ws.length = i)
    (h4 : ∀ (j : Nat) (v : Value) (t hst : Str), j < i → vs[j]? = some v → ps[j]? = some (t, hst) → ∃ w, ws[j]? = some w ∧ BookAt tl hst v w) (hs : ∀ p ∈ tl, p ∈ tl') (hv : vs[i]? = some v0) (hp : ps[i]? = some (t0, h0)) (hb : BookAt tl' h0 v0 w0) :
    ∀ (j : Nat) (v : Value) (t hst : Str), j < i + 1 → vs[j]? = some v → ps[j]? = some (t, hst) → ∃ w, (ws ++ [w0])[j]? = some w ∧ BookAt tl' hst v w := by
  intro j v t hst hj hv' hp'
  rcases Nat.lt_or_ge j i with h | h
  · obtain ⟨w, a, b⟩ := h4 j v t hst h hv' hp'
    exact ⟨w, by rw [List.getElem?_append_left (by omega)]; exact a, bookAt_mono hs b⟩
  · obtain rfl : j = i := by omega
    rw [hv] at hv'
    rw [hp] at hp'
    obtain rfl := Option.some.inj hv'
    have e := Option.some.inj hp'
    cases e
    exact ⟨w0, by rw [List.getElem?_append_right (by omega), h1, Nat.sub_self]; rfl, hb⟩
theorem allNe_cons {d r : Addr} {o : Obj} {tl : List (Addr × Obj)} (h1 : @LT.lt Nat _ d r) (h : ∀ p ∈ tl, p.1 ≠ d) : ∀ p ∈ (r, o) :: tl, p.1 ≠ d := by
  intro p hp
  rcases List.mem_cons.mp hp with rfl | q
  · exact fun e => absurd h1 (by rw [show (r : Nat) = d from e]; exact Nat.lt_irrefl _)
  · exact h p q
theorem ppv_ok {w : World} {mean : ExcName → Option Value} {mg mb : Str → Option Value} (pairs : Addr) (vs : List Value) (ps : List (Str × Str)) (hvz : vs.length ≤ 10) :
  Con w mean mg mb 2 21 [.ref pairs] (fun h => h.IsList pairs vs.toArray ∧ PairsAt h vs ps) (fun v tl => ∃ q n ws, v = .ref q ∧ (q, listOf (List.toArray ws) n) ∈ tl ∧ BookIn tl vs ps ws) := by
  unfold Con
  k_fill
  intro dp un gd cn cs a ccd cl outer A₀ base h₀ L m s Q E B F X T hk hd hu hp hret
  obtain ⟨hp, hP⟩ := hp
  refine wpAny_call ?_
  k_dflt (refine' code_defP ?k1 ?k2 ?k3 ?k5 ?kA ?kF ?kK ?k6 ?k7 ?k8 ?k9 ?kB ?_ ?c2 ?c3 ?c4 ?c5; (case kA => exact rfl); (case kF => exact rfl); (case kK => assumption); (case k1 => k_asm); (case k2 => k_asm); (case k3 => k_asm); (case k5 => k_asm); (case k6 => k_is); (case k7 => k_is); (case k8 => ktr_room); (case k9 => exact BindsTo.of_eq rfl); (case c5 => decide); (case kB => exact locs rfl); (case c2 => exact rfl); (case c3 => exact rfl); (case c4 => exact rfl); k_whole)
  clear F X B T
  intro L' h₁ F N B X T
  (try dsimp only); (try k_fold)
  k_steps
  refine Stopped.go ?_
  (with_reducible rename Fr _ _ _ _ => F)
  (with_reducible rename News _ _ _ _ => N)
  obtain ⟨lc, rfl⟩ := pullh N
  refine' my_forB (σ := BS) (vs := vs) [] (fun c => (lc, listOf c.ws.toArray c.cap) :: c.tl) (fun c => [(Str.ofString "accepted_values", .ref lc)])
    (fun i c => c.ws.length = i ∧ (∀ p ∈ c.tl, p.1 ≠ lc) ∧ (∀ p ∈ c.tl, isIter p.2 = false) ∧ ∀ (j : Nat) (v : Value) (t hst : Str), j < i → vs[j]? = some v → ps[j]? = some (t, hst) → ∃ w, c.ws[j]? = some w ∧ BookAt c.tl hst v w) ?cls ?hh ?hl ?F ?N ?hkn ?start ?turn ?done
  case F => exact F
  case N => exact N
  case cls => exact fun _ c hc => List.forall_mem_cons.mpr ⟨rfl, hc.2.2.1⟩
  case hh => rfl
  case hl => exact hp
  case hkn => exact List.forall_mem_nil _
  case start =>
    exact ⟨⟨[], _, []⟩, List.forall_mem_cons.mpr ⟨List.Mem.head _, List.forall_mem_nil _⟩, List.forall_mem_cons.mpr ⟨rfl, List.forall_mem_nil _⟩, rfl, List.forall_mem_nil _, List.forall_mem_nil _, fun j v t hst hj => absurd hj (Nat.not_lt_zero _)⟩
  case turn =>
    clear F N
    rintro i v ⟨ws, cap, tt⟩ u I oI h tk hv hLI _ ⟨hc1, hc2, hc3, hc4⟩ F N
    have n1 : @Ne Nat lc I := hLI _ (.head _)
    dsimp only at hc1 hc2 hc3 hc4
    obtain ⟨t, hst, q, n, t1, t2, hps, rfl, hq, hhl⟩ := hP.2 i v hv
    have hir : i < vs.length := by
      rcases Nat.lt_or_ge i vs.length with h | h
      · exact h
      · rw [List.getElem?_eq_none h] at hv
        cases hv
    have hwz : ws.length ≤ 1000 := by omega
    have hall : ∀ p ∈ tt ++ [(I, oI)], p.1 ≠ lc := by
      intro p hp
      rcases List.mem_append.mp hp with z | z
      · exact hc2 p z
      · rw [List.mem_singleton.mp z]
        exact fun e => n1 e.symm
    dsimp only [kstB, List.cons_append, List.nil_append] at F N
    cases hb : hasB hst with
    | true =>
      (try k_fold)
      k_steps
      dsimp only [FPost]
      (with_reducible rename Fr _ _ _ _ => F)
      (with_reducible rename News _ _ _ _ => N)
      (with_reducible rename _ ∧ AllLt _ _ => l9)
      exact ⟨⟨ws ++ [_], _, _ :: tt⟩, _, _, _, _, rfl, F, N, List.forall_mem_cons.mpr ⟨List.Mem.tail _ (List.Mem.tail _ (List.mem_append.mpr (.inr (.head _)))), List.forall_mem_nil _⟩,
        List.forall_mem_cons.mpr ⟨List.Mem.tail _ (List.Mem.head _), List.forall_mem_cons.mpr ⟨List.Mem.head _, fun p hp => List.Mem.tail _ (List.Mem.tail _ (List.mem_append.mpr (.inl hp)))⟩⟩,
        List.forall_mem_cons.mpr ⟨rfl, List.forall_mem_nil _⟩, by rw [List.length_append, hc1]; rfl, allNe_cons l9.1 hc2, List.forall_mem_cons.mpr ⟨rfl, hc3⟩,
        book_step hc1 hc4 (fun p hp => List.Mem.tail _ hp) hv hps (by unfold BookAt; rw [if_pos hb]; exact ⟨_, _, _, _, rfl, List.Mem.head _⟩)⟩
    | false =>
      (try k_fold)
      k_steps
      dsimp only [FPost]
      (with_reducible rename Fr _ _ _ _ => F)
      (with_reducible rename News _ _ _ _ => N)
      exact ⟨⟨ws ++ [_], _, tt⟩, _, _, _, _, rfl, F, N, List.forall_mem_cons.mpr ⟨List.Mem.tail _ (List.mem_append.mpr (.inr (.head _))), List.forall_mem_nil _⟩,
        List.forall_mem_cons.mpr ⟨List.Mem.head _, fun p hp => List.Mem.tail _ (List.mem_append.mpr (.inl hp))⟩,
        List.forall_mem_cons.mpr ⟨rfl, List.forall_mem_nil _⟩, by rw [List.length_append, hc1]; rfl, hc2, hc3,
        book_step hc1 hc4 (fun p hp => hp) hv hps (by unfold BookAt; rw [if_neg (by rw [hb]; exact Bool.false_ne_true)])⟩
  case done =>
    clear F N
    rintro ⟨ws, cap, tt⟩ u h tk ⟨hc1, hc2, hc3, hc4⟩ F N
    dsimp only [kstB, List.cons_append, List.nil_append] at F N
    dsimp only at hc1 hc2 hc3 hc4
    (try k_fold)
    k_steps
    all_goals (try dsimp only)
    all_goals (repeat (k_unfold; (try dsimp only)))
    refine leaveP_ (by assumption) (by assumption) fun st kF kN => ?_
    try dsimp only
    exact hret _ _ _ _ st kF kN ⟨_, _, ws, rfl, List.Mem.head _, hc1, fun j v t hst hj hv hps => (hc4 j v t hst hj hv hps).imp fun w hw => ⟨hw.1, bookAt_mono (fun p hp => List.Mem.tail _ (List.mem_append.mpr (.inl hp))) hw.2⟩⟩
end
end
def signT : List Str := [Str.ofString "a", Str.ofString "", Str.ofString "\"", Str.ofString "[", Str.ofString "~", Str.ofString "|", Str.ofString "é", Str.ofString "0"]
def SignsAre (items : Array Value) : Prop := items.size = 8 ∧ ∀ k, k < 8 → ∃ t, items[k]? = some (.str (signT.getD k Str.empty) t)
theorem signs_are (t0 t1 t2 t3 t4 t5 t6 t7 : Tok) : SignsAre #[.str (Str.ofString "a") t0, .str (Str.ofString "") t1, .str (Str.ofString "\"") t2, .str (Str.ofString "[") t3, .str (Str.ofString "~") t4, .str (Str.ofString "|") t5, .str (Str.ofString "é") t6, .str (Str.ofString "0") t7] := by
  refine ⟨rfl, fun k hk => ?_⟩
  match k, hk with
  | 0, _ => exact ⟨t0, rfl⟩
  | 1, _ => exact ⟨t1, rfl⟩
  | 2, _ => exact ⟨t2, rfl⟩
  | 3, _ => exact ⟨t3, rfl⟩
  | 4, _ => exact ⟨t4, rfl⟩
  | 5, _ => exact ⟨t5, rfl⟩
  | 6, _ => exact ⟨t6, rfl⟩
  | 7, _ => exact ⟨t7, rfl⟩
  | n + 8, h => omega
theorem sign_len : ∀ k, k < 8 → (signT.getD k Str.empty).length ≤ 1 := by decide +kernel
theorem fm_lo (x : Int) {n : Int} (h : 0 < n) : 0 ≤ x.fmod n := by
  rw [Int.fmod_eq_emod_of_nonneg _ (Int.le_of_lt h)]
  exact Int.emod_nonneg _ (by omega)
theorem fm_hi (x : Int) {n : Int} (h : 0 < n) : x.fmod n < n := by
  rw [Int.fmod_eq_emod_of_nonneg _ (Int.le_of_lt h)]
  exact Int.emod_lt_of_pos _ h
section
variable {M : Model} {A : Around} {E : Value → Shared → Prop} {env : Env}
theorem cut_wp {Γ : Ctx} {Q : Flow → Shared → Prop} {E' : Value → Shared → Prop} {Mid : Shared → Prop} {ys : List Stmt} (h2 : ∀ s' p', Mid s' → Sem.wp M Γ (execs ys env) (fun f _ s' => Q f s') (fun e _ s' => E' e s') p' s') :
    ∀ (xs : List Stmt) (s : Shared) (p : Pos), Sem.wp M Γ (execs xs env) (fun f _ s' => match f with | .next => Mid s' | f => Q f s') (fun e _ s' => E' e s') p s → Sem.wp M Γ (execs (xs ++ ys) env) (fun f _ s' => Q f s') (fun e _ s' => E' e s') p s
  | [], s, p, h1 => h2 s p h1
  | a :: xs, s, p, h1 => by
    rw [execs_cons, Sem.wp_bind'] at h1
    rw [List.cons_append, execs_cons, Sem.wp_bind']
    refine Sem.wp_mono M Γ _ (fun f p' s' h' => ?_) (fun _ _ _ h' => h') _ _ h1
    cases f with
    | next => exact cut_wp h2 xs s' p' h'
    | ret v => exact h'
    | brk => exact h'
    | cont => exact h'
theorem cut {Q : Flow → Shared → Prop} (Mid : Shared → Prop) {xs ys zs : List Stmt} {s : Shared} (hz : zs = xs ++ ys)
    (h1 : wpAny M A (execs xs env) (fun f s' => match f with | .next => Mid s' | f => Q f s') E s) (h2 : ∀ s', Mid s' → wpAny M A (execs ys env) Q E s') : wpAny M A (execs zs env) Q E s := by
  subst hz
  intro Γ p hΓ
  exact cut_wp (fun s' p' hm => h2 s' hm Γ p' hΓ) xs s p (h1 Γ p hΓ)
end
def cellF (k : Int) : Int := k.fmod (10 ^ Int.toNat 9)
theorem cellF_ok (k : Int) : 0 ≤ cellF k ∧ cellF k < 10 ^ 9 := by
  have e : (10 : Int) ^ Int.toNat 9 = 10 ^ 9 := by decide
  unfold cellF
  rw [e]
  exact ⟨fm_lo k (by decide), fm_hi k (by decide)⟩
theorem cells_ok (W : List Int) : (∀ z ∈ List.map cellF (List.take 3 W) ++ [532, 94808, 67641, 38446, 162842], 0 ≤ z ∧ z < 10 ^ 9) ∧ (List.map cellF (List.take 3 W) ++ [532, 94808, 67641, 38446, 162842]).length ≤ 8 ∧ 5 ≤ (List.map cellF (List.take 3 W) ++ [532, 94808, 67641, 38446, 162842]).length := by
  refine ⟨fun z hz => ?_, ?_, ?_⟩
  · rcases List.mem_append.mp hz with h | h
    · obtain ⟨k, _, rfl⟩ := List.mem_map.mp h
      exact cellF_ok k
    · clear hz
      have e : ∀ z ∈ ([532, 94808, 67641, 38446, 162842] : List Int), 0 ≤ z ∧ z < 10 ^ 9 := by decide
      exact e z h
  · simp only [List.length_append, List.length_map, List.length_take, List.length_cons, List.length_nil]
    omega
  · simp only [List.length_append, List.length_map, List.length_take, List.length_cons, List.length_nil]
    omega
theorem cells_form {ws : List Value} {W : List Int} (h : IntsAre ws (List.map (fun k' => k'.fmod (10 ^ Int.toNat 9)) (List.take 3 W) ++ [532, 94808, 67641, 38446, 162842])) :
    ∃ x0 t0 wr zr, ws = .int x0 t0 :: wr ∧ IntsAre wr zr ∧ 0 ≤ x0 ∧ x0 < 10 ^ 9 ∧ (∀ z ∈ zr, 0 ≤ z ∧ z < 10 ^ 9) ∧ zr.length ≤ 7 := by
  obtain ⟨a, b, c⟩ := cells_ok W
  have h' : IntsAre ws (List.map cellF (List.take 3 W) ++ [532, 94808, 67641, 38446, 162842]) := h
  generalize List.map cellF (List.take 3 W) ++ [532, 94808, 67641, 38446, 162842] = zs at h' a b c
  cases h' with
  | nil => simp at c
  | cons x0 t0 r =>
    exact ⟨x0, t0, _, _, rfl, r, (a _ (.head _)).1, (a _ (.head _)).2, fun z hz => a z (.tail _ hz), by rw [List.length_cons] at b; omega⟩
section
variable {prog : Program} {w : World} {A : Around} {E : Value → Shared → Prop} {s : Shared} {value slice : PySem.Expr} {h₀ : Heap} {L l : Addr} {m : Str → Option Value} {news : List (Addr × Obj)} {items : Array Value} {n : Nat} {i : Int} {u : Tok} {v : Value} {wr : List Value} {Q : Value → Shared → Prop}
theorem head_at (N : News h₀ L s.heap news) (hm : (l, listOf (v :: wr).toArray n) ∈ news) (h : Q v s)
    (hs : subscripted slice false (.ref l) (.int 0 u) = operate [.ref l, .int 0 u] (getItem (.ref l) (.int 0 u))) : wpAny (model prog w) A (subscriptTail value slice (.ref l) (.int 0 u)) Q E s :=
  tail_any (N.isList hm).typeIs slot_list_getitem.lookup (wpAny_getItem_list (N.isList hm) (by decide) (by decide) (by simp) h) hs
theorem sign_at (N : News h₀ L s.heap news) (hm : (l, listOf items n) ∈ news) (hS : SignsAre items) (h0 : 0 ≤ i) (h1 : i < 8)
    (h : ∀ x t, x = signT.getD i.toNat Str.empty → x.length ≤ 1 → Q (.str x t) s)
    (hs : subscripted slice false (.ref l) (.int i u) = operate [.ref l, .int i u] (getItem (.ref l) (.int i u))) : wpAny (model prog w) A (subscriptTail value slice (.ref l) (.int i u)) Q E s := by
  obtain ⟨t, e⟩ := hS.2 i.toNat (by omega)
  exact tail_any (N.isList hm).typeIs slot_list_getitem.lookup (wpAny_getItem_list (N.isList hm) h0 (by omega) e (h _ t rfl (sign_len _ (by omega)))) hs
end
def madeB (name : Str) : Str := Str.ofString "257 /" ++ name
def madeQ (z : Str) : Str := Str.ofString "257 \"" ++ z ++ Str.ofString "\" is \"it\""
def repQ (name : Str) : Str := Txt.replace name (Str.ofString "\"") (Str.ofString "\"\"")
def ok64 (name : Str) : Bool :=
  decide ((repQ name).length ≤ 4) && (Txt.slice (madeQ (repQ name)) none (some 3) == Str.ofString "257") && (Txt.slice (madeQ (repQ name)) (some 3) (some 5) == Str.ofString " \"") && decide (5 ≤ (madeQ (repQ name)).length) && decide ((madeQ (repQ name)).length ≤ 100)
  && (unq ((madeQ (repQ name)).cps.toList.drop 5) == name.cps.toList)
  && (Txt.slice (madeB name) none (some 3) == Str.ofString "257") && (Txt.slice (madeB name) (some 3) (some 5) != Str.ofString " \"") && decide ((madeB name).length ≤ 100)
theorem ok_all : ∀ i, i < 8 → ∀ j, j < 8 → ok64 (signT.getD i Str.empty ++ signT.getD j Str.empty) = true := by decide +kernel
section
variable {prog : Program} {w : World} {A : Around} {E : Value → Shared → Prop} {s : Shared} {x y : Int} {c : Bool} {t u v : Tok} {a b : Str} {i j : Int} {Q : Value → Shared → Prop}
theorem eq_int_as (h : (x == y) = c) (hQ : Q (.bool c) s) : wpAny (model prog w) A (compareOp .Eq (.int x t) (.int y u)) Q E s := PySem.P.eq_int (by rw [h]; exact hQ)
theorem ne_same (h : Q (.bool false) s) : wpAny (model prog w) A (compareOp .NotEq (.str a t) (.str a u)) Q E s := PySem.P.ne_str (by
  have e : (a.cps.toList != a.cps.toList) = false := by simp
  rw [e]
  exact h)
theorem fm8 (x : Int) : (x.fmod 8).toNat < 8 := by
  have a := fm_lo x (n := 8) (by decide)
  have b := fm_hi x (n := 8) (by decide)
  omega
theorem ok_parts {name : Str} (h : ok64 name = true) : (repQ name).length ≤ 4 ∧ Txt.slice (madeQ (repQ name)) none (some 3) = Str.ofString "257" ∧ Txt.slice (madeQ (repQ name)) (some 3) (some 5) = Str.ofString " \"" ∧ 5 ≤ (madeQ (repQ name)).length ∧ (madeQ (repQ name)).length ≤ 100
    ∧ unq ((madeQ (repQ name)).cps.toList.drop 5) = name.cps.toList ∧ Txt.slice (madeB name) none (some 3) = Str.ofString "257" ∧ (Txt.slice (madeB name) (some 3) (some 5) != Str.ofString " \"") = true ∧ (madeB name).length ≤ 100 := by
  unfold ok64 at h
  simp only [Bool.and_eq_true, decide_eq_true_eq, beq_iff_eq] at h
  obtain ⟨⟨⟨⟨⟨⟨⟨⟨a, b⟩, c⟩, d⟩, e⟩, f⟩, g⟩, i⟩, j⟩ := h
  exact ⟨a, b, c, d, e, f, g, i, j⟩
theorem rep_sign (ha : a = signT.getD i.toNat Str.empty) (hb : b = signT.getD j.toNat Str.empty) (hi : i.toNat < 8) (hj : j.toNat < 8) (ht : v ≠ 0) (hu : u ≠ 0) (huv : u ≠ v)
    (h : ∀ z t' k, z = repQ (a ++ b) → z.length ≤ 4 → Q (.str z t') { s with toks := k }) :
    wpAny (model prog w) A (call (.builtin "str.replace") [.str (a ++ b) t, .str (Str.ofString "\"") u, .str (Str.ofString "\"\"") v]) Q E s := by
  subst ha
  subst hb
  have hk := (ok_parts (ok_all _ hi _ hj)).1
  have l1 := sign_len _ hi
  have l2 := sign_len _ hj
  have e2 : (Str.ofString "\"\"").length = 2 := by decide +kernel
  refine PySem.SC.replace hu ht huv (by decide +kernel) ?_ (fun t' k => h _ t' k rfl hk)
  rw [len_app, e2]
  omega
end
section
variable {w : World} {mean : ExcName → Option Value} {mg mb : Str → Option Value} {k : Nat} {f : Addr} {args : List Value} {Pre : Heap → Prop} {Out : Value → List (Addr × Obj) → Prop} {base h₀ : Heap} {L fa : Addr} {nm : Str} {sc : Scope} {cd : Value} {m : Str → Option Value} {s : Shared} {news : List (Addr × Obj)} {Q E : Value → Shared → Prop}
theorem use_law (C : Con w mean mg mb k f args Pre Out) (hk4 : k ≤ 4) (B : Below callerA base [] h₀) (F : Fr h₀ L s.heap m) (N : News h₀ L s.heap news) (X : (hd.heap_1 w.params).In h₀) (T : Top viewK (looseW viewK []) mean mg mb h₀) (hk : sc.kind = .function) (hp : Pre s.heap)
    (h : ∀ v tl h' tk', (∀ b o, s.heap.get? b = some o → h'.get? b = some o) → Fr h₀ L h' m → News h₀ L h' (tl ++ news) → (∀ p ∈ tl, AllNe p.1 news) → Out v tl → Q v { s with heap := h', toks := tk' }) :
    wpAny (model Challenge.rw_xo0014_01.row.prog w) (callerA.deeper (envOfC nm sc L fa cd)) (call (.ref f) args) Q E s := by
  refine C _ _ _ nm sc fa cd (cellsFrom (L + 1) sc.names []) [] callerA base h₀ L m s Q E B F X T hk ?_ ?_ hp (fun v tl h' tk' st F' N' o => h v tl h' tk' st F' (con_news F N st N') (con_ne N N') o)
  · have e : callerA.depth = 301 := rfl
    show callerA.depth + 1 + k < recursionLimit
    simp only [recursionLimit]
    omega
  · have e : callerA.units = 4 := rfl
    have hcL := cLine_is
    show callerA.units + 3 + 8 * k + 200 < cLine
    omega
end
def GoodLabel (label : Str) : Prop := label = Str.ofString "" ∨ ∃ i j, i < 8 ∧ j < 8 ∧ label = signT.getD i Str.empty ++ signT.getD j Str.empty
def Mid1 (h₀ : Heap) (L : Addr) (s s' : Shared) : Prop :=
  ∃ (u : Str → Option Value) (D : Addr) (x0 : Int) (t0 : Tok) (wr : List Value) (zr : List Int) (label : Str) (tl : Tok) (o : Obj) (h : Heap) (tk : Nat), s' = { s with heap := h, toks := tk } ∧ Fr h₀ L h (kstB u [(Str.ofString "head", .int x0 t0), (Str.ofString "cells", .ref D)])
    ∧ News h₀ L h [(D, listOf (List.toArray (.int x0 t0 :: wr)) 0), (L + 1, o)] ∧ o.data = .cell (some (.str label tl)) ∧ IntsAre wr zr ∧ 0 ≤ x0 ∧ x0 < 10 ^ 9 ∧ (∀ z ∈ zr, 0 ≤ z ∧ z < 10 ^ 9) ∧ zr.length ≤ 7 ∧ GoodLabel label ∧ @Ne Nat D (L + 1)
theorem str_of_list {a b : Str} (h : a.cps.toList = b.cps.toList) : a = b := by
  cases a
  cases b
  simp only [Str.mk.injEq]
  exact Array.toList_inj.mp h
theorem cut_1 {M : Model} {A : Around} {E : Value → Shared → Prop} {env : Env} {Q : Flow → Shared → Prop} {zs : List Stmt} {s : Shared} {h₀ : Heap} {L : Addr} {m : Str → Option Value} (_F : Fr h₀ L s.heap m) (n : Nat)
    (h1 : wpAny M A (execs (zs.take n) env) (fun f s' => match f with | .next => Mid1 h₀ L s s' | f => Q f s') E s) (h2 : ∀ s', Mid1 h₀ L s s' → wpAny M A (execs (zs.drop n) env) Q E s') : wpAny M A (execs zs env) Q E s :=
  cut (Mid1 h₀ L s) (List.take_append_drop n zs).symm h1 h2
theorem fr_kst {h₀ h : Heap} {L : Addr} {m : Str → Option Value} (ps : List (Str × Value)) (F : Fr h₀ L h m) (hk : ∀ p ∈ ps, m p.1 = some p.2) : Fr h₀ L h (kstB m ps) := by
  have em : kstB m ps = m := by
    funext y
    exact kstB_eq hk fun _ => rfl
  rw [em]
  exact F
theorem news_sub {h₀ h : Heap} {L : Addr} {news l : List (Addr × Obj)} (N : News h₀ L h news) (hs : ∀ p ∈ l, p ∈ news) : News h₀ L h l := fun p hp => N p (hs p hp)
theorem woods_any (size : Nat) (h1 : 2 ≤ size) (h2 : size ≤ 4) : ∃ Ws, WoodsAre size Ws ∧ ∀ (w : World) (mean : ExcName → Option Value) (mg mb : Str → Option Value) (tr : Tok), Con w mean mg mb 1 157 [.int (size : Int) tr] (fun _ => True) (fun v tl => TabIn tl v Ws) := by
  obtain rfl | rfl | rfl : size = 2 ∨ size = 3 ∨ size = 4 := by omega
  · exact ⟨W2, woods2, fun _ _ _ _ tr => woods_2 tr⟩
  · exact ⟨W3, woods3, fun _ _ _ _ tr => woods_3 tr⟩
  · exact ⟨W4, woods4, fun _ _ _ _ tr => woods_4 tr⟩
theorem size_of (x0 : Int) : ∃ size : Nat, (size : Int) = 2 + (x0.fdiv 256).fmod 3 ∧ 2 ≤ size ∧ size ≤ 4 := by
  have a := fm_lo (x0.fdiv 256) (n := 3) (by decide)
  have b := fm_hi (x0.fdiv 256) (n := 3) (by decide)
  exact ⟨(2 + (x0.fdiv 256).fmod 3).toNat, by omega, by omega, by omega⟩
theorem code_any {w : World} {mean : ExcName → Option Value} {mg mb : Str → Option Value} (lf : Bool) (n0 : Nat) (tn : Tok) (tb : Addr) (size : Nat) (vs : List Value) (Ws : List (List Int)) (hW : WoodsAre size Ws) (hs4 : size ≤ 4) (hn : n0 < tri size 1) :
  Con w mean mg mb 2 164 [.ref tb, .int (n0 : Int) tn, .bool lf] (fun h => h.IsList tb vs.toArray ∧ RowsAt h vs Ws) (CodeOut lf size n0) := by
  cases lf
  · exact code_f n0 tn tb size vs Ws hW hs4 hn
  · exact code_t n0 tn tb size vs Ws hW hs4 hn
section
variable {prog : Program} {w : World} {A : Around} {E : Value → Shared → Prop} {s : Shared} {value slice : PySem.Expr} {l r : Addr} {vs ws : List Value} {Ws : List (List Int)} {W : List Int} {u : Tok} {Q : Value → Shared → Prop} {size : Nat}
theorem tab_last (hl : s.heap.IsList l vs.toArray) (hR : RowsAt s.heap vs Ws) (hW : WoodsAre size Ws) (hs4 : size ≤ 4)
    (h : ∀ r ws, s.heap.IsList r ws.toArray → IntsAre ws (Ws.getD size []) → Q (.ref r) s)
    (hs : subscripted slice false (.ref l) (.int (-1) u) = operate [.ref l, .int (-1) u] (getItem (.ref l) (.int (-1) u))) :
    wpAny (model prog w) A (subscriptTail value slice (.ref l) (.int (-1) u)) Q E s := by
  have hlen := (rowsAt_get hR).1
  have hw1 := hW.1
  obtain ⟨r, ws, e, h2, h3⟩ := (rowsAt_get hR).2 size (by omega)
  refine tail_any hl.typeIs slot_list_getitem.lookup (wpAny_getItem_list_neg hl (by decide) (by simp; omega) (by decide) ?_ (h r ws h2 h3)) hs
  have e2 : ((-1 : Int) + (vs.toArray.size : Nat)).toNat = size := by simp; omega
  rw [e2]
  simpa using e
theorem row_one (hl : s.heap.IsList r ws.toArray) (hi : IntsAre ws (Ws.getD size [])) (hW : WoodsAre size Ws) (h : ∀ t, Q (.int (tri size 1 : Nat) t) s)
    (hs : subscripted slice false (.ref r) (.int 1 u) = operate [.ref r, .int 1 u] (getItem (.ref r) (.int 1 u))) :
    wpAny (model prog w) A (subscriptTail value slice (.ref r) (.int 1 u)) Q E s := by
  obtain ⟨a, b⟩ := hW.2 size (Nat.le_refl _)
  have hb := b 1 (by omega)
  have hk : 1 < (Ws.getD size []).length := by rw [a]; omega
  clear a b
  generalize Ws.getD size [] = W at *
  obtain ⟨t, e⟩ := hi.get 1 (W.getD 1 0) (by rw [List.getD_eq_getElem?_getD, List.getElem?_eq_getElem hk]; rfl)
  rw [hb] at e
  exact tail_any hl.typeIs slot_list_getitem.lookup (wpAny_getItem_list hl (by decide) (by decide) (by simpa using e) (h t)) hs
end
theorem tri_ok : ∀ size, size ≤ 4 → 2 ≤ size → 0 < tri size 1 ∧ tri size 1 < 20 := by decide +kernel
structure LS where
  (vp vd vn : List Value) (cp cd cn : Nat) (tt : List (Addr × Obj)) (ps : List (Str × Str)) (ns : List Int)
def emptied (p : Str × Str) : Str × Str := if hasB p.2 = true then (Str.ofString "", Str.ofString "") else p
def PairsIn (tt : List (Addr × Obj)) (vs : List Value) (ps : List (Str × Str)) : Prop :=
  ps.length = vs.length ∧ ∀ (i : Nat) (v : Value), vs[i]? = some v → ∃ (t hst : Str) (q : Addr) (n : Nat) (t1 t2 : Tok), ps[i]? = some (t, hst) ∧ v = .ref q ∧ (q, tupOf #[.str t t1, .str hst t2] n) ∈ tt ∧ hst.length ≤ 10
def piece (label : Str) (k : Nat) : Str := Txt.mul (Str.ofString "{") (k : Int) ++ label
def codeOf (lf : Bool) (size n : Nat) : List Nat := dec lf (2 * size + 1) size 1 n 0
def textN (lf : Bool) (label : Str) (size n : Nat) : Str := if label = Str.ofString "" then Str.ofString "" else Txt.join (Str.ofString "}") ((codeOf lf size n).map (piece label))
def NumsOk (lf : Bool) (label : Str) (size : Nat) (ps : List (Str × Str)) (ns : List Int) : Prop :=
  ns.length = ps.length ∧ ∀ (i : Nat) (t hst : Str), ps[i]? = some (t, hst) → ∃ n, n < tri size 1 ∧ t = textN lf label size n ∧ ns[i]? = some (if hasB hst = true ∨ label = Str.ofString "" then -1 else (n : Int)) ∧ PyData.strOk hst = true
def LInv (lp ld ln : Addr) (lf : Bool) (label : Str) (size i : Nat) (c : LS) : Prop :=
  c.ps.length ≤ i ∧ PairsIn c.tt c.vp c.ps ∧ PairsIn c.tt c.vd (c.ps.map emptied) ∧ IntsAre c.vn c.ns ∧ NumsOk lf label size c.ps c.ns ∧ (∀ p ∈ c.tt, p.1 ≠ lp ∧ p.1 ≠ ld ∧ p.1 ≠ ln) ∧ ∀ p ∈ c.tt, isIter p.2 = false
theorem pairsIn_snoc {tt tt' : List (Addr × Obj)} {vs : List Value} {ps : List (Str × Str)} {t hst : Str} {q : Addr} {n : Nat} {t1 t2 : Tok} (h : PairsIn tt vs ps) (hs : ∀ p ∈ tt, p ∈ tt') (hq : (q, tupOf #[.str t t1, .str hst t2] n) ∈ tt') (hl : hst.length ≤ 10) :
    PairsIn tt' (vs ++ [.ref q]) (ps ++ [(t, hst)]) := by
  obtain ⟨a, b⟩ := h
  refine ⟨by rw [List.length_append, List.length_append, a]; rfl, fun i v hv => ?_⟩
  rcases Nat.lt_or_ge i vs.length with hi | hi
  · rw [List.getElem?_append_left hi] at hv
    obtain ⟨t', hst', q', n', t1', t2', x1, x2, x3, x4⟩ := b i v hv
    exact ⟨t', hst', q', n', t1', t2', by rw [List.getElem?_append_left (by omega)]; exact x1, x2, hs _ x3, x4⟩
  · rw [List.getElem?_append_right hi] at hv
    have hi2 : i - vs.length = 0 := by
      rcases Nat.eq_zero_or_pos (i - vs.length) with h | h
      · exact h
      · rw [List.getElem?_eq_none (by rw [List.length_singleton]; omega)] at hv
        cases hv
    rw [hi2] at hv
    have e : Value.ref q = v := Option.some.inj hv
    exact ⟨t, hst, q, n, t1, t2, by rw [List.getElem?_append_right (by omega), show i - ps.length = 0 by omega]; rfl, e.symm, hq, hl⟩
theorem pairsIn_mono {tt tt' : List (Addr × Obj)} {vs : List Value} {ps : List (Str × Str)} (h : PairsIn tt vs ps) (hs : ∀ p ∈ tt, p ∈ tt') : PairsIn tt' vs ps :=
  ⟨h.1, fun i v hv => by
    obtain ⟨t', hst', q', n', t1', t2', x1, x2, x3, x4⟩ := h.2 i v hv
    exact ⟨t', hst', q', n', t1', t2', x1, x2, hs _ x3, x4⟩⟩
theorem numsOk_snoc {lf : Bool} {label : Str} {size : Nat} {ps : List (Str × Str)} {ns : List Int} {t hst : Str} {n : Nat} {k : Int} (h : NumsOk lf label size ps ns) (hn : n < tri size 1) (ht : t = textN lf label size n) (hk : k = if hasB hst = true ∨ label = Str.ofString "" then -1 else (n : Int)) (hso : PyData.strOk hst = true) :
    NumsOk lf label size (ps ++ [(t, hst)]) (ns ++ [k]) := by
  obtain ⟨a, b⟩ := h
  refine ⟨by rw [List.length_append, List.length_append, a]; rfl, fun i t' hst' hv => ?_⟩
  rcases Nat.lt_or_ge i ps.length with hi | hi
  · rw [List.getElem?_append_left hi] at hv
    obtain ⟨n', x1, x2, x3, x4⟩ := b i t' hst' hv
    exact ⟨n', x1, x2, by rw [List.getElem?_append_left (by omega)]; exact x3, x4⟩
  · rw [List.getElem?_append_right hi] at hv
    have hi2 : i - ps.length = 0 := by
      rcases Nat.eq_zero_or_pos (i - ps.length) with h | h
      · exact h
      · rw [List.getElem?_eq_none (by rw [List.length_singleton]; omega)] at hv
        cases hv
    rw [hi2] at hv
    have e : (t, hst) = (t', hst') := Option.some.inj hv
    cases e
    exact ⟨n, hn, ht, by rw [List.getElem?_append_right (by omega), show i - ns.length = 0 by omega, ← hk]; rfl, hso⟩
theorem lst_ne {lp ld ln : Addr} {tt : List (Addr × Obj)} (h : ∀ p ∈ tt, p.1 ≠ lp ∧ p.1 ≠ ld ∧ p.1 ≠ ln) : (∀ p ∈ tt, p.1 ≠ lp) ∧ (∀ p ∈ tt, p.1 ≠ ld) ∧ (∀ p ∈ tt, p.1 ≠ ln) := ⟨fun p hp => (h p hp).1, fun p hp => (h p hp).2.1, fun p hp => (h p hp).2.2⟩
theorem host_ok (x : Int) : PyData.strOk (sHost x) = true := by
  have h : ∀ k, k < 5 → PyData.strOk (hostT.getD k Str.empty) = true := by decide +kernel
  have a := fm_lo (x.fdiv 512) (n := 5) (by decide)
  have b := fm_hi (x.fdiv 512) (n := 5) (by decide)
  exact h _ (by omega)
theorem port_is (x : Int) (cnt : Nat) (h : 0 < cnt) : ∃ n : Nat, n < cnt ∧ sPort x (cnt : Int) = (n : Int) := by
  have a := fm_lo ((x.fdiv 8).fmod 64) (n := (cnt : Int)) (by omega)
  have b := fm_hi ((x.fdiv 8).fmod 64) (n := (cnt : Int)) (by omega)
  exact ⟨(sPort x cnt).toNat, by unfold sPort; omega, by unfold sPort; omega⟩
theorem host_len (x : Int) : (sHost x).length ≤ 10 := by
  have h : ∀ k, k < 5 → (hostT.getD k Str.empty).length ≤ 10 := by decide +kernel
  have a := fm_lo (x.fdiv 512) (n := 5) (by decide)
  have b := fm_hi (x.fdiv 512) (n := 5) (by decide)
  exact h _ (by omega)
section
variable {w : World} {mean : ExcName → Option Value} {mg mb : Str → Option Value} {k : Nat} {f : Addr} {args : List Value} {Pre : Heap → Prop} {Out : Value → List (Addr × Obj) → Prop} {h₀ : Heap} {L fa : Addr} {nm : Str} {sc : Scope} {cd : Value} {m : Str → Option Value} {s : Shared} {news : List (Addr × Obj)} {Q E : Value → Shared → Prop}
theorem use_lawT (C : ConT w mean mg mb k f args Pre Out) (hk4 : k ≤ 4) (B : Below callerA h₀ [] h₀) (F : Fr h₀ L s.heap m) (N : News h₀ L s.heap news) (X : (hd.heap_1 w.params).In h₀) (T : Top viewK (looseW viewK []) mean mg mb h₀) (hk : sc.kind = .function) (hp : Pre s.heap)
    (h : ∀ v tl h' tk', Fr h₀ L h' m → News h₀ L h' (tl ++ news) → (∀ p ∈ tl, AllNe p.1 news) → Out v tl → Q v { s with heap := h', toks := tk' }) :
    wpAny (model Challenge.rw_xo0014_01.row.prog w) (callerA.deeper (envOfC nm sc L fa cd)) (call (.ref f) args) Q E s := by
  refine C _ _ _ nm sc fa cd (cellsFrom (L + 1) sc.names []) callerA h₀ h₀ L m s Q E B X T F X T hk ?_ ?_ hp (fun v tl h' tk' st F' N' o => h v tl h' tk' F' (fun p hp => ?_) (con_ne N N') o)
  · have e : callerA.depth = 301 := rfl
    show callerA.depth + 1 + k < recursionLimit
    simp only [recursionLimit]
    omega
  · have e : callerA.units = 4 := rfl
    have hcL := cLine_is
    show callerA.units + 3 + 8 * k + 200 < cLine
    omega
  · rcases List.mem_append.mp hp with q | q
    · refine ⟨(N' p q).1, (N' p q).2.1, ?_⟩
      cases e : h₀.get? p.1 with
      | none => rfl
      | some o => have := (N' p q).2.2; rw [F.keep _ _ e] at this; cases this
    · exact ⟨st _ _ (N p q).1 (N p q).2.1, (N p q).2⟩
end
theorem pull4 {h₀ h : Heap} {L a b c d : Addr} {ws : List Value} {n : Nat} {ob oc od : Obj} {rest : List (Addr × Obj)} (_ : News h₀ L h ((a, listOf ws.toArray n) :: (b, ob) :: (c, oc) :: (d, od) :: rest)) : ∃ la lb lc ld wz, la = a ∧ lb = b ∧ lc = c ∧ ld = d ∧ wz = ws := ⟨a, b, c, d, ws, rfl, rfl, rfl, rfl, rfl⟩
def lfOf (label : Str) : Bool := decide (label.cps.toList < (Str.ofString "{").cps.toList)
theorem intsZ_at {ws : List Value} {zs : List Int} {i : Nat} {v : Value} (h : IntsAre ws zs) (hv : ws[i]? = some v) : ∃ (z : Int) (t : Tok), z ∈ zs ∧ v = .int z t := by
  have hi : i < ws.length := by
    rcases Nat.lt_or_ge i ws.length with h | h
    · exact h
    · rw [List.getElem?_eq_none h] at hv
      cases hv
  have hl := h.length
  have hk : zs[i]? = some zs[i] := List.getElem?_eq_getElem (by omega)
  obtain ⟨t, e⟩ := h.get i zs[i] hk
  rw [hv] at e
  exact ⟨zs[i], t, List.mem_of_getElem? hk, Option.some.inj e⟩
theorem linv_nil {lp ld ln : Addr} {lf : Bool} {label : Str} {size a b c : Nat} : LInv lp ld ln lf label size 0 ⟨[], [], [], a, b, c, [], [], []⟩ :=
  ⟨Nat.le_refl _, ⟨rfl, fun i v h => by simp at h⟩, ⟨rfl, fun i v h => by simp at h⟩, .nil, ⟨rfl, fun i t hst h => by simp at h⟩, List.forall_mem_nil _, List.forall_mem_nil _⟩
theorem host_fit (x : Int) : (sHost x).length ≤ 10 ∧ PyData.strOk (sHost x) = true := ⟨host_len x, host_ok x⟩
theorem led_tail {tt tw : List (Addr × Obj)} {a b c x y z : Addr × Obj} : ∀ p ∈ tw, p ∈ x :: y :: z :: (tt ++ a :: b :: c :: tw) := fun p hp =>
  List.Mem.tail _ (List.Mem.tail _ (List.Mem.tail _ (List.mem_append.mpr (.inr (List.Mem.tail _ (List.Mem.tail _ (List.Mem.tail _ hp)))))))
theorem led_rest {tt K : List (Addr × Obj)} {x y z : Addr × Obj} : ∀ p ∈ K, p ∈ x :: y :: z :: (tt ++ K) := fun p hp =>
  List.Mem.tail _ (List.Mem.tail _ (List.Mem.tail _ (List.mem_append.mpr (.inr hp))))
theorem led_head {tt K : List (Addr × Obj)} {x y z : Addr × Obj} : ∀ p ∈ x :: y :: z :: tt, p ∈ x :: y :: z :: (tt ++ K) := fun p hp => by
  rcases List.mem_cons.mp hp with rfl | hp
  · exact List.Mem.head _
  rcases List.mem_cons.mp hp with rfl | hp
  · exact List.Mem.tail _ (List.Mem.head _)
  rcases List.mem_cons.mp hp with rfl | hp
  · exact List.Mem.tail _ (List.Mem.tail _ (List.Mem.head _))
  exact List.Mem.tail _ (List.Mem.tail _ (List.Mem.tail _ (List.mem_append.mpr (.inl hp))))
theorem linv_up {lp ld ln : Addr} {lf : Bool} {label : Str} {size i : Nat} {c : LS} (h : LInv lp ld ln lf label size i c) : LInv lp ld ln lf label size (i + 1) c := ⟨Nat.le_succ_of_le h.1, h.2⟩
section
variable {prog : Program} {w : World} {A : Around} {E : Value → Shared → Prop} {s : Shared} {u v : Value} {as bs : List Addr} {h : Str} {p : Int} {x : Str} {t t' : Tok} {Q : Value → Shared → Prop}
theorem shaped_pair (hs : PyData.strOk h = true) : SeqAt.shaped (.tuple [.str h, .int p]) = true := by
  unfold SeqAt.shaped
  rw [Bool.and_eq_true]
  refine ⟨?_, rfl⟩
  simp only [PyData.canLay0, PyData.canLayAll0, hs, Bool.and_true]
theorem ne_pair (hs : PyData.strOk h = true) (ra : Reads s.heap u (.tuple [.str h, .int p]) as) (rb : Reads s.heap v (.tuple [.str h, .int p]) bs) (hu : A.units + 64 < cLine) (hQ : Q (.bool false) s) : wpAny (model prog w) A (compareOp .NotEq u v) Q E s :=
  ne_dataH ra rb (shaped_pair hs) (shaped_pair hs) hu (by
    have e : PyData.eqv (.tuple [.str h, .int p]) (.tuple [.str h, .int p]) = true := by simp only [PyData.eqv, PyData.eqvAll, beq_self_eq_true, Bool.and_true]
    rw [e]
    exact hQ)
theorem lt_lab (hQ : Q (.bool (lfOf x)) s) : wpAny (model prog w) A (compareOp .Lt (.str x t) (.str (Str.ofString "{") t')) Q E s := PySem.P.lt_str hQ
end
section
variable {prog : Program} {w : World} {A : Around} {E : Value → Shared → Prop} {s : Shared} {value slice : PySem.Expr} {h₀ : Heap} {L q : Addr} {news : List (Addr × Obj)} {n : Nat} {u : Tok} {a b : Value} {Q : Value → Shared → Prop}
theorem tup_led1 (N : News h₀ L s.heap news) (hm : (q, tupOf #[a, b] n) ∈ news) (h : Q b s)
    (hs : subscripted slice false (.ref q) (.int 1 u) = operate [.ref q, .int 1 u] (getItem (.ref q) (.int 1 u))) : wpAny (model prog w) A (subscriptTail value slice (.ref q) (.int 1 u)) Q E s := by
  have ht : IsTup s.heap q #[a, b] := ⟨_, (N _ hm).1, rfl, n, rfl⟩
  exact tail_any ht.typeIs slot_tuple_getitem.lookup (getItem_tuple ht (by decide) (by decide) (j := 1) (by rfl) rfl h) hs
theorem tup_led0 (N : News h₀ L s.heap news) (hm : (q, tupOf #[a, b] n) ∈ news) (h : Q a s)
    (hs : subscripted slice false (.ref q) (.int 0 u) = operate [.ref q, .int 0 u] (getItem (.ref q) (.int 0 u))) : wpAny (model prog w) A (subscriptTail value slice (.ref q) (.int 0 u)) Q E s := by
  have ht : IsTup s.heap q #[a, b] := ⟨_, (N _ hm).1, rfl, n, rfl⟩
  exact tail_any ht.typeIs slot_tuple_getitem.lookup (getItem_tuple ht (by decide) (by decide) (j := 0) (by rfl) rfl h) hs
end
theorem led_q {tt tw : List (Addr × Obj)} {a b c x y z p1 p2 p3 : Addr × Obj} : ∀ p ∈ tw, p ∈ p1 :: p2 :: p3 :: x :: y :: z :: (tt ++ a :: b :: c :: tw) := fun p hp => List.Mem.tail _ (List.Mem.tail _ (List.Mem.tail _ (led_tail p hp)))
section
variable {h₀ h : Heap} {L : Addr} {news t1 : List (Addr × Obj)} {p p' p1 p2 p3 : Addr × Obj}
theorem news_cons (N : News h₀ L h news) (hp : p ∈ news) : News h₀ L h (p :: news) := fun x hx => by
  rcases List.mem_cons.mp hx with rfl | q
  · exact N _ hp
  · exact N x q
theorem news_one (N : News h₀ L h (t1 ++ news)) (hp : p ∈ t1) : News h₀ L h (p :: news) := fun x hx => by
  rcases List.mem_cons.mp hx with rfl | q
  · exact N _ (List.mem_append.mpr (.inl hp))
  · exact N x (List.mem_append.mpr (.inr q))
theorem news_two (N : News h₀ L h (t1 ++ news)) (hp : p ∈ t1) (hp' : p' ∈ t1) : News h₀ L h (p :: p' :: news) := fun x hx => by
  rcases List.mem_cons.mp hx with rfl | q
  · exact N _ (List.mem_append.mpr (.inl hp))
  · exact news_one N hp' x q
theorem news_drop (N : News h₀ L h (t1 ++ p :: news)) : News h₀ L h news := fun x hx => N x (List.mem_append.mpr (.inr (List.Mem.tail _ hx)))
theorem news_swap (N : News h₀ L h (t1 ++ p1 :: p2 :: news)) (hp : p ∈ t1) : News h₀ L h (p :: news) := fun x hx => by
  rcases List.mem_cons.mp hx with rfl | q
  · exact N _ (List.mem_append.mpr (.inl hp))
  · exact N x (List.mem_append.mpr (.inr (List.Mem.tail _ (List.Mem.tail _ q))))
theorem led_cell {tt tw : List (Addr × Obj)} {a b c x y z : Addr × Obj} : c ∈ x :: y :: z :: (tt ++ a :: b :: c :: tw) :=
  List.Mem.tail _ (List.Mem.tail _ (List.Mem.tail _ (List.mem_append.mpr (.inr (List.Mem.tail _ (List.Mem.tail _ (List.Mem.head _)))))))
theorem led_w {tt tw : List (Addr × Obj)} {a b c k x y z : Addr × Obj} : ∀ p ∈ tw, p ∈ p1 :: p2 :: p3 :: k :: x :: y :: z :: (tt ++ a :: b :: c :: tw) := fun p hp => List.Mem.tail _ (led_q p hp)
theorem led_rest1 {tt K : List (Addr × Obj)} {k x y z : Addr × Obj} : ∀ p ∈ K, p ∈ k :: x :: y :: z :: (tt ++ K) := fun p hp => List.Mem.tail _ (led_rest p hp)
theorem led_head1 {tt K : List (Addr × Obj)} {k x y z : Addr × Obj} : ∀ p ∈ x :: y :: z :: tt, p ∈ k :: x :: y :: z :: (tt ++ K) := fun p hp => List.Mem.tail _ (led_head p hp)
end
/-- depth of the stack of texts after these codes; none where a code asks for more than lies there -/
def deep : List Nat → Nat → Option Nat
  | [], d => some d
  | k :: r, d => if k ≤ d then deep r (d + 1 - k) else none
theorem deep_ok : ∀ size, size ≤ 4 → 2 ≤ size → ∀ lf, ∀ n, n < 14 → n < tri size 1 → deep (codeOf lf size n).reverse 0 = some 1 := by decide +kernel
theorem run_len (label : Str) : ∀ (ks : List Nat) (d e : Nat) (T : List Str), T.length = d → deep ks d = some e → (ks.foldl (fun T k => rep k (label :: T)) T).length = e
  | [], d, e, T, hT, h => by
    have : d = e := Option.some.inj h
    show T.length = e
    omega
  | k :: r, d, e, T, hT, h => by
    unfold deep at h
    split at h
    · rename_i hk
      refine run_len label r (d + 1 - k) e _ ?_ h
      rw [rep_len k _ (by rw [List.length_cons]; omega), List.length_cons]
      omega
    · cases h
theorem deep_at (label : Str) : ∀ (ks : List Nat) (d e : Nat) (T : List Str), T.length = d → deep ks d = some e → ∀ i k, ks[i]? = some k → k ≤ ((ks.take i).foldl (fun T k => rep k (label :: T)) T).length
  | [], _, _, _, _, _, i, k, hk => by simp at hk
  | k0 :: r, d, e, T, hT, h, i, k, hk => by
    unfold deep at h
    split at h
    · rename_i hk0
      cases i with
      | zero =>
        have : k0 = k := by simpa using hk
        show k ≤ T.length
        omega
      | succ i =>
        refine deep_at label r (d + 1 - k0) e (rep k0 (label :: T)) ?_ h i k (by simpa using hk)
        rw [rep_len k0 _ (by rw [List.length_cons]; omega), List.length_cons]
        omega
    · cases h
/-- the texts of the stack, the newest first, with closing braces between -/
def joinT : List Str → List Nat
  | [] => []
  | [x] => x.cps.toList
  | x :: y :: r => x.cps.toList ++ 125 :: joinT (y :: r)
theorem qn_list {f s : Str} (h : ¬ s.length = 0) : (qn f s).cps.toList = 123 :: (f.cps.toList ++ 125 :: s.cps.toList) := by
  rw [qn_more h]
  simp only [KT.app_list]
  have e1 : (Str.ofString "{").cps.toList = [123] := by decide +kernel
  have e2 : (Str.ofString "}").cps.toList = [125] := by decide +kernel
  rw [e1, e2]
  simp
theorem joinT_comb {f s : Str} {r : List Str} (h : ¬ s.length = 0) : joinT (comb (f :: s :: r)) = 123 :: joinT (f :: s :: r) := by
  show joinT (qn f s :: r) = _
  cases r with
  | nil =>
    show (qn f s).cps.toList = 123 :: (f.cps.toList ++ 125 :: s.cps.toList)
    exact qn_list h
  | cons y r =>
    show (qn f s).cps.toList ++ 125 :: joinT (y :: r) = 123 :: (f.cps.toList ++ 125 :: (s.cps.toList ++ 125 :: joinT (y :: r)))
    rw [qn_list h]
    simp
def AllTxt (T : List Str) : Prop := ∀ x ∈ T, ¬ x.length = 0
theorem qn_pos {f s : Str} (h : ¬ s.length = 0) : ¬ (qn f s).length = 0 := by
  rw [qn_more h, len_app, len_app, len_app, len_open]
  omega
theorem comb_all : ∀ {T : List Str}, AllTxt T → AllTxt (comb T)
  | [], h => h
  | [_], h => h
  | f :: s :: r, h => by
    intro x hx
    rcases List.mem_cons.mp hx with rfl | hx
    · exact qn_pos (h s (.tail _ (.head _)))
    · exact h x (.tail _ (.tail _ hx))
theorem rep_all : ∀ (j : Nat) {T : List Str}, AllTxt T → AllTxt (rep j T)
  | 0, _, h => h
  | j + 1, _, h => comb_all (rep_all j h)
theorem joinT_rep : ∀ (j : Nat) (T : List Str), AllTxt T → j + 1 ≤ T.length → joinT (rep j T) = List.replicate j 123 ++ joinT T
  | 0, T, _, _ => rfl
  | j + 1, T, h, hl => by
    have e := joinT_rep j T h (by omega)
    have hlen := rep_len j T (by omega)
    have hall := rep_all j h
    show joinT (comb (rep j T)) = _
    match hR : rep j T, hlen, hall, e with
    | [], hlen, _, _ => simp at hlen; omega
    | [_], hlen, _, _ => simp at hlen; omega
    | f :: s :: r, _, hall, e =>
      rw [joinT_comb (hall s (.tail _ (.head _))), e, List.replicate_succ]
      rfl
def runL (label : List Nat) : List Nat → List Nat
  | [] => []
  | [c] => List.replicate c 123 ++ label
  | c :: d :: r => List.replicate c 123 ++ (label ++ 125 :: runL label (d :: r))
theorem deep_cons (k : Nat) (r : List Nat) (d : Nat) : deep (k :: r) d = if k ≤ d then deep r (d + 1 - k) else none := rfl
theorem deep_split : ∀ (ks : List Nat) (c d e : Nat), deep (ks ++ [c]) d = some e → ∃ d', deep ks d = some d' ∧ c ≤ d' ∧ e = d' + 1 - c
  | [], c, d, e, h => by
    rw [List.nil_append, deep_cons] at h
    by_cases hc : c ≤ d
    · rw [if_pos hc] at h
      have he : d + 1 - c = e := Option.some.inj h
      exact ⟨d, rfl, hc, he.symm⟩
    · rw [if_neg hc] at h
      cases h
  | k :: r, c, d, e, h => by
    rw [List.cons_append, deep_cons] at h
    by_cases hk : k ≤ d
    · rw [if_pos hk] at h
      obtain ⟨d', a, b, x⟩ := deep_split r c _ e h
      exact ⟨d', by rw [deep_cons, if_pos hk]; exact a, b, x⟩
    · rw [if_neg hk] at h
      cases h
theorem run_join (label : Str) (hl : ¬ label.length = 0) : ∀ (codes : List Nat) (e : Nat), deep codes.reverse 0 = some e → AllTxt (run label codes.reverse) ∧ joinT (run label codes.reverse) = runL label.cps.toList codes ∧ (run label codes.reverse).length = e
  | [], e, h => ⟨fun x hx => (nomatch hx), rfl, run_len label [] 0 e [] rfl h⟩
  | c :: r, e, h => by
    rw [List.reverse_cons] at h ⊢
    obtain ⟨d', a, b, x⟩ := deep_split r.reverse c 0 e h
    obtain ⟨i1, i2, i3⟩ := run_join label hl r d' a
    rw [run_snoc]
    have hall : AllTxt (label :: run label r.reverse) := by
      intro y hy
      rcases List.mem_cons.mp hy with rfl | hy
      · exact hl
      · exact i1 y hy
    have hlen : c + 1 ≤ (label :: run label r.reverse).length := by rw [List.length_cons]; omega
    refine ⟨rep_all c hall, ?_, by rw [rep_len c _ hlen, List.length_cons]; omega⟩
    rw [joinT_rep c _ hall hlen]
    cases r with
    | nil => rfl
    | cons d r =>
      show _ = List.replicate c 123 ++ (label.cps.toList ++ 125 :: runL label.cps.toList (d :: r))
      rw [← i2]
      have hne : 1 ≤ d' := by
        rw [List.reverse_cons] at a
        obtain ⟨d2, _, y1, y2⟩ := deep_split r.reverse d 0 d' a
        omega
      match hT : run label (d :: r).reverse, i3 with
      | [], i3 => simp at i3; omega
      | y :: q, _ => rfl
theorem mul_list : ∀ k : Nat, k ≤ 4 → (Txt.mul (Str.ofString "{") (k : Int)).cps.toList = List.replicate k 123 := by decide +kernel
theorem join_runL (label : Str) : ∀ (codes : List Nat), (∀ x ∈ codes, x ≤ 4) → (Str.join (Str.ofString "}") (codes.map (piece label))).cps.toList = runL label.cps.toList codes
  | [], _ => rfl
  | [c], h => by
    show (piece label c).cps.toList = _
    unfold piece
    rw [KT.app_list, mul_list c (h c (.head _))]
    rfl
  | c :: d :: r, h => by
    have e2 : (Str.ofString "}").cps.toList = [125] := by decide +kernel
    have ih := join_runL label (d :: r) fun x hx => h x (.tail _ hx)
    show (piece label c ++ Str.ofString "}" ++ Str.join (Str.ofString "}") ((d :: r).map (piece label))).cps.toList = List.replicate c 123 ++ (label.cps.toList ++ 125 :: runL label.cps.toList (d :: r))
    rw [KT.app_list, KT.app_list, ih, e2]
    unfold piece
    rw [KT.app_list, mul_list c (h c (.head _))]
    simp only [List.append_assoc, List.cons_append, List.nil_append]
theorem codes_ok : ∀ size, size ≤ 4 → 2 ≤ size → ∀ lf n, n < tri size 1 → (codeOf lf size n).length ≤ 5 ∧ ∀ k ∈ codeOf lf size n, k ≤ 4 := by
  have h : ∀ size, size ≤ 4 → 2 ≤ size → ∀ lf, ∀ n, n < 14 → n < tri size 1 → (codeOf lf size n).length ≤ 5 ∧ ∀ k ∈ codeOf lf size n, k ≤ 4 := by decide +kernel
  intro size h4 h2 lf n hn
  have ht : ∀ size, size ≤ 4 → tri size 1 ≤ 14 := by decide +kernel
  exact h size h4 h2 lf n (Nat.lt_of_lt_of_le hn (ht size h4)) hn
theorem label_len {label : Str} (h : GoodLabel label) : label.length ≤ 2 := by
  rcases h with rfl | ⟨i, j, hi, hj, rfl⟩
  · decide +kernel
  · have a := sign_len i hi
    have b := sign_len j hj
    rw [len_app]
    omega
section
variable {prog : Program} {w : World} {A : Around} {E : Value → Shared → Prop} {s : Shared} {k : Int} {t u : Tok} {Q : Value → Shared → Prop}
theorem mul_open (h0 : 0 ≤ k) (h4 : k ≤ 4) (h : ∀ z t' tk, z = Txt.mul (Str.ofString "{") k → z.length ≤ 4 → Q (.str z t') { s with toks := tk }) : wpAny (model prog w) A (binaryOp .Mult (.str (Str.ofString "{") t) (.int k u)) Q E s := by
  have hz : (Txt.mul (Str.ofString "{") k).length ≤ 4 ∧ MulOk (Str.ofString "{") k := by
    obtain rfl | rfl | rfl | rfl | rfl : k = 0 ∨ k = 1 ∨ k = 2 ∨ k = 3 ∨ k = 4 := by omega
    all_goals exact ⟨by decide +kernel, by unfold MulOk; decide +kernel⟩
  exact SB.mul hz.2 fun t' tk => h _ t' tk rfl hz.1
end
theorem mem_nat {k : Int} {ks : List Nat} (h : k ∈ ks.map Int.ofNat) (hb : ∀ x ∈ ks, x ≤ 4) : 0 ≤ k ∧ k ≤ 4 := by
  obtain ⟨x, hx, rfl⟩ := List.mem_map.mp h
  have := hb x hx
  have e : Int.ofNat x = (x : Int) := rfl
  omega
theorem piece_of {label z : Str} {k : Int} (h0 : 0 ≤ k) (hz : z = Txt.mul (Str.ofString "{") k) : (fun k : Int => piece label k.toNat) k = z ++ label := by
  show piece label k.toNat = _
  unfold piece
  rw [Int.toNat_of_nonneg h0, hz]
theorem piece_len {label : Str} (hl : label.length ≤ 2) {k : Nat} (h : k ≤ 4) : (piece label k).length ≤ 10 := by
  have h4 : ∀ k : Nat, k ≤ 4 → (Txt.mul (Str.ofString "{") (k : Int)).length ≤ 4 := by decide +kernel
  have := h4 k h
  unfold piece
  rw [len_app]
  omega
theorem pieces_len {label : Str} (hl : label.length ≤ 2) {ks : List Nat} (hb : ∀ x ∈ ks, x ≤ 4) : ∀ a ∈ ks.map Int.ofNat, ((fun k : Int => piece label k.toNat) a).length ≤ 10 := by
  intro a ha
  obtain ⟨x, hx, rfl⟩ := List.mem_map.mp ha
  exact piece_len hl (hb x hx)
theorem text_of {lf : Bool} {label : Str} {size n : Nat} (h : ¬ label = Str.ofString "") : Txt.join (Str.ofString "}") (((codeOf lf size n).map Int.ofNat).map fun k => piece label k.toNat) = textN lf label size n := by
  unfold textN
  rw [if_neg h, List.map_map]
  rfl
theorem not_empty {label : Str} (h : (label != Str.ofString "") = true) : ¬ label = Str.ofString "" := by
  intro e
  rw [e] at h
  simp at h
theorem is_empty {label : Str} (h : (label != Str.ofString "") = false) : label = Str.ofString "" := by simpa using h
theorem allLt_ne {d : Nat} : ∀ {l : List (Addr × Obj)}, AllLt d l → ∀ p ∈ l, p.1 ≠ d
  | [], _, p, hp => nomatch hp
  | q :: r, h, p, hp => by
    rcases List.mem_cons.mp hp with rfl | hp
    · exact Nat.ne_of_lt h.1
    · exact allLt_ne h.2 p hp
theorem all_ne {tt tw : List (Addr × Obj)} {a b c : Addr × Obj} {d : Addr} (h1 : ∀ p ∈ tt, p.1 ≠ d) (h2 : @Ne Nat d a.1) (h3 : @Ne Nat b.1 d) (h4 : @Ne Nat c.1 d) (h5 : ∀ p ∈ tw, p.1 ≠ d) : ∀ p ∈ tt ++ a :: b :: c :: tw, p.1 ≠ d := by
  intro p hp
  rcases List.mem_append.mp hp with q | q
  · exact h1 p q
  rcases List.mem_cons.mp q with rfl | q
  · exact fun e => h2 e.symm
  rcases List.mem_cons.mp q with rfl | q
  · exact h3
  rcases List.mem_cons.mp q with rfl | q
  · exact h4
  · exact h5 p q
def AllE (T : List Str) : Prop := ∀ x ∈ T, x = Str.ofString ""
theorem comb_e : ∀ {T : List Str}, AllE T → AllE (comb T)
  | [], h => h
  | [_], h => h
  | f :: s :: r, h => by
    intro x hx
    rcases List.mem_cons.mp hx with rfl | hx
    · have e0 : (Str.ofString "").length = 0 := by decide +kernel
      rw [qn_zero (by rw [h s (.tail _ (.head _))]; exact e0)]
      exact h f (.head _)
    · exact h x (.tail _ (.tail _ hx))
theorem rep_e : ∀ (j : Nat) {T : List Str}, AllE T → AllE (rep j T)
  | 0, _, h => h
  | j + 1, _, h => comb_e (rep_e j h)
theorem run_e : ∀ (ks : List Nat) (T : List Str), AllE T → AllE (ks.foldl (fun T k => rep k (Str.ofString "" :: T)) T)
  | [], _, h => h
  | k :: r, T, h => run_e r _ (rep_e k fun x hx => by
    rcases List.mem_cons.mp hx with rfl | hx
    · rfl
    · exact h x hx)
theorem made_run (lf : Bool) (size n : Nat) (label : Str) (h4 : size ≤ 4) (h2 : 2 ≤ size) (hn : n < tri size 1) : run label (codeOf lf size n).reverse = [textN lf label size n] := by
  have ht : ∀ size, size ≤ 4 → tri size 1 ≤ 14 := by decide +kernel
  have hd := deep_ok size h4 h2 lf n (Nat.lt_of_lt_of_le hn (ht size h4)) hn
  obtain ⟨_, hk4⟩ := codes_ok size h4 h2 lf n hn
  have hlen : (run label (codeOf lf size n).reverse).length = 1 := run_len label _ 0 1 [] rfl hd
  match hT : run label (codeOf lf size n).reverse, hlen with
  | [y], _ =>
    congr 1
    by_cases hl : label = Str.ofString ""
    · have he : AllE (run label (codeOf lf size n).reverse) := by
        rw [hl]
        exact run_e _ [] fun x hx => (nomatch hx)
      rw [hT] at he
      unfold textN
      rw [if_pos hl]
      exact he y (.head _)
    · have hl0 : ¬ label.length = 0 := fun e => hl (by
        have e1 : (Str.ofString "").cps.toList = [] := by decide +kernel
        refine str_of_list ?_
        rw [e1]
        have : label.cps.toList.length = 0 := by rw [Array.length_toList]; exact e
        exact List.eq_nil_of_length_eq_zero this)
      have hj := (run_join label hl0 (codeOf lf size n) 1 hd).2.1
      rw [hT] at hj
      unfold textN
      rw [if_neg hl]
      refine str_of_list ?_
      show _ = (Builtin.Str.glued (Str.ofString "}") ((codeOf lf size n).map (piece label))).cps.toList
      rw [StrLaws.glued_eq_join, join_runL label _ hk4]
      exact hj
theorem made_any {w : World} {mean : ExcName → Option Value} {mg mb : Str → Option Value} (lf : Bool) (size n : Nat) (code : Addr) (label : Str) (tl : Tok) (kv : List Value) (hkv : IntsAre kv ((codeOf lf size n).map Int.ofNat)) (h4 : size ≤ 4) (h2 : 2 ≤ size) (hn : n < tri size 1) (hl : label.length ≤ 2) :
  Con w mean mg mb 3 171 [.ref code, .str label tl] (fun h => h.IsList code kv.toArray) (fun v _ => ∃ t, v = .str (textN lf label size n) t) := by
  have ht : ∀ size, size ≤ 4 → tri size 1 ≤ 14 := by decide +kernel
  have hd := deep_ok size h4 h2 lf n (Nat.lt_of_lt_of_le hn (ht size h4)) hn
  obtain ⟨hkl, hk4⟩ := codes_ok size h4 h2 lf n hn
  refine made_ok code label _ tl kv (codeOf lf size n) hkv (by omega) hl (fun i k hk => ⟨deep_at label _ 0 1 [] rfl hd i k hk, ?_⟩) (made_run lf size n label h4 h2 hn)
  have := hk4 k (List.mem_reverse.mp (List.mem_of_getElem? hk))
  omega
theorem textN_nil {lf : Bool} {label : Str} {size n : Nat} (h : label = Str.ofString "") : textN lf label size n = Str.ofString "" := by
  unfold textN
  rw [if_pos h]
section
variable {h₀ h : Heap} {L : Addr} {news t1 : List (Addr × Obj)} {p1 p2 : Addr × Obj}
theorem news_drop2 (N : News h₀ L h (t1 ++ p1 :: p2 :: news)) : News h₀ L h news := fun x hx => N x (List.mem_append.mpr (.inr (List.Mem.tail _ (List.Mem.tail _ hx))))
end
section
variable {prog : Program} {w : World} {A : Around} {E : Value → Shared → Prop} {s : Shared} {x y : Str} {c : Bool} {t u : Tok} {Q : Value → Shared → Prop}
theorem eq_str_as (h : (x == y) = c) (hQ : Q (.bool c) s) : wpAny (model prog w) A (compareOp .Eq (.str x t) (.str y u)) Q E s := PySem.P.eq_str (by
  have e : (x.cps.toList == y.cps.toList) = c := by
    rw [← h]
    have e1 : (x == y) = decide (x = y) := by
      by_cases hh : x = y
      · subst hh
        simp
      · rw [decide_eq_false hh]
        simpa using hh
    rw [e1]
    by_cases hh : x = y
    · subst hh
      simp
    · rw [decide_eq_false hh]
      have : x.cps.toList ≠ y.cps.toList := fun e => hh (str_of_list e)
      simpa using this
  rw [e]
  exact hQ)
end
theorem ints_snocZ {vi : List Value} {ns : List Int} {c : Int} {t : Tok} (h : IntsAre vi ns) : IntsAre (vi ++ [.int c t]) (ns ++ [c]) := h.append (.cons _ _ .nil)
theorem emptied_len {t hst : Str} (h : hst.length ≤ 10) : (emptied (t, hst)).2.length ≤ 10 := by
  unfold emptied
  split
  · have e : (Str.ofString "").length = 0 := by decide +kernel
    show (Str.ofString "").length ≤ 10
    omega
  · exact h
theorem linv_snoc {lp ld ln : Addr} {lf : Bool} {label : Str} {size i : Nat} {vp vd vn : List Value} {cp cd cn a b c : Nat} {tt tt' : List (Addr × Obj)} {ps : List (Str × Str)} {ns : List Int} {t hst : Str} {q1 q2 : Addr} {n1 n2 n : Nat} {ta tb tc td tk : Tok} {k : Int}
    (h : LInv lp ld ln lf label size i ⟨vp, vd, vn, cp, cd, cn, tt, ps, ns⟩) (hs : ∀ p ∈ tt, p ∈ tt') (h1 : (q1, tupOf #[.str t ta, .str hst tb] n1) ∈ tt') (h2 : (q2, tupOf #[.str (emptied (t, hst)).1 tc, .str (emptied (t, hst)).2 td] n2) ∈ tt')
    (hne : ∀ p ∈ tt', p.1 ≠ lp ∧ p.1 ≠ ld ∧ p.1 ≠ ln) (hit : ∀ p ∈ tt', isIter p.2 = false) (hl : hst.length ≤ 10 ∧ PyData.strOk hst = true) (hn : n < tri size 1) (ht : t = textN lf label size n) (hk : k = if hasB hst = true ∨ label = Str.ofString "" then -1 else (n : Int)) :
    LInv lp ld ln lf label size (i + 1) ⟨vp ++ [.ref q1], vd ++ [.ref q2], vn ++ [.int k tk], a, b, c, tt', ps ++ [(t, hst)], ns ++ [k]⟩ := by
  obtain ⟨x1, x2, x3, x4, x5, _, _⟩ := h
  dsimp only at x1 x2 x3 x4 x5
  refine ⟨?_, pairsIn_snoc x2 hs h1 hl.1, ?_, ints_snocZ x4, numsOk_snoc x5 hn ht hk hl.2, hne, hit⟩
  · show (ps ++ [(t, hst)]).length ≤ i + 1
    rw [List.length_append, List.length_singleton]
    omega
  · show PairsIn tt' (vd ++ [.ref q2]) ((ps ++ [(t, hst)]).map emptied)
    rw [List.map_append]
    exact pairsIn_snoc (t := (emptied (t, hst)).1) (hst := (emptied (t, hst)).2) x3 hs h2 (emptied_len hl.1)
theorem linv_snoc2 {lp ld ln : Addr} {lf : Bool} {label : Str} {size i : Nat} {vp vd vn : List Value} {cp cd cn a b c : Nat} {tt tt' : List (Addr × Obj)} {ps : List (Str × Str)} {ns : List Int} {t hst t2 h2' : Str} {q1 q2 : Addr} {n1 n2 n : Nat} {ta tb tc td tk : Tok} {k : Int}
    (h : LInv lp ld ln lf label size i ⟨vp, vd, vn, cp, cd, cn, tt, ps, ns⟩) (hs : ∀ p ∈ tt, p ∈ tt') (h1 : (q1, tupOf #[.str t ta, .str hst tb] n1) ∈ tt') (h2 : (q2, tupOf #[.str t2 tc, .str h2' td] n2) ∈ tt') (he : emptied (t, hst) = (t2, h2'))
    (hne : ∀ p ∈ tt', p.1 ≠ lp ∧ p.1 ≠ ld ∧ p.1 ≠ ln) (hit : ∀ p ∈ tt', isIter p.2 = false) (hl : hst.length ≤ 10 ∧ PyData.strOk hst = true) (hn : n < tri size 1) (ht : t = textN lf label size n) (hk : k = if hasB hst = true ∨ label = Str.ofString "" then -1 else (n : Int)) :
    LInv lp ld ln lf label size (i + 1) ⟨vp ++ [.ref q1], vd ++ [.ref q2], vn ++ [.int k tk], a, b, c, tt', ps ++ [(t, hst)], ns ++ [k]⟩ := by
  refine linv_snoc h hs h1 (q2 := q2) (tc := tc) (td := td) (n2 := n2) ?_ hne hit hl hn ht hk
  rw [he]
  exact h2
theorem emptied_t {t hst : Str} (h : hasB hst = true) : emptied (t, hst) = (Str.ofString "", Str.ofString "") := by
  unfold emptied
  rw [if_pos h]
theorem emptied_f {t hst : Str} (h : hasB hst = false) : emptied (t, hst) = (t, hst) := by
  unfold emptied
  rw [if_neg (by rw [h]; exact Bool.false_ne_true)]
theorem led_head5 {tt K : List (Addr × Obj)} {a b q k x y z : Addr × Obj} : ∀ p ∈ x :: y :: z :: a :: b :: tt, p ∈ a :: b :: q :: k :: x :: y :: z :: (tt ++ K) := by
  intro p hp
  simp only [List.mem_cons, List.mem_append] at hp ⊢
  rcases hp with h | h | h | h | h | h <;> simp [h]
theorem led_rest5 {tt K : List (Addr × Obj)} {a b q k x y z : Addr × Obj} : ∀ p ∈ K, p ∈ a :: b :: q :: k :: x :: y :: z :: (tt ++ K) := fun p hp => List.Mem.tail _ (List.Mem.tail _ (List.Mem.tail _ (led_rest1 p hp)))
theorem ne_three {a lp ld ln : Addr} (h1 : @LT.lt Nat _ lp a) (h2 : @LT.lt Nat _ ld a) (h3 : @LT.lt Nat _ ln a) : a ≠ lp ∧ a ≠ ld ∧ a ≠ ln := ⟨fun e => absurd h1 (by rw [show (a : Nat) = lp from e]; exact Nat.lt_irrefl _), fun e => absurd h2 (by rw [show (a : Nat) = ld from e]; exact Nat.lt_irrefl _), fun e => absurd h3 (by rw [show (a : Nat) = ln from e]; exact Nat.lt_irrefl _)⟩
def lexlt (lf : Bool) : List Nat → List Nat → Bool
  | c :: r, d :: q => if c = d then lexlt lf r q else (if lf = true then decide (c < d) else decide (d < c))
  | _, _ => false
def lexB (lf : Bool) (size j i : Nat) : Bool := !(decide (2 ≤ size) && decide (j < tri size 1) && decide (i < j)) || (lexlt lf (codeOf lf size i) (codeOf lf size j) && (codeOf lf size i).length == (codeOf lf size j).length)
theorem lex_all : ∀ size, size < 5 → ∀ j, j < 14 → ∀ i, i < 14 → (lexB true size j i && lexB false size j i) = true := by decide +kernel
theorem lex_ok (size : Nat) (h4 : size ≤ 4) (h2 : 2 ≤ size) (lf : Bool) (j : Nat) (hj : j < 14) (ht : j < tri size 1) (i : Nat) (hi : i < 14) (hij : i < j) : lexlt lf (codeOf lf size i) (codeOf lf size j) = true ∧ (codeOf lf size i).length = (codeOf lf size j).length := by
  have h := lex_all size (Nat.lt_succ_of_le h4) j hj i hi
  rw [Bool.and_eq_true] at h
  have hb : lexB lf size j i = true := by cases lf with | true => exact h.1 | false => exact h.2
  unfold lexB at hb
  rw [decide_eq_true h2, decide_eq_true ht, decide_eq_true hij] at hb
  simpa using hb
theorem app_lt {l x y : List Nat} (h : x < y) : l ++ x < l ++ y := by
  induction l with
  | nil => exact h
  | cons a l ih =>
    rw [List.cons_append, List.cons_append, List.cons_lt_cons_iff]
    exact .inr ⟨rfl, ih⟩
theorem rep_lt {a : Nat} {L X Y : List Nat} : ∀ {c d : Nat}, c < d → a < 123 → List.replicate c 123 ++ (a :: L ++ X) < List.replicate d 123 ++ Y
  | 0, 0, h, _ => absurd h (Nat.lt_irrefl _)
  | 0, d + 1, _, ha => by
    rw [List.replicate_succ, List.cons_append, List.replicate_zero, List.nil_append, List.cons_append, List.cons_lt_cons_iff]
    exact .inl ha
  | c + 1, 0, h, _ => absurd h (Nat.not_lt_zero _)
  | c + 1, d + 1, h, ha => by
    rw [List.replicate_succ, List.replicate_succ]
    show 123 :: (List.replicate c 123 ++ (a :: L ++ X)) < 123 :: (List.replicate d 123 ++ Y)
    rw [List.cons_lt_cons_iff]
    exact .inr ⟨rfl, rep_lt (Nat.lt_of_succ_lt_succ h) ha⟩
theorem rep_gt {a : Nat} {L X Y : List Nat} : ∀ {c d : Nat}, d < c → 123 < a → List.replicate c 123 ++ Y < List.replicate d 123 ++ (a :: L ++ X)
  | 0, _, h, _ => absurd h (Nat.not_lt_zero _)
  | c + 1, 0, _, ha => by
    rw [List.replicate_succ, List.cons_append, List.replicate_zero, List.nil_append, List.cons_append, List.cons_lt_cons_iff]
    exact .inl ha
  | c + 1, d + 1, h, ha => by
    rw [List.replicate_succ, List.replicate_succ]
    show 123 :: (List.replicate c 123 ++ Y) < 123 :: (List.replicate d 123 ++ (a :: L ++ X))
    rw [List.cons_lt_cons_iff]
    exact .inr ⟨rfl, rep_gt (Nat.lt_of_succ_lt_succ h) ha⟩
theorem runL_cons (L : List Nat) (c : Nat) (r : List Nat) : ∃ X, runL L (c :: r) = List.replicate c 123 ++ (L ++ X) := by
  cases r with
  | nil => exact ⟨[], by rw [List.append_nil]; rfl⟩
  | cons d r => exact ⟨125 :: runL L (d :: r), rfl⟩
theorem runL_lt {a : Nat} {L : List Nat} {lf : Bool} (h1 : lf = true → a < 123) (h2 : lf = false → 123 < a) : ∀ (c d : List Nat), c.length = d.length → lexlt lf c d = true → runL (a :: L) c < runL (a :: L) d
  | [], _, _, h => by unfold lexlt at h; cases h
  | _ :: _, [], hl, _ => by simp at hl
  | c :: r, d :: q, hl, h => by
    unfold lexlt at h
    by_cases e : c = d
    · rw [if_pos e] at h
      subst e
      match r, q, hl, h with
      | [], _, _, h => unfold lexlt at h; cases h
      | _ :: _, [], hl, _ => simp at hl
      | c2 :: r2, d2 :: q2, hl, h =>
        have ih := runL_lt (L := L) h1 h2 (c2 :: r2) (d2 :: q2) (by simpa using hl) h
        show List.replicate c 123 ++ ((a :: L) ++ 125 :: runL (a :: L) (c2 :: r2)) < List.replicate c 123 ++ ((a :: L) ++ 125 :: runL (a :: L) (d2 :: q2))
        refine app_lt (app_lt ?_)
        rw [List.cons_lt_cons_iff]
        exact .inr ⟨rfl, ih⟩
    · rw [if_neg e] at h
      obtain ⟨X, hX⟩ := runL_cons (a :: L) c r
      obtain ⟨Y, hY⟩ := runL_cons (a :: L) d q
      rw [hX, hY]
      cases lf with
      | true => exact rep_lt (by simpa using h) (h1 rfl)
      | false => exact rep_gt (by simpa using h) (h2 rfl)
theorem head_menu : ∀ i, i < 8 → ∀ j, j < 8 → (signT.getD i Str.empty ++ signT.getD j Str.empty).cps.toList.headD 0 ≠ 123 := by decide +kernel
theorem label_head {label : Str} (hG : GoodLabel label) (hne : ¬ label = Str.ofString "") : ∃ a L, label.cps.toList = a :: L ∧ a ≠ 123 := by
  rcases hG with h | ⟨i, j, hi, hj, h⟩
  · exact (hne h).elim
  · have hm := head_menu i hi j hj
    rw [← h] at hm
    match hl : label.cps.toList, hm with
    | [], _ =>
      refine (hne (str_of_list ?_)).elim
      rw [hl]
      decide +kernel
    | a :: L, hm => exact ⟨a, L, rfl, hm⟩
theorem lf_is {label : Str} {a : Nat} {L : List Nat} (h : label.cps.toList = a :: L) (ha : a ≠ 123) : lfOf label = decide (a < 123) := by
  unfold lfOf
  have e : (Str.ofString "{").cps.toList = [123] := by decide +kernel
  rw [h, e]
  congr 1
  rw [List.cons_lt_cons_iff]
  exact propext ⟨fun o => o.elim id fun z => (ha z.1).elim, .inl⟩
theorem text_list {lf : Bool} {label : Str} {size n : Nat} (h4 : size ≤ 4) (h2 : 2 ≤ size) (hn : n < tri size 1) (hne : ¬ label = Str.ofString "") : (textN lf label size n).cps.toList = runL label.cps.toList (codeOf lf size n) := by
  unfold textN
  rw [if_neg hne]
  show (Builtin.Str.glued (Str.ofString "}") ((codeOf lf size n).map (piece label))).cps.toList = _
  rw [StrLaws.glued_eq_join, join_runL label _ (codes_ok size h4 h2 lf n hn).2]
theorem text_lt {label : Str} {size i j : Nat} (hG : GoodLabel label) (hne : ¬ label = Str.ofString "") (h4 : size ≤ 4) (h2 : 2 ≤ size) (hj : j < tri size 1) (hij : i < j) :
    (textN (lfOf label) label size i).cps.toList < (textN (lfOf label) label size j).cps.toList := by
  have ht : ∀ size, size ≤ 4 → tri size 1 ≤ 14 := by decide +kernel
  have hj14 := Nat.lt_of_lt_of_le hj (ht size h4)
  obtain ⟨a, L, hl, ha⟩ := label_head hG hne
  obtain ⟨x1, x2⟩ := lex_ok size h4 h2 (lfOf label) j hj14 hj i (Nat.lt_trans hij hj14) hij
  rw [text_list h4 h2 (Nat.lt_trans hij hj) hne, text_list h4 h2 hj hne, hl]
  have hlf := lf_is hl ha
  exact runL_lt (fun e => by rw [hlf] at e; simpa using e) (fun e => by
    rw [hlf] at e
    have : ¬ a < 123 := of_decide_eq_false e
    omega) _ _ x2 x1
def NameOk (label : Str) (size : Nat) (x : Str) (m : Int) : Prop :=
  (x = Str.ofString "" ∧ m = -1) ∨ (¬ label = Str.ofString "" ∧ ∃ n, n < tri size 1 ∧ x = textN (lfOf label) label size n ∧ m = (n : Int))
def SameOrd (x y : Str) (i j : Int) : Prop := [decide (x.cps.toList < y.cps.toList), !decide (y.cps.toList < x.cps.toList), x == y, decide (y.cps.toList < x.cps.toList), !decide (x.cps.toList < y.cps.toList)] = [decide (i < j), decide (i ≤ j), i == j, decide (j < i), decide (j ≤ i)]
theorem same_eq (x : Str) (i : Int) : SameOrd x x i i := by
  unfold SameOrd
  have h : ¬ x.cps.toList < x.cps.toList := List.lt_irrefl _
  simp [h]
theorem same_lt {x y : Str} {i j : Int} (h : x.cps.toList < y.cps.toList) (hij : i < j) : SameOrd x y i j := by
  unfold SameOrd
  have h2 : ¬ y.cps.toList < x.cps.toList := List.lt_asymm h
  have h3 : ¬ x = y := fun e => List.lt_irrefl x.cps.toList (by rw [← e] at h; exact h)
  have h4 : (x == y) = false := by simpa using h3
  have h5 : (i == j) = false := by simpa using (show ¬ i = j by omega)
  rw [decide_eq_true h, decide_eq_false h2, h4, h5, decide_eq_true hij, decide_eq_true (show i ≤ j by omega), decide_eq_false (show ¬ j < i by omega), decide_eq_false (show ¬ j ≤ i by omega)]
  rfl
theorem same_gt {x y : Str} {i j : Int} (h : y.cps.toList < x.cps.toList) (hij : j < i) : SameOrd x y i j := by
  unfold SameOrd
  have h2 : ¬ x.cps.toList < y.cps.toList := List.lt_asymm h
  have h3 : ¬ x = y := fun e => List.lt_irrefl x.cps.toList (by rw [← e] at h; exact h)
  have h4 : (x == y) = false := by simpa using h3
  have h5 : (i == j) = false := by simpa using (show ¬ i = j by omega)
  rw [decide_eq_true h, decide_eq_false h2, h4, h5, decide_eq_true hij, decide_eq_true (show j ≤ i by omega), decide_eq_false (show ¬ i < j by omega), decide_eq_false (show ¬ i ≤ j by omega)]
  rfl
theorem text_pos {label : Str} {size n : Nat} (hG : GoodLabel label) (hne : ¬ label = Str.ofString "") (h4 : size ≤ 4) (h2 : 2 ≤ size) (hn : n < tri size 1) : (Str.ofString "").cps.toList < (textN (lfOf label) label size n).cps.toList := by
  have e : (Str.ofString "").cps.toList = [] := by decide +kernel
  have ht : ∀ size, size ≤ 4 → tri size 1 ≤ 14 := by decide +kernel
  have hd := deep_ok size h4 h2 (lfOf label) n (Nat.lt_of_lt_of_le hn (ht size h4)) hn
  obtain ⟨a, L, hl, _⟩ := label_head hG hne
  rw [e, text_list h4 h2 hn hne, hl]
  match hc : codeOf (lfOf label) size n, hd with
  | [], hd => cases hd
  | c :: r, _ =>
    obtain ⟨X, hX⟩ := runL_cons (a :: L) c r
    rw [hX]
    cases c with
    | zero => exact List.nil_lt_cons _ _
    | succ c => exact List.nil_lt_cons _ _
theorem same_ok {label : Str} {size : Nat} {x y : Str} {i j : Int} (hG : GoodLabel label) (h4 : size ≤ 4) (h2 : 2 ≤ size) (hx : NameOk label size x i) (hy : NameOk label size y j) : SameOrd x y i j := by
  rcases hx with ⟨rfl, rfl⟩ | ⟨hne, n, hn, rfl, rfl⟩
  · rcases hy with ⟨rfl, rfl⟩ | ⟨hne, n, hn, rfl, rfl⟩
    · exact same_eq _ _
    · exact same_lt (text_pos hG hne h4 h2 hn) (by omega)
  · rcases hy with ⟨rfl, rfl⟩ | ⟨_, n', hn', rfl, rfl⟩
    · exact same_gt (text_pos hG hne h4 h2 hn) (by omega)
    · rcases Nat.lt_trichotomy n n' with h | h | h
      · exact same_lt (text_lt hG hne h4 h2 hn' h) (by omega)
      · subst h
        exact same_eq _ _
      · exact same_gt (text_lt hG hne h4 h2 hn h) (by omega)
theorem strOk_list {x : Str} (h : ∀ c ∈ x.cps.toList, c < 0x110000) : PyData.strOk x = true := by
  unfold PyData.strOk
  rw [← Array.all_toList]
  rw [List.all_eq_true]
  intro c hc
  exact decide_eq_true (h c hc)
theorem runL_mem {L : List Nat} : ∀ {ks : List Nat} {c : Nat}, c ∈ runL L ks → c = 123 ∨ c = 125 ∨ c ∈ L
  | [], c, h => by simp [runL] at h
  | [k], c, h => by
    rcases List.mem_append.mp (show c ∈ List.replicate k 123 ++ L from h) with q | q
    · exact .inl (List.eq_of_mem_replicate q)
    · exact .inr (.inr q)
  | k :: d :: r, c, h => by
    rcases List.mem_append.mp (show c ∈ List.replicate k 123 ++ (L ++ 125 :: runL L (d :: r)) from h) with q | q
    · exact .inl (List.eq_of_mem_replicate q)
    rcases List.mem_append.mp q with q | q
    · exact .inr (.inr q)
    rcases List.mem_cons.mp q with q | q
    · exact .inr (.inl q)
    · exact runL_mem q
theorem sign_ok : ∀ i, i < 8 → ∀ j, j < 8 → ((signT.getD i Str.empty ++ signT.getD j Str.empty).cps.toList.all fun c => decide (c < 0x110000)) = true := by decide +kernel
theorem label_ok {label : Str} (hG : GoodLabel label) : ∀ c ∈ label.cps.toList, c < 0x110000 := by
  rcases hG with rfl | ⟨i, j, hi, hj, rfl⟩
  · decide +kernel
  · intro c hc
    exact of_decide_eq_true (List.all_eq_true.mp (sign_ok i hi j hj) c hc)
theorem text_ok {label : Str} {size n : Nat} (hG : GoodLabel label) (h4 : size ≤ 4) (h2 : 2 ≤ size) (hn : n < tri size 1) : PyData.strOk (textN (lfOf label) label size n) = true := by
  by_cases hne : label = Str.ofString ""
  · rw [textN_nil hne]
    decide +kernel
  · refine strOk_list fun c hc => ?_
    rw [text_list h4 h2 hn hne] at hc
    rcases runL_mem hc with rfl | rfl | h
    · decide
    · decide
    · exact label_ok hG c h
theorem pairsAt_of {h₀ h : Heap} {L : Addr} {tt : List (Addr × Obj)} {vs : List Value} {ps : List (Str × Str)} (N : News h₀ L h tt) (hP : PairsIn tt vs ps) : PairsAt h vs ps :=
  ⟨hP.1, fun i v hv => by
    obtain ⟨t, hst, q, n, t1, t2, a, b, c, d⟩ := hP.2 i v hv
    exact ⟨t, hst, q, n, t1, t2, a, b, (N _ c).1, d⟩⟩
/-- what the book holds: its own tuples and the old ones -/
theorem book_pairs {tt t1 : List (Addr × Obj)} {vs ws : List Value} {ps : List (Str × Str)} (hP : PairsIn tt vs ps) (hB : BookIn t1 vs ps ws) : PairsIn (t1 ++ tt) ws (ps.map emptied) := by
  obtain ⟨b1, b2⟩ := hB
  refine ⟨by rw [List.length_map, b1, hP.1], fun i v hv => ?_⟩
  have hi : i < vs.length := by
    rcases Nat.lt_or_ge i ws.length with h | h
    · omega
    · rw [List.getElem?_eq_none h] at hv
      cases hv
  obtain ⟨t, hst, q, n, t1', t2', a, b, c, d⟩ := hP.2 i vs[i] (List.getElem?_eq_getElem hi)
  obtain ⟨w, hw, hb⟩ := b2 i vs[i] t hst hi (List.getElem?_eq_getElem hi) a
  rw [hv] at hw
  obtain rfl := Option.some.inj hw
  unfold BookAt at hb
  cases hh : hasB hst with
  | true =>
    rw [if_pos hh] at hb
    obtain ⟨r, m, u1, u2, e1, e2⟩ := hb
    exact ⟨_, _, r, m, u1, u2, by rw [List.getElem?_map, a]; exact congrArg some (emptied_t hh), e1, List.mem_append.mpr (.inl e2), by decide +kernel⟩
  | false =>
    rw [if_neg (by rw [hh]; exact Bool.false_ne_true)] at hb
    exact ⟨t, hst, q, n, t1', t2', by rw [List.getElem?_map, a]; exact congrArg some (emptied_f hh), hb.trans b, List.mem_append.mpr (.inr c), d⟩
def pairD (p : Str × Str) : PyData := .tuple [.str p.1, .str p.2]
theorem reads_pairs {h₀ h : Heap} {L : Addr} {tt : List (Addr × Obj)} (N : News h₀ L h tt) : ∀ {vs : List Value} {ps : List (Str × Str)}, PairsIn tt vs ps → ReadsAll h vs (ps.map pairD) []
  | [], ps, hP => by
    have : ps = [] := List.eq_nil_of_length_eq_zero hP.1
    subst this
    exact .nil
  | v :: vs, [], hP => by have := hP.1; simp at this
  | v :: vs, p :: ps, hP => by
    obtain ⟨t, hst, q, n, t1, t2, a, b, c, d⟩ := hP.2 0 v rfl
    have e : p = (t, hst) := Option.some.inj a
    subst e
    subst b
    have ih := reads_pairs N (vs := vs) (ps := ps) ⟨by have := hP.1; simpa using this, fun i w hw => hP.2 (i + 1) w hw⟩
    exact .cons (.tuple (N _ c).1 rfl rfl (.cons (.str _ _) (.cons (.str _ _) .nil))) ih
theorem lay_pairs : ∀ {ps : List (Str × Str)}, (∀ p ∈ ps, PyData.strOk p.1 = true ∧ PyData.strOk p.2 = true) → PyData.canLayAll0 (ps.map pairD) = true
  | [], _ => rfl
  | p :: r, h => by
    have h1 := h p (.head _)
    show PyData.canLayAll0 (pairD p :: r.map pairD) = true
    unfold pairD
    simp only [PyData.canLayAll0, PyData.canLay0, h1.1, h1.2, Bool.true_and]
    exact lay_pairs fun q hq => h q (.tail _ hq)
theorem depth_pairs : ∀ ps : List (Str × Str), PyData.depthAll (ps.map pairD) ≤ 1
  | [] => Nat.zero_le _
  | p :: r => by
    have ih := depth_pairs r
    show PyData.depthAll (pairD p :: r.map pairD) ≤ 1
    unfold pairD
    simp only [PyData.depthAll, PyData.depth]
    exact Nat.max_le.mpr ⟨by decide, ih⟩
section
variable {prog : Program} {w : World} {A : Around} {E : Value → Shared → Prop} {s : Shared} {h₀ : Heap} {L qa qb : Addr} {tt : List (Addr × Obj)} {va vb : List Value} {na nb : Nat} {ps : List (Str × Str)} {Q : Value → Shared → Prop}
theorem ne_books (N : News h₀ L s.heap tt) (ha : (qa, listOf va.toArray na) ∈ tt) (hb : (qb, listOf vb.toArray nb) ∈ tt) (pa : PairsIn tt va ps) (pb : PairsIn tt vb ps) (hs : ∀ p ∈ ps, PyData.strOk p.1 = true ∧ PyData.strOk p.2 = true) (hu : A.units + 64 < cLine)
    (hQ : Q (.bool false) s) : wpAny (model prog w) A (compareOp .NotEq (.ref qa) (.ref qb)) Q E s := by
  have hl : (PyData.list (ps.map pairD)).canLay0 = true := by
    simp only [PyData.canLay0]
    exact lay_pairs hs
  have hsh : SeqAt.shaped (.list (ps.map pairD)) = true := by
    unfold SeqAt.shaped
    rw [hl, Bool.true_and]
    have := depth_pairs ps
    refine decide_eq_true ?_
    simp only [PyData.depth]
    omega
  have ra : Reads s.heap (.ref qa) (.list (ps.map pairD)) (qa :: []) := .list (N _ ha).1 rfl rfl (reads_pairs N pa)
  have rb : Reads s.heap (.ref qb) (.list (ps.map pairD)) (qb :: []) := .list (N _ hb).1 rfl rfl (reads_pairs N pb)
  refine ne_dataH ra rb hsh hsh hu ?_
  rw [SeqAt.eqv_refl _ hl]
  exact hQ
end
/-- the names: each value is an object of QName with its text -/
def NamesIn (tl : List (Addr × Obj)) (ys : List Value) (xs : List Str) : Prop :=
  xs.length = ys.length ∧ ∀ (i : Nat) (v : Value), ys[i]? = some v → ∃ (x : Str) (r d : Addr) (hs : Int) (k t : Tok) (n : Nat), xs[i]? = some x ∧ v = .ref r ∧ (r, instObj 146 d) ∈ tl ∧ (d, dictOf [⟨hs, .str (Str.ofString "text") k, .str x t⟩] n) ∈ tl
def NameEl (base : List (Addr × Obj)) (x : Str) (y : Value) (news' : List (Addr × Obj)) : Prop :=
  ∃ (r d : Addr) (hs : Int) (k t : Tok) (n : Nat), y = .ref r ∧ news' = (r, instObj 146 d) :: (d, dictOf [⟨hs, .str (Str.ofString "text") k, .str x t⟩] n) :: base
theorem name_end {h₀ : Heap} {L I C D r d : Addr} {m : Str → Option Value} {s₁ : Shared} {oI oC oD : Obj} {S : List (Addr × Obj) → Prop} {x : Str} {h' : Heap} {tk : Nat} {X : List (Addr × Obj)} {hs : Int} {k t : Tok} {n : Nat}
    (F : Fr h₀ L h' m) (N : News h₀ L h' ((r, instObj 146 d) :: (d, dictOf [⟨hs, .str (Str.ofString "text") k, .str x t⟩] n) :: (I, oI) :: (C, oC) :: (D, oD) :: X)) (l1 : (@LT.lt Nat _ I d) ∧ (@LT.lt Nat _ C d) ∧ (@LT.lt Nat _ D d) ∧ AllLt d X) (l2 : @LT.lt Nat _ d r) (off : LCg.Off3 I C D X)
    (hS : S ((r, instObj 146 d) :: (d, dictOf [⟨hs, .str (Str.ofString "text") k, .str x t⟩] n) :: X)) :
    LCg.CompEnd h₀ L m s₁ I oI C oC D oD S (fun y news' => NameEl X x y news') (.ref r) { s₁ with heap := h', toks := tk } := by
  obtain ⟨a, b, c, _⟩ := l1
  have nd : ∀ {z : Addr}, (@LT.lt Nat _ z d) → @Ne Nat d z := fun h => Nat.ne_of_gt h
  have nr : ∀ {z : Addr}, (@LT.lt Nat _ z d) → @Ne Nat r z := fun h => Nat.ne_of_gt (Nat.lt_trans h l2)
  refine LCg.CompEnd.intro F N ((r, instObj 146 d) :: (d, dictOf [⟨hs, .str (Str.ofString "text") k, .str x t⟩] n) :: X) ?_ ⟨⟨nr a, nr b, nr c⟩, ⟨nd a, nd b, nd c⟩, off⟩ hS ⟨r, d, hs, k, t, n, rfl, rfl⟩
  intro p hp
  simp only [List.mem_cons] at hp ⊢
  rcases hp with h | h | h | h | h | h <;> simp [h]
theorem pull1 {h₀ h : Heap} {L a : Addr} {o : Obj} {rest : List (Addr × Obj)} (_ : News h₀ L h ((a, o) :: rest)) : ∃ la, la = a := ⟨a, rfl⟩
theorem names_len {tl : List (Addr × Obj)} {ys vs : List Value} {ps : List (Str × Str)} {xs' : List (Addr × Obj)} (h : NamesIn tl ys ((ps.map emptied).map Prod.fst)) (hP : PairsIn xs' vs ps) (hv : vs.length ≤ 10) : ys.length ≤ 10 := by
  have a := h.1
  have b := hP.1
  rw [List.length_map, List.length_map] at a
  omega
theorem led_names {tl X : List (Addr × Obj)} {D b x y : Addr × Obj} : ∀ p ∈ D :: y :: tl, p ∈ D :: (tl ++ b :: x :: y :: X) := by
  intro p hp
  simp only [List.mem_cons, List.mem_append] at hp ⊢
  rcases hp with h | h | h <;> simp [h]
theorem led_sub2 {tl : List (Addr × Obj)} {R a b : Addr × Obj} : ∀ p ∈ a :: b :: tl, p ∈ R :: a :: b :: tl := fun p hp => .tail _ hp
theorem led_i4 {tl : List (Addr × Obj)} {p a b c d : Addr × Obj} (h : p ∈ tl) : p ∈ a :: b :: c :: d :: tl := .tail _ (.tail _ (.tail _ (.tail _ h)))
theorem namesIn_nil : NamesIn [] [] [] := ⟨rfl, fun i v h => by simp at h⟩
theorem namesIn_snoc {tl tl' : List (Addr × Obj)} {ys : List Value} {xs : List Str} {x : Str} {r d : Addr} {hs : Int} {k t : Tok} {n : Nat} (h : NamesIn tl ys xs) (hsub : ∀ p ∈ tl, p ∈ tl') (h1 : (r, instObj 146 d) ∈ tl') (h2 : (d, dictOf [⟨hs, .str (Str.ofString "text") k, .str x t⟩] n) ∈ tl') :
    NamesIn tl' (ys ++ [.ref r]) (xs ++ [x]) := by
  obtain ⟨a, b⟩ := h
  refine ⟨by rw [List.length_append, List.length_append, a]; rfl, fun i v hv => ?_⟩
  rcases Nat.lt_or_ge i ys.length with hi | hi
  · rw [List.getElem?_append_left hi] at hv
    obtain ⟨x', r', d', hs', k', t', n', x1, x2, x3, x4⟩ := b i v hv
    exact ⟨x', r', d', hs', k', t', n', by rw [List.getElem?_append_left (by omega)]; exact x1, x2, hsub _ x3, hsub _ x4⟩
  · rw [List.getElem?_append_right hi] at hv
    have hi2 : i - ys.length = 0 := by
      rcases Nat.eq_zero_or_pos (i - ys.length) with h | h
      · exact h
      · rw [List.getElem?_eq_none (by rw [List.length_singleton]; omega)] at hv
        cases hv
    rw [hi2] at hv
    have e : Value.ref r = v := Option.some.inj hv
    exact ⟨x, r, d, hs, k, t, n, by rw [List.getElem?_append_right (by omega), show i - xs.length = 0 by omega]; rfl, e.symm, h1, h2⟩
section
variable {prog : Program} {w : World} {A : Around} {h₀ : Heap} {L : Addr} {m : Str → Option Value} {env : Env} {elt : PySem.Expr} {x : Str} {scope : Scope} {cl : List (Str × Addr)} {s : Shared} {S : List (Addr × Obj) → Prop} {Fin : List Value → List (Addr × Obj) → Prop} {news tt : List (Addr × Obj)} {ws : List Value} {ps : List (Str × Str)}
theorem names_list (hP : PairsIn tt ws ps) (hsub : ∀ p ∈ tt, p ∈ news)
    (turn : ∀ q n t hst t1 t2 tl I oI C oC D m₂ ys h tk (E' : Value → Shared → Prop), (q, tupOf #[.str t t1, .str hst t2] n) ∈ news → LCg.NsObj oC m₂ → m₂ x = some (.ref q) → Fr h₀ L h m → News h₀ L h ((I, oI) :: (C, oC) :: (D, LCg.lst ys) :: (tl ++ news)) → LCg.Off3 I C D (tl ++ news) → ((@Ne Nat I C) ∧ (@Ne Nat I D) ∧ (@Ne Nat C D)) →
      wpAny (model prog w) A (eval elt (compEnvC scope cl C env)) (LCg.CompEnd h₀ L m { s with heap := h, toks := tk } I oI C oC D (LCg.lst ys) S (fun y news' => NameEl (tl ++ news) t y news')) E' { s with heap := h, toks := tk })
    (fin : ∀ tl ys, NamesIn tl ys (ps.map Prod.fst) → Fin ys (tl ++ news)) : LCg.CompRest prog w A h₀ L m env elt x scope cl s S (fun i v => ws.toArray[i]? = some v) Fin ws.toArray.size 0 [] news := by
  obtain ⟨hl, hP⟩ := hP
  have key : ∀ (j i : Nat) (tl : List (Addr × Obj)) (ys : List Value), i + j = ws.length → NamesIn tl ys ((ps.map Prod.fst).take i) → LCg.CompRest prog w A h₀ L m env elt x scope cl s S (fun i v => ws.toArray[i]? = some v) Fin j i ys (tl ++ news) := by
    intro j
    induction j with
    | zero =>
      intro i tl ys hi hy
      have e : i = (ps.map Prod.fst).length := by rw [List.length_map]; omega
      subst e
      rw [List.take_length] at hy
      exact LCg.CompRest.zero (fin tl ys hy)
    | succ j ih =>
      intro i tl ys hi hy
      refine LCg.CompRest.succ ?_
      intro v I oI C oC D m₂ h tk E' hv hC hx F N off ne
      obtain ⟨t, hst, q, n, t1, t2, a, b, c, d⟩ := hP i v (by simpa using hv)
      subst b
      refine wpAny_mono (turn q n t hst t1 t2 tl I oI C oC D m₂ ys h tk E' (hsub _ c) hC hx F N off ne) (fun y s₂ hq => ?_) fun _ _ e => e
      obtain ⟨h', tk', nw, e, F', N', off', hS, r, d, hs, k, t', n', hy', hn⟩ := hq
      subst hn
      subst hy'
      refine ⟨h', tk', _, e, F', N', off', hS, ?_⟩
      have := ih (i + 1) ((r, instObj 146 d) :: (d, dictOf [⟨hs, .str (Str.ofString "text") k, .str t t'⟩] n') :: tl) (ys ++ [.ref r]) (by omega) (by
        rw [List.take_add_one, List.getElem?_map, a]
        exact namesIn_snoc hy (fun p hp => .tail _ (.tail _ hp)) (.head _) (.tail _ (.head _)))
      exact this
  have := key ws.length 0 [] [] (by omega) (by rw [List.take_zero]; exact namesIn_nil)
  rw [List.size_toArray]
  exact this
end
theorem led_book {t8 tt K : List (Addr × Obj)} {b x y z : Addr × Obj} (hb : b ∈ t8) : ∀ p ∈ b :: y :: z :: (t8 ++ tt), p ∈ t8 ++ x :: y :: z :: (tt ++ K) := by
  intro p hp
  simp only [List.mem_cons, List.mem_append] at hp ⊢
  rcases hp with rfl | h | h | h | h
  · exact .inl hb
  · exact .inr (.inr (.inl h))
  · exact .inr (.inr (.inr (.inl h)))
  · exact .inl h
  · exact .inr (.inr (.inr (.inr (.inl h))))
theorem led_tt {tt K : List (Addr × Obj)} {x y z : Addr × Obj} : ∀ p ∈ tt, p ∈ x :: y :: z :: (tt ++ K) := fun p hp => List.Mem.tail _ (List.Mem.tail _ (List.Mem.tail _ (List.mem_append.mpr (.inl hp))))
theorem emptied_str {p : Str × Str} (h : PyData.strOk p.1 = true ∧ PyData.strOk p.2 = true) : PyData.strOk (emptied p).1 = true ∧ PyData.strOk (emptied p).2 = true := by
  unfold emptied
  split
  · exact ⟨by decide +kernel, by decide +kernel⟩
  · exact h
theorem pairs_str {label : Str} {size : Nat} {ps : List (Str × Str)} {ns : List Int} (hG : GoodLabel label) (h4 : size ≤ 4) (h2 : 2 ≤ size) (h : NumsOk (lfOf label) label size ps ns) : ∀ p ∈ ps.map emptied, PyData.strOk p.1 = true ∧ PyData.strOk p.2 = true := by
  intro p hp
  obtain ⟨⟨t, hst⟩, hq, rfl⟩ := List.mem_map.mp hp
  obtain ⟨i, hi⟩ := List.mem_iff_getElem?.mp hq
  obtain ⟨n, hn, ht, _, hso⟩ := h.2 i t hst hi
  refine emptied_str ⟨?_, hso⟩
  show PyData.strOk t = true
  rw [ht]
  exact text_ok hG h4 h2 hn
theorem name_at {label : Str} {size : Nat} {ps : List (Str × Str)} {ns : List Int} {vn ys : List Value} {tl : List (Addr × Obj)} (hNo : NumsOk (lfOf label) label size ps ns) (hN : IntsAre vn ns) (hY : NamesIn tl ys ((ps.map emptied).map Prod.fst)) {i : Nat} (hi : i < ys.length) :
    ∃ (x : Str) (m : Int) (r d : Addr) (hs : Int) (k t tm : Tok) (n : Nat), ys[i]? = some (.ref r) ∧ vn[i]? = some (.int m tm) ∧ (r, instObj 146 d) ∈ tl ∧ (d, dictOf [⟨hs, .str (Str.ofString "text") k, .str x t⟩] n) ∈ tl ∧ NameOk label size x m := by
  obtain ⟨a, b⟩ := hY
  obtain ⟨x, r, d, hs, k, t, n, e1, e2, e3, e4⟩ := b i ys[i] (List.getElem?_eq_getElem hi)
  rw [List.length_map, List.length_map] at a
  have hip : i < ps.length := by omega
  obtain ⟨⟨tx, hst⟩, hp⟩ : ∃ p, ps[i]? = some p := ⟨ps[i], List.getElem?_eq_getElem hip⟩
  obtain ⟨q, hq, ht, hn, _⟩ := hNo.2 i tx hst hp
  obtain ⟨tm, hv⟩ := hN.get i _ hn
  have e1 : x = (emptied (tx, hst)).1 := by
    rw [List.getElem?_map, List.getElem?_map, hp] at e1
    exact (Option.some.inj e1).symm
  refine ⟨x, _, r, d, hs, k, t, tm, n, by rw [List.getElem?_eq_getElem hi, e2], hv, e3, e4, ?_⟩
  cases hb : hasB hst with
  | true =>
    refine .inl ⟨by rw [e1, emptied_t hb], ?_⟩
    rw [if_pos (.inl rfl)]
  | false =>
    rw [emptied_f hb] at e1
    have e1 : x = tx := e1
    by_cases hl : label = Str.ofString ""
    · refine .inl ⟨by rw [e1, ht, textN_nil hl], ?_⟩
      rw [if_pos (.inr hl)]
    · refine .inr ⟨hl, q, hq, by rw [e1, ht], ?_⟩
      rw [if_neg (fun o => o.elim (fun e => Bool.false_ne_true e) hl)]
section
variable {prog : Program} {w : World} {A : Around} {E : Value → Shared → Prop} {s : Shared} {value slice : PySem.Expr} {h₀ : Heap} {L l : Addr} {news : List (Addr × Obj)} {ys : List Value} {n i : Nat} {u : Tok} {v : Value} {Q : Value → Shared → Prop}
theorem tup_at0 {q : Addr} {a b : Value} (e : s.heap.get? q = some (tupOf #[a, b] n)) (h : Q a s)
    (hs : subscripted slice false (.ref q) (.int 0 u) = operate [.ref q, .int 0 u] (getItem (.ref q) (.int 0 u))) : wpAny (model prog w) A (subscriptTail value slice (.ref q) (.int 0 u)) Q E s := by
  have ht : IsTup s.heap q #[a, b] := ⟨_, e, rfl, n, rfl⟩
  exact tail_any ht.typeIs slot_tuple_getitem.lookup (getItem_tuple ht (by decide) (by decide) (j := 0) (by rfl) rfl h) hs
theorem nth_at (N : News h₀ L s.heap news) (hm : (l, listOf ys.toArray n) ∈ news) (hv : ys[i]? = some v) (hb : i ≤ 1000) (h : Q v s)
    (hs : subscripted slice false (.ref l) (.int (i : Int) u) = operate [.ref l, .int (i : Int) u] (getItem (.ref l) (.int (i : Int) u))) : wpAny (model prog w) A (subscriptTail value slice (.ref l) (.int (i : Int) u)) Q E s := by
  refine tail_any (N.isList hm).typeIs slot_list_getitem.lookup (wpAny_getItem_list (N.isList hm) (Int.natCast_nonneg i) ?_ ?_ h) hs
  · have e : (2 : Int) ^ 63 = 9223372036854775808 := by decide
    rw [e]
    omega
  · rw [Int.toNat_natCast]
    simpa using hv
end
/-- a place between an expression and what comes behind it -/
def MidMark (_ : Value → Shared → Prop) : Prop := True
section
variable {prog : Program} {w : World} {A : Around} {E : Value → Shared → Prop} {s : Shared} {e : PySem.Expr} {env : Env} {h₀ : Heap} {L : Addr} {m : Str → Option Value} {news : List (Addr × Obj)} {Q : Value → Shared → Prop}
theorem mid_here {P : Prop} (_ : MidMark Q) (h : wpAny (model prog w) A (eval e env) Q E s) (_ : P) : wpAny (model prog w) A (eval e env) Q E s := h
theorem cut_text (x : Str) (_F : Fr h₀ L s.heap m) (_N : News h₀ L s.heap news)
    (h1 : ∀ Qm : Value → Shared → Prop, MidMark Qm → (∀ h tk t, Fr h₀ L h m → News h₀ L h news → Qm (.str x t) { s with heap := h, toks := tk }) → wpAny (model prog w) A (eval e env) Qm E s)
    (h2 : ∀ h tk t, Fr h₀ L h m → News h₀ L h news → Q (.str x t) { s with heap := h, toks := tk }) : wpAny (model prog w) A (eval e env) Q E s :=
  wpAny_mono (h1 (fun v s' => ∃ h tk t, s' = { s with heap := h, toks := tk } ∧ v = .str x t ∧ Fr h₀ L h m ∧ News h₀ L h news) trivial fun _ _ _ F N => ⟨_, _, _, rfl, rfl, F, N⟩)
    (fun v s' ⟨h, tk, t, es, ev, F, N⟩ => by subst es; subst ev; exact h2 h tk t F N) fun _ _ x => x
theorem cut_tup (a b : Str) (_F : Fr h₀ L s.heap m) (_N : News h₀ L s.heap news)
    (h1 : ∀ Qm : Value → Shared → Prop, MidMark Qm → (∀ h tk q n t1 t2, Fr h₀ L h m → News h₀ L h ((q, tupOf #[.str a t1, .str b t2] n) :: news) → AllLt q news → Qm (.ref q) { s with heap := h, toks := tk }) → wpAny (model prog w) A (eval e env) Qm E s)
    (h2 : ∀ h tk q n t1 t2, Fr h₀ L h m → News h₀ L h ((q, tupOf #[.str a t1, .str b t2] n) :: news) → AllLt q news → Q (.ref q) { s with heap := h, toks := tk }) : wpAny (model prog w) A (eval e env) Q E s :=
  wpAny_mono (h1 (fun v s' => ∃ h tk q n t1 t2, s' = { s with heap := h, toks := tk } ∧ v = .ref q ∧ Fr h₀ L h m ∧ News h₀ L h ((q, tupOf #[.str a t1, .str b t2] n) :: news) ∧ AllLt q news) trivial fun _ _ _ _ _ _ F N l => ⟨_, _, _, _, _, _, rfl, rfl, F, N, l⟩)
    (fun v s' ⟨h, tk, q, n, t1, t2, es, ev, F, N, l⟩ => by subst es; subst ev; exact h2 h tk q n t1 t2 F N l) fun _ _ x => x
theorem cut_num (k : Int)
    (h1 : ∀ Qm : Value → Shared → Prop, MidMark Qm → (∀ tk t, Qm (.int k t) { s with toks := tk }) → wpAny (model prog w) A (eval e env) Qm E s)
    (h2 : ∀ tk t, Q (.int k t) { s with toks := tk }) : wpAny (model prog w) A (eval e env) Q E s :=
  wpAny_mono (h1 (fun v s' => ∃ tk t, s' = { s with toks := tk } ∧ v = .int k t) trivial fun _ _ => ⟨_, _, rfl, rfl⟩)
    (fun v s' ⟨tk, t, es, ev⟩ => by subst es; subst ev; exact h2 tk t) fun _ _ x => x
theorem news_tail {h : Heap} {p : Addr × Obj} (N : News h₀ L h (p :: news)) : News h₀ L h news := fun x hx => N x (.tail _ hx)
end
section
local macro_rules | `(tactic| k_qdec) => `(tactic| decide +kernel)
local macro_rules | `(tactic| walk_at "exec For Name Subscript cons nil") => `(tactic| (k_here; (rename Fr _ _ _ _ => lF'); (with_unfolding_all refine' For_invVF lF' ?k1 ?k2 ?_; (case k1 => exact rfl); (case k2 => exact rfl); k_whole)))
local macro_rules | `(tactic| walk_at "exec For Name Call cons nil") => `(tactic| (k_here; (rename Fr _ _ _ _ => lF'); (with_unfolding_all refine' For_invVF lF' ?k1 ?k2 ?_; (case k1 => exact rfl); (case k2 => exact rfl); k_whole)))
local macro_rules | `(tactic| walk_at "exec For Name Name cons nil") => `(tactic| (k_here; (rename Fr _ _ _ _ => lF'); (with_unfolding_all refine' For_invVF lF' ?k1 ?k2 ?_; (case k1 => exact rfl); (case k2 => exact rfl); k_whole)))
local macro_rules | `(tactic| walk_at "subscriptTail Name UnaryOp ref int") => `(tactic| (k_here; k_dflt (refine' tab_last ?hl ?hR ?hW ?h4 ?_ ?hs; (case hl => with_reducible assumption); (case hR => with_reducible assumption); (case hW => with_reducible assumption); (case h4 => with_reducible assumption); (case hs => with_unfolding_all rfl)); intro r' ws' hr' hw'))
local macro_rules | `(tactic| walk_at "subscriptTail Subscript") => `(tactic| (k_here; k_dflt (refine' row_one ?hl ?hi ?hW ?_ ?hs; (case hl => with_reducible assumption); (case hi => with_reducible assumption); (case hW => with_reducible assumption); (case hs => with_unfolding_all rfl)); intro t'))
local macro_rules | `(tactic| walk_at "compareOp Lt str str") => `(tactic| (k_here; with_reducible refine lt_lab ?_))
local macro_rules | `(tactic| walk_at "compareOp NotEq ref ref") => `(tactic| (k_here; refine stop_here ?_))
local macro_rules | `(tactic| walk_at "compareOp NotEq ref ref") => `(tactic| (k_here; k_dflt (refine ne_pair (by with_reducible assumption) (by ke_read) (by ke_read) (by ke_room) ?_)))
local macro_rules | `(tactic| ke_room) => `(tactic| ktr_units)
local macro_rules | `(tactic| walk_at "binaryOp Mult str int") => `(tactic| (k_here; k_dflt (refine' mul_open ?h0 ?h4 ?_; (case h0 => with_reducible assumption); (case h4 => with_reducible assumption)); intro z' t' k' hz' hl'))
local macro_rules | `(tactic| walk_at "CompSrc") => `(tactic| ((fail_if_success (fail_if_success (with_reducible rename LInv _ _ _ _ _ _ _ _ => stopX))); refine stop_here ?_))
local macro_rules | `(tactic| k_all) => `(tactic| with_reducible assumption)
local macro_rules | `(tactic| walk_at "compareOp In str str") => `(tactic| (k_here; k_dflt (refine' in_B ?hb ?_; (case hb => with_reducible assumption))))
local macro_rules | `(tactic| walk_at "compareOp NotEq str str") => `(tactic| (k_here; with_reducible refine ne_same ?_))
local macro_rules | `(tactic| walk_at "call builtin:list.append") => `(tactic| (k_here; (with_reducible show wpAny _ _ (call (Value.builtin _) [Value.ref _, _]) _ _ _); k_dflt (refine' app_any ?k1 ?k2 ?z ?k3 ?_; (case k1 => k_asm); (case k2 => k_asm); (case k3 => k_upd); (case z => with_reducible assumption); k_whole); intro h' F' N'; (try k_sweep)))
local macro_rules | `(tactic| walk_at "compareOp Eq str str") => `(tactic| (k_here; k_dflt (refine' eq_str_as ?hb ?_; (case hb => with_reducible assumption))))
local macro_rules | `(tactic| walk_at "newTuple") => `(tactic| (k_here; k_dflt (refine' kup_newTuple ?F ?N ?_ ?z; (case F => k_asm); (case N => k_asm); (case z => kmk_size)); intro D' h' F' N' l1; (try k_lt l1); (try k_sweep); (try (have l2 := l1; (try simp only [AllLt] at l2); obtain ⟨_, _, _, _, _, _⟩ := l2))))
local macro_rules | `(tactic| walk_at "KCtEl") => `(tactic| (refine stop_here ?_))
local macro_rules | `(tactic| walk_at "call builtin:str.join") => `(tactic| (k_here; refine stop_here ?_))
local macro_rules | `(tactic| walk_at "call ref") => `(tactic| (k_here; (fail_if_success (with_reducible show wpAny _ _ (call (Value.ref 146) _) _ _ _)); refine stop_here ?_))
local macro_rules | `(tactic| walk_at "pyIter ref") => `(tactic| (k_here; refine stop_here ?_))
local macro_rules | `(tactic| walk_at "compareOp Eq int int") => `(tactic| (k_here; k_dflt (refine' eq_int_as ?hb ?_; (case hb => with_reducible assumption))))
local macro_rules | `(tactic| walk_at "compareOp NotEq str str") => `(tactic| (k_here; with_reducible refine ne_same ?_))
local macro_rules | `(tactic| walk_at "call builtin:str.replace") => `(tactic| (k_here; k_dflt (refine' rep_sign ?ha ?hb (fm8 _) (fm8 _) ?e1 ?e2 ?e3 ?_; (case ha => with_reducible assumption); (case hb => with_reducible assumption); (case e1 => first | omega | (simp; done) | (simp; omega)); (case e2 => first | omega | (simp; done) | (simp; omega)); (case e3 => first | omega | (simp; done) | (simp; omega))); intro z' t' k' hz' hl'))
local macro_rules | `(tactic| walk_at "subscriptTail Name BinOp ref int") => `(tactic| (k_here; k_dflt (refine' sign_at ?N ?hm (signs_are _ _ _ _ _ _ _ _) ?h0 ?h1 ?_ ?hs; (case N => k_asm); (case hm => k_mem); (case h0 => exact fm_lo _ (by decide)); (case h1 => exact fm_hi _ (by decide)); (case hs => with_unfolding_all rfl)); intro x' t' hx' hl'))
local macro_rules | `(tactic| walk_at "subscriptTail Name Constant ref int") => `(tactic| (k_here; refine stop_here ?_))
local macro_rules | `(tactic| walk_at "subscriptTail Name Constant ref int") => `(tactic| (k_here; (with_reducible show wpAny _ _ (subscriptTail _ _ (Value.ref _) (Value.int 1 _)) _ _ _); k_dflt (refine' tup_led1 ?N ?hm ?_ ?c; (case N => k_asm); (case hm => k_mem); (case c => with_unfolding_all rfl))))
local macro_rules | `(tactic| walk_at "subscriptTail Name Name ref int") => `(tactic| (k_here; k_dflt (refine' nth_at ?N ?hm ?hv ?hb ?_ ?c; (case N => k_asm); (case hm => k_mem); (case hv => with_reducible assumption); (case hb => with_reducible assumption); (case c => with_unfolding_all rfl))))
local macro_rules | `(tactic| walk_at "subscriptTail Name Constant ref int") => `(tactic| (k_here; (with_reducible show wpAny _ _ (subscriptTail _ _ (Value.ref _) (Value.int 0 _)) _ _ _); k_dflt (refine' tup_at0 ?hq ?_ ?c; (case hq => with_reducible assumption); (case c => with_unfolding_all rfl))))
local macro_rules | `(tactic| walk_at "call builtin:len") => `(tactic| (k_here; refine stop_here ?_))
local macro_rules | `(tactic| walk_at "call builtin:isinstance") => `(tactic| (k_here; k_dflt (refine' kia_one kitx_tuple ?X ?c ?e ?nb ?_; (case c => kit_at); (case X => k_in); (case e => kit_is); (case nb => kit_nb); k_whole; intro _)))
local macro_rules | `(tactic| k_ne) => `(tactic| (refine neN ?_; (try dsimp only); first | with_reducible assumption | exact Nat.ne_of_gt (by with_reducible assumption)))
local macro_rules | `(tactic| walk_at "eval IfExp") => `(tactic| (k_here; (fail_if_success (fail_if_success (with_reducible rename LInv _ _ _ _ _ _ _ _ => stopX))); (fail_if_success (with_reducible refine mid_here (by with_reducible assumption) ?_ trivial)); refine stop_here ?_))
set_option maxHeartbeats 40000000 in
theorem law_ok : PySem.Challenge.rw_xo0014_01.Holds := Mine.hd (by
  w_strict (
    k_go0
    (all_goals try k_fold)
    (with_reducible rename Fr _ _ _ _ => F)
    refine cut_1 F 8 ?part1 ?part2
    case part1 =>
      simp only [List.take]
      k_steps
      refine Stopped.go ?_
      (with_reducible rename Fr _ _ _ _ => F)
      (with_reducible rename News _ _ _ _ => N)
      rename IntsAre _ (List.map _ (List.take 3 _) ++ _) => hz
      obtain ⟨x0, t0, wr, zr, rfl, hwr, hx0, hx1, hzr, hzl⟩ := cells_form hz
      refine head_at N (by k_mem) ?_ (by with_unfolding_all rfl)
      clear hz
      cases hb : ((x0.fdiv 64).fmod 4 == (3 : Int))
      all_goals k_steps
      focus
        refine Stopped.go ?_
        (with_reducible rename Fr _ _ _ _ => F)
        (with_reducible rename News _ _ _ _ => N)
        rename _ = signT.getD (Int.toNat (Int.fmod (Int.fdiv x0 8) 8)) _ => hxb
        rename _ = signT.getD (Int.toNat (Int.fmod x0 8)) _ => hxa
        rename _ = repQ _ => hz1
        obtain ⟨o1, o2, o3, o4, o5, o6, _, _, _⟩ := ok_parts (ok_all _ (fm8 x0) _ (fm8 (x0.fdiv 8)))
        rw [← hxa, ← hxb, ← hz1] at o1 o2 o3 o4 o5 o6
        refine use_law (p257_ok (madeQ _) _ o5 (by rw [sizeLine_eq]; omega) o2 o3 o4) (by decide) (by assumption) F N (by assumption) (by assumption) rfl trivial ?_
        rintro v tl h' tk' st F' N' ne ⟨d, t, rfl, hd⟩
        obtain rfl := str_of_list (hd.trans o6)
        clear F N
        k_steps
        try dsimp only
        (with_reducible rename Fr _ _ _ _ => F)
        (with_reducible rename News _ _ _ _ => N)
        have f1 := fr_kst [(Str.ofString "head", .int x0 t0), (Str.ofString "cells", _)] F (List.forall_mem_cons.mpr ⟨rfl, List.forall_mem_cons.mpr ⟨rfl, List.forall_mem_nil _⟩⟩)
        refine' ⟨_, _, x0, t0, wr, zr, _, _, _, _, _, rfl, f1, ?q1, ?q2, hwr, hx0, hx1, hzr, hzl, ?q3, ?q4⟩
        case q2 => with_reducible assumption
        case q3 => exact .inr ⟨_, _, fm8 x0, fm8 (x0.fdiv 8), by rw [← hxa, ← hxb]⟩
        case q4 =>
          refine neN ?_
          omega
        case q1 => exact news_sub N (List.forall_mem_cons.mpr ⟨List.mem_append.mpr (.inr (by k_mem)), List.forall_mem_cons.mpr ⟨List.mem_append.mpr (.inr (by k_mem)), List.forall_mem_nil _⟩⟩)
      focus
        refine Stopped.go ?_
        (with_reducible rename Fr _ _ _ _ => F)
        (with_reducible rename News _ _ _ _ => N)
        rename _ = signT.getD (Int.toNat (Int.fmod (Int.fdiv x0 8) 8)) _ => hxb
        rename _ = signT.getD (Int.toNat (Int.fmod x0 8)) _ => hxa
        obtain ⟨_, _, _, _, _, _, o7, o8, o9⟩ := ok_parts (ok_all _ (fm8 x0) _ (fm8 (x0.fdiv 8)))
        rw [← hxa, ← hxb] at o7 o8 o9
        refine use_law (p257_bare (madeB _) _ o9 (by rw [sizeLine_eq]; omega) o7 _ rfl o8) (by decide) (by assumption) F N (by assumption) (by assumption) rfl trivial ?_
        rintro v tl h' tk' st F' N' ne ⟨t, rfl⟩
        clear F N
        k_steps
        try dsimp only
        (with_reducible rename Fr _ _ _ _ => F)
        (with_reducible rename News _ _ _ _ => N)
        have f1 := fr_kst [(Str.ofString "head", .int x0 t0), (Str.ofString "cells", _)] F (List.forall_mem_cons.mpr ⟨rfl, List.forall_mem_cons.mpr ⟨rfl, List.forall_mem_nil _⟩⟩)
        refine' ⟨_, _, x0, t0, wr, zr, _, _, _, _, _, rfl, f1, ?q1, ?q2, hwr, hx0, hx1, hzr, hzl, ?q3, ?q4⟩
        case q2 => with_reducible assumption
        case q3 => exact .inl rfl
        case q4 =>
          refine neN ?_
          omega
        case q1 => exact news_sub N (List.forall_mem_cons.mpr ⟨List.mem_append.mpr (.inr (by k_mem)), List.forall_mem_cons.mpr ⟨List.mem_append.mpr (.inr (by k_mem)), List.forall_mem_nil _⟩⟩)
    case part2 =>
      clear F
      rintro s' ⟨u, D, x0, t0, wr, zr, label, tl, o, h, tk, rfl, F, N, ho, hwr, hx0, hx1, hzr, hzl, hG, hne⟩
      dsimp only [kstB] at F
      dsimp only [List.drop]
      have hlab := label_len hG
      (try k_fold)
      have hw0 : IntsAre (Value.int x0 t0 :: wr) (x0 :: zr) := .cons _ _ hwr
      k_steps
      refine Stopped.go ?_
      (with_reducible rename Fr _ _ _ _ => F)
      (with_reducible rename News _ _ _ _ => N)
      obtain ⟨size, hsz, hs2, hs4⟩ := size_of x0
      rw [← hsz]
      obtain ⟨Ws, hW, hC⟩ := woods_any size hs2 hs4
      refine use_law (hC _ _ _ _ _) (by decide) (by assumption) F N (by assumption) (by assumption) rfl trivial ?_
      rintro v tw h' tk' st F' N' nw ⟨tb, nt, vs, rfl, hm, hrow⟩
      clear F N hC st
      have N := news_sub (l := (D, listOf (Value.int x0 t0 :: wr).toArray 0) :: (_, o) :: tw) N' (List.forall_mem_cons.mpr ⟨List.mem_append.mpr (.inr (.head _)), List.forall_mem_cons.mpr ⟨List.mem_append.mpr (.inr (.tail _ (.head _))), fun p hp => List.mem_append.mpr (.inl hp)⟩⟩)
      clear N'
      k_steps
      refine Stopped.go ?_
      (with_reducible rename Fr _ _ _ _ => F)
      (with_reducible rename News _ _ _ _ => N)
      (with_reducible rename IntsAre _ (List.drop 1 (x0 :: zr)) => hj)
      obtain ⟨lD, ln, ld, lp, wz, rfl, rfl, rfl, rfl, rfl⟩ := pull4 N
      have hj : IntsAre wz zr := hj
      rename _ ∧ _ ∧ AllLt lp tw => g1
      rename _ ∧ _ ∧ _ ∧ AllLt ld tw => g2
      rename _ ∧ _ ∧ _ ∧ _ ∧ AllLt ln tw => g3
      refine' my_for (σ := LS) ((lD, listOf wz.toArray 0) :: (_, o) :: tw) (fun c => (lp, listOf c.vp.toArray c.cp) :: (ld, listOf c.vd.toArray c.cd) :: (ln, listOf c.vn.toArray c.cn) :: c.tt)
        (fun _ => [(Str.ofString "pairs", .ref lp), (Str.ofString "due", .ref ld), (Str.ofString "numbers", .ref ln), (Str.ofString "woods", .ref tb)]) (LInv lp ld ln (lfOf label) label size) ?y_cls ?y_hh ?y_hl ?y_F ?y_N ?y_hkn ?y_start ?y_turn ?y_done
      case y_F => exact F
      case y_N => exact N
      case y_cls => exact fun _ c hc => List.forall_mem_cons.mpr ⟨rfl, List.forall_mem_cons.mpr ⟨rfl, List.forall_mem_cons.mpr ⟨rfl, hc.2.2.2.2.2.2⟩⟩⟩
      case y_hh => rfl
      case y_hl => exact List.Mem.head _
      case y_hkn => exact List.forall_mem_cons.mpr ⟨List.Mem.head _, List.forall_mem_cons.mpr ⟨by k_mem, fun p hp => List.Mem.tail _ (List.Mem.tail _ (List.Mem.tail _ (List.Mem.tail _ (List.Mem.tail _ (List.Mem.tail _ (hp))))))⟩⟩
      case y_start =>
        exact ⟨⟨[], [], [], _, _, _, [], [], []⟩, List.forall_mem_cons.mpr ⟨by k_mem, List.forall_mem_cons.mpr ⟨by k_mem, List.forall_mem_cons.mpr ⟨by k_mem, List.forall_mem_nil _⟩⟩⟩,
          List.forall_mem_cons.mpr ⟨rfl, List.forall_mem_cons.mpr ⟨rfl, List.forall_mem_cons.mpr ⟨rfl, List.forall_mem_cons.mpr ⟨rfl, List.forall_mem_nil _⟩⟩⟩⟩,
          linv_nil⟩
      case y_turn =>
        clear F N
        rintro i v ⟨vp, vd, vn, cp, cd, cn, tt, ps, ns⟩ u2 I oI h2 tk2 hv hLI hkI hR F N
        obtain ⟨hi, hP, hD, hN, hNo, hT, hTi⟩ := id hR
        dsimp only at hi hP hD hN hNo hT hTi
        obtain ⟨z, tz, hzm, rfl⟩ := intsZ_at hj hv
        obtain ⟨hz0, hz1⟩ := hzr z hzm
        have n1 : @Ne Nat lp I := hLI _ (.head _)
        have n2 : @Ne Nat ld I := hLI _ (.tail _ (.head _))
        have n3 : @Ne Nat ln I := hLI _ (.tail _ (.tail _ (.head _)))
        have hir : i < 8 := by
          rcases Nat.lt_or_ge i wz.length with h | h
          · have := hj.length
            omega
          · rw [List.getElem?_eq_none h] at hv
            cases hv
        have hvp : vp.length ≤ 1000 := by have := hP.1; omega
        have hvd : vd.length ≤ 1000 := by have := hD.1; rw [List.length_map] at this; omega
        have hvn : vn.length ≤ 1000 := by have := hN.length; have := hNo.1; omega
        have ha1 := all_ne (a := (I, oI)) (b := (lD, listOf wz.toArray 0)) (c := (_, o)) (lst_ne hT).1 n1 (by (refine neN ?_); dsimp only; omega) (by (refine neN ?_); exact Nat.ne_of_lt g1.2.1) (allLt_ne g1.2.2)
        have ha2 := all_ne (a := (I, oI)) (b := (lD, listOf wz.toArray 0)) (c := (_, o)) (lst_ne hT).2.1 n2 (by (refine neN ?_); dsimp only; omega) (by (refine neN ?_); exact Nat.ne_of_lt g2.2.2.1) (allLt_ne g2.2.2.2)
        have ha3 := all_ne (a := (I, oI)) (b := (lD, listOf wz.toArray 0)) (c := (_, o)) (lst_ne hT).2.2 n3 (by (refine neN ?_); dsimp only; omega) (by (refine neN ?_); exact Nat.ne_of_lt g3.2.2.2.1) (allLt_ne g3.2.2.2.2)
        clear hLI hkI
        have c1 : @Ne Nat _ lp := Nat.ne_of_lt g1.2.1
        have c2 : @Ne Nat _ ld := Nat.ne_of_lt g2.2.2.1
        have c3 : @Ne Nat _ ln := Nat.ne_of_lt g3.2.2.2.1
        have c4 : @Ne Nat lp ld := Nat.ne_of_lt g2.1
        have c5 : @Ne Nat lp ln := Nat.ne_of_lt g3.2.1
        have c6 : @Ne Nat ld ln := Nat.ne_of_lt g3.1
        dsimp only [kstB, List.cons_append, List.nil_append] at F N
        have hTb : h2.IsList tb vs.toArray := N.isList (led_tail _ hm)
        have hRb : RowsAt h2 vs Ws := rowsAt_of (news_sub N led_tail) hrow
        have N := news_cons N led_cell
        (try k_fold)
        k_steps
        refine Stopped.go ?_
        (with_reducible rename Fr _ _ _ _ => F)
        (with_reducible rename News _ _ _ _ => N)
        refine use_law (sent_ok z (tri size 1 : Nat) _ _ hz0 (by omega) (by have := (tri_ok size hs4 hs2).1; omega) (by have := (tri_ok size hs4 hs2).2; omega)) (by decide) (by with_reducible assumption) F N (by with_reducible assumption) (by with_reducible assumption) rfl trivial ?_
        rintro v t1 h3 tk3 st F' N' ne1 ⟨q1, m1, ta, tb', ans, rfl, hq1, hA⟩
        clear F N
        have ne2 := ne1 _ hq1
        simp only [AllNe] at ne2
        have hcnt := tri_ok size hs4 hs2
        have hhok := host_ok z
        obtain ⟨n, hn, hport⟩ := port_is z (tri size 1) hcnt.1
        rcases hA with ⟨hbad, tf, rfl⟩ | ⟨hbad, qa, na, t3, t4, rfl, hqa⟩
        · have N := news_one N' hq1
          clear N'
          k_steps
          refine Stopped.go ?_
          (with_reducible rename Fr _ _ _ _ => F)
          (with_reducible rename News _ _ _ _ => N)
          refine use_lawT (told_ok z (tri size 1 : Nat) _ _ (by omega) (by omega)) (by decide) (by with_reducible assumption) F N (by with_reducible assumption) (by with_reducible assumption) rfl trivial ?_
          rintro v2 t2 h4 tk4 F' N' ne3 hA2
          clear F N
          rcases hA2 with ⟨_, tg, rfl⟩ | ⟨hgood, _⟩
          · have N := news_drop N'
            clear N'
            k_steps
            try dsimp only
            dsimp only [FPost]
            (with_reducible rename Fr _ _ _ _ => F)
            (with_reducible rename News _ _ _ _ => N)
            exact ⟨⟨vp, vd, vn, cp, cd, cn, tt, ps, ns⟩, _, _, _, _, rfl, F, N, led_rest1, led_head1, List.forall_mem_cons.mpr ⟨rfl, List.forall_mem_cons.mpr ⟨rfl, List.forall_mem_cons.mpr ⟨rfl, List.forall_mem_cons.mpr ⟨rfl, List.forall_mem_nil _⟩⟩⟩⟩, linv_up hR⟩
          · rw [hbad] at hgood
            cases hgood
        · rw [hport] at hqa
          have ne4 := ne1 _ hqa
          simp only [AllNe] at ne4
          have N := news_two N' hq1 hqa
          clear N'
          k_steps
          refine Stopped.go ?_
          (with_reducible rename Fr _ _ _ _ => F)
          (with_reducible rename News _ _ _ _ => N)
          refine use_lawT (told_ok z (tri size 1 : Nat) _ _ (by omega) (by omega)) (by decide) (by with_reducible assumption) F N (by with_reducible assumption) (by with_reducible assumption) rfl trivial ?_
          rintro v2 t2 h4 tk4 F' N' ne3 hA2
          clear F N
          rcases hA2 with ⟨hbad2, _⟩ | ⟨_, q2, m2, t5, t6, rfl, hq2⟩
          · rw [hbad] at hbad2
            cases hbad2
          · rw [hport] at hq2
            have ne5 := ne3 _ hq2
            simp only [AllNe] at ne5
            have N := news_one N' hq2
            clear N'
            k_steps
            refine Stopped.go ?_
            (with_reducible rename Fr _ _ _ _ => F)
            (with_reducible rename News _ _ _ _ => N)
            refine use_law (code_any (lfOf label) n _ tb size vs Ws hW hs4 hn) (by decide) (by with_reducible assumption) F N (by with_reducible assumption) (by with_reducible assumption) rfl ⟨N.isList (led_w _ hm), rowsAt_of (news_sub N led_w) hrow⟩ ?_
            rintro v5 t7 h5 tk5 _ F' N' ne6 ⟨q3, m3, kv, rfl, hq3, hkv⟩
            clear F N
            have ne7 := ne6 _ hq3
            simp only [AllNe] at ne7
            have N := news_swap N' hq3
            clear N'
            obtain ⟨hkl, hk4⟩ := codes_ok size hs4 hs2 (lfOf label) n hn
            have hkv : IntsAre kv ((codeOf (lfOf label) size n).map Int.ofNat) := hkv
            have hkz : kv.toArray.size ≤ sizeLine := by rw [List.size_toArray, hkv.length, List.length_map, sizeLine_eq]; omega
            k_steps
            refine Stopped.go ?_
            (with_reducible rename Fr _ _ _ _ => F)
            (with_reducible rename News _ _ _ _ => N)
            refine cut_text (textN (lfOf label) label size n) F N ?x_text ?x_rest
            case x_text =>
              intro Qm hM hQm
              k_steps
              focus
                (with_reducible rename Fr _ _ _ _ => F)
                (with_reducible rename News _ _ _ _ => N)
                refine Stopped.go ?_
                refine LCg.CompSrc.ledger (by rfl) F N (List.Mem.head _) hkz ?_
                intro g'
                refine' kct_list (fun k => piece label k.toNat) hkv (fun k' t' I' oI' C' oC' D' m' ys' h' tk' E' hk' hC' hx' F' N' off' ne' => ?_) ?_
                focus
                  have off0 := off'
                  (try (simp only [LCg.Off3, and_true] at off'))
                  intro hMark'
                  obtain ⟨hk0, hk5⟩ := mem_nat hk' hk4
                  clear F N
                  k_steps
                  (with_reducible rename Fr _ _ _ _ => F)
                  (with_reducible rename News _ _ _ _ => N)
                  (with_reducible rename _ = Txt.mul _ _ => hz9)
                  exact LCg.CompEnd.intro F N _ (fun p hp => hp) off0 (.inr ⟨_, .head _, rfl, _, rfl⟩) (kct_el (piece_of hk0 hz9) rfl rfl)
                focus
                  clear F N
                  unfold KPfDone
                  intro ys9 hC9 _
                  k_steps
                  refine Stopped.go ?_
                  (with_reducible rename Fr _ _ _ _ => F)
                  (with_reducible rename News _ _ _ _ => N)
                  refine KT.join_B 10 (N.isList (List.Mem.head _)) hC9 (pieces_len hlab hk4) (by rw [List.length_map]; omega) (by decide) ?_
                  intro t9 k9
                  rw [text_of (not_empty (by with_reducible assumption))]
                  k_steps
                  all_goals (try dsimp only)
                  exact hQm _ _ _ F (news_tail N)
              focus
                (with_reducible rename Fr _ _ _ _ => F)
                (with_reducible rename News _ _ _ _ => N)
                have hl9 := is_empty (by with_reducible assumption)
                rw [textN_nil hl9] at hQm
                exact hQm _ _ _ F N
            case x_rest =>
              clear F N
              intro h8 tk8 t8 F N
              (try dsimp only); (try k_fold)
              k_steps
              refine Stopped.go ?_
              (with_reducible rename Fr _ _ _ _ => F)
              (with_reducible rename News _ _ _ _ => N)
              refine use_law (made_any (lfOf label) size n q3 label _ kv hkv hs4 hs2 hn hlab) (by decide) (by with_reducible assumption) F N (by with_reducible assumption) (by with_reducible assumption) rfl (N.isList (List.Mem.head _)) ?_
              rintro v6 t8 h6 tk6 _ F' N' _ ⟨t10, rfl⟩
              clear F N
              have N := news_drop N'
              clear N'
              k_steps
              refine Stopped.go ?_
              (with_reducible rename Fr _ _ _ _ => F)
              (with_reducible rename News _ _ _ _ => N)
              refine cut_tup (emptied (textN (lfOf label) label size n, sHost z)).1 (emptied (textN (lfOf label) label size n, sHost z)).2 F N ?x_due ?x_num
              case x_due =>
                intro Qm hM hQm
                cases hb : hasB (sHost z) with
                | false =>
                  rw [emptied_f hb] at hQm
                  k_steps
                  all_goals (try dsimp only)
                  (with_reducible rename Fr _ _ _ _ => F)
                  (with_reducible rename News _ _ _ _ => N)
                  (with_reducible rename _ ∧ _ ∧ _ ∧ _ ∧ _ ∧ _ ∧ AllLt _ _ => l8)
                  exact hQm _ _ _ _ _ _ F N l8
                | true =>
                  rw [emptied_t hb] at hQm
                  k_steps
                  all_goals (try dsimp only)
                  (with_reducible rename Fr _ _ _ _ => F)
                  (with_reducible rename News _ _ _ _ => N)
                  (with_reducible rename _ ∧ _ ∧ _ ∧ _ ∧ _ ∧ _ ∧ AllLt _ _ => l8)
                  exact hQm _ _ _ _ _ _ F N l8
              case x_num =>
                clear F N
                intro h9 tk9 q9 n9 t11 t12 F N l9
                dsimp only [List.cons_append, List.nil_append]
                simp only [AllLt] at l9
                obtain ⟨y1, y2, y3, y4, y5, y6, _⟩ := l9
                (try k_fold)
                k_steps
                refine Stopped.go ?_
                refine cut_num (if hasB (sHost z) = true ∨ label = Str.ofString "" then -1 else (n : Int)) ?z_num ?z_rest
                case z_num =>
                  intro Qm hM hQm
                  cases hb : hasB (sHost z) with
                  | true =>
                    have hk : (if true = true ∨ label = Str.ofString "" then -1 else (n : Int)) = -1 := if_pos (.inl rfl)
                    rw [hb, hk] at hQm
                    k_steps
                    exact hQm _ _
                  | false =>
                    by_cases hl9 : label = Str.ofString ""
                    · have hk : (if false = true ∨ label = Str.ofString "" then -1 else (n : Int)) = -1 := if_pos (.inr hl9)
                      have hle : (label == Str.ofString "") = true := by rw [hl9]; simp
                      rw [hb, hk] at hQm
                      k_steps
                      exact hQm _ _
                    · have hk : (if false = true ∨ label = Str.ofString "" then -1 else (n : Int)) = (n : Int) := if_neg (fun o => o.elim (fun e => Bool.false_ne_true e) hl9)
                      have hle : (label == Str.ofString "") = false := by simpa using hl9
                      rw [hb, hk] at hQm
                      k_steps
                      exact hQm _ _
                case z_rest =>
                  intro tk10 t13
                  dsimp only [List.cons_append, List.nil_append]
                  (try k_fold)
                  k_steps
                  all_goals (try dsimp only)
                  dsimp only [FPost]
                  (with_reducible rename Fr _ _ _ _ => F)
                  (with_reducible rename News _ _ _ _ => N)
                  exact ⟨⟨vp ++ [_], vd ++ [_], vn ++ [_], _, _, _, _ :: _ :: tt, ps ++ [(textN (lfOf label) label size n, sHost z)], ns ++ [_]⟩, _, _, _, _, rfl, F, N, led_rest5, led_head5, List.forall_mem_cons.mpr ⟨rfl, List.forall_mem_cons.mpr ⟨rfl, List.forall_mem_cons.mpr ⟨rfl, List.forall_mem_cons.mpr ⟨rfl, List.forall_mem_nil _⟩⟩⟩⟩,
                    linv_snoc hR (fun p hp => List.Mem.tail _ (List.Mem.tail _ hp)) (List.Mem.tail _ (List.Mem.head _)) (List.Mem.head _) (List.forall_mem_cons.mpr ⟨ne_three y4 y5 y6, List.forall_mem_cons.mpr ⟨ne_three (by dsimp only; with_reducible assumption) (by dsimp only; with_reducible assumption) (by dsimp only; with_reducible assumption), hT⟩⟩)
                      (List.forall_mem_cons.mpr ⟨rfl, List.forall_mem_cons.mpr ⟨rfl, hTi⟩⟩) (host_fit z) hn rfl rfl⟩
      case y_done =>
        clear F N
        rintro ⟨vp, vd, vn, cp, cd, cn, tt, ps, ns⟩ u2 h2 tk2 hR F N
        obtain ⟨hi, hP, hD, hN, hNo, hT, hTi⟩ := id hR
        dsimp only at hi hP hD hN hNo hT hTi
        dsimp only [kstB, List.cons_append, List.nil_append] at F N
        (try k_fold)
        k_steps
        refine Stopped.go ?_
        (with_reducible rename Fr _ _ _ _ => F)
        (with_reducible rename News _ _ _ _ => N)
        have hvl : vp.length ≤ 10 := by have := hP.1; have := hj.length; omega
        refine use_law (ppv_ok lp vp ps hvl) (by decide) (by with_reducible assumption) F N (by with_reducible assumption) (by with_reducible assumption) rfl ⟨N.isList (List.Mem.head _), pairsAt_of (news_sub N led_tt) hP⟩ ?_
        rintro v6 t8 h6 tk6 _ F' N' ne6 ⟨qb, nb, ws, rfl, hqb, hbook⟩
        clear F N
        have hBk := book_pairs hP hbook
        have hst := pairs_str hG hs4 hs2 hNo
        have hwl : ws.length ≤ 10 := by
          have := hbook.1
          omega
        have hwz : ws.toArray.size ≤ sizeLine := by
          rw [List.size_toArray, sizeLine_eq]
          omega
        have N := news_sub (l := (qb, listOf ws.toArray nb) :: (ld, listOf vd.toArray cd) :: (ln, listOf vn.toArray cn) :: (t8 ++ tt)) N' (led_book hqb)
        clear N'
        have F := F'
        clear F'
        k_steps
        refine Stopped.go ?_
        (with_reducible rename Fr _ _ _ _ => F)
        (with_reducible rename News _ _ _ _ => N)
        refine ne_books N (List.Mem.head _) (List.Mem.tail _ (List.Mem.head _)) (pairsIn_mono hBk (fun p hp => List.Mem.tail _ (List.Mem.tail _ (List.Mem.tail _ hp)))) (pairsIn_mono hD (fun p hp => List.Mem.tail _ (List.Mem.tail _ (List.Mem.tail _ (List.mem_append.mpr (.inr hp)))))) hst (by ktr_units) ?_
        k_steps
        refine Stopped.go ?_
        (with_reducible rename Fr _ _ _ _ => F)
        (with_reducible rename News _ _ _ _ => N)
        refine LCg.CompSrc.ledger (by rfl) F N (List.Mem.head _) hwz ?_
        intro g'
        refine' names_list hBk (fun p hp => List.Mem.tail _ (List.Mem.tail _ (List.Mem.tail _ hp))) (fun q' n' x' hst' t1' t2' tl' I' oI' C' oC' D' m' ys' h' tk' E' hq' hC' hx' F' N' off' ne' => ?_) ?_
        focus
          have off0 := off'
          have hget := (N' _ (List.Mem.tail _ (List.Mem.tail _ (List.Mem.tail _ (List.mem_append.mpr (.inr hq')))))).1
          clear F N
          k_steps
          (with_reducible rename Fr _ _ _ _ => F)
          (with_reducible rename News _ _ _ _ => N)
          (with_reducible rename _ ∧ _ ∧ _ ∧ AllLt _ _ => l8)
          (with_reducible rename @LT.lt Nat _ _ _ => l9)
          exact name_end F N l8 l9 off0 (.inr ⟨_, List.Mem.tail _ (List.Mem.tail _ (List.mem_append.mpr (.inr (List.Mem.head _)))), rfl, _, rfl⟩)
        focus
          clear F N
          intro tl9 ys9 hY9 D9 h9 tk9 F N' off9
          have N : News _ _ _ ((D9, listOf ys9.toArray ys9.length) :: (ln, listOf vn.toArray cn) :: tl9) := news_sub N' led_names
          have hyl := names_len hY9 hP hvl
          clear N' off9 hBk hbook hqb hst hwl hwz ne6
          (try dsimp only)
          k_steps
          refine Stopped.go ?_
          (with_reducible rename Fr _ _ _ _ => F)
          (with_reducible rename News _ _ _ _ => N)
          refine kun_lenL (k := (ys9.length : Int)) (N.isList (List.Mem.head _)) (by rw [List.size_toArray]) (by omega) ?_
          k_steps
          refine Stopped.go ?_
          (with_reducible rename Fr _ _ _ _ => F)
          (with_reducible rename News _ _ _ _ => N)
          (with_reducible rename IsRange _ _ _ _ _ _ _ _ => hr9)
          refine' my_range (σ := Unit) (n := ys9.length) ((D9, listOf ys9.toArray ys9.length) :: (ln, listOf vn.toArray cn) :: tl9) (fun _ => []) (fun _ => [(Str.ofString "names", .ref D9), (Str.ofString "numbers", .ref ln)])
            (fun _ _ => True) ?i_cls ?i_hh ?i_hr ?i_hsmall ?i_hn ?i_F ?i_N ?i_hkn ?i_start ?i_turn ?i_done
          case i_F => exact F
          case i_N => exact N
          case i_cls => exact fun _ _ _ => List.forall_mem_nil _
          case i_hh => rfl
          case i_hr => exact hr9
          case i_hsmall => exact small_ok _ hyl
          case i_hn => exact size_ok _ hyl
          case i_hkn => first | exact fun _ hp => hp | exact led_sub2
          case i_start => exact ⟨(), List.forall_mem_nil _, List.forall_mem_cons.mpr ⟨rfl, List.forall_mem_cons.mpr ⟨rfl, List.forall_mem_nil _⟩⟩, trivial⟩
          case i_turn =>
            clear F N hr9
            rintro i t2 _ u3 I oI h3 tk3 hi3 _ _ _ F N
            obtain ⟨x1, m1, r1, d1, s1, k1, c1, q1, n1, e1, f1, a1, b1, g1⟩ := name_at hNo hN hY9 hi3
            have hi4 : i ≤ 1000 := by omega
            dsimp only [kstB, List.nil_append] at F N
            (try k_fold)
            k_steps
            refine Stopped.go ?_
            (with_reducible rename Fr _ _ _ _ => F)
            (with_reducible rename News _ _ _ _ => N)
            (with_reducible rename IsRange _ _ _ _ _ _ _ _ => hr8)
            refine' my_range (σ := Unit) (n := i + 1) ((I, oI) :: (D9, listOf ys9.toArray ys9.length) :: (ln, listOf vn.toArray cn) :: tl9) (fun _ => []) (fun _ => [(Str.ofString "i", .int (i : Int) t2), (Str.ofString "names", .ref D9), (Str.ofString "numbers", .ref ln)])
              (fun _ _ => True) ?j_cls ?j_hh ?j_hr ?j_hsmall ?j_hn ?j_F ?j_N ?j_hkn ?j_start ?j_turn ?j_done
            case j_F => exact F
            case j_N => exact N
            case j_cls => exact fun _ _ _ => List.forall_mem_nil _
            case j_hh => rfl
            case j_hr => exact hr8
            case j_hsmall => exact small_ok (i + 1) (by omega)
            case j_hn => exact size_ok (i + 1) (by omega)
            case j_hkn => exact fun _ hp => hp
            case j_start => exact ⟨(), List.forall_mem_nil _, List.forall_mem_cons.mpr ⟨rfl, List.forall_mem_cons.mpr ⟨rfl, List.forall_mem_cons.mpr ⟨rfl, List.forall_mem_nil _⟩⟩⟩, trivial⟩
            case j_turn =>
              clear F N hr8
              rintro j t3 _ u4 I2 oI2 h4 tk4 hj3 _ _ _ F N
              obtain ⟨x2, m2, r2, d2, s2, k2, c2, q2, n2, e2, f2, a2, b2, g2⟩ := name_at hNo hN hY9 (Nat.lt_of_lt_of_le hj3 hi3)
              have hj4 : j ≤ 1000 := by omega
              dsimp only [kstB, List.nil_append] at F N
              (try k_fold)
              k_steps
              refine Stopped.go ?_
              (with_reducible rename Fr _ _ _ _ => F)
              (with_reducible rename News _ _ _ _ => N)
              refine use_law (alike_ok r1 r2 d1 d2 _ _ _ _ _ _ c1 c2 k1 k2 s1 s2 n1 n2 (same_ok hG hs4 hs2 g1 g2)) (by decide) (by with_reducible assumption) F N (by with_reducible assumption) (by with_reducible assumption) rfl
                ⟨(N _ (led_i4 a1)).1, (N _ (led_i4 a2)).1, (N _ (led_i4 b1)).1, (N _ (led_i4 b2)).1⟩ ?_
              rintro v7 t9 h7 tk7 _ F' N' _ rfl
              have N := news_sub N' fun p hp => List.mem_append.mpr (.inr hp)
              have F := F'
              clear N' F'
              k_steps
              all_goals (try dsimp only)
              dsimp only [FPost]
              (with_reducible rename Fr _ _ _ _ => F)
              (with_reducible rename News _ _ _ _ => N)
              exact ⟨(), _, _, _, _, rfl, F, N, fun _ hp => hp, List.forall_mem_nil _, List.forall_mem_cons.mpr ⟨rfl, List.forall_mem_cons.mpr ⟨rfl, List.forall_mem_cons.mpr ⟨rfl, List.forall_mem_nil _⟩⟩⟩, trivial⟩
            case j_done =>
              clear F N hr8
              rintro _ u4 h4 tk4 _ F N
              dsimp only [kstB, List.nil_append] at F N
              (try k_fold)
              k_steps
              all_goals (try dsimp only)
              dsimp only [FPost]
              (with_reducible rename Fr _ _ _ _ => F)
              (with_reducible rename News _ _ _ _ => N)
              exact ⟨(), _, _, _, _, rfl, F, N, fun _ hp => hp, List.forall_mem_nil _, List.forall_mem_cons.mpr ⟨rfl, List.forall_mem_cons.mpr ⟨rfl, List.forall_mem_nil _⟩⟩, trivial⟩
          case i_done =>
            clear F N hr9
            rintro _ u3 h3 tk3 _ F N
            dsimp only [kstB, List.nil_append] at F N
            (try k_fold)
            k_steps))
end
end Mine
theorem PySem.Challenge.cw_xo0014_01_holds : PySem.Challenge.rw_xo0014_01.Holds :=
  Mine.law_ok
