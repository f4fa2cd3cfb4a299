import PyProof.Rows.All
import Wide.All
import OpenK.AllK
import Wide.FinOn
import PySem.Challenge.RW_co0042_01
set_option Elab.async false
theorem Mine.fresh_HdA : True ∧ True := by
  w_top off
  walk1 <;> exact True.intro
section
open PySem PySem.W PyProof.Rows
set_option Elab.async false
namespace Mine
set_option maxRecDepth 100000 in
set_option maxHeartbeats 8000000 in
open_top hd for PySem.Challenge.rw_co0042_01
end Mine
end
theorem Mine.fresh_Base : True ∧ True := by
  w_top off
  walk1 <;> exact True.intro
section
open PySem PySem.W PySem.Spec PySem.Calls PyProof.Rows
set_option Elab.async false
namespace Mine
/-- everything known of h stays, but S -/
def Ext1 (S : Addr) (h h' : Heap) : Prop := ∀ b o, h.get? b = some o → b ≠ S → h'.get? b = some o
abbrev lst (its : List Value) (n : Nat) : Obj := { cls := .type "list", data := .seq its.toArray n }
abbrev tup (its : List Value) : Obj := { cls := .type "tuple", data := .seq its.toArray }
def StOk (sc : Addr) (len : Nat) (o : Obj) : Prop :=
  ∃ (i x : Int) (ti tx n : Nat), o = lst [.ref sc, .int i ti, .int x tx] n ∧ 0 ≤ i ∧ i ≤ len ∧ 0 ≤ x ∧ x < 2147483647
/-- what the call may lean on: the root heap stays, the state, the script's slice -/
structure Cx (hr : Heap) (S sc : Addr) (vs : List Value) (ns : List Int) (h : Heap) (stO : Obj) : Prop where
  sub : ∀ b o, hr.get? b = some o → h.get? b = some o
  rS : hr.get? S = none
  atS : h.get? S = some stO
  isSl : h.IsList sc vs.toArray
  sS : sc ≠ S
  iAre : IntsAre vs ns
  lenLe : ns.length ≤ 50
  okS : StOk sc ns.length stO

section
variable {prog : Program} {w : World} {A : Around} {R : Result → Shared → Prop} {s : Shared} {K : Frag} {p : Program} {loose : List Str} {mean : ExcName → Option Value} {mg mb : Str → Option Value}
  {hr : Heap} {S : Addr} {stO : Obj} {name qual : Str} {params : Arguments} {body : List Stmt} {scope : Scope} {dV kV doc pm cdv ct oc : Value} {an od : Option Addr} {osl : Array (Option Value)} {f : Addr} {args : Args} {binds : List (Str × Value)}
theorem enter (X : K.In hr) (T : Top p loose mean mg mb hr) (hsub : ∀ b o, hr.get? b = some o → s.heap.get? b = some o) (hrS : hr.get? S = none) (hS : s.heap.get? S = some stO)
    (ho : K.lookup f = some ⟨oc, od, .func (fnOf name qual params body scope dV kV doc pm an cdv ct), osl⟩) (hcd : codeIn K cdv qual = true) (hroom : A.depth < recursionLimit)
    (hbind : BindsTo s (fnOf name qual params body scope dV kV doc pm an cdv ct) args binds) (hloc : ∀ y ∈ binds, scope.names.lookup y.1 = some .local)
    (h : ∀ g L' h₁, Fr g L' h₁ (fun y => binds.reverse.lookup y) → News g L' h₁ [(S, stO)] → K.In g → Top p loose mean mg mb g → (∀ b o, s.heap.get? b = some o → b ≠ S → g.get? b = some o) → (∀ b o, hr.get? b = some o → g.get? b = some o) →
      wpAny (model prog w) (A.deeper (envOf qual scope L' f cdv)) (execs body (envOf qual scope L' f cdv))
        (fun fl s' => R (.ok (.ret (match fl with | .ret v => v | _ => .none))) s') (fun _ _ => False) { s with heap := h₁, toks := s.toks + binds.length })
    (hco : scope.isCoroutine = false) (hgen : scope.isGenerator = false) (hk : scope.kind = .function) (hcell : ∀ x ∈ scope.names, x.2 ≠ .cell) :
    codeAny (model prog w) A (.call (.ref f) args) R s := by
  have st : ∀ b o, hr.get? b = some o → (s.heap.hide S).get? b = some o := fun b o e => by
    have hb : b ≠ S := fun q => by rw [q, hrS] at e; cases e
    rw [Heap.hide_ne _ hb]; exact hsub b o e
  refine codeAny_call_def (fd := fnOf name qual params body scope dV kV doc pm an cdv ct) (body := body) (binds := binds) hroom (hsub _ _ (X _ _ ho)) rfl (T.nolimit.keeps hsub) (codeRec_of (X.keeps hsub) hcd) rfl hbind hcell hloc (fun h₁ hns hk₁ => ?_) hco hgen hk
  refine wpAny_mono (h (s.heap.hide S) s.heap.objs.size h₁ ⟨hns, fun b o e => hk₁ b o (Heap.of_hide e), Nat.le_of_eq (Heap.hide_size _ _)⟩ ?_ (X.keeps st) (T.keeps st) (fun b o e hb => by rw [Heap.hide_ne _ hb]; exact e) st) (fun _ _ x => x) fun _ _ x => x.elim
  intro q hq
  rw [List.mem_singleton.mp hq]
  exact ⟨hk₁ _ _ hS, Nat.ne_of_lt (Heap.lt_size hS), Heap.hide_self _ _⟩
end
theorem cx_end {hr h₀ g h : Heap} {S sc L : Addr} {vs : List Value} {ns : List Int} {stO stO' : Obj} {m : Str → Option Value} {news : List (Addr × Obj)}
    (C : Cx hr S sc vs ns h₀ stO) (F : Fr g L h m) (N : News g L h news) (hm : (S, stO') ∈ news) (hk : ∀ b o, h₀.get? b = some o → b ≠ S → g.get? b = some o) (hrg : ∀ b o, hr.get? b = some o → g.get? b = some o)
    (ok : StOk sc ns.length stO') : Cx hr S sc vs ns h stO' ∧ Ext1 S h₀ h := by
  refine ⟨⟨fun b o e => F.keep b o (hrg b o e), C.rS, (N _ hm).1, ?_, C.sS, C.iAre, C.lenLe, ok⟩, fun b o e hb => F.keep b o (hk b o e hb)⟩
  obtain ⟨o, ho, r⟩ := C.isSl
  exact ⟨o, F.keep _ _ (hk _ _ ho C.sS), r⟩
end Mine
end
theorem Mine.fresh_Pure1 : True ∧ True := by
  w_top off
  walk1 <;> exact True.intro
section
open PySem PySem.W PySem.Spec PySem.Calls PyProof.Rows
set_option Elab.async false
namespace Mine
/-- a piece: the token's number, its word, what it wants -/
structure Pc where
  n : Int
  wd : Str
  wt : Str
def subIn (x y : Str) : Bool := !(Builtin.Str.occurrences x y 0 x.length 1).isEmpty
/-- the open brackets, and whether a parameter with a type is under way -/
structure Gs where
  st : List Str
  ann : Bool
def isOpen (t : Str) : Bool := subIn (Str.ofString "([") t
def isClose (t : Str) : Bool := subIn (Str.ofString ")]") t
def step0 (d : Bool) (g : Gs) (t : Str) : Gs :=
  if isOpen t = true then ⟨g.st ++ [t], g.ann⟩
  else if isClose t = true ∧ g.st ≠ [] then ⟨g.st.dropLast, g.ann⟩
  else if t = Str.ofString ":" ∧ d = true ∧ g.st = [Str.ofString "("] then ⟨g.st, true⟩
  else if g.st.length = 1 ∧ t = Str.ofString "," then ⟨g.st, false⟩
  else g
def close0 (g : Gs) : Gs := if g.st = [] then ⟨g.st, false⟩ else g
def stepG (d : Bool) (g : Gs) (p : Pc) : Gs := if p.n = 54 then close0 (step0 d g p.wd) else g
/-- the equals sign is met by its own branch -/
def eqHere (g : Gs) (t : Str) : Bool := decide (g.st ≠ [] ∧ t = Str.ofString "=")
def wantOf (g : Gs) (p : Pc) : Str :=
  if p.n = 54 ∧ eqHere g p.wd = true then (if g.ann = true ∧ g.st = [Str.ofString "("] then Str.ofString "both" else Str.ofString "none") else Str.ofString ""
def okG (d : Bool) : Gs → List Pc → Prop
  | _, [] => True
  | g, p :: r => p.wt = wantOf g p ∧ okG d (stepG d g p) r
def after (d : Bool) : Gs → List Pc → Gs
  | g, [] => g
  | g, p :: r => after d (stepG d g p) r
theorem okG_append {d : Bool} : ∀ {ps qs : List Pc} {g : Gs}, okG d g ps → okG d (after d g ps) qs → okG d g (ps ++ qs)
  | [], _, _, _, h => h
  | _ :: _, _, _, h, k => ⟨h.1, okG_append h.2 k⟩
theorem after_append {d : Bool} : ∀ {ps qs : List Pc} {g : Gs}, after d g (ps ++ qs) = after d (after d g ps) qs
  | [], _, _ => rfl
  | p :: ps, qs, g => after_append (ps := ps) (qs := qs) (g := stepG d g p)
/-- what every piece keeps to -/
def PW (p : Pc) : Prop := p.n ≠ 62 ∧ p.wd.length ≤ 5
def AllPW : List Pc → Prop
  | [] => True
  | p :: r => PW p ∧ AllPW r
theorem allPW_append : ∀ {ps qs : List Pc}, AllPW ps → AllPW qs → AllPW (ps ++ qs)
  | [], _, _, h => h
  | _ :: _, _, h, k => ⟨h.1, allPW_append h.2 k⟩
def GV (ps : List Pc) : Prop := AllPW ps ∧ ∀ d st ann, st ≠ [] → okG d ⟨st, ann⟩ ps ∧ after d ⟨st, ann⟩ ps = ⟨st, ann⟩
def GA (ps : List Pc) : Prop := AllPW ps ∧ ∀ d st ann, (2 ≤ st.length ∨ (st ≠ [] ∧ ann = false)) → okG d ⟨st, ann⟩ ps ∧ after d ⟨st, ann⟩ ps = ⟨st, ann⟩
theorem GA.nil : GA [] := ⟨trivial, fun _ _ _ _ => ⟨trivial, rfl⟩⟩
theorem GA.app {ps qs : List Pc} (h : GA ps) (k : GA qs) : GA (ps ++ qs) := by
  refine ⟨allPW_append h.1 k.1, fun d st ann hs => ?_⟩
  obtain ⟨h1, h2⟩ := h.2 d st ann hs
  obtain ⟨k1, k2⟩ := k.2 d st ann hs
  exact ⟨okG_append h1 (by rw [h2]; exact k1), by rw [after_append, h2, k2]⟩
theorem GV.toGA {ps : List Pc} (h : GV ps) : GA ps := ⟨h.1, fun d st ann hs => h.2 d st ann (by
  rcases hs with hs | hs
  · intro e; rw [e] at hs; exact absurd hs (by decide)
  · exact hs.1)⟩
-- the words' facts
theorem o1 : isOpen (Str.ofString "(") = true := by decide +kernel
theorem o2 : isOpen (Str.ofString "[") = true := by decide +kernel
theorem o3 : isOpen (Str.ofString ")") = false := by decide +kernel
theorem o4 : isOpen (Str.ofString "]") = false := by decide +kernel
theorem o5 : isOpen (Str.ofString ",") = false := by decide +kernel
theorem o6 : isOpen (Str.ofString ":") = false := by decide +kernel
theorem o7 : isOpen (Str.ofString "=") = false := by decide +kernel
theorem o8 : isOpen (Str.ofString "**") = false := by decide +kernel
theorem c3 : isClose (Str.ofString ")") = true := by decide +kernel
theorem c4 : isClose (Str.ofString "]") = true := by decide +kernel
theorem c5 : isClose (Str.ofString ",") = false := by decide +kernel
theorem c6 : isClose (Str.ofString ":") = false := by decide +kernel
theorem c7 : isClose (Str.ofString "=") = false := by decide +kernel
theorem c8 : isClose (Str.ofString "**") = false := by decide +kernel
theorem n1 : (Str.ofString "," = Str.ofString ":") = False := by rw [eq_iff_iff, iff_false]; decide +kernel
theorem n2 : (Str.ofString "=" = Str.ofString ":") = False := by rw [eq_iff_iff, iff_false]; decide +kernel
theorem n3 : (Str.ofString "=" = Str.ofString ",") = False := by rw [eq_iff_iff, iff_false]; decide +kernel
theorem n4 : (Str.ofString "**" = Str.ofString ":") = False := by rw [eq_iff_iff, iff_false]; decide +kernel
theorem n5 : (Str.ofString "**" = Str.ofString ",") = False := by rw [eq_iff_iff, iff_false]; decide +kernel
theorem n6 : (Str.ofString ":" = Str.ofString ",") = False := by rw [eq_iff_iff, iff_false]; decide +kernel
theorem e1 : (Str.ofString "(" = Str.ofString "=") = False := by rw [eq_iff_iff, iff_false]; decide +kernel
theorem e2 : (Str.ofString "[" = Str.ofString "=") = False := by rw [eq_iff_iff, iff_false]; decide +kernel
theorem e3 : (Str.ofString ")" = Str.ofString "=") = False := by rw [eq_iff_iff, iff_false]; decide +kernel
theorem e4 : (Str.ofString "]" = Str.ofString "=") = False := by rw [eq_iff_iff, iff_false]; decide +kernel
theorem e5 : (Str.ofString "," = Str.ofString "=") = False := by rw [eq_iff_iff, iff_false]; decide +kernel
theorem e6 : (Str.ofString ":" = Str.ofString "=") = False := by rw [eq_iff_iff, iff_false]; decide +kernel
theorem e8 : (Str.ofString "**" = Str.ofString "=") = False := by rw [eq_iff_iff, iff_false]; decide +kernel
abbrev op (x : Str) : Pc := ⟨54, x, Str.ofString ""⟩
abbrev nm (x : Str) : Pc := ⟨1, x, Str.ofString ""⟩
theorem okG_cons {d : Bool} {g : Gs} {p : Pc} {r : List Pc} : okG d g (p :: r) = (p.wt = wantOf g p ∧ okG d (stepG d g p) r) := rfl
theorem after_cons {d : Bool} {g : Gs} {p : Pc} {r : List Pc} : after d g (p :: r) = after d (stepG d g p) r := rfl
-- a name, a number, a text: nothing turns
theorem s_nm {d : Bool} {g : Gs} {k : Int} {x u : Str} (h : k ≠ 54) : stepG d g ⟨k, x, u⟩ = g := if_neg h
theorem w_nm {g : Gs} {k : Int} {x u : Str} (h : k ≠ 54) : wantOf g ⟨k, x, u⟩ = Str.ofString "" := if_neg fun q => h q.1
theorem w_op {g : Gs} {x u : Str} (h : (x = Str.ofString "=") = False) : wantOf g ⟨54, x, u⟩ = Str.ofString "" := if_neg fun q => by
  have := q.2; simp only [eqHere, decide_eq_true_eq, h] at this; exact this.2
theorem s_open {d : Bool} {st : List Str} {ann : Bool} {x u : Str} (h : isOpen x = true) : stepG d ⟨st, ann⟩ ⟨54, x, u⟩ = ⟨st ++ [x], ann⟩ := by
  simp [stepG, step0, close0, h]
theorem s_close {d : Bool} {st : List Str} {ann : Bool} {x y u : Str} (h : isOpen x = false) (k : isClose x = true) (hs : st ≠ []) : stepG d ⟨st ++ [y], ann⟩ ⟨54, x, u⟩ = ⟨st, ann⟩ := by
  simp [stepG, step0, close0, h, k, hs]
theorem s_close1 {d : Bool} {ann : Bool} {x y u : Str} (h : isOpen x = false) (k : isClose x = true) : stepG d ⟨[y], ann⟩ ⟨54, x, u⟩ = ⟨[], false⟩ := by
  simp [stepG, step0, close0, h, k]
theorem s_comma2 {d : Bool} {st : List Str} {ann : Bool} {u : Str} (h : 2 ≤ st.length) : stepG d ⟨st, ann⟩ ⟨54, Str.ofString ",", u⟩ = ⟨st, ann⟩ := by
  have h1 : ¬ st.length = 1 := by omega
  have h2 : st ≠ [] := by intro e; rw [e] at h; exact absurd h (by decide)
  simp [stepG, step0, close0, o5, c5, n1, h1, h2]
theorem s_comma1 {d : Bool} {x : Str} {ann : Bool} {u : Str} : stepG d ⟨[x], ann⟩ ⟨54, Str.ofString ",", u⟩ = ⟨[x], false⟩ := by
  simp [stepG, step0, close0, o5, c5, n1]
theorem s_eq' {d : Bool} {st : List Str} {ann : Bool} {u : Str} (h : st ≠ []) : stepG d ⟨st, ann⟩ ⟨54, Str.ofString "=", u⟩ = ⟨st, ann⟩ := by
  simp [stepG, step0, close0, o7, c7, n2, n3, h]
theorem s_star {d : Bool} {st : List Str} {ann : Bool} {u : Str} (h : st ≠ []) : stepG d ⟨st, ann⟩ ⟨54, Str.ofString "**", u⟩ = ⟨st, ann⟩ := by
  simp [stepG, step0, close0, o8, c8, n4, n5, h]
theorem w_none {st : List Str} {ann : Bool} {u : Str} (h : st ≠ []) (k : ¬ (ann = true ∧ st = [Str.ofString "("])) : wantOf ⟨st, ann⟩ ⟨54, Str.ofString "=", u⟩ = Str.ofString "none" := by
  have : eqHere ⟨st, ann⟩ (Str.ofString "=") = true := by simp [eqHere, h]
  unfold wantOf
  rw [if_pos ⟨rfl, this⟩, if_neg k]
theorem w_both {u : Str} : wantOf ⟨[Str.ofString "("], true⟩ ⟨54, Str.ofString "=", u⟩ = Str.ofString "both" := by
  have : eqHere ⟨[Str.ofString "("], true⟩ (Str.ofString "=") = true := by simp [eqHere]
  unfold wantOf
  rw [if_pos ⟨rfl, this⟩, if_pos ⟨rfl, rfl⟩]
theorem pw_ {k : Int} {x u : Str} (h : k ≠ 62) (l : x.length ≤ 5) : PW ⟨k, x, u⟩ := ⟨h, l⟩
theorem gv_num : GV [⟨2, Str.ofString "10", Str.ofString ""⟩] := ⟨⟨pw_ (by decide) (by decide +kernel), trivial⟩, fun d st ann _ => ⟨⟨(w_nm (by decide)).symm, trivial⟩, by rw [after_cons, s_nm (by decide)]; rfl⟩⟩
theorem gv_it : GV [⟨3, Str.ofString "'it'", Str.ofString ""⟩] := ⟨⟨pw_ (by decide) (by decide +kernel), trivial⟩, fun d st ann _ => ⟨⟨(w_nm (by decide)).symm, trivial⟩, by rw [after_cons, s_nm (by decide)]; rfl⟩⟩
theorem gv_tup : GV [op (Str.ofString "("), nm (Str.ofString "a"), op (Str.ofString ","), nm (Str.ofString "b"), op (Str.ofString ")")] := by
  refine ⟨⟨pw_ (by decide) (by decide +kernel), pw_ (by decide) (by decide +kernel), pw_ (by decide) (by decide +kernel), pw_ (by decide) (by decide +kernel), pw_ (by decide) (by decide +kernel), trivial⟩, fun d st ann hs => ?_⟩
  have h2 : 2 ≤ (st ++ [Str.ofString "("]).length := by
    cases st with
    | nil => exact absurd rfl hs
    | cons _ _ => simp
  simp only [okG_cons, after_cons, s_open o1, s_nm (show (1 : Int) ≠ 54 by decide), s_comma2 h2, s_close o3 c3 hs, w_op e1, w_op e3, w_op e5, w_nm (show (1 : Int) ≠ 54 by decide), true_and]
  exact ⟨trivial, rfl⟩
theorem gv_call {ws : List Pc} (h : GA ws) : GV ([nm (Str.ofString "g"), op (Str.ofString "(")] ++ ws ++ [op (Str.ofString ")")]) := by
  refine ⟨allPW_append (allPW_append ⟨pw_ (by decide) (by decide +kernel), pw_ (by decide) (by decide +kernel), trivial⟩ h.1) ⟨pw_ (by decide) (by decide +kernel), trivial⟩, fun d st ann hs => ?_⟩
  have h2 : 2 ≤ (st ++ [Str.ofString "("]).length := by
    cases st with
    | nil => exact absurd rfl hs
    | cons _ _ => simp
  obtain ⟨k1, k2⟩ := h.2 d (st ++ [Str.ofString "("]) ann (.inl h2)
  have a1 : after d ⟨st, ann⟩ [nm (Str.ofString "g"), op (Str.ofString "(")] = ⟨st ++ [Str.ofString "("], ann⟩ := by
    simp only [after_cons, s_nm (show (1 : Int) ≠ 54 by decide), s_open o1]; rfl
  have a2 : after d ⟨st, ann⟩ ([nm (Str.ofString "g"), op (Str.ofString "(")] ++ ws) = ⟨st ++ [Str.ofString "("], ann⟩ := by rw [after_append, a1, k2]
  refine ⟨okG_append (okG_append ?_ (by rw [a1]; exact k1)) ?_, ?_⟩
  · simp only [okG_cons, w_nm (show (1 : Int) ≠ 54 by decide), s_nm (show (1 : Int) ≠ 54 by decide), w_op e1, true_and]; trivial
  · rw [a2]; exact ⟨(w_op e3).symm, trivial⟩
  · rw [after_append, a2, after_cons, s_close o3 c3 hs]; rfl
theorem ga_comma : GA [op (Str.ofString ",")] := by
  refine ⟨⟨pw_ (by decide) (by decide +kernel), trivial⟩, fun d st ann hs => ⟨⟨(w_op e5).symm, trivial⟩, ?_⟩⟩
  rw [after_cons]
  by_cases h : 2 ≤ st.length
  · rw [s_comma2 h]; rfl
  · rcases hs with hs | ⟨hs, rfl⟩
    · exact absurd hs h
    · match st, hs, h with
      | [x], _, _ => rw [s_comma1]; rfl
      | _ :: _ :: _, _, h => exact absurd (by simp) h
theorem ga_key : GA [nm (Str.ofString "k"), ⟨54, Str.ofString "=", Str.ofString "none"⟩] := by
  refine ⟨⟨pw_ (by decide) (by decide +kernel), pw_ (by decide) (by decide +kernel), trivial⟩, fun d st ann hs => ?_⟩
  have h0 : st ≠ [] := by
    rcases hs with hs | hs
    · intro e; rw [e] at hs; exact absurd hs (by decide)
    · exact hs.1
  have hk : ¬ (ann = true ∧ st = [Str.ofString "("]) := by
    rintro ⟨rfl, rfl⟩
    rcases hs with hs | hs
    · exact absurd hs (by simp)
    · exact absurd hs.2 (by decide)
  simp only [okG_cons, after_cons, s_nm (show (1 : Int) ≠ 54 by decide), w_nm (show (1 : Int) ≠ 54 by decide), w_none h0 hk, s_eq' h0, true_and]
  exact ⟨trivial, rfl⟩
theorem ga_star : GA [op (Str.ofString "**")] := by
  refine ⟨⟨pw_ (by decide) (by decide +kernel), trivial⟩, fun d st ann hs => ⟨⟨(w_op e8).symm, trivial⟩, ?_⟩⟩
  have h0 : st ≠ [] := by
    rcases hs with hs | hs
    · intro e; rw [e] at hs; exact absurd hs (by decide)
    · exact hs.1
  rw [after_cons, s_star h0]; rfl
end Mine
end
theorem Mine.fresh_Led : True ∧ True := by
  w_top off
  walk1 <;> exact True.intro
section
open PySem PySem.W PySem.Spec PySem.Calls PyProof.Rows
set_option Elab.async false
namespace Mine
abbrev Led := List (Addr × Obj)
theorem mem_r {x : Addr × Obj} {a b : Led} (h : List.Mem x b) : List.Mem x (a ++ b) := List.mem_append.mpr (Or.inr h)
theorem mem_l {x : Addr × Obj} {a b : Led} (h : List.Mem x a) : List.Mem x (a ++ b) := List.mem_append.mpr (Or.inl h)
theorem allLt_app {d : Nat} : ∀ {a b : Led}, AllLt d (a ++ b) = (AllLt d a ∧ AllLt d b)
  | [], b => by simp [AllLt]
  | p :: a, b => by simp only [List.cons_append, AllLt, allLt_app (a := a) (b := b), and_assoc]
/-- a piece, borne by the ledger -/
def PcIn (news : Led) (v : Value) (p : Pc) : Prop := ∃ t a b c, v = .ref t ∧ (t, tup [.int p.n a, .str p.wd b, .str p.wt c]) ∈ news
inductive PcsIn (news : Led) : List Value → List Pc → Prop
  | nil : PcsIn news [] []
  | cons {v p vs ps} : PcIn news v p → PcsIn news vs ps → PcsIn news (v :: vs) (p :: ps)
theorem PcIn.mono {news news' : Led} {v : Value} {p : Pc} (h : PcIn news v p) (k : ∀ q ∈ news, q ∈ news') : PcIn news' v p := let ⟨t, a, b, c, e, m⟩ := h; ⟨t, a, b, c, e, k _ m⟩
theorem PcsIn.mono {news news' : Led} {vs : List Value} {ps : List Pc} (h : PcsIn news vs ps) (k : ∀ q ∈ news, q ∈ news') : PcsIn news' vs ps := by
  induction h with
  | nil => exact .nil
  | cons a _ ih => exact .cons (a.mono k) ih
theorem PcsIn.app {news : Led} {vs ws : List Value} {ps qs : List Pc} (h : PcsIn news vs ps) (k : PcsIn news ws qs) : PcsIn news (vs ++ ws) (ps ++ qs) := by
  induction h with
  | nil => exact k
  | cons a _ ih => exact .cons a ih
theorem PcsIn.one {news : Led} {t a b c : Nat} {n : Int} {x u : Str} {vs : List Value} {ps : List Pc} (m : (t, tup [.int n a, .str x b, .str u c]) ∈ news) (h : PcsIn news vs ps) : PcsIn news (.ref t :: vs) (⟨n, x, u⟩ :: ps) := .cons ⟨t, a, b, c, rfl, m⟩ h
theorem PcsIn.length {news : Led} {vs : List Value} {ps : List Pc} (h : PcsIn news vs ps) : vs.length = ps.length := by
  induction h with
  | nil => rfl
  | cons _ _ ih => simp [ih]
/-- a piece that a call has made anew -/
def PcNew (h₀ h : Heap) (v : Value) (p : Pc) : Prop := ∃ t a b c, v = .ref t ∧ h₀.get? t = none ∧ h.get? t = some (tup [.int p.n a, .str p.wd b, .str p.wt c])
inductive PcsNew (h₀ h : Heap) : List Value → List Pc → Prop
  | nil : PcsNew h₀ h [] []
  | cons {v p vs ps} : PcNew h₀ h v p → PcsNew h₀ h vs ps → PcsNew h₀ h (v :: vs) (p :: ps)
/-- S's entry in the ledger may turn -/
inductive UpdF (S : Addr) (o : Obj) : Led → (Obj → Led) → Prop
  | head {r} : (∀ p ∈ r, p.1 ≠ S) → UpdF S o ((S, o) :: r) (fun o' => (S, o') :: r)
  | tail {p r f} : p.1 ≠ S → UpdF S o r f → UpdF S o (p :: r) (fun o' => p :: f o')
theorem UpdF.app {S : Addr} {o : Obj} {seg r : Led} {f : Obj → Led} (h : ∀ p ∈ seg, p.1 ≠ S) (k : UpdF S o r f) : UpdF S o (seg ++ r) (fun o' => seg ++ f o') := by
  induction seg with
  | nil => exact k
  | cons q seg ih => exact .tail (h q (.head _)) (ih fun p hp => h p (.tail _ hp))
theorem UpdF.mem {S : Addr} {o : Obj} {r : Led} {f : Obj → Led} (h : UpdF S o r f) : (S, o) ∈ r := by
  induction h with
  | head _ => exact .head _
  | tail _ _ ih => exact .tail _ ih
theorem UpdF.new {S : Addr} {o : Obj} {r : Led} {f : Obj → Led} (h : UpdF S o r f) (o' : Obj) : ∀ p ∈ f o', p = (S, o') ∨ (p ∈ r ∧ p.1 ≠ S) := by
  induction h with
  | head k =>
    intro p hp
    rcases List.mem_cons.mp hp with rfl | hp
    · exact .inl rfl
    · exact .inr ⟨.tail _ hp, k p hp⟩
  | tail k _ ih =>
    intro p hp
    rcases List.mem_cons.mp hp with rfl | hp
    · exact .inr ⟨.head _, k⟩
    · exact (ih p hp).imp id fun q => ⟨.tail _ q.1, q.2⟩

/-- what stays beside the state while a helper's frame runs -/
structure Px (hr g : Heap) (S sc : Addr) (vs : List Value) (ns : List Int) : Prop where
  rg : ∀ b o, hr.get? b = some o → g.get? b = some o
  rS : hr.get? S = none
  isSl : g.IsList sc vs.toArray
  sS : sc ≠ S
  iAre : IntsAre vs ns
  lenLe : ns.length ≤ 50
theorem Cx.px {hr h₀ g : Heap} {S sc : Addr} {vs : List Value} {ns : List Int} {stO : Obj} (C : Cx hr S sc vs ns h₀ stO) (hk : ∀ b o, h₀.get? b = some o → b ≠ S → g.get? b = some o) (hrg : ∀ b o, hr.get? b = some o → g.get? b = some o) : Px hr g S sc vs ns :=
  ⟨hrg, C.rS, by obtain ⟨o, ho, r⟩ := C.isSl; exact ⟨o, hk _ _ ho C.sS, r⟩, C.sS, C.iAre, C.lenLe⟩
section
variable {hr g h h' : Heap} {S sc L : Addr} {vs : List Value} {ns : List Int} {stO stO' : Obj} {m : Str → Option Value} {news : Led} {f : Obj → Led}
theorem Px.cx (P : Px hr g S sc vs ns) (F : Fr g L h m) (N : News g L h news) (U : UpdF S stO news f) (ok : StOk sc ns.length stO) : Cx hr S sc vs ns h stO :=
  ⟨fun b o e => F.keep b o (P.rg b o e), P.rS, (N _ U.mem).1, by obtain ⟨o, ho, r⟩ := P.isSl; exact ⟨o, F.keep _ _ ho, r⟩, P.sS, P.iAre, P.lenLe, ok⟩
theorem fr_ext (F : Fr g L h m) (N : News g L h news) (hm : (S, stO) ∈ news) (X : Ext1 S h h') : Fr g L h' m := by
  have hL : L ≠ S := fun e => (N _ hm).2.1 e.symm
  obtain ⟨oL, a1, a2, hL', a3⟩ := F.ns
  refine ⟨⟨oL, a1, a2, X _ _ hL' hL, a3⟩, fun b o e => X _ _ (F.keep b o e) fun q => ?_, F.above⟩
  have := (N _ hm).2.2
  rw [← q, e] at this; cases this
theorem news_ext (N : News g L h news) (U : UpdF S stO news f) (X : Ext1 S h h') (hS : h'.get? S = some stO') : News g L h' (f stO') := by
  intro p hp
  rcases U.new stO' p hp with rfl | ⟨hp, hne⟩
  · exact ⟨hS, (N _ U.mem).2⟩
  · exact ⟨X _ _ (N p hp).1 hne, (N p hp).2⟩
/-- the pieces that the call has made, as a segment of the caller's ledger -/
theorem seg_of {its : List Value} {ps : List Pc} (F : Fr g L h m) (hS : h.get? S = some stO) (P : PcsNew h h' its ps) : ∃ seg : Led, PcsIn seg its ps ∧ News g L h' seg ∧ ∀ p ∈ seg, p.1 ≠ S := by
  induction P with
  | nil => exact ⟨[], .nil, (by intro p hp; cases hp), (by intro p hp; cases hp)⟩
  | cons a _ ih =>
    obtain ⟨t, a, b, c, rfl, h0, h1⟩ := a
    obtain ⟨seg, i1, i2, i3⟩ := ih
    refine ⟨(t, _) :: seg, .cons ⟨t, a, b, c, rfl, .head _⟩ (i1.mono fun _ q => .tail _ q), ?_, ?_⟩
    · intro q hq
      rcases List.mem_cons.mp hq with rfl | hq
      · refine ⟨h1, fun e => ?_, ?_⟩
        · obtain ⟨oL, _, _, hL', _⟩ := F.ns
          rw [← e, h0] at hL'; cases hL'
        · cases q : g.get? t with
          | none => rfl
          | some o => have := F.keep _ _ q; rw [h0] at this; cases this
      · exact i2 q hq
    · intro q hq
      rcases List.mem_cons.mp hq with rfl | hq
      · intro e; have : t = S := e; rw [← this, h0] at hS; cases hS
      · exact i3 q hq
theorem new_one {a : Addr} {o : Obj} (F : Fr g L h m) (h0 : h.get? a = none) (h1 : h'.get? a = some o) : h'.get? a = some o ∧ a ≠ L ∧ g.get? a = none := by
  refine ⟨h1, fun e => ?_, ?_⟩
  · obtain ⟨oL, _, _, hL', _⟩ := F.ns
    rw [← e, h0] at hL'; cases hL'
  · cases q : g.get? a with
    | none => rfl
    | some o => have := F.keep _ _ q; rw [h0] at this; cases this
theorem news_cons {p : Addr × Obj} (h1 : h'.get? p.1 = some p.2 ∧ p.1 ≠ L ∧ g.get? p.1 = none) (N : News g L h' news) : News g L h' (p :: news) := fun q hq => by
  rcases List.mem_cons.mp hq with rfl | hq
  · exact h1
  · exact N q hq
theorem news_app {l l' : Led} (N : News g L h' l) (N' : News g L h' l') : News g L h' (l ++ l') := fun q hq => (List.mem_append.mp hq).elim (N q) (N' q)
theorem news_mono {l l' : Led} (N : News g L h' l) (k : ∀ p ∈ l', p ∈ l) : News g L h' l' := fun q hq => N q (k q hq)
end
/-- a helper that hands back pieces: what its caller gets -/
def Gives (hr : Heap) (S sc : Addr) (vs : List Value) (ns : List Int) (h h' : Heap) (r : Addr) (G : List Pc → Prop) : Prop :=
  ∃ stO' its n ps, Cx hr S sc vs ns h' stO' ∧ Ext1 S h h' ∧ h'.get? r = some (lst its n) ∧ h.get? r = none ∧ PcsNew h h' its ps ∧ G ps
/-- the end of such a helper -/
theorem gives_end {hr h₀ g h : Heap} {S sc L r : Addr} {vs : List Value} {ns : List Int} {stO stO' : Obj} {m : Str → Option Value} {news : Led} {its : List Value} {n : Nat} {ps : List Pc} {G : List Pc → Prop}
    (C : Cx hr S sc vs ns h₀ stO) (F : Fr g L h m) (N : News g L h news) (hm : (S, stO') ∈ news) (hk : ∀ b o, h₀.get? b = some o → b ≠ S → g.get? b = some o) (hrg : ∀ b o, hr.get? b = some o → g.get? b = some o)
    (ok : StOk sc ns.length stO') (hl : (r, lst its n) ∈ news) (P : PcsIn news its ps) (hG : G ps) : Gives hr S sc vs ns h₀ h r G := by
  obtain ⟨c1, c2⟩ := cx_end C F N hm hk hrg ok
  have none0 : ∀ t o, (t, o) ∈ news → t ≠ S → h₀.get? t = none := fun t o ht hne => by
    cases q : h₀.get? t with
    | none => rfl
    | some o' => have := hk _ _ q hne; rw [(N _ ht).2.2] at this; cases this
  have hS : h.get? S = some stO' := (N _ hm).1
  obtain ⟨i, x, ti, tx, k, e, _⟩ := ok
  refine ⟨stO', its, n, ps, c1, c2, (N _ hl).1, none0 _ _ hl fun q => ?_, ?_, hG⟩
  · subst q
    have z := (N _ hl).1
    rw [hS, e] at z
    have z' : ([.ref sc, .int i ti, .int x tx] : List Value) = its := by
      have := congrArg Obj.data (Option.some.inj z)
      simp only [Data.seq.injEq, List.toArray_eq_iff] at this
      simpa using this.1
    subst z'
    cases P with
    | cons _ P => cases P with
      | cons a _ => obtain ⟨_, _, _, _, e, _⟩ := a; cases e
  · clear hl hG
    induction P with
    | nil => exact .nil
    | cons a _ ih =>
      obtain ⟨t, a, b, c, rfl, ht⟩ := a
      refine .cons ⟨t, a, b, c, rfl, none0 _ _ ht fun q => ?_, (N _ ht).1⟩ ih
      have z := (N _ ht).1
      have q' : t = S := q
      rw [q', hS, e] at z
      have := congrArg Obj.cls (Option.some.inj z)
      simp at this
end Mine
end
theorem Mine.fresh_Next : True ∧ True := by
  w_top off
  walk1 <;> exact True.intro
section
open PySem PySem.W PySem.Spec PySem.Calls PyProof.Rows
set_option Elab.async false
namespace Mine
local macro_rules | `(tactic| k_units) => `(tactic| ktr_units)
local macro_rules | `(tactic| k_room) => `(tactic| ktr_room)
def NextOk (w : World) (hr : Heap) : Prop :=
  ∀ (A : Around) (s : Shared) (S sc : Addr) (vs : List Value) (ns : List Int) (stO : Obj) (many : Int) (tm : Nat) (Q E : Value → Shared → Prop),
    Cx hr S sc vs ns s.heap stO → 0 < many → many ≤ 5 → A.depth + 10 < recursionLimit → A.units + 80 < cLine →
    (∀ (r : Int) tr h' tk' stO', Cx hr S sc vs ns h' stO' → Ext1 S s.heap h' → 0 ≤ r → r < many → Q (.int r tr) { s with heap := h', toks := tk' }) →
    wpAny (model PySem.Challenge.rw_co0042_01.row.prog w) A (call (.ref 69) [.ref S, .int many tm]) Q E s

set_option maxRecDepth 100000 in
set_option maxHeartbeats 8000000 in
theorem next_ok (w : World) (p : Program) (loose : List Str) (mean : ExcName → Option Value) (mg mb : Str → Option Value) (hr : Heap)
    (T₀ : Top p loose mean mg mb hr) (X₀ : (hd.heap_39 w.params).In hr) : NextOk w hr := by
  unfold NextOk
  revert X₀
  k_fill
  intro X₀ A s S sc vs ns stO many tm Q E hC hm0 hm1 hdp hun ret
  have hC' := hC
  obtain ⟨hsub, hrS, hS, hsl, hsS, hI, hL, i, x, ti, tx, n, rfl, hi0, hi1, hx0, hx1⟩ := hC
  refine wpAny_call ?_
  k_dflt (refine' enter X₀ T₀ hsub hrS hS ?k6 ?k7 ?k8 ?k9 ?kB ?_ ?c2 ?c3 ?c4 ?c5; (case k6 => k_is); (case k7 => k_is); (case k8 => ktr_room); (case k9 => exact BindsTo.of_eq rfl); (case c5 => decide); (case kB => exact locs rfl); (case c2 => exact rfl); (case c3 => exact rfl); (case c4 => exact rfl))
  intro g L' h' F' N' X' T' hk hrg
  have hgl : g.IsList sc vs.toArray := by obtain ⟨o, ho, r⟩ := hsl; exact ⟨o, hk _ _ ho hsS, r⟩
  (try dsimp only)
  (try k_fold)
  k_steps
  all_goals (
    (rename Fr _ _ _ _ => F9)
    (rename News _ _ _ _ => N9)
    have z := cx_end hC' F9 N9 (by k_mem) hk hrg ⟨_, _, _, _, _, rfl, by omega, by omega, Int.fmod_nonneg_of_pos _ (by omega), Int.fmod_lt_of_pos _ (by omega)⟩
    exact ret _ _ _ _ _ z.1 z.2 (Int.fmod_nonneg_of_pos _ (by omega)) (Int.fmod_lt_of_pos _ (by omega)))
end Mine
end
theorem Mine.fresh_Ctr : True ∧ True := by
  w_top off
  walk1 <;> exact True.intro
section
open PySem PySem.W PySem.Spec PySem.Calls PyProof.Rows
set_option Elab.async false
namespace Mine
def LV : Nat → Nat
  | 0 => 5
  | d + 1 => 12 + 3 * LV d
def LW (d : Nat) : Nat := 9 + 3 * LV d
def ValueOk (w : World) (hr : Heap) (d : Nat) : Prop :=
  ∀ (A : Around) (s : Shared) (S sc : Addr) (vs : List Value) (ns : List Int) (stO : Obj) (i : Int) (td : Nat) (Q E : Value → Shared → Prop),
    Cx hr S sc vs ns s.heap stO → i = (d : Int) → A.depth + 20 + 8 * d < recursionLimit → A.units + 200 + 80 * d < cLine → A.handled = none →
    (∀ r h' tk', Gives hr S sc vs ns s.heap h' r (fun ps => GV ps ∧ ps.length ≤ LV d) → Q (.ref r) { s with heap := h', toks := tk' }) →
    wpAny (model PySem.Challenge.rw_co0042_01.row.prog w) A (call (.ref 76) [.ref S, .int i td]) Q E s
def WordsOk (w : World) (hr : Heap) (d : Nat) : Prop :=
  ∀ (A : Around) (s : Shared) (S sc : Addr) (vs : List Value) (ns : List Int) (stO : Obj) (i : Int) (td : Nat) (Q E : Value → Shared → Prop),
    Cx hr S sc vs ns s.heap stO → i = (d : Int) → A.depth + 24 + 8 * d < recursionLimit → A.units + 240 + 80 * d < cLine → A.handled = none →
    (∀ r h' tk', Gives hr S sc vs ns s.heap h' r (fun ps => GA ps ∧ ps.length ≤ LW d) → Q (.ref r) { s with heap := h', toks := tk' }) →
    wpAny (model PySem.Challenge.rw_co0042_01.row.prog w) A (call (.ref 83) [.ref S, .int i td]) Q E s
section
variable {w : World} {A : Around} {Q E : Value → Shared → Prop} {s : Shared} {hr g : Heap} {S sc L : Addr} {vs : List Value} {ns : List Int} {stO : Obj} {m : Str → Option Value} {news : Led} {f : Obj → Led}
theorem call_next {many : Int} {tm : Nat} (NX : NextOk w hr) (P : Px hr g S sc vs ns) (F : Fr g L s.heap m) (N : News g L s.heap news) (U : UpdF S stO news f) (ok : StOk sc ns.length stO)
    (h0 : 0 < many) (h1 : many ≤ 5) (hd : A.depth + 10 < recursionLimit) (hu : A.units + 80 < cLine)
    (ret : ∀ (r : Int) tr h' tk' stO', Fr g L h' m → News g L h' (f stO') → StOk sc ns.length stO' → 0 ≤ r → r < many → Q (.int r tr) { s with heap := h', toks := tk' }) :
    wpAny (model PySem.Challenge.rw_co0042_01.row.prog w) A (call (.ref 69) [.ref S, .int many tm]) Q E s :=
  NX A s S sc vs ns stO many tm Q E (P.cx F N U ok) h0 h1 hd hu fun r tr h' tk' stO' C X r0 r1 =>
    ret r tr h' tk' stO' (fr_ext F N U.mem X) (news_ext N U X C.atS) C.okS r0 r1
theorem back_gives {h' : Heap} {r : Addr} {G : List Pc → Prop} (F : Fr g L s.heap m) (N : News g L s.heap news) (U : UpdF S stO news f) (D : Gives hr S sc vs ns s.heap h' r G) :
    ∃ (stO' : Obj) (its : List Value) (n : Nat) (ps : List Pc) (seg : Led), Fr g L h' m ∧ News g L h' ((r, lst its n) :: (seg ++ f stO')) ∧ StOk sc ns.length stO' ∧ @Ne Nat r S ∧ (∀ p ∈ seg, p.1 ≠ S) ∧ PcsIn seg its ps ∧ its.length = ps.length ∧ G ps := by
  obtain ⟨stO', its, n, ps, C, X, h1, h0, P, hG⟩ := D
  have hS := (N _ U.mem).1
  obtain ⟨seg, i1, i2, i3⟩ := seg_of F hS P
  refine ⟨stO', its, n, ps, seg, fr_ext F N U.mem X, news_cons (new_one F h0 h1) (news_app i2 (news_ext N U X C.atS)), C.okS, fun e => ?_, i3, i1, i1.length, hG⟩
  have e' : r = S := e
  rw [← e', h0] at hS; cases hS
theorem call_words {d : Nat} {i : Int} {td : Nat} {b : Prop} (WK : b → WordsOk w hr d) (hb : b) (P : Px hr g S sc vs ns) (F : Fr g L s.heap m) (N : News g L s.heap news) (U : UpdF S stO news f) (ok : StOk sc ns.length stO)
    (hi : i = (d : Int)) (hd : A.depth + 24 + 8 * d < recursionLimit) (hu : A.units + 240 + 80 * d < cLine) (hh : A.handled = none)
    (ret : ∀ r h' tk' stO' its n ps seg, Fr g L h' m → News g L h' ((r, lst its n) :: (seg ++ f stO')) → StOk sc ns.length stO' → @Ne Nat r S → (∀ p ∈ seg, p.1 ≠ S) → PcsIn seg its ps → its.length = ps.length → GA ps → ps.length ≤ LW d → Q (.ref r) { s with heap := h', toks := tk' }) :
    wpAny (model PySem.Challenge.rw_co0042_01.row.prog w) A (call (.ref 83) [.ref S, .int i td]) Q E s :=
  WK hb A s S sc vs ns stO i td Q E (P.cx F N U ok) hi hd hu hh fun r h' tk' D => by
    obtain ⟨stO', its, n, ps, seg, a1, a2, a3, a4, a5, a6, a7, a8, a9⟩ := back_gives F N U D
    exact ret r h' tk' stO' its n ps seg a1 a2 a3 a4 a5 a6 a7 a8 a9
theorem call_value {d : Nat} {i : Int} {td : Nat} (VK : ValueOk w hr d) (P : Px hr g S sc vs ns) (F : Fr g L s.heap m) (N : News g L s.heap news) (U : UpdF S stO news f) (ok : StOk sc ns.length stO)
    (hi : i = (d : Int)) (hd : A.depth + 20 + 8 * d < recursionLimit) (hu : A.units + 200 + 80 * d < cLine) (hh : A.handled = none)
    (ret : ∀ r h' tk' stO' its n ps seg, Fr g L h' m → News g L h' ((r, lst its n) :: (seg ++ f stO')) → StOk sc ns.length stO' → @Ne Nat r S → (∀ p ∈ seg, p.1 ≠ S) → PcsIn seg its ps → its.length = ps.length → GV ps → ps.length ≤ LV d → Q (.ref r) { s with heap := h', toks := tk' }) :
    wpAny (model PySem.Challenge.rw_co0042_01.row.prog w) A (call (.ref 76) [.ref S, .int i td]) Q E s :=
  VK A s S sc vs ns stO i td Q E (P.cx F N U ok) hi hd hu hh fun r h' tk' D => by
    obtain ⟨stO', its, n, ps, seg, a1, a2, a3, a4, a5, a6, a7, a8, a9⟩ := back_gives F N U D
    exact ret r h' tk' stO' its n ps seg a1 a2 a3 a4 a5 a6 a7 a8 a9
/-- two made lists, glued -/
theorem cat_made {prog : Program} {a b n k : Nat} {ws us : List Value} (F : Fr g L s.heap m) (N : News g L s.heap news) (ha : (a, lst ws n) ∈ news) (hb : (b, lst us k) ∈ news) (hz : ws.length + us.length ≤ sizeLine)
    (h : ∀ D h', Fr g L h' m → News g L h' ((D, lst (ws ++ us) 0) :: news) → (∀ p ∈ news, p.1 < D) → Q (.ref D) { s with heap := h' }) : wpAny (model prog w) A (binaryOp .Add (.ref a) (.ref b)) Q E s := by
  have la : s.heap.IsList a ws.toArray := ⟨_, (N _ ha).1, rfl, n, rfl⟩
  have lb : s.heap.IsList b us.toArray := ⟨_, (N _ hb).1, rfl, k, rfl⟩
  exact add_lists F N la lb (fun h' F' N' => h _ h' F' N' fun p hp => Heap.lt_size (N p hp).1) hz
end
end Mine
end
theorem Mine.fresh_Loop : True ∧ True := by
  w_top off
  walk1 <;> exact True.intro
section
open PySem PySem.W PySem.Spec PySem.Calls PyProof.Rows
set_option Elab.async false
namespace Mine
section
variable {prog : Program} {w : World} {A : Around} {E : Value → Shared → Prop} {s : Shared} {env : Env} {h₀ : Heap} {x : Str} {body : List Stmt} {Q : Flow → Shared → Prop}
/-- the end of a turn: the loop's word holds of what the turn leaves -/
def TurnJ (h₀ : Heap) (L I : Addr) (o : Obj) (Jn : (Str → Option Value) → Led → Prop) (s₁ : Shared) (Q : Flow → Shared → Prop) (f : Flow) (s₂ : Shared) : Prop :=
  match f with
  | .ret v => Q (.ret v) s₂
  | .brk => Q .next s₂
  | _ => ∃ h' tk m' news', s₂ = { s₁ with heap := h', toks := tk } ∧ Fr h₀ L h' m' ∧ News h₀ L h' ((I, o) :: news') ∧ (∀ p ∈ news', p.1 ≠ I) ∧ Jn m' news'
theorem iter_rangeJ {r : Addr} {a₀ b₀ : Int} {t₀ u₀ v₀ : Tok} {n : Nat} {m₀ : Str → Option Value} {news : Led} (J : Nat → (Str → Option Value) → Led → Prop)
    (hh : A.handled = none) (hr : IsRange s.heap r a₀ b₀ 1 t₀ u₀ v₀) (hsmall : Builtin.Range.small a₀ b₀ 1 = true) (hn : Builtin.Range.rangeSize a₀ b₀ 1 = (n : Int)) (F : Fr h₀ env.locals s.heap m₀) (N : News h₀ env.locals s.heap news) (hj : J 0 m₀ news)
    (turn : ∀ i t m₁ news₁ h tk I o, i < n → J i m₁ news₁ → (∀ p ∈ news₁, p.1 ≠ I) → o.cls = .type "range_iterator" → Fr h₀ env.locals h (fun y => if y = x then some (.int (a₀ + (i : Nat)) t) else m₁ y) → News h₀ env.locals h ((I, o) :: news₁) →
      wpAny (model prog w) A (execs body env) (TurnJ h₀ env.locals I o (J (i + 1)) { s with heap := h, toks := tk } Q) E { s with heap := h, toks := tk })
    (done : ∀ m₁ news₁ h tk, J n m₁ news₁ → Fr h₀ env.locals h m₁ → News h₀ env.locals h news₁ → Q .next { s with heap := h, toks := tk }) :
    wpAny (model prog w) A (pyIter (.ref r)) (fun it s₂ => LoopAtV prog w A h₀ env x body Q E it s₂) E s := by
  refine wpAny_pyIter_range hr hsmall ?_
  have W : Walks prog w A s.heap.objs.size [s.heap.objs.size] [s.heap.objs.size] n (fun i v => i < n ∧ ∃ t, v = .int (a₀ + i * 1) t)
      (fun i h => IsRangeIter h s.heap.objs.size (a₀ + (i : Nat) * 1) ((n : Int) - (i : Nat)) 1) := (Walks.range hh _ a₀ 1 n).bound
  refine ⟨_, _, _, n, _, _, m₀, news, J, rfl, W, ?_, ?_, ?_, (by show IsRangeIter _ _ _ _ _; rw [hn]; simpa using Heap.get?_push_size _ rfl), F.push _, (fun p hp => ⟨Heap.get?_push_of_some _ (N p hp).1, (N p hp).2⟩), hj, ?_, ?_⟩
  · intro hm
    exact absurd F.ns.lt ((List.mem_singleton.mp hm) ▸ Nat.lt_irrefl _)
  · intro b hb
    rw [List.mem_singleton.mp hb]
    exact next_is_new F
  · intro p hp hI
    exact absurd (Heap.lt_size (N p hp).1) ((List.mem_singleton.mp hI) ▸ Nat.lt_irrefl _)
  · rintro i v m₁ news₁ s₁ own ⟨hh', tk', rfl⟩ hin ⟨_, t, rfl⟩ hJ hoff hown hmem hall hst F₁ N₁
    obtain ⟨oI, hoI, hoc⟩ : ∃ o, hh'.get? s.heap.objs.size = some o ∧ o.cls = .type "range_iterator" := ⟨_, hst, rfl⟩
    have hI := hall _ (.head _) (next_is_new F) _ hoI
    have all1 : ∀ p ∈ own, p = (s.heap.objs.size, oI) := fun p hp => by
      have e1 := List.mem_singleton.mp (hown p hp)
      have e2 : hh'.get? p.1 = some p.2 := hmem p hp
      rw [e1, hoI] at e2
      exact Prod.ext e1 (Option.some.inj e2).symm
    have hoff' : ∀ p ∈ news₁, p.1 ≠ s.heap.objs.size := fun p hp e => hoff p hp (by rw [e]; exact .head _)
    have N₂ : News h₀ env.locals hh' ((s.heap.objs.size, oI) :: news₁) := fun p hp => by
      rcases List.mem_cons.mp hp with rfl | hp
      · exact N₁ _ (List.mem_append_left _ hI)
      · exact N₁ _ (List.mem_append_right _ hp)
    have e : (a₀ + (i : Nat) * 1 : Int) = a₀ + (i : Nat) := by omega
    rw [e] at F₁
    refine wpAny_mono (turn i t m₁ news₁ hh' tk' s.heap.objs.size oI hin hJ hoff' hoc F₁ N₂) (fun f s₂ p => ?_) fun _ _ e => e
    have fin : (∃ h' tk m' news', s₂ = { ({ s with heap := hh', toks := tk' } : Shared) with heap := h', toks := tk } ∧ Fr h₀ env.locals h' m' ∧ News h₀ env.locals h' ((s.heap.objs.size, oI) :: news') ∧ (∀ p ∈ news', p.1 ≠ s.heap.objs.size) ∧ J (i + 1) m' news') → LoopStepU h₀ env.locals [s.heap.objs.size] own (J (i + 1)) { s with heap := hh', toks := tk' } .next s₂ := by
      rintro ⟨h', tk, m', news', e, F', N', ho, hm⟩
      refine ⟨rfl, h', tk, m', news', e, F', fun p hp => ?_, fun p hp hq => ho p hp (List.mem_singleton.mp hq), hm⟩
      rcases List.mem_append.mp hp with hp | hp
      · rw [all1 p hp]; exact N' _ (.head _)
      · exact N' _ (.tail _ hp)
    cases f with
    | ret v => exact .ret p
    | brk => exact .brk p
    | next => exact .next (fin p)
    | cont => exact .cont (fin p)
  · rintro h' tk m' news' F' N' _ hJ
    exact done m' news' h' tk hJ F' N'
end
/-- a place where the walk is to stop -/
def Here (P : Prop) : Prop := P
theorem here_ {α : Type} {M : Model} {A : Around} {t : Sem α} {Q : α → Shared → Prop} {E : Value → Shared → Prop} {s : Shared} (h : Here (wpAny M A t Q E s)) : wpAny M A t Q E s := h
theorem fr_map {g h : Heap} {L : Addr} {m m' : Str → Option Value} (F : Fr g L h m) (e : ∀ y, m y = m' y) : Fr g L h m' := by
  have : m = m' := funext e
  exact this ▸ F
theorem fr_map1 {g h : Heap} {L : Addr} {m : Str → Option Value} {y1 : Str} {v1 : Value} (F : Fr g L h m) (e1 : m y1 = some v1) : Fr g L h (fun y => if y = y1 then some v1 else m y) :=
  fr_map F fun y => by
    by_cases h1 : y = y1
    · simp only [h1, if_true]; exact e1
    · simp only [if_neg h1]
theorem fr_map4 {g h : Heap} {L : Addr} {m : Str → Option Value} {x y1 y2 y3 : Str} {v v1 v2 v3 : Value} (F : Fr g L h (fun y => if y = x then some v else m y)) (e1 : m y1 = some v1) (e2 : m y2 = some v2) (e3 : m y3 = some v3) :
    Fr g L h (fun y => if y = x then some v else if y = y1 then some v1 else if y = y2 then some v2 else if y = y3 then some v3 else m y) :=
  fr_map F fun y => by
    by_cases h0 : y = x
    · simp only [h0, if_true]
    · simp only [if_neg h0]
      by_cases h1 : y = y1
      · simp only [h1, if_true]; exact e1
      · simp only [if_neg h1]
        by_cases h2 : y = y2
        · simp only [h2, if_true]; exact e2
        · simp only [if_neg h2]
          by_cases h3 : y = y3
          · simp only [h3, if_true]; exact e3
          · simp only [if_neg h3]
/-- just the pieces' own entries -/
theorem PcsIn.seg {news : Led} {vs : List Value} {ps : List Pc} (P : PcsIn news vs ps) : ∃ seg : Led, PcsIn seg vs ps ∧ (∀ p ∈ seg, p ∈ news) ∧ ∀ p ∈ seg, p.2.cls = .type "tuple" := by
  induction P with
  | nil => exact ⟨[], .nil, (by intro p hp; cases hp), (by intro p hp; cases hp)⟩
  | cons a _ ih =>
    obtain ⟨t, a, b, c, rfl, ht⟩ := a
    obtain ⟨seg, i1, i2, i3⟩ := ih
    refine ⟨(t, _) :: seg, .cons ⟨t, a, b, c, rfl, .head _⟩ (i1.mono fun _ q => .tail _ q), ?_, ?_⟩
    · intro q hq
      rcases List.mem_cons.mp hq with rfl | hq
      · exact ht
      · exact i2 q hq
    · intro q hq
      rcases List.mem_cons.mp hq with rfl | hq
      · rfl
      · exact i3 q hq
section
variable {g h : Heap} {L S sc a : Addr} {n len : Nat} {news : Led} {stO o : Obj} {its : List Value} {ps : List Pc}
/-- entries of unlike classes lie apart -/
theorem cls_ne {p q : Addr × Obj} (N : News g L h news) (hp : p ∈ news) (hq : q ∈ news) (hc : p.2.cls ≠ q.2.cls) : p.1 ≠ q.1 := fun e => by
  have := (N p hp).1
  rw [e, (N q hq).1] at this
  exact hc (by rw [Option.some.inj this])
theorem StOk.cls (h : StOk sc len stO) : stO.cls = .type "list" := by
  obtain ⟨i, x, ti, tx, k, e, _⟩ := h; rw [e]
theorem lt_of_ok {D : Nat} (h : ∀ p ∈ news, p.1 < D) (_ok : StOk sc len stO) (m : (S, stO) ∈ news) : @LT.lt Nat _ S D := h _ m
/-- a list of pieces is not the state -/
theorem lst_ne (N : News g L h news) (ok : StOk sc len stO) (hS : (S, stO) ∈ news) (hl : (a, lst its n) ∈ news) (P : PcsIn news its ps) : a ≠ S := fun q => by
  obtain ⟨i, x, ti, tx, k, e, _⟩ := ok
  subst q
  have z := (N _ hl).1
  rw [(N _ hS).1, e] at z
  have z' : ([.ref sc, .int i ti, .int x tx] : List Value) = its := by
    have := congrArg Obj.data (Option.some.inj z)
    simp only [Data.seq.injEq, List.toArray_eq_iff] at this
    simpa using this.1
  subst z'
  cases P with
  | cons _ P => cases P with
    | cons a _ => obtain ⟨_, _, _, _, e, _⟩ := a; cases e
end
/-- a made list of pieces that a menu offers -/
def Menu (G : List Pc → Prop) (news : Led) (v : Value) : Prop := ∃ b n its ps, v = .ref b ∧ (b, lst its n) ∈ news ∧ PcsIn news its ps ∧ G ps
theorem menu_at {prog : Program} {w : World} {A : Around} {E Q : Value → Shared → Prop} {s : Shared} {g : Heap} {L S sc l : Addr} {n len : Nat} {news : Led} {stO : Obj} {items : List Value} {k : Int} {u : Tok} {value slice : PySem.Expr} (G : List Pc → Prop)
    (N : News g L s.heap news) (hl : (l, lst items n) ∈ news) (hS : (S, stO) ∈ news) (ok : StOk sc len stO) (h0 : 0 ≤ k) (h1 : k < items.length) (hz : items.length ≤ 8) (hall : ∀ v ∈ items, Menu G news v)
    (h : ∀ b nb its ps seg, News g L s.heap ((b, lst its nb) :: (seg ++ news)) → PcsIn seg its ps → its.length = ps.length → G ps → @Ne Nat b S → (∀ p ∈ seg, p.1 ≠ S) → Q (.ref b) s)
    (hs : subscripted slice false (.ref l) (.int k u) = operate [.ref l, .int k u] (getItem (.ref l) (.int k u)) := by with_unfolding_all rfl) :
    wpAny (model prog w) A (subscriptTail value slice (.ref l) (.int k u)) Q E s := by
  have la : s.heap.IsList l items.toArray := ⟨_, (N _ hl).1, rfl, n, rfl⟩
  have hk : k.toNat < items.length := by omega
  have hx : items[k.toNat]? = some items[k.toNat] := List.getElem?_eq_getElem hk
  obtain ⟨b, nb, its, ps, e, hb, P, hG⟩ := hall items[k.toNat] (List.getElem_mem hk)
  obtain ⟨seg, s1, s2, s3⟩ := P.seg
  refine tail_any la.typeIs slot_list_getitem.lookup (wpAny_getItem_list la h0 (by omega) (by rw [List.getElem?_toArray]; exact hx) ?_) hs
  rw [e]
  refine h b nb its ps seg ?_ s1 s1.length hG (lst_ne N ok hS hb P) fun p hp => ?_
  · intro p hp
    rcases List.mem_cons.mp hp with rfl | hp
    · exact N _ hb
    · exact N _ ((List.mem_append.mp hp).elim (s2 p) id)
  · exact cls_ne N (s2 p hp) (q := (S, stO)) hS (by rw [s3 p hp, ok.cls]; decide)
/-- the ledger of a loop that grows a list of pieces -/
def Grown (S sc : Addr) (len : Nat) (a : Addr) (its : List Value) (ps : List Pc) (news : Led) : Prop :=
  ∃ stO n seg, news = (S, stO) :: (a, lst its n) :: seg ∧ StOk sc len stO ∧ PcsIn seg its ps ∧ ∀ p ∈ seg, p.2.cls = .type "tuple"
theorem grown_end {g h : Heap} {L S sc a I : Addr} {n len : Nat} {news : Led} {stO o : Obj} {its : List Value} {ps : List Pc}
    (N : News g L h news) (ok : StOk sc len stO) (hS : (S, stO) ∈ news) (hI : (I, o) ∈ news) (ho : o.cls = .type "range_iterator") (hl : (a, lst its n) ∈ news) (P : PcsIn news its ps) :
    ∃ news', News g L h ((I, o) :: news') ∧ (∀ p ∈ news', p.1 ≠ I) ∧ Grown S sc len a its ps news' := by
  obtain ⟨seg, s1, s2, s3⟩ := P.seg
  refine ⟨(S, stO) :: (a, lst its n) :: seg, ?_, ?_, stO, n, seg, rfl, ok, s1, s3⟩
  · intro p hp
    rcases List.mem_cons.mp hp with rfl | hp
    · exact N _ hI
    rcases List.mem_cons.mp hp with rfl | hp
    · exact N _ hS
    rcases List.mem_cons.mp hp with rfl | hp
    · exact N _ hl
    · exact N _ (s2 p hp)
  · intro p hp
    rcases List.mem_cons.mp hp with rfl | hp
    · exact cls_ne N hS hI (by rw [ok.cls, ho]; decide)
    rcases List.mem_cons.mp hp with rfl | hp
    · exact cls_ne N hl hI (by rw [ho]; show (Value.type "list") ≠ Value.type "range_iterator"; decide)
    · exact cls_ne N (s2 p hp) hI (by rw [s3 p hp, ho]; decide)
/-- what a turn of such a loop begins with -/
theorem grown_open {g h : Heap} {L S sc a I : Addr} {len : Nat} {news : Led} {o : Obj} {its : List Value} {ps : List Pc}
    (N : News g L h ((I, o) :: news)) (hoff : ∀ p ∈ news, p.1 ≠ I) (G : Grown S sc len a its ps news) :
    ∃ stO n seg, News g L h ((I, o) :: (S, stO) :: (a, lst its n) :: seg) ∧ StOk sc len stO ∧ PcsIn seg its ps ∧ its.length = ps.length ∧ @Ne Nat I S ∧ @Ne Nat a S ∧ (∀ p ∈ seg, p.1 ≠ S) := by
  obtain ⟨stO, n, seg, rfl, ok, P, hc⟩ := G
  refine ⟨stO, n, seg, N, ok, P, P.length, fun e => hoff (S, stO) (.head _) e.symm, ?_, fun p hp => ?_⟩
  · exact lst_ne N ok (.tail _ (.head _)) (.tail _ (.tail _ (.head _))) (P.mono fun q hq => .tail _ (.tail _ (.tail _ hq)))
  · exact cls_ne N (.tail _ (.tail _ (.tail _ hp))) (q := (S, stO)) (.tail _ (.head _)) (by rw [hc p hp, ok.cls]; decide)
end Mine
end
theorem Mine.fresh_Val : True ∧ True := by
  w_top off
  walk1 <;> exact True.intro
section
open PySem PySem.W PySem.Spec PySem.Calls PyProof.Rows
set_option Elab.async false
namespace Mine
local macro_rules | `(tactic| k_units) => `(tactic| ktr_units)
local macro_rules | `(tactic| k_room) => `(tactic| ktr_room)
local macro_rules | `(tactic| k_all) => `(tactic| first | assumption | (refine' List.forall_mem_append.mpr ⟨?a, ?b⟩; (case a => assumption); (case b => k_all)))
local macro_rules | `(tactic| tb_start) => `(tactic| first | (refine' UpdF.head ?a; (case a => k_all)) | (refine' UpdF.tail ?a ?b; (case a => k_ne); (case b => tb_start)) | (refine' UpdF.app ?a ?b; (case a => assumption); (case b => tb_start)))
local macro_rules | `(tactic| walk_at "call ref") => `(tactic| ((with_reducible show wpAny _ _ (call (Value.ref 69) [_, _]) _ _ _); k_dflt (refine' call_next ?a1 ?a2 ?a3 ?a4 ?a5 ?a6 ?a7 ?a8 ?a9 ?a10 ?_; (case a1 => assumption); (case a3 => k_asm); (case a4 => k_asm); (case a2 => assumption); (case a5 => tb_start); (case a6 => assumption); (case a7 => omega); (case a8 => omega); (case a9 => ktr_room); (case a10 => ktr_units)); intro r' tr' h' tk' stO' F' N' ok' hr0' hr1'; (try dsimp only at N'); (try dsimp only); (try k_sweep)))
local macro_rules | `(tactic| walk_at "call ref") => `(tactic| ((with_reducible show wpAny _ _ (call (Value.ref 83) [_, _]) _ _ _); k_dflt (refine' call_words (d := _ - 1) ?a1 ?ab ?a2 ?a3 ?a4 ?a5 ?a6 ?a7 ?a9 ?a10 ?a11 ?_; (case a1 => assumption); (case a3 => k_asm); (case a4 => k_asm); (case a2 => assumption); (case a5 => tb_start); (case a6 => assumption); (case ab => omega); (case a7 => omega); (case a9 => ktr_room); (case a10 => ktr_units); (case a11 => assumption)); intro r' h' tk' stO' its' n' ps' seg' F' N' ok' hne' hsg' hpc' hln' hga' hle'; (try dsimp only at N'); (try dsimp only); (try k_sweep)))
local macro_rules | `(tactic| walk_at "binaryOp Add ref ref") => `(tactic| ((with_reducible show wpAny _ _ (binaryOp _ (Value.ref _) (Value.ref _)) _ _ _); k_dflt (refine' cat_made ?F ?N ?a ?b ?z ?_; (case F => k_asm); (case N => k_asm); (case a => k_mem); (case b => k_mem); (case z => first | decide | ((try simp only [List.length_append, List.length_cons, List.length_nil]); rw [sizeLine_eq]; omega))); intro D' h' F' N' l1; (try k_lt l1); (try k_sweep)))
local macro_rules | `(tactic| k_mem) => `(tactic| first | (with_reducible refine' mem_r ?_; k_mem) | (with_reducible refine' List.mem_append.mpr (Or.inr ?_); k_mem))
local macro_rules | `(tactic| tb_rel) => `(tactic| first | exact PcsIn.nil | (refine' PcsIn.one ?mm ?rr; (case mm => k_mem); (case rr => tb_rel)) | (refine' PcsIn.app ?aa ?bb; (case aa => tb_rel); (case bb => tb_rel)) | exact PcsIn.mono (by assumption) (fun q hq => by simp only [List.mem_cons, List.mem_append, hq, true_or, or_true]))
theorem LW_le (d : Nat) (h : d ≤ 2) : LW (d - 1) ≤ 300 := by
  match d, h with
  | 0, _ => decide
  | 1, _ => decide
  | 2, _ => decide
theorem LV_ge (d : Nat) : 5 ≤ LV d := by
  cases d with
  | zero => exact Nat.le_refl _
  | succ d => show 5 ≤ 12 + 3 * LV d; omega
theorem LV_step (d : Nat) (h : 0 < d) : LV d = 3 + LW (d - 1) := by
  cases d with
  | zero => omega
  | succ d => show 12 + 3 * LV d = 3 + (9 + 3 * LV d); omega
theorem LV_le (d : Nat) (h : d ≤ 2) : LV d ≤ 93 := by
  match d, h with
  | 0, _ => decide
  | 1, _ => decide
  | 2, _ => decide
set_option maxRecDepth 100000 in
set_option maxHeartbeats 8000000 in
theorem value_ok (w : World) (p : Program) (loose : List Str) (mean : ExcName → Option Value) (mg mb : Str → Option Value) (hr : Heap)
    (T₀ : Top p loose mean mg mb hr) (X₀ : (hd.heap_39 w.params).In hr) (NX : NextOk w hr) (d : Nat) (hd2 : d ≤ 2) (WK : 0 < d → WordsOk w hr (d - 1)) : ValueOk w hr d := by
  unfold ValueOk
  revert X₀
  k_fill
  intro X₀ A s S sc vs ns stO i td Q E hC hi hdp hun hh ret
  have hC' := hC
  obtain ⟨hsub, hrS, hS, hsl, hsS, hI, hL, ok⟩ := hC
  refine wpAny_call ?_
  k_dflt (refine' enter X₀ T₀ hsub hrS hS ?k6 ?k7 ?k8 ?k9 ?kB ?_ ?c2 ?c3 ?c4 ?c5; (case k6 => k_is); (case k7 => k_is); (case k8 => ktr_room); (case k9 => exact BindsTo.of_eq rfl); (case c5 => decide); (case kB => exact locs rfl); (case c2 => exact rfl); (case c3 => exact rfl); (case c4 => exact rfl))
  intro g L' h' F' N' X' T' hk hrg
  have P := hC'.px hk hrg
  have hle0 := LV_le d hd2
  have hle1 := LW_le d hd2
  clear hsl hI
  (try dsimp only)
  (try k_fold)
  k_steps
  all_goals (
    (rename Fr _ _ _ _ => F9)
    (rename News _ _ _ _ => N9)
    (rename StOk _ _ _ => ok9)
    refine' ret _ _ _ (gives_end hC' F9 N9 ?mm hk hrg ok9 ?ml ?pcs ⟨?gv, ?ln⟩)
    case mm => k_mem
    case ml => k_mem
    case pcs => tb_rel
    case gv => first | exact gv_num | exact gv_it | exact gv_tup | exact gv_call (by assumption)
    case ln => 
      first
      | exact Nat.le_trans (by decide) (LV_ge d)
      | (have e9 := LV_step d (by omega); (simp only [List.length_append, List.length_cons, List.length_nil]); omega))
end Mine
end
theorem Mine.fresh_Words : True ∧ True := by
  w_top off
  walk1 <;> exact True.intro
section
open PySem PySem.W PySem.Spec PySem.Calls PyProof.Rows
set_option Elab.async false
namespace Mine
local macro_rules | `(tactic| k_units) => `(tactic| ktr_units)
local macro_rules | `(tactic| k_room) => `(tactic| ktr_room)
local macro_rules | `(tactic| k_all) => `(tactic| first | assumption | (refine' List.forall_mem_append.mpr ⟨?a, ?b⟩; (case a => assumption); (case b => k_all)))
local macro_rules | `(tactic| tb_start) => `(tactic| first | (refine' UpdF.head ?a; (case a => k_all)) | (refine' UpdF.tail ?a ?b; (case a => k_ne); (case b => tb_start)) | (refine' UpdF.app ?a ?b; (case a => assumption); (case b => tb_start)))
local macro_rules | `(tactic| walk_at "call ref") => `(tactic| ((with_reducible show wpAny _ _ (call (Value.ref 69) [_, _]) _ _ _); k_dflt (refine' call_next ?a1 ?a2 ?a3 ?a4 ?a5 ?a6 ?a7 ?a8 ?a9 ?a10 ?_; (case a1 => assumption); (case a3 => k_asm); (case a4 => k_asm); (case a2 => assumption); (case a5 => tb_start); (case a6 => assumption); (case a7 => omega); (case a8 => omega); (case a9 => ktr_room); (case a10 => ktr_units)); intro r' tr' h' tk' stO' F' N' ok' hr0' hr1'; (try dsimp only at N'); (try dsimp only); (try k_sweep)))
local macro_rules | `(tactic| walk_at "call ref") => `(tactic| ((with_reducible show wpAny _ _ (call (Value.ref 76) [_, _]) _ _ _); k_dflt (refine' call_value ?a1 ?a2 ?a3 ?a4 ?a5 ?a6 ?a7 ?a9 ?a10 ?a11 ?_; (case a1 => assumption); (case a3 => k_asm); (case a4 => k_asm); (case a2 => assumption); (case a5 => tb_start); (case a6 => assumption); (case a7 => omega); (case a9 => ktr_room); (case a10 => ktr_units); (case a11 => assumption)); intro r' h' tk' stO' its' n' ps' seg' F' N' ok' hne' hsg' hpc' hln' hga' hle'; (try dsimp only at N'); (try dsimp only); (try k_sweep)))
local macro_rules | `(tactic| walk_at "binaryOp Add ref ref") => `(tactic| ((with_reducible show wpAny _ _ (binaryOp _ (Value.ref _) (Value.ref _)) _ _ _); k_dflt (refine' cat_made ?F ?N ?a ?b ?z ?_; (case F => k_asm); (case N => k_asm); (case a => k_mem); (case b => k_mem); (case z => first | decide | ((try simp only [List.length_append, List.length_cons, List.length_nil]); rw [sizeLine_eq]; omega))); intro D' h' F' N' l1; (try k_lt l1); (try k_sweep)))
local macro_rules | `(tactic| k_mem) => `(tactic| first | (with_reducible refine' mem_r ?_; k_mem) | (with_reducible refine' List.mem_append.mpr (Or.inr ?_); k_mem))
local macro_rules | `(tactic| k_lt $h:ident) => `(tactic| k_dflt (replace $h := lt_of_ok $h (by assumption) (by k_mem)))
local macro_rules | `(tactic| tb_rel) => `(tactic| first | exact PcsIn.nil | (refine' PcsIn.one ?mm ?rr; (case mm => k_mem); (case rr => tb_rel)) | (refine' PcsIn.app ?aa ?bb; (case aa => tb_rel); (case bb => tb_rel)) | exact PcsIn.mono (by assumption) (fun q hq => by simp only [List.mem_cons, List.mem_append, hq, true_or, or_true]))
local macro_rules | `(tactic| walk_at "exec For Name Call cons nil") => `(tactic| refine here_ ?_)
local macro_rules | `(tactic| walk_at "exec For") => `(tactic| refine here_ ?_)
local macro_rules | `(tactic| walk_at "pyIter ref") => `(tactic| refine here_ ?_)
local macro_rules | `(tactic| tb_look) => `(tactic| first | exact GA.nil | exact ga_comma | exact ga_key | exact ga_star | assumption | exact GV.toGA (by assumption) | (refine' GA.app ?aa ?bb; (case aa => tb_look); (case bb => tb_look)))
def GM (ps : List Pc) : Prop := GA ps ∧ ps.length ≤ 2
local macro_rules | `(tactic| tb_iter) => `(tactic| first | exact List.forall_mem_nil _ | (refine' List.forall_mem_cons.mpr ⟨?ma, ?mb⟩; (case ma => (refine' ⟨_, _, _, _, rfl, ?mc, ?md, ?me, ?mf⟩; (case mc => k_mem); (case md => tb_rel); (case me => tb_look); (case mf => exact Nat.le_of_ble_eq_true rfl))); (case mb => tb_iter)))
local macro_rules | `(tactic| walk_at "subscriptTail") => `(tactic| ((with_reducible show wpAny _ _ (subscriptTail _ _ (Value.ref _) (Value.int _ _)) _ _ _); k_dflt (refine' menu_at GM ?N ?hl ?hS ?ok ?h0 ?h1 ?hz ?hall ?_ ?hs; (case N => k_asm); (case hl => k_mem); (case ok => assumption); (case hS => k_mem); (case h0 => omega); (case h1 => ((simp only [List.length_cons, List.length_nil]); omega)); (case hz => exact Nat.le_of_ble_eq_true rfl); (case hall => tb_iter); (case hs => with_unfolding_all rfl)); intro b' n' its' ps' seg' N' hpc' hln' hga' hne' hsg'; obtain ⟨hga', hle'⟩ := hga'; (try dsimp only)))
set_option maxRecDepth 100000 in
set_option maxHeartbeats 8000000 in
theorem words_ok (w : World) (p : Program) (loose : List Str) (mean : ExcName → Option Value) (mg mb : Str → Option Value) (hr : Heap)
    (T₀ : Top p loose mean mg mb hr) (X₀ : (hd.heap_39 w.params).In hr) (NX : NextOk w hr) (d : Nat) (hd2 : d ≤ 2) (VK : ValueOk w hr d) : WordsOk w hr d := by
  unfold WordsOk
  revert X₀
  k_fill
  intro X₀ A s S sc vs ns stO i td Q E hC hi hdp hun hh ret
  have hC' := hC
  obtain ⟨hsub, hrS, hS, hsl, hsS, hI, hL, ok⟩ := hC
  refine wpAny_call ?_
  k_dflt (refine' enter X₀ T₀ hsub hrS hS ?k6 ?k7 ?k8 ?k9 ?kB ?_ ?c2 ?c3 ?c4 ?c5; (case k6 => k_is); (case k7 => k_is); (case k8 => ktr_room); (case k9 => exact BindsTo.of_eq rfl); (case c5 => decide); (case kB => exact locs rfl); (case c2 => exact rfl); (case c3 => exact rfl); (case c4 => exact rfl))
  intro g L' h' F' N' X' T' hk hrg
  have P := hC'.px hk hrg
  clear hsl hI
  (try dsimp only)
  (try k_fold)
  k_steps
  refine For_invV g rfl rfl ?_
  (try k_fold)
  k_steps
  rename IsRange _ _ _ _ _ _ _ _ => R9
  rename Fr _ _ _ _ => F9
  rename News _ _ _ _ => N9
  rename StOk _ _ _ => ok9
  have hle0 := LV_le d hd2
  refine iter_rangeJ (fun j m news => ∃ a its ps, Grown S sc ns.length a its ps news ∧ m (Str.ofString "pieces") = some (.ref a) ∧ m (Str.ofString "state") = some (.ref S) ∧ m (Str.ofString "deep") = some (.int i td) ∧ GA ps ∧ ps.length ≤ j * (3 + LV d))
    hh R9 (small_one (by decide) (by decide) (by omega) (by omega)) (rangeSize_nat _ _) F9 (news_mono N9 (l' := [(S, _), (_, lst [] 0)]) ?n0) ⟨_, _, _, ⟨_, _, [], rfl, ok9, .nil, (by intro q hq; cases hq)⟩, rfl, rfl, rfl, GA.nil, Nat.zero_le _⟩ ?turn ?done
  case n0 =>
    intro q hq
    rcases List.mem_cons.mp hq with rfl | hq
    · exact .tail _ (.head _)
    · rw [List.mem_singleton.mp hq]; exact .head _
  case turn =>
    intro j t m₁ news₁ h₉ tk I o hj G9 hoff ho F₁ N₁
    obtain ⟨a, its, ps, G, e1, e2, e3, hG, hlen⟩ := G9
    obtain ⟨stO₁, n₁, seg, N₂, ok₁, PP, hln, hI9, ha9, hsg9⟩ := grown_open N₁ hoff G
    have F₂ := fr_map4 F₁ e1 e2 e3
    have hb : ps.length ≤ 300 := by
      have : j * (3 + LV d) ≤ 3 * (3 + LV d) := Nat.mul_le_mul_right _ (by omega)
      omega
    clear F₁ N₁ F9 N9 R9
    (try k_fold)
    k_steps
    all_goals (
      rename Fr _ _ _ _ => F8
      rename News _ _ _ _ => N8
      rename StOk _ _ _ => ok8
      obtain ⟨_, x1, x2, x3⟩ := grown_end N8 ok8 (by k_mem) (by k_mem) ho (by k_mem) (by tb_rel)
      refine' ⟨_, _, _, _, rfl, F8, x1, x2, _, _, _, x3, rfl, rfl, rfl, ?ga, ?ln⟩
      case ga => tb_look
      case ln =>
        have e9 : (j + 1) * (3 + LV d) = j * (3 + LV d) + (3 + LV d) := Nat.succ_mul _ _
        simp only [List.length_append, List.length_cons, List.length_nil]
        omega)
  case done =>
    intro m₁ news₁ h₉ tk G9 F₁ N₁
    obtain ⟨a, its, ps, ⟨stO₁, n₁, seg, rfl, ok₁, PP, _⟩, e1, e2, e3, hG, hlen⟩ := G9
    have F₂ := fr_map1 F₁ e1
    clear F₁ F9 N9 R9
    (try dsimp only)
    k_steps
    rename Fr _ _ _ _ => F8
    rename News _ _ _ _ => N8
    refine' ret _ _ _ (gives_end hC' F8 N8 ?mm hk hrg ok₁ ?ml ?pcs ⟨hG, ?ln⟩)
    case mm => k_mem
    case ml => k_mem
    case pcs => tb_rel
    case ln =>
      have : (1 + (1 : Int) + 0).toNat ≤ 3 := by decide
      have e8 : LW d = 3 * (3 + LV d) := by unfold LW; omega
      rw [e8]
      refine Nat.le_trans hlen (Nat.mul_le_mul_right _ ?_)
      omega
end Mine
end
theorem Mine.fresh_Pure2 : True ∧ True := by
  w_top off
  walk1 <;> exact True.intro
section
open PySem PySem.W PySem.Spec PySem.Calls PyProof.Rows
set_option Elab.async false
namespace Mine
abbrev par : List Str := [Str.ofString "("]
/-- the parameters so far: as they should be, the bracket still open, a type under way or not -/
def PPa (ps : List Pc) (ann : Bool) : Prop := AllPW ps ∧ okG true ⟨par, false⟩ ps ∧ after true ⟨par, false⟩ ps = ⟨par, ann⟩
theorem pp_nil : PPa [] false := ⟨trivial, trivial, rfl⟩
theorem pp_app {ps qs : List Pc} {ann ann' : Bool} (h : PPa ps ann) (q1 : AllPW qs) (q2 : okG true ⟨par, ann⟩ qs) (q3 : after true ⟨par, ann⟩ qs = ⟨par, ann'⟩) : PPa (ps ++ qs) ann' := by
  obtain ⟨h1, h2, h3⟩ := h
  exact ⟨allPW_append h1 q1, okG_append h2 (by rw [h3]; exact q2), by rw [after_append, h3, q3]⟩
theorem pp_none0 {ps : List Pc} {ann : Bool} (h : PPa ps ann) : PPa (ps ++ []) ann := pp_app h trivial trivial rfl
theorem pp_comma {ps : List Pc} {ann : Bool} (h : PPa ps ann) : PPa (ps ++ [op (Str.ofString ",")]) false :=
  pp_app h ⟨pw_ (by decide) (by decide +kernel), trivial⟩ ⟨(w_op e5).symm, trivial⟩ (by rw [after_cons, s_comma1]; rfl)
theorem pp_p {ps : List Pc} {ann : Bool} (h : PPa ps ann) : PPa (ps ++ [nm (Str.ofString "p")]) ann :=
  pp_app h ⟨pw_ (by decide) (by decide +kernel), trivial⟩ ⟨(w_nm (by decide)).symm, trivial⟩ (by rw [after_cons, s_nm (by decide)]; rfl)
theorem s_colon {ann : Bool} {u : Str} : stepG true ⟨par, ann⟩ ⟨54, Str.ofString ":", u⟩ = ⟨par, true⟩ := by
  simp [stepG, step0, close0, o6, c6]
theorem pp_colon {ps : List Pc} {ann : Bool} (h : PPa ps ann) : PPa (ps ++ [op (Str.ofString ":")]) true :=
  pp_app h ⟨pw_ (by decide) (by decide +kernel), trivial⟩ ⟨(w_op e6).symm, trivial⟩ (by rw [after_cons, s_colon]; rfl)
theorem pp_gv {ps qs : List Pc} {ann : Bool} (h : PPa ps ann) (k : GV qs) : PPa (ps ++ qs) ann := by
  obtain ⟨k1, k2⟩ := k.2 true par ann (by simp)
  exact pp_app h k.1 k1 k2
theorem pp_both {ps : List Pc} (h : PPa ps true) : PPa (ps ++ [⟨54, Str.ofString "=", Str.ofString "both"⟩]) true :=
  pp_app h ⟨pw_ (by decide) (by decide +kernel), trivial⟩ ⟨w_both.symm, trivial⟩ (by rw [after_cons, s_eq' (by simp)]; rfl)
theorem pp_none {ps : List Pc} (h : PPa ps false) : PPa (ps ++ [⟨54, Str.ofString "=", Str.ofString "none"⟩]) false :=
  pp_app h ⟨pw_ (by decide) (by decide +kernel), trivial⟩ ⟨(w_none (by simp) (by simp)).symm, trivial⟩ (by rw [after_cons, s_eq' (by simp)]; rfl)
theorem gv_int : GV [nm (Str.ofString "int")] := ⟨⟨pw_ (by decide) (by decide +kernel), trivial⟩, fun d st ann _ => ⟨⟨(w_nm (by decide)).symm, trivial⟩, by rw [after_cons, s_nm (by decide)]; rfl⟩⟩
theorem gv_t : GV [nm (Str.ofString "t"), op (Str.ofString "["), nm (Str.ofString "b"), op (Str.ofString ","), nm (Str.ofString "c"), op (Str.ofString "]")] := by
  refine ⟨⟨pw_ (by decide) (by decide +kernel), pw_ (by decide) (by decide +kernel), pw_ (by decide) (by decide +kernel), pw_ (by decide) (by decide +kernel), pw_ (by decide) (by decide +kernel), pw_ (by decide) (by decide +kernel), trivial⟩, fun d st ann hs => ?_⟩
  have h2 : 2 ≤ (st ++ [Str.ofString "["]).length := by
    cases st with
    | nil => exact absurd rfl hs
    | cons _ _ => simp
  simp only [okG_cons, after_cons, s_open o2, s_nm (show (1 : Int) ≠ 54 by decide), s_comma2 h2, s_close o4 c4 hs, w_op e2, w_op e4, w_op e5, w_nm (show (1 : Int) ≠ 54 by decide), true_and]
  exact ⟨trivial, rfl⟩
end Mine
end
theorem Mine.fresh_Params : True ∧ True := by
  w_top off
  walk1 <;> exact True.intro
section
open PySem PySem.W PySem.Spec PySem.Calls PyProof.Rows
set_option Elab.async false
namespace Mine
local macro_rules | `(tactic| k_units) => `(tactic| ktr_units)
local macro_rules | `(tactic| k_room) => `(tactic| ktr_room)
local macro_rules | `(tactic| k_all) => `(tactic| first | assumption | (refine' List.forall_mem_append.mpr ⟨?a, ?b⟩; (case a => assumption); (case b => k_all)))
local macro_rules | `(tactic| tb_start) => `(tactic| first | (refine' UpdF.head ?a; (case a => k_all)) | (refine' UpdF.tail ?a ?b; (case a => k_ne); (case b => tb_start)) | (refine' UpdF.app ?a ?b; (case a => assumption); (case b => tb_start)))
local macro_rules | `(tactic| walk_at "call ref") => `(tactic| ((with_reducible show wpAny _ _ (call (Value.ref 69) [_, _]) _ _ _); k_dflt (refine' call_next ?a1 ?a2 ?a3 ?a4 ?a5 ?a6 ?a7 ?a8 ?a9 ?a10 ?_; (case a1 => assumption); (case a3 => k_asm); (case a4 => k_asm); (case a2 => assumption); (case a5 => tb_start); (case a6 => assumption); (case a7 => omega); (case a8 => omega); (case a9 => ktr_room); (case a10 => ktr_units)); intro r' tr' h' tk' stO' F' N' ok' hr0' hr1'; (try dsimp only at N'); (try dsimp only); (try k_sweep)))
local macro_rules | `(tactic| walk_at "call ref") => `(tactic| ((with_reducible show wpAny _ _ (call (Value.ref 76) [_, _]) _ _ _); k_dflt (refine' call_value ?a1 ?a2 ?a3 ?a4 ?a5 ?a6 ?a7 ?a9 ?a10 ?a11 ?_; (case a1 => assumption); (case a3 => k_asm); (case a4 => k_asm); (case a2 => assumption); (case a5 => tb_start); (case a6 => assumption); (case a7 => omega); (case a9 => ktr_room); (case a10 => ktr_units); (case a11 => assumption)); intro r' h' tk' stO' its' n' ps' seg' F' N' ok' hne' hsg' hpc' hln' hga' hle'; (try dsimp only at N'); (try dsimp only); (try k_sweep)))
local macro_rules | `(tactic| walk_at "binaryOp Add ref ref") => `(tactic| ((with_reducible show wpAny _ _ (binaryOp _ (Value.ref _) (Value.ref _)) _ _ _); k_dflt (refine' cat_made ?F ?N ?a ?b ?z ?_; (case F => k_asm); (case N => k_asm); (case a => k_mem); (case b => k_mem); (case z => first | decide | ((try simp only [List.length_append, List.length_cons, List.length_nil]); rw [sizeLine_eq]; omega))); intro D' h' F' N' l1; (try k_lt l1); (try k_sweep)))
local macro_rules | `(tactic| k_mem) => `(tactic| first | (with_reducible refine' mem_r ?_; k_mem) | (with_reducible refine' List.mem_append.mpr (Or.inr ?_); k_mem))
local macro_rules | `(tactic| k_lt $h:ident) => `(tactic| k_dflt (replace $h := lt_of_ok $h (by assumption) (by k_mem)))
local macro_rules | `(tactic| tb_rel) => `(tactic| first | exact PcsIn.nil | (refine' PcsIn.one ?mm ?rr; (case mm => k_mem); (case rr => tb_rel)) | (refine' PcsIn.app ?aa ?bb; (case aa => tb_rel); (case bb => tb_rel)) | exact PcsIn.mono (by assumption) (fun q hq => by simp only [List.mem_cons, List.mem_append, hq, true_or, or_true]))
local macro_rules | `(tactic| walk_at "exec For Name Call cons nil") => `(tactic| refine here_ ?_)
local macro_rules | `(tactic| walk_at "exec For") => `(tactic| refine here_ ?_)
local macro_rules | `(tactic| walk_at "pyIter ref") => `(tactic| refine here_ ?_)
local macro_rules | `(tactic| tb_look) => `(tactic| first | exact gv_int | exact gv_t)
local macro_rules | `(tactic| walk_at "unpackItems ref") => `(tactic| (k_dflt (refine' unpackItemsN_ ?k1 ?k2 ?k3 ?k4 ?k5 ?_; (case k1 => k_asm); (case k2 => k_asm); (case k3 => kun_tup); (case k4 => assumption); (case k5 => exact rfl); k_whole); intro h' F' N'; (try k_sweep)))
local macro_rules | `(tactic| ktr_rel) => `(tactic| first | assumption | exact (by assumption : _ → PPa _ false) (by omega) | (refine' pp_none0 ?hh; (case hh => ktr_rel)) | (refine' pp_comma ?hh; (case hh => ktr_rel)) | (refine' pp_p ?hh; (case hh => ktr_rel)) | (refine' pp_colon ?hh; (case hh => ktr_rel)) | (refine' pp_both ?hh; (case hh => ktr_rel)) | (refine' pp_none ?hh; (case hh => ktr_rel)) | (refine' pp_gv ?hh ?kk; (case kk => assumption); (case hh => ktr_rel)))
def GM2 (ps : List Pc) : Prop := GV ps ∧ ps.length ≤ 6
local macro_rules | `(tactic| tb_iter) => `(tactic| first | exact List.forall_mem_nil _ | (refine' List.forall_mem_cons.mpr ⟨?ma, ?mb⟩; (case ma => (refine' ⟨_, _, _, _, rfl, ?mc, ?md, ?me, ?mf⟩; (case mc => k_mem); (case md => tb_rel); (case me => tb_look); (case mf => exact Nat.le_of_ble_eq_true rfl))); (case mb => tb_iter)))
local macro_rules | `(tactic| walk_at "subscriptTail") => `(tactic| ((with_reducible show wpAny _ _ (subscriptTail _ _ (Value.ref _) (Value.int _ _)) _ _ _); k_dflt (refine' menu_at GM2 ?N ?hl ?hS ?ok ?h0 ?h1 ?hz ?hall ?_ ?hs; (case N => k_asm); (case hl => k_mem); (case ok => assumption); (case hS => k_mem); (case h0 => omega); (case h1 => ((simp only [List.length_cons, List.length_nil]); omega)); (case hz => exact Nat.le_of_ble_eq_true rfl); (case hall => tb_iter); (case hs => with_unfolding_all rfl)); intro b' n' its' ps' seg' N' hpc' hln' hga' hne' hsg'; obtain ⟨hga', hle'⟩ := hga'; (try dsimp only)))
def ParamsOk (w : World) (hr : Heap) : Prop :=
  ∀ (A : Around) (s : Shared) (S sc : Addr) (vs : List Value) (ns : List Int) (stO : Obj) (Q E : Value → Shared → Prop),
    Cx hr S sc vs ns s.heap stO → A.depth + 60 < recursionLimit → A.units + 500 < cLine → A.handled = none →
    (∀ r h' tk', Gives hr S sc vs ns s.heap h' r (fun ps => (∃ ann, PPa ps ann) ∧ ps.length ≤ 148) → Q (.ref r) { s with heap := h', toks := tk' }) →
    wpAny (model PySem.Challenge.rw_co0042_01.row.prog w) A (call (.ref 90) [.ref S]) Q E s
set_option maxRecDepth 100000 in
set_option maxHeartbeats 8000000 in
theorem params_ok (w : World) (p : Program) (loose : List Str) (mean : ExcName → Option Value) (mg mb : Str → Option Value) (hr : Heap)
    (T₀ : Top p loose mean mg mb hr) (X₀ : (hd.heap_39 w.params).In hr) (NX : NextOk w hr) (VK : ValueOk w hr 1) : ParamsOk w hr := by
  unfold ParamsOk
  revert X₀
  k_fill
  intro X₀ A s S sc vs ns stO Q E hC hdp hun hh ret
  have hC' := hC
  obtain ⟨hsub, hrS, hS, hsl, hsS, hI, hL, ok⟩ := hC
  refine wpAny_call ?_
  k_dflt (refine' enter X₀ T₀ hsub hrS hS ?k6 ?k7 ?k8 ?k9 ?kB ?_ ?c2 ?c3 ?c4 ?c5; (case k6 => k_is); (case k7 => k_is); (case k8 => ktr_room); (case k9 => exact BindsTo.of_eq rfl); (case c5 => decide); (case kB => exact locs rfl); (case c2 => exact rfl); (case c3 => exact rfl); (case c4 => exact rfl))
  intro g L' h' F' N' X' T' hk hrg
  have P := hC'.px hk hrg
  clear hsl hI
  (try dsimp only)
  (try k_fold)
  k_steps
  refine For_invV g rfl rfl ?_
  (try k_fold)
  k_steps
  rename IsRange _ _ _ _ _ _ _ _ => R9
  rename Fr _ _ _ _ => F9
  rename News _ _ _ _ => N9
  rename StOk _ _ _ => ok9
  have hle0 : LV 1 = 27 := rfl
  refine iter_rangeJ (fun j m news => ∃ a its ps, Grown S sc ns.length a its ps news ∧ m (Str.ofString "pieces") = some (.ref a) ∧ m (Str.ofString "state") = some (.ref S) ∧ m (Str.ofString "state") = some (.ref S) ∧ (∃ ann, PPa ps ann ∧ (j = 0 → ann = false)) ∧ ps.length ≤ j * 37)
    hh R9 (small_one (by decide) (by decide) (by omega) (by omega)) (rangeSize_nat _ _) F9 (news_mono N9 (l' := [(S, _), (_, lst [] 0)]) ?n0) ⟨_, _, _, ⟨_, _, [], rfl, ok9, .nil, (by intro q hq; cases hq)⟩, rfl, rfl, rfl, ⟨false, pp_nil, fun _ => rfl⟩, Nat.zero_le _⟩ ?turn ?done
  case n0 =>
    intro q hq
    rcases List.mem_cons.mp hq with rfl | hq
    · exact .tail _ (.head _)
    · rw [List.mem_singleton.mp hq]; exact .head _
  case turn =>
    intro j t m₁ news₁ h₉ tk I o hj G9 hoff ho F₁ N₁
    obtain ⟨a, its, ps, G, e1, e2, e3, ⟨ann, hG, hG0⟩, hlen⟩ := G9
    obtain ⟨stO₁, n₁, seg, N₂, ok₁, PP, hln, hI9, ha9, hsg9⟩ := grown_open N₁ hoff G
    have F₂ := fr_map4 F₁ e1 e2 e3
    have hb : ps.length ≤ 300 := by omega
    have hG1 : j = 0 → PPa ps false := fun e9 => by have := hG0 e9; subst this; exact hG
    clear hG0
    clear F₁ N₁ F9 N9 R9
    (try k_fold)
    k_steps
    all_goals (
      rename Fr _ _ _ _ => F8
      rename News _ _ _ _ => N8
      rename StOk _ _ _ => ok8
      first
      | (exfalso; omega)
      | (obtain ⟨_, x1, x2, x3⟩ := grown_end N8 ok8 (by k_mem) (by k_mem) ho (by k_mem) (by tb_rel)
         refine' ⟨_, _, _, _, rfl, F8, x1, x2, _, _, _, x3, rfl, rfl, rfl, ⟨_, ?ga, ?g0⟩, ?ln⟩
         case ga => ktr_rel
         case g0 => (intro e9; exact absurd e9 (Nat.succ_ne_zero _))
         case ln => ((simp only [List.length_append, List.length_cons, List.length_nil]); omega)))
  case done =>
    intro m₁ news₁ h₉ tk G9 F₁ N₁
    obtain ⟨a, its, ps, ⟨stO₁, n₁, seg, rfl, ok₁, PP, _⟩, e1, e2, e3, ⟨ann, hG, hG0⟩, hlen⟩ := G9
    have F₂ := fr_map1 F₁ e1
    clear F₁ F9 N9 R9
    (try dsimp only)
    k_steps
    rename Fr _ _ _ _ => F8
    rename News _ _ _ _ => N8
    refine' ret _ _ _ (gives_end hC' F8 N8 ?mm hk hrg ok₁ ?ml ?pcs ⟨⟨ann, hG⟩, ?ln⟩)
    case mm => k_mem
    case ml => k_mem
    case pcs => tb_rel
    case ln => omega
end Mine
end
theorem Mine.fresh_LawD : True ∧ True := by
  w_top off
  walk1 <;> exact True.intro
section
open PySem PySem.W PySem.Spec PySem.Calls PyProof.Rows
set_option Elab.async false
namespace Mine
/-- the law's own def, taken out of the row -/
def lawDef : Stmt := PySem.Challenge.pw_co0042_01.main.body.getD 11 (.Pass ⟨0, 0, 0, 0⟩)
def bodyOf : Stmt → List Stmt
  | .FunctionDef _ _ b _ _ _ _ _ _ _ => b
  | .For _ _ b _ _ => b
  | _ => []
def scopeOf : Stmt → Scope
  | .FunctionDef _ _ _ _ _ _ sc _ _ _ => sc
  | _ => default
def lawScope : Scope := scopeOf lawDef
def lawFor : List Stmt := bodyOf ((bodyOf lawDef).getD 4 (.Pass ⟨0, 0, 0, 0⟩))
def forAt (i : Nat) : Stmt := lawFor.getD i (.Pass ⟨0, 0, 0, 0⟩)
/-- a token: number, word, where it starts and ends -/
structure Tk where
  n : Int
  wd : Str
  c1 : Int
  c2 : Int
/-- a due line: where, which -/
structure Du where
  c : Int
  msg : Str
abbrev m251 : Str := Str.ofString "E251 unexpected spaces around keyword / parameter equals"
abbrev m252 : Str := Str.ofString "E252 missing whitespace around parameter equals"
def duesOf (w : Str) (b : Bool) (c : Int) : List Du := (if w = Str.ofString "none" ∧ b = true then [⟨c, m251⟩] else []) ++ (if w = Str.ofString "both" ∧ b = false then [⟨c, m252⟩] else [])
section
variable {u : Str} {b : Bool} {c : Int}
theorem dues1 (h1 : (u == Str.ofString "none") = true) (h2 : b = true) : duesOf u b c = [⟨c, m251⟩] := by
  have h1 := beq_iff_eq.mp h1; subst h1 h2; simp [duesOf]
theorem dues2 (h1 : (u == Str.ofString "both") = true) (h2 : b = false) : duesOf u b c = [⟨c, m252⟩] := by
  have h1 := beq_iff_eq.mp h1; subst h1 h2; simp [duesOf]
theorem dues3 (h1 : (u == Str.ofString "both") = false) (h2 : b = false) : duesOf u b c = [] := by
  have h1 : ¬ u = Str.ofString "both" := fun e => by rw [e] at h1; simp at h1
  subst h2; simp [duesOf, h1]
theorem dues4 (h1 : (u == Str.ofString "none") = false) (h2 : b = true) : duesOf u b c = [] := by
  have h1 : ¬ u = Str.ofString "none" := fun e => by rw [e] at h1; simp at h1
  subst h2; simp [duesOf, h1]
theorem dues5 (h1 : (u == Str.ofString "none") = false) (h2 : (u == Str.ofString "both") = false) : duesOf u b c = [] := by
  have h1 : ¬ u = Str.ofString "none" := fun e => by rw [e] at h1; simp at h1
  have h2 : ¬ u = Str.ofString "both" := fun e => by rw [e] at h2; simp at h2
  simp [duesOf, h1, h2]
theorem dues_le : (duesOf u b c).length ≤ 2 := by
  unfold duesOf
  rw [List.length_append]
  have : ∀ (p : Prop) [Decidable p] (x : Du), (if p then [x] else []).length ≤ 1 := fun p _ x => by split <;> simp
  exact Nat.add_le_add (this _ _) (this _ _)
end
def blank (b : Bool) : Str := if b = true then Str.ofString " " else Str.ofString ""
structure Acc where
  ln : Str
  T : List Tk
  D : List Du
  fn : Int
  fw : Str
def acc0 : Acc := ⟨Str.ofString "", [], [], 0, Str.ofString ""⟩
def accStep (a : Acc) (p : Pc) (b : Bool) : Acc :=
  ⟨(a.ln ++ blank b) ++ p.wd, a.T ++ [⟨p.n, p.wd, ((a.ln ++ blank b).length : Int), ((a.ln ++ blank b).length : Int) + (p.wd.length : Int)⟩],
    (a.D ++ duesOf a.fw b (a.ln.length : Int)) ++ duesOf p.wt b (a.ln.length : Int), p.n, p.wt⟩
inductive Run : List Pc → Acc → Prop
  | nil : Run [] acc0
  | snoc {ps : List Pc} {a : Acc} {p : Pc} {b : Bool} : Run ps a → (ps = [] → b = false) → (ps ≠ [] → p.n ≠ 54 → a.fn ≠ 54 → b = true) → Run (ps ++ [p]) (accStep a p b)
-- the ledger bears them
def TkIn (news : Led) (v : Value) (k : Tk) : Prop := ∃ t p q a b c a1 a2 b1 b2, v = .ref t ∧ (t, tup [.int k.n a, .str k.wd b, .ref p, .ref q, .str (Str.ofString "") c]) ∈ news ∧ (p, tup [.int 1 a1, .int k.c1 a2]) ∈ news ∧ (q, tup [.int 1 b1, .int k.c2 b2]) ∈ news
def DuIn (news : Led) (v : Value) (d : Du) : Prop := ∃ t q b b1 b2, v = .ref t ∧ (t, tup [.ref q, .str d.msg b]) ∈ news ∧ (q, tup [.int 1 b1, .int d.c b2]) ∈ news
inductive AllIn {α : Type} (R : Value → α → Prop) : List Value → List α → Prop
  | nil : AllIn R [] []
  | cons {v k vs ks} : R v k → AllIn R vs ks → AllIn R (v :: vs) (k :: ks)
theorem AllIn.app {α : Type} {R : Value → α → Prop} {vs ws : List Value} {ks ls : List α} (h : AllIn R vs ks) (k : AllIn R ws ls) : AllIn R (vs ++ ws) (ks ++ ls) := by
  induction h with
  | nil => exact k
  | cons a _ ih => exact .cons a ih
theorem AllIn.mono {α : Type} {R R' : Value → α → Prop} {vs : List Value} {ks : List α} (h : AllIn R vs ks) (m : ∀ v k, R v k → R' v k) : AllIn R' vs ks := by
  induction h with
  | nil => exact .nil
  | cons a _ ih => exact .cons (m _ _ a) ih
theorem AllIn.length {α : Type} {R : Value → α → Prop} {vs : List Value} {ks : List α} (h : AllIn R vs ks) : vs.length = ks.length := by
  induction h with
  | nil => rfl
  | cons _ _ ih => simp [ih]
theorem AllIn.get {α : Type} {R : Value → α → Prop} {vs : List Value} {ks : List α} (h : AllIn R vs ks) : ∀ (i : Nat) (k : α), ks[i]? = some k → ∃ v, vs[i]? = some v ∧ R v k := by
  induction h with
  | nil => intro i k e; cases e
  | cons a _ ih =>
    intro i k e
    cases i with
    | zero => cases e; exact ⟨_, rfl, a⟩
    | succ i => exact ih i k e
theorem TkIn.mono {news news' : Led} {v : Value} {k : Tk} (h : TkIn news v k) (m : ∀ p ∈ news, p.2.cls = .type "tuple" → p ∈ news') : TkIn news' v k := by
  obtain ⟨t, p, q, a, b, c, a1, a2, b1, b2, e, h1, h2, h3⟩ := h
  exact ⟨t, p, q, a, b, c, a1, a2, b1, b2, e, m _ h1 rfl, m _ h2 rfl, m _ h3 rfl⟩
theorem DuIn.mono {news news' : Led} {v : Value} {k : Du} (h : DuIn news v k) (m : ∀ p ∈ news, p.2.cls = .type "tuple" → p ∈ news') : DuIn news' v k := by
  obtain ⟨t, q, b, b1, b2, e, h1, h2⟩ := h
  exact ⟨t, q, b, b1, b2, e, m _ h1 rfl, m _ h2 rfl⟩
theorem PcsIn.get {news : Led} {vs : List Value} {ps : List Pc} (h : PcsIn news vs ps) : ∀ (i : Nat) (p : Pc), ps[i]? = some p → ∃ v, vs[i]? = some v ∧ PcIn news v p := by
  induction h with
  | nil => intro i k e; cases e
  | cons a _ ih =>
    intro i k e
    cases i with
    | zero => cases e; exact ⟨_, rfl, a⟩
    | succ i => exact ih i k e
/-- the law's ledger: the state, the tokens, the due lines, and what lies still -/
def LS (S tA dA sc : Addr) (len : Nat) (base : Led) (T : List Tk) (D : List Du) (news : Led) : Prop :=
  ∃ stO tits tn dits dn seg, news = (S, stO) :: (tA, lst tits tn) :: (dA, lst dits dn) :: seg ∧ StOk sc len stO ∧ AllIn (TkIn seg) tits T ∧ AllIn (DuIn seg) dits D ∧ (∀ p ∈ base, p ∈ seg) ∧ ∀ p ∈ seg, p.1 ≠ S ∧ p.1 ≠ tA ∧ p.1 ≠ dA
def Off (S tA dA : Addr) (l : Led) : Prop := ∀ p ∈ l, p.1 ≠ S ∧ p.1 ≠ tA ∧ p.1 ≠ dA
theorem ls_end {g h : Heap} {L S tA dA sc : Addr} {len tn dn : Nat} {base own big : Led} {T : List Tk} {D : List Du} {stO : Obj} {tits dits : List Value}
    (N : News g L h big) (hS : (S, stO) ∈ big) (ok : StOk sc len stO) (ht : (tA, lst tits tn) ∈ big) (hd : (dA, lst dits dn) ∈ big) (PT : AllIn (TkIn big) tits T) (PD : AllIn (DuIn big) dits D)
    (hb : ∀ p ∈ base, p ∈ big) (ho : ∀ p ∈ own, p ∈ big) (hoff : Off S tA dA base) : ∃ news', News g L h (own ++ news') ∧ LS S tA dA sc len base T D news' := by
  have tl : ∀ p ∈ big, p.2.cls = .type "tuple" → p.1 ≠ S ∧ p.1 ≠ tA ∧ p.1 ≠ dA := fun p hp hc =>
    ⟨cls_ne N hp (q := (S, stO)) hS (by rw [hc, ok.cls]; decide), cls_ne N hp (q := (tA, lst tits tn)) ht (by rw [hc]; show (Value.type "tuple") ≠ Value.type "list"; decide), cls_ne N hp (q := (dA, lst dits dn)) hd (by rw [hc]; show (Value.type "tuple") ≠ Value.type "list"; decide)⟩
  have mem : ∀ p ∈ big, (p.1 ≠ S ∧ p.1 ≠ tA ∧ p.1 ≠ dA) → p ∈ big.filter (fun p => decide (p.1 ≠ S ∧ p.1 ≠ tA ∧ p.1 ≠ dA)) := fun p hp hq => List.mem_filter.mpr ⟨hp, decide_eq_true hq⟩
  refine ⟨(S, stO) :: (tA, lst tits tn) :: (dA, lst dits dn) :: big.filter (fun p => decide (p.1 ≠ S ∧ p.1 ≠ tA ∧ p.1 ≠ dA)), ?_, stO, tits, tn, dits, dn, _, rfl, ok, PT.mono fun v k h => h.mono fun p hp hc => mem p hp (tl p hp hc),
    PD.mono fun v k h => h.mono fun p hp hc => mem p hp (tl p hp hc), fun p hp => mem p (hb p hp) (hoff p hp), fun p hp => of_decide_eq_true (List.mem_filter.mp hp).2⟩
  intro p hp
  rcases List.mem_append.mp hp with hp | hp
  · exact N _ (ho p hp)
  rcases List.mem_cons.mp hp with rfl | hp
  · exact N _ hS
  rcases List.mem_cons.mp hp with rfl | hp
  · exact N _ ht
  rcases List.mem_cons.mp hp with rfl | hp
  · exact N _ hd
  · exact N _ (List.mem_filter.mp hp).1
/-- names and what they hold -/
def Names (m : Str → Option Value) (bs : List (Str × Value)) : Prop := ∀ b ∈ bs, m b.1 = some b.2
def bindL (bs : List (Str × Value)) (m : Str → Option Value) : Str → Option Value := fun y => match bs.lookup y with
  | some v => some v
  | none => m y
theorem names_fr {g h : Heap} {L : Addr} {m : Str → Option Value} {bs : List (Str × Value)} (F : Fr g L h m) (H : Names m bs) : Fr g L h (bindL bs m) := by
  refine fr_map F fun y => ?_
  unfold bindL
  cases e : bs.lookup y with
  | none => rfl
  | some v =>
    show m y = some v
    have : ∀ (l : List (Str × Value)), l.lookup y = some v → ∃ b ∈ l, b.1 = y ∧ b.2 = v := by
      intro l
      induction l with
      | nil => intro q; cases q
      | cons b l ih =>
        intro q
        obtain ⟨x, u⟩ := b
        rw [List.lookup_cons] at q
        cases hx : y == x with
        | true =>
          rw [hx] at q
          exact ⟨(x, u), .head _, (beq_iff_eq.mp hx).symm, Option.some.inj q⟩
        | false =>
          rw [hx] at q
          obtain ⟨b, hb, r⟩ := ih q
          exact ⟨b, .tail _ hb, r⟩
    obtain ⟨b, hb, e1, e2⟩ := this bs e
    rw [← e1, ← e2]; exact H b hb
theorem Names.nil {m : Str → Option Value} : Names m [] := fun _ hb => nomatch hb
theorem Names.cons {m : Str → Option Value} {x : Str} {v : Value} {bs : List (Str × Value)} (h : m x = some v) (k : Names m bs) : Names m ((x, v) :: bs) := fun b hb => by
  rcases List.mem_cons.mp hb with rfl | hb
  · exact h
  · exact k b hb
theorem bindL_eq {m : Str → Option Value} {bs : List (Str × Value)} (H : Names m bs) : bindL bs m = m := by
  funext y
  unfold bindL
  cases e : bs.lookup y with
  | none => rfl
  | some v =>
    show some v = m y
    have : ∀ (l : List (Str × Value)), l.lookup y = some v → ∃ b ∈ l, b.1 = y ∧ b.2 = v := by
      intro l
      induction l with
      | nil => intro q; cases q
      | cons b l ih =>
        intro q
        obtain ⟨x, u⟩ := b
        rw [List.lookup_cons] at q
        cases hx : y == x with
        | true =>
          rw [hx] at q
          exact ⟨(x, u), .head _, (beq_iff_eq.mp hx).symm, Option.some.inj q⟩
        | false =>
          rw [hx] at q
          obtain ⟨b, hb, r⟩ := ih q
          exact ⟨b, .tail _ hb, r⟩
    obtain ⟨b, hb, e1, e2⟩ := this bs e
    rw [← e1, ← e2]; exact (H b hb).symm
theorem names_set {m : Str → Option Value} {b0 bs : List (Str × Value)} {x : Str} {v : Value} (H0 : Names m b0) (H : Names m bs) (hf : ∀ b ∈ bs, b.1 ≠ x) : Names (fun y => if y = x then some v else bindL b0 m y) ((x, v) :: bs) := by
  refine Names.cons (if_pos rfl) fun b hb => ?_
  show (if b.1 = x then some v else bindL b0 m b.1) = some b.2
  rw [if_neg (hf b hb), bindL_eq H0]; exact H b hb
theorem names_skip {m : Str → Option Value} {b0 bs : List (Str × Value)} {x : Str} {v : Value} (H0 : Names m b0) (H : Names m bs) (hf : ∀ b ∈ bs, b.1 ≠ x) : Names (fun y => if y = x then some v else bindL b0 m y) bs := fun b hb => by
  show (if b.1 = x then some v else bindL b0 m b.1) = some b.2
  rw [if_neg (hf b hb), bindL_eq H0]; exact H b hb
theorem fr_skip {g h : Heap} {L : Addr} {m : Str → Option Value} {b0 : List (Str × Value)} {x : Str} {v : Value} (F : Fr g L h (fun y => if y = x then some v else m y)) (H0 : Names m b0) : Fr g L h (fun y => if y = x then some v else bindL b0 m y) := by
  rw [bindL_eq H0]; exact F
theorem Names.sub {m : Str → Option Value} {bs b0 : List (Str × Value)} (H : Names m bs) (k : ∀ b ∈ b0, b ∈ bs) : Names m b0 := fun b hb => H b (k b hb)
/-- sequence: what the first statement leaves -/
theorem cut {M : Model} {A : Around} {E : Value → Shared → Prop} {s : Shared} {env : Env} {st : Stmt} {rest : List Stmt} {Q : Flow → Shared → Prop} (Mid : Shared → Prop)
    (h1 : wpAny M A (exec st env) (fun f s' => Here (f = .next ∧ Mid s')) E s) (h2 : ∀ s', Mid s' → wpAny M A (execs rest env) Q E s') : wpAny M A (execs (st :: rest) env) Q E s := by
  refine wpAny_execs_cons (wpAny_mono h1 (fun f s' h => ?_) fun _ _ x => x)
  obtain ⟨rfl, hm⟩ := h
  exact h2 s' hm
/-- the law's frame between two statements of its loop -/
def St3 (h₀ : Heap) (L S tA dA sc : Addr) (len : Nat) (own base : Led) (bs : List (Str × Value)) (T : List Tk) (D : List Du) (s s' : Shared) : Prop :=
  ∃ h' tk' m' news', s' = { s with heap := h', toks := tk' } ∧ Fr h₀ L h' m' ∧ News h₀ L h' (own ++ news') ∧ LS S tA dA sc len base T D news' ∧ Off S tA dA base ∧ Names m' bs
/-- a walk's end as such a frame -/
theorem st3_end {h₀ h : Heap} {L S tA dA sc : Addr} {len tk tn dn : Nat} {own base big : Led} {bs : List (Str × Value)} {T : List Tk} {D : List Du} {s : Shared} {m : Str → Option Value} {stO : Obj} {tits dits : List Value}
    (F : Fr h₀ L h m) (N : News h₀ L h big) (hS : (S, stO) ∈ big) (ok : StOk sc len stO) (ht : (tA, lst tits tn) ∈ big) (hd : (dA, lst dits dn) ∈ big) (PT : AllIn (TkIn big) tits T) (PD : AllIn (DuIn big) dits D)
    (hb : ∀ p ∈ base, p ∈ big) (ho : ∀ p ∈ own, p ∈ big) (hoff : Off S tA dA base) (hn : Names m bs) : St3 h₀ L S tA dA sc len own base bs T D s { s with heap := h, toks := tk } := by
  obtain ⟨news', n1, n2⟩ := ls_end N hS ok ht hd PT PD hb ho hoff
  exact ⟨h, tk, m, news', rfl, F, n1, n2, hoff, hn⟩
theorem off_tup {g h : Heap} {L S tA dA sc : Addr} {len tn dn : Nat} {base big : Led} {stO : Obj} {tits dits : List Value} {t : Addr} {its : List Value}
    (N : News g L h big) (hS : (S, stO) ∈ big) (ok : StOk sc len stO) (ht : (tA, lst tits tn) ∈ big) (hd : (dA, lst dits dn) ∈ big) (hp : (t, tup its) ∈ big) (hoff : Off S tA dA base) : Off S tA dA ((t, tup its) :: base) := by
  intro p hp'
  rcases List.mem_cons.mp hp' with rfl | hp'
  · exact ⟨cls_ne N hp (q := (S, stO)) hS (by rw [ok.cls]; show (Value.type "tuple") ≠ Value.type "list"; decide), cls_ne N hp (q := (tA, lst tits tn)) ht (by show (Value.type "tuple") ≠ Value.type "list"; decide), cls_ne N hp (q := (dA, lst dits dn)) hd (by show (Value.type "tuple") ≠ Value.type "list"; decide)⟩
  · exact hoff p hp'
theorem TkIn.sub {news news' : Led} {vs : List Value} {T : List Tk} (h : AllIn (TkIn news) vs T) (k : ∀ p ∈ news, p ∈ news') : AllIn (TkIn news') vs T := h.mono fun _ _ r => r.mono fun p hp _ => k p hp
theorem DuIn.sub {news news' : Led} {vs : List Value} {D : List Du} (h : AllIn (DuIn news) vs D) (k : ∀ p ∈ news, p ∈ news') : AllIn (DuIn news') vs D := h.mono fun _ _ r => r.mono fun p hp _ => k p hp
theorem ls_open {g h : Heap} {L S tA dA sc : Addr} {len : Nat} {own base news : Led} {T : List Tk} {D : List Du} (N : News g L h (own ++ news)) (hoff : Off S tA dA own) (H : LS S tA dA sc len base T D news) :
    ∃ stO tits tn dits dn R, News g L h ((S, stO) :: (tA, lst tits tn) :: (dA, lst dits dn) :: R) ∧ StOk sc len stO ∧ AllIn (TkIn R) tits T ∧ AllIn (DuIn R) dits D ∧ (∀ p ∈ base, p ∈ R) ∧ (∀ p ∈ own, p ∈ R) ∧ (∀ p ∈ R, p.1 ≠ S) ∧ (∀ p ∈ R, p.1 ≠ tA) ∧ (∀ p ∈ R, p.1 ≠ dA) := by
  obtain ⟨stO, tits, tn, dits, dn, seg, rfl, ok, PT, PD, hb, ho⟩ := H
  have off : Off S tA dA (own ++ seg) := fun p hp => (List.mem_append.mp hp).elim (hoff p) (ho p)
  refine ⟨stO, tits, tn, dits, dn, own ++ seg, ?_, ok, TkIn.sub PT fun p hp => List.mem_append_right _ hp, DuIn.sub PD fun p hp => List.mem_append_right _ hp, fun p hp => List.mem_append_right _ (hb p hp), fun p hp => List.mem_append_left _ hp, fun p hp => (off p hp).1, fun p hp => (off p hp).2.1, fun p hp => (off p hp).2.2⟩
  intro p hp
  rcases List.mem_cons.mp hp with rfl | hp
  · exact N _ (List.mem_append_right _ (.head _))
  rcases List.mem_cons.mp hp with rfl | hp
  · exact N _ (List.mem_append_right _ (.tail _ (.head _)))
  rcases List.mem_cons.mp hp with rfl | hp
  · exact N _ (List.mem_append_right _ (.tail _ (.tail _ (.head _))))
  · rcases List.mem_append.mp hp with hp | hp
    · exact N _ (List.mem_append_left _ hp)
    · exact N _ (List.mem_append_right _ (.tail _ (.tail _ (.tail _ hp))))
theorem news_put {g h : Heap} {L : Addr} {x a b c : Addr × Obj} {R : Led} (N : News g L h (a :: b :: c :: R)) (hx : x ∈ R) : News g L h (a :: b :: c :: x :: R) := fun p hp => by
  rcases List.mem_cons.mp hp with rfl | hp
  · exact N _ (.head _)
  rcases List.mem_cons.mp hp with rfl | hp
  · exact N _ (.tail _ (.head _))
  rcases List.mem_cons.mp hp with rfl | hp
  · exact N _ (.tail _ (.tail _ (.head _)))
  rcases List.mem_cons.mp hp with rfl | hp
  · exact N _ (.tail _ (.tail _ (.tail _ hx)))
  · exact N _ (.tail _ (.tail _ (.tail _ hp)))
/-- an item of a made list at a reckoned place -/
theorem item_made {prog : Program} {w : World} {A : Around} {E Q : Value → Shared → Prop} {s : Shared} {g : Heap} {L l : Addr} {n : Nat} {news : Led} {items : List Value} {k : Int} {u : Tok} {v : Value} {value slice : PySem.Expr}
    (N : News g L s.heap news) (hl : (l, lst items n) ∈ news) (h0 : 0 ≤ k) (hz : k < 2 ^ 62) (hx : items[k.toNat]? = some v) (h : Q v s)
    (hs : subscripted slice false (.ref l) (.int k u) = operate [.ref l, .int k u] (getItem (.ref l) (.int k u)) := by with_unfolding_all rfl) :
    wpAny (model prog w) A (subscriptTail value slice (.ref l) (.int k u)) Q E s := by
  have la : s.heap.IsList l items.toArray := ⟨_, (N _ hl).1, rfl, n, rfl⟩
  exact tail_any la.typeIs slot_list_getitem.lookup (wpAny_getItem_list la h0 (by omega) (by rw [List.getElem?_toArray]; exact hx) h) hs
theorem call_nextL {w : World} {A : Around} {Q E : Value → Shared → Prop} {s : Shared} {g : Heap} {S sc L : Addr} {vs : List Value} {ns : List Int} {stO : Obj} {m : Str → Option Value} {news : Led} {f : Obj → Led} {k : Nat} {many : Int} {tm : Nat}
    (NX : NextOk w g) (F : Fr g L s.heap m) (N : News g L s.heap news) (U : UpdF S stO news f) (ok : StOk sc ns.length stO) (hsc : (sc, lst vs k) ∈ news) (sS : sc ≠ S) (hI : IntsAre vs ns) (hL : ns.length ≤ 50)
    (h0 : 0 < many) (h1 : many ≤ 5) (hd : A.depth + 10 < recursionLimit) (hu : A.units + 80 < cLine)
    (ret : ∀ (r : Int) tr h' tk' stO', Fr g L h' m → News g L h' (f stO') → StOk sc ns.length stO' → 0 ≤ r → r < many → Q (.int r tr) { s with heap := h', toks := tk' }) :
    wpAny (model PySem.Challenge.rw_co0042_01.row.prog w) A (call (.ref 69) [.ref S, .int many tm]) Q E s :=
  NX A s S sc vs ns stO many tm Q E ⟨F.keep, (N _ U.mem).2.2, (N _ U.mem).1, ⟨_, (N _ hsc).1, rfl, k, rfl⟩, sS, hI, hL, ok⟩ h0 h1 hd hu fun r tr h' tk' stO' C X r0 r1 =>
    ret r tr h' tk' stO' (fr_ext F N U.mem X) (news_ext N U X C.atS) C.okS r0 r1
/-- as ls_end, with places that are to be left out -/
theorem ls_endX {g h : Heap} {L S tA dA sc : Addr} {len tn dn : Nat} {base own big : Led} {T : List Tk} {D : List Du} {stO : Obj} {tits dits : List Value} (X : List Addr)
    (N : News g L h big) (hS : (S, stO) ∈ big) (ok : StOk sc len stO) (ht : (tA, lst tits tn) ∈ big) (hd : (dA, lst dits dn) ∈ big) (PT : AllIn (TkIn big) tits T) (PD : AllIn (DuIn big) dits D)
    (hb : ∀ p ∈ base, p ∈ big) (ho : ∀ p ∈ own, p ∈ big) (hoff : Off S tA dA base) (hX : ∀ x ∈ X, ∃ o, (x, o) ∈ big ∧ o.cls ≠ .type "tuple" ∧ o.cls ≠ .type "list") (hbX : ∀ p ∈ base, p.1 ∉ X) :
    ∃ news', News g L h (own ++ news') ∧ LS S tA dA sc len base T D news' ∧ ∀ p ∈ news', p.1 ∉ X := by
  obtain ⟨news', n1, n2⟩ := ls_end (own := []) N hS ok ht hd PT PD hb (by intro p hp; cases hp) hoff
  obtain ⟨stO', tits', tn', dits', dn', seg, rfl, ok', PT', PD', hb', ho'⟩ := n2
  have n1' : News g L h ((S, stO') :: (tA, lst tits' tn') :: (dA, lst dits' dn') :: seg) := n1
  have out : ∀ x ∈ X, ∀ q ∈ (S, stO') :: (tA, lst tits' tn') :: (dA, lst dits' dn') :: seg, (q.2.cls = .type "tuple" ∨ q.2.cls = .type "list") → q.1 ≠ x := by
    rintro x hx q hq hc e
    obtain ⟨o, hm, c1, c2⟩ := hX x hx
    have z := (N _ hm).1
    have y := (n1' q hq).1
    rw [e, z] at y
    have : o = q.2 := Option.some.inj y
    rcases hc with hc | hc
    · exact c1 (this ▸ hc)
    · exact c2 (this ▸ hc)
  have keep : ∀ p ∈ seg, p.1 ∉ X → p ∈ seg.filter (fun p => decide (p.1 ∉ X)) := fun p hp hx => List.mem_filter.mpr ⟨hp, decide_eq_true hx⟩
  have tl : ∀ p ∈ seg, p.2.cls = .type "tuple" → p.1 ∉ X := fun p hp hc hx => out _ hx p (.tail _ (.tail _ (.tail _ hp))) (.inl hc) rfl
  refine ⟨(S, stO') :: (tA, lst tits' tn') :: (dA, lst dits' dn') :: seg.filter (fun p => decide (p.1 ∉ X)), ?_, ⟨stO', tits', tn', dits', dn', _, rfl, ok', PT'.mono fun v k r => r.mono fun p hp hc => keep p hp (tl p hp hc), PD'.mono fun v k r => r.mono fun p hp hc => keep p hp (tl p hp hc), fun p hp => keep p (hb' p hp) (hbX p hp), fun p hp => ho' p (List.mem_filter.mp hp).1⟩, ?_⟩
  · intro p hp
    rcases List.mem_append.mp hp with hp | hp
    · exact N _ (ho p hp)
    · refine n1' p ?_
      rcases List.mem_cons.mp hp with rfl | hp
      · exact .head _
      rcases List.mem_cons.mp hp with rfl | hp
      · exact .tail _ (.head _)
      rcases List.mem_cons.mp hp with rfl | hp
      · exact .tail _ (.tail _ (.head _))
      · exact .tail _ (.tail _ (.tail _ (List.mem_filter.mp hp).1))
  · intro p hp hx
    rcases List.mem_cons.mp hp with rfl | hp
    · exact out _ hx _ (.head _) (.inr ok'.cls) rfl
    rcases List.mem_cons.mp hp with rfl | hp
    · exact out _ hx _ (.tail _ (.head _)) (.inr rfl) rfl
    rcases List.mem_cons.mp hp with rfl | hp
    · exact out _ hx _ (.tail _ (.tail _ (.head _))) (.inr rfl) rfl
    · exact of_decide_eq_true (List.mem_filter.mp hp).2 hx
section
variable {prog : Program} {w : World} {A : Around} {E : Value → Shared → Prop} {s : Shared} {env : Env} {h₀ : Heap} {x : Str} {body : List Stmt} {Q : Flow → Shared → Prop}
/-- a loop over a made tuple -/
theorem iter_tupJ {t : Addr} {items : List Value} {m₀ : Str → Option Value} {news news₀ : Led} (J : Nat → (Str → Option Value) → Led → Prop)
    (hh : A.handled = none) (F : Fr h₀ env.locals s.heap m₀) (N : News h₀ env.locals s.heap news) (ht : (t, tup items) ∈ news) (hsub : ∀ p ∈ news₀, p ∈ news) (hj : J 0 m₀ news₀)
    (turn : ∀ (i : Nat) v m₁ news₁ h tk I own, items[i]? = some v → J i m₁ news₁ → (∀ p ∈ news₁, p.1 ≠ I) → (∃ o, (I, o) ∈ own ∧ o.cls = .type "tuple_iterator") → (∀ p ∈ own, p.2.cls = .type "tuple_iterator" ∨ p.2.cls = .type "tuple") → Fr h₀ env.locals h (fun y => if y = x then some v else m₁ y) → News h₀ env.locals h (own ++ news₁) →
      wpAny (model prog w) A (execs body env) (fun f s₂ => Here (f = .next ∧ ∃ h' tk' m' news', s₂ = { s with heap := h', toks := tk' } ∧ Fr h₀ env.locals h' m' ∧ News h₀ env.locals h' (own ++ news') ∧ (∀ p ∈ news', p.1 ≠ I) ∧ J (i + 1) m' news')) E { s with heap := h, toks := tk })
    (done : ∀ m₁ news₁ h tk, J items.length m₁ news₁ → Fr h₀ env.locals h m₁ → News h₀ env.locals h news₁ → Q .next { s with heap := h, toks := tk }) :
    wpAny (model prog w) A (pyIter (.ref t)) (fun it s₂ => LoopAtV prog w A h₀ env x body Q E it s₂) E s := by
  have hT : s.heap.IsTuple t items.toArray := ⟨_, (N _ ht).1, rfl, _, rfl⟩
  refine wpAny_pyIter_tuple hT ?_
  have lt : t < s.heap.objs.size := Heap.lt_size (N _ ht).1
  have W := Walks.tuple (prog := prog) (w := w) hh s.heap.objs.size t (Nat.ne_of_lt lt) items.toArray
  have hsz : items.toArray.size = items.length := List.size_toArray
  rw [hsz] at W
  refine ⟨_, _, _, items.length, _, _, m₀, news₀, J, rfl, W, ?_, ?_, ?_, ⟨⟨_, Heap.get?_push_size _ rfl, rfl, rfl⟩, ⟨_, Heap.get?_push_of_some _ (N _ ht).1, rfl, _, rfl⟩⟩, F.push _, (fun p hp => ⟨Heap.get?_push_of_some _ (N p (hsub p hp)).1, (N p (hsub p hp)).2⟩), hj, ?_, ?_⟩
  · intro hm
    rcases List.mem_cons.mp hm with e | hm
    · exact absurd F.ns.lt (e ▸ Nat.lt_irrefl _)
    · exact (N _ ht).2.1 (List.mem_singleton.mp hm).symm
  · intro b hb
    rw [List.mem_singleton.mp hb]
    exact next_is_new F
  · intro p hp hI
    exact absurd (Heap.lt_size (N p (hsub p hp)).1) ((List.mem_singleton.mp hI) ▸ Nat.lt_irrefl _)
  · rintro i v m₁ news₁ s₁ own ⟨hh', tk', rfl⟩ hin hP hJ hoff hown hmem hall hst F₁ N₁
    obtain ⟨⟨oI, hoI, hcI, _⟩, ⟨oT, hoT, hcT, _⟩⟩ := hst
    have hI := hall _ (.head _) (next_is_new F) _ hoI
    have all1 : ∀ p ∈ own, p.2.cls = .type "tuple_iterator" ∨ p.2.cls = .type "tuple" := fun p hp => by
      have e2 : hh'.get? p.1 = some p.2 := hmem p hp
      rcases List.mem_cons.mp (hown p hp) with e1 | e1
      · rw [e1, hoI] at e2; rw [← Option.some.inj e2]; exact .inl hcI
      · rw [List.mem_singleton.mp e1, hoT] at e2; rw [← Option.some.inj e2]; exact .inr hcT
    have hoff' : ∀ p ∈ news₁, p.1 ≠ s.heap.objs.size := fun p hp e => hoff p hp (by rw [e]; exact .head _)
    have hP' : items[i]? = some v := by rw [← hP]; exact List.getElem?_toArray.symm
    refine wpAny_mono (turn i v m₁ news₁ hh' tk' s.heap.objs.size own hP' hJ hoff' ⟨oI, hI, hcI⟩ all1 F₁ N₁) (fun f s₂ p => ?_) fun _ _ e => e
    obtain ⟨rfl, h', tk, m', news', e, F', N', ho, hm⟩ := p
    exact .next ⟨rfl, h', tk, m', news', e, F', N', fun p hp hq => ho p hp (List.mem_singleton.mp hq), hm⟩
  · rintro h' tk m' news' F' N' _ hJ
    exact done m' news' h' tk hJ F' N'
end
/-- a list of the ledger grows by one -/
theorem app_made {prog : Program} {w : World} {A : Around} {E Q : Value → Shared → Prop} {s : Shared} {g : Heap} {L D : Addr} {n : Nat} {m : Str → Option Value} {news : Led} {f : Obj → Led} {its : List Value} {x : Value}
    (F : Fr g L s.heap m) (N : News g L s.heap news) (U : UpdF D (lst its n) news f) (hz : its.length ≤ 100000)
    (h : ∀ h', Fr g L h' m → News g L h' (f (lst (its ++ [x]) (n + 1))) → Q .none { s with heap := h' }) : wpAny (model prog w) A (call (.builtin "list.append") [.ref D, x]) Q E s := by
  have z := N _ U.mem
  refine append_at (its := its.toArray) (n := n) (hsz := by rw [List.size_toArray, sizeLine_eq]; omega) z.1 fun h' hs ho' => h h' (F.change hs z.2.1 z.2.2) fun p hp => ?_
  rcases U.new _ p hp with rfl | ⟨hp, hne⟩
  · refine ⟨?_, z.2⟩
    rw [ho']; simp
  · exact ⟨(hs.2 _ hne).trans (N p hp).1, (N p hp).2⟩
end Mine
end
theorem Mine.fresh_S1 : True ∧ True := by
  w_top off
  walk1 <;> exact True.intro
section
open PySem PySem.W PySem.Spec PySem.Calls PyProof.Rows
set_option Elab.async false
namespace Mine
local macro_rules | `(tactic| walk_at "call ref") => `(tactic| ((with_reducible show wpAny _ _ (call (Value.ref 69) [_, _]) _ _ _); k_dflt (refine' call_nextL ?a1 ?a3 ?a4 ?a5 ?a6 ?b1 ?b2 ?b3 ?b4 ?a7 ?a8 ?a9 ?a10 ?_; (case a1 => assumption); (case a3 => k_asm); (case a4 => k_asm); (case a5 => tb_start); (case a6 => assumption); (case b1 => k_mem); (case b2 => assumption); (case b3 => assumption); (case b4 => assumption); (case a7 => omega); (case a8 => omega); (case a9 => ktr_room); (case a10 => ktr_units)); intro r' tr' h' tk' stO' F' N' ok' hr0' hr1'; (try dsimp only at N'); (try dsimp only); (try k_sweep)))
local macro_rules | `(tactic| k_units) => `(tactic| ktr_units)
local macro_rules | `(tactic| k_room) => `(tactic| ktr_room)
local macro_rules | `(tactic| k_all) => `(tactic| first | assumption | (refine' List.forall_mem_append.mpr ⟨?a, ?b⟩; (case a => assumption); (case b => k_all)))
local macro_rules | `(tactic| tb_start) => `(tactic| first | (refine' UpdF.head ?a; (case a => k_all)) | (refine' UpdF.tail ?a ?b; (case a => k_ne); (case b => tb_start)) | (refine' UpdF.app ?a ?b; (case a => assumption); (case b => tb_start)))
local macro_rules | `(tactic| walk_at "binaryOp Add ref ref") => `(tactic| ((with_reducible show wpAny _ _ (binaryOp _ (Value.ref _) (Value.ref _)) _ _ _); k_dflt (refine' cat_made ?F ?N ?a ?b ?z ?_; (case F => k_asm); (case N => k_asm); (case a => k_mem); (case b => k_mem); (case z => first | decide | ((try simp only [List.length_append, List.length_cons, List.length_nil]); rw [sizeLine_eq]; omega))); intro D' h' F' N' l1; (try k_lt l1); (try k_sweep)))
local macro_rules | `(tactic| k_mem) => `(tactic| first | (with_reducible refine' mem_r ?_; k_mem) | (with_reducible refine' List.mem_append.mpr (Or.inr ?_); k_mem))
local macro_rules | `(tactic| tb_rel) => `(tactic| first | exact PcsIn.nil | (refine' PcsIn.one ?mm ?rr; (case mm => k_mem); (case rr => tb_rel)) | (refine' PcsIn.app ?aa ?bb; (case aa => tb_rel); (case bb => tb_rel)) | exact PcsIn.mono (by assumption) (fun q hq => by simp only [List.mem_cons, List.mem_append, hq, true_or, or_true]))
local macro_rules | `(tactic| tb_lt) => `(tactic| (intro p hp; simp only [List.mem_cons, List.mem_append, hp, or_true, true_or]))
abbrev lawEnv (L fa : Addr) (cd : Value) : Env := envOf (Str.ofString "law") lawScope L fa cd
local macro_rules | `(tactic| walk_at "subscriptTail") => `(tactic| refine here_ ?_)
set_option maxRecDepth 100000 in
set_option maxHeartbeats 8000000 in
theorem stage1 (w : World) (p : Program) (loose : List Str) (mean : ExcName → Option Value) (mg mb : Str → Option Value) (h₀ : Heap)
    (T₀ : Top p loose mean mg mb h₀) (X₀ : (hd.heap_39 w.params).In h₀)
    (A : Around) (s : Shared) (L fa : Addr) (cd : Value) (E : Value → Shared → Prop) (own base news : Led) (S tA dA sc pA : Addr) (len n j : Nat) (its : List Value) (ps : List Pc) (T : List Tk) (D : List Du) (m : Str → Option Value) (bs : List (Str × Value)) (tk : Tok)
    (F : Fr h₀ L s.heap m) (N : News h₀ L s.heap (own ++ news)) (H : LS S tA dA sc len base T D news) (hown : Off S tA dA own) (hoff : Off S tA dA base) (hn : Names m bs)
    (hbs : Names m [(Str.ofString "k", .int j tk), (Str.ofString "pieces", .ref pA)]) (hf : ∀ b ∈ bs, b.1 ≠ Str.ofString "former")
    (hp : (pA, lst its n) ∈ base) (hP : PcsIn base its ps) (hj : j < ps.length) (hz : ps.length ≤ 400) :
    wpAny (model PySem.Challenge.rw_co0042_01.row.prog w) A (exec (forAt 0) (lawEnv L fa cd)) (fun f s' => Here (f = .next ∧ ∃ t fn fx fw a b c, St3 h₀ L S tA dA sc len own ((t, tup [.int fn a, .str fx b, .str fw c]) :: base) ((Str.ofString "former", .ref t) :: bs) T D s s' ∧ (j = 0 → fn = 0 ∧ fw = Str.ofString "") ∧ (∀ i, j = i + 1 → ps[i]? = some ⟨fn, fx, fw⟩))) E s := by
  revert X₀
  k_fill
  intro X₀
  obtain ⟨stO, tits, tn, dits, dn, R, N₁, ok, PT, PD, hb, ho, r1, r2, r3⟩ := ls_open N hown H
  have N₂ := news_put N₁ (hb _ hp)
  have F₂ := names_fr F hbs
  clear F N N₁
  dsimp only [lawEnv, lawScope, scopeOf, forAt, lawFor, lawDef, PySem.Challenge.pw_co0042_01, bodyOf, List.getD, List.getD_cons_succ, List.getD_cons_zero, List.getElem?_cons_succ, List.getElem?_cons_zero, Option.getD]
  (try k_fold)
  k_steps
  · show wpAny _ _ _ _ _ _
    rename (0 < (j : Int)) => hj0
    obtain ⟨i, rfl⟩ : ∃ i, j = i + 1 := ⟨j - 1, by omega⟩
    have hi : i < ps.length := by omega
    obtain ⟨v, hv, t, a, b, c, rfl, ht⟩ := hP.get i ps[i] (List.getElem?_eq_getElem hi)
    have e9 : ((i + 1 : Nat) : Int) - 1 = (i : Int) := by omega
    refine item_made (by k_asm) (hl := by k_mem) (by omega) (by omega) (v := .ref t) (by rw [e9]; exact hv) ?_
    k_steps
    rename Fr _ _ _ _ => F9
    rename News _ _ _ _ => N9
    have hR : ∀ q ∈ R, q ∈ (S, stO) :: (tA, lst tits tn) :: (dA, lst dits dn) :: (pA, lst its n) :: R := by tb_lt
    have ht9 := hR _ (hb _ ht)
    show _ ∧ _
    refine ⟨rfl, t, _, _, _, a, b, c, st3_end F9 N9 (by k_mem) ok (by k_mem) (by k_mem) (TkIn.sub PT hR) (DuIn.sub PD hR) (fun q hq => ?_) (fun q hq => hR q (ho q hq)) (off_tup N9 (.head _) ok (.tail _ (.head _)) (.tail _ (.tail _ (.head _))) ht9 hoff) (names_set hbs hn hf), fun e => absurd e (Nat.succ_ne_zero _), fun i' e => ?_⟩
    · rcases List.mem_cons.mp hq with rfl | hq
      · exact ht9
      · exact hR q (hb q hq)
    · have : i = i' := by omega
      rw [← this]
      exact List.getElem?_eq_getElem hi
  · rename Fr _ _ _ _ => F9
    rename News _ _ _ _ => N9
    rename (¬ 0 < (j : Int)) => hj0
    show _ ∧ _
    refine ⟨trivial, _, 0, Str.ofString "", Str.ofString "", _, _, _, st3_end F9 N9 (by k_mem) ok (by k_mem) (by k_mem) (TkIn.sub PT (by tb_lt)) (DuIn.sub PD (by tb_lt)) (fun q hq => ?_) (fun q hq => by have := ho q hq; simp only [List.mem_cons, this, or_true]) (off_tup N9 (.tail _ (.head _)) ok (.tail _ (.tail _ (.head _))) (.tail _ (.tail _ (.tail _ (.head _)))) (.head _) hoff) (names_set hbs hn hf), fun e => ⟨rfl, rfl⟩, fun i' e => by omega⟩
    rcases List.mem_cons.mp hq with rfl | hq
    · exact .head _
    · have := hb q hq; simp only [List.mem_cons, this, or_true]
end Mine
end
theorem Mine.fresh_S2 : True ∧ True := by
  w_top off
  walk1 <;> exact True.intro
section
open PySem PySem.W PySem.Spec PySem.Calls PyProof.Rows
set_option Elab.async false
namespace Mine
local macro_rules | `(tactic| walk_at "call ref") => `(tactic| ((with_reducible show wpAny _ _ (call (Value.ref 69) [_, _]) _ _ _); k_dflt (refine' call_nextL ?a1 ?a3 ?a4 ?a5 ?a6 ?b1 ?b2 ?b3 ?b4 ?a7 ?a8 ?a9 ?a10 ?_; (case a1 => assumption); (case a3 => k_asm); (case a4 => k_asm); (case a5 => tb_start); (case a6 => assumption); (case b1 => k_mem); (case b2 => assumption); (case b3 => assumption); (case b4 => assumption); (case a7 => omega); (case a8 => omega); (case a9 => ktr_room); (case a10 => ktr_units)); intro r' tr' h' tk' stO' F' N' ok' hr0' hr1'; (try dsimp only at N'); (try dsimp only); (try k_sweep)))
local macro_rules | `(tactic| k_units) => `(tactic| ktr_units)
local macro_rules | `(tactic| k_room) => `(tactic| ktr_room)
local macro_rules | `(tactic| k_all) => `(tactic| first | assumption | (refine' List.forall_mem_append.mpr ⟨?a, ?b⟩; (case a => assumption); (case b => k_all)))
local macro_rules | `(tactic| tb_start) => `(tactic| first | (refine' UpdF.head ?a; (case a => k_all)) | (refine' UpdF.tail ?a ?b; (case a => k_ne); (case b => tb_start)) | (refine' UpdF.app ?a ?b; (case a => assumption); (case b => tb_start)))
local macro_rules | `(tactic| walk_at "binaryOp Add ref ref") => `(tactic| ((with_reducible show wpAny _ _ (binaryOp _ (Value.ref _) (Value.ref _)) _ _ _); k_dflt (refine' cat_made ?F ?N ?a ?b ?z ?_; (case F => k_asm); (case N => k_asm); (case a => k_mem); (case b => k_mem); (case z => first | decide | ((try simp only [List.length_append, List.length_cons, List.length_nil]); rw [sizeLine_eq]; omega))); intro D' h' F' N' l1; (try k_lt l1); (try k_sweep)))
local macro_rules | `(tactic| k_mem) => `(tactic| first | (with_reducible refine' mem_r ?_; k_mem) | (with_reducible refine' List.mem_append.mpr (Or.inr ?_); k_mem))
local macro_rules | `(tactic| tb_rel) => `(tactic| first | exact PcsIn.nil | (refine' PcsIn.one ?mm ?rr; (case mm => k_mem); (case rr => tb_rel)) | (refine' PcsIn.app ?aa ?bb; (case aa => tb_rel); (case bb => tb_rel)) | exact PcsIn.mono (by assumption) (fun q hq => by simp only [List.mem_cons, List.mem_append, hq, true_or, or_true]))
local macro_rules | `(tactic| tb_lt) => `(tactic| (intro p hp; simp only [List.mem_cons, List.mem_append, hp, or_true, true_or]))
set_option maxRecDepth 100000 in
set_option maxHeartbeats 8000000 in
theorem stage2 (w : World) (p : Program) (loose : List Str) (mean : ExcName → Option Value) (mg mb : Str → Option Value) (h₀ : Heap)
    (T₀ : Top p loose mean mg mb h₀) (X₀ : (hd.heap_39 w.params).In h₀) (NX : NextOk w h₀)
    (A : Around) (s : Shared) (L fa : Addr) (cd : Value) (E : Value → Shared → Prop) (own base news : Led) (S tA dA sc t : Addr) (n j a b c kk t1 : Nat) (pn fn : Int) (fx fw : Str) (vs : List Value) (ns : List Int) (T : List Tk) (D : List Du) (m : Str → Option Value) (bs : List (Str × Value)) (tk : Tok)
    (F : Fr h₀ L s.heap m) (N : News h₀ L s.heap (own ++ news)) (H : LS S tA dA sc ns.length base T D news) (hown : Off S tA dA own) (hoff : Off S tA dA base) (hn : Names m bs)
    (hbs : Names m [(Str.ofString "k", .int j tk), (Str.ofString "number", .int pn t1), (Str.ofString "former", .ref t), (Str.ofString "state", .ref S)]) (hf : ∀ b ∈ bs, b.1 ≠ Str.ofString "wide")
    (hp : (t, tup [.int fn a, .str fx b, .str fw c]) ∈ base) (hsc : (sc, lst vs kk) ∈ base) (sS : @Ne Nat sc S) (d1 : @Ne Nat tA S) (d2 : @Ne Nat dA S) (hI : IntsAre vs ns) (hL : ns.length ≤ 50)
    (hd : A.depth + 20 < recursionLimit) (hu : A.units + 200 < cLine) :
    wpAny (model PySem.Challenge.rw_co0042_01.row.prog w) A (exec (forAt 1) (lawEnv L fa cd)) (fun f s' => Here (f = .next ∧ ∃ b, St3 h₀ L S tA dA sc ns.length own base ((Str.ofString "wide", .bool b) :: bs) T D s s' ∧ (j = 0 → b = false) ∧ (0 < j → pn ≠ 54 → fn ≠ 54 → b = true))) E s := by
  revert X₀
  k_fill
  intro X₀
  obtain ⟨stO, tits, tn, dits, dn, R, N₁, ok, PT, PD, hb, ho, r1, r2, r3⟩ := ls_open N hown H
  have tS : @Ne Nat t S := r1 _ (hb _ hp)
  have N₂ := news_put (news_put N₁ (hb _ hp)) (.tail _ (hb _ hsc))
  have F₂ := names_fr F hbs
  clear F N N₁
  dsimp only [lawEnv, lawScope, scopeOf, forAt, lawFor, lawDef, PySem.Challenge.pw_co0042_01, bodyOf, List.getD, List.getD_cons_succ, List.getD_cons_zero, List.getElem?_cons_succ, List.getElem?_cons_zero, Option.getD]
  (try k_fold)
  k_steps
  all_goals (
    rename Fr _ _ _ _ => F9
    rename News _ _ _ _ => N9
    rename StOk _ _ _ => ok9
    show _ ∧ _
    refine ⟨by first | rfl | trivial, _, st3_end F9 N9 (by k_mem) ok9 (by k_mem) (by k_mem) (TkIn.sub PT (by tb_lt)) (DuIn.sub PD (by tb_lt)) (fun q hq => by have := hb q hq; simp only [List.mem_cons, this, or_true]) (fun q hq => by have := ho q hq; simp only [List.mem_cons, this, or_true]) hoff (names_set hbs hn hf), ?_, ?_⟩)
  all_goals (intros; first | rfl | omega | (exfalso; omega) | (simp_all; done))
end Mine
end
theorem Mine.fresh_S3 : True ∧ True := by
  w_top off
  walk1 <;> exact True.intro
section
open PySem PySem.W PySem.Spec PySem.Calls PyProof.Rows
set_option Elab.async false
namespace Mine
local macro_rules | `(tactic| walk_at "call ref") => `(tactic| ((with_reducible show wpAny _ _ (call (Value.ref 69) [_, _]) _ _ _); k_dflt (refine' call_nextL ?a1 ?a3 ?a4 ?a5 ?a6 ?b1 ?b2 ?b3 ?b4 ?a7 ?a8 ?a9 ?a10 ?_; (case a1 => assumption); (case a3 => k_asm); (case a4 => k_asm); (case a5 => tb_start); (case a6 => assumption); (case b1 => k_mem); (case b2 => assumption); (case b3 => assumption); (case b4 => assumption); (case a7 => omega); (case a8 => omega); (case a9 => ktr_room); (case a10 => ktr_units)); intro r' tr' h' tk' stO' F' N' ok' hr0' hr1'; (try dsimp only at N'); (try dsimp only); (try k_sweep)))
local macro_rules | `(tactic| k_units) => `(tactic| ktr_units)
local macro_rules | `(tactic| k_room) => `(tactic| ktr_room)
local macro_rules | `(tactic| k_all) => `(tactic| first | assumption | (refine' List.forall_mem_append.mpr ⟨?a, ?b⟩; (case a => assumption); (case b => k_all)))
local macro_rules | `(tactic| tb_start) => `(tactic| first | (refine' UpdF.head ?a; (case a => k_all)) | (refine' UpdF.tail ?a ?b; (case a => k_ne); (case b => tb_start)) | (refine' UpdF.app ?a ?b; (case a => assumption); (case b => tb_start)))
local macro_rules | `(tactic| walk_at "binaryOp Add ref ref") => `(tactic| ((with_reducible show wpAny _ _ (binaryOp _ (Value.ref _) (Value.ref _)) _ _ _); k_dflt (refine' cat_made ?F ?N ?a ?b ?z ?_; (case F => k_asm); (case N => k_asm); (case a => k_mem); (case b => k_mem); (case z => first | decide | ((try simp only [List.length_append, List.length_cons, List.length_nil]); rw [sizeLine_eq]; omega))); intro D' h' F' N' l1; (try k_lt l1); (try k_sweep)))
local macro_rules | `(tactic| k_mem) => `(tactic| first | (with_reducible refine' mem_r ?_; k_mem) | (with_reducible refine' List.mem_append.mpr (Or.inr ?_); k_mem))
local macro_rules | `(tactic| tb_rel) => `(tactic| first | exact PcsIn.nil | (refine' PcsIn.one ?mm ?rr; (case mm => k_mem); (case rr => tb_rel)) | (refine' PcsIn.app ?aa ?bb; (case aa => tb_rel); (case bb => tb_rel)) | exact PcsIn.mono (by assumption) (fun q hq => by simp only [List.mem_cons, List.mem_append, hq, true_or, or_true]))
local macro_rules | `(tactic| tb_lt) => `(tactic| (intro p hp; simp only [List.mem_cons, List.mem_append, hp, or_true, true_or]))
local macro_rules | `(tactic| k_lt $h:ident) => `(tactic| (replace $h := allLt_of $h; simp only [AllLt, allLt_app, and_true] at $h:ident))
local macro_rules | `(tactic| walk_at "call builtin:list.append") => `(tactic| ((with_reducible show wpAny _ _ (call (Value.builtin _) [Value.ref _, _]) _ _ _); k_dflt (refine' app_made ?F ?N ?U ?z ?_; (case F => k_asm); (case N => k_asm); (case U => tb_start); (case z => omega)); intro h' F' N'; (try dsimp only at N'); (try k_sweep)))
local macro_rules | `(tactic| walk_at "exec For Name Tuple cons nil") => `(tactic| refine here_ ?_)
local macro_rules | `(tactic| walk_at "exec For") => `(tactic| refine here_ ?_)
local macro_rules | `(tactic| walk_at "pyIter ref") => `(tactic| refine here_ ?_)
set_option maxRecDepth 100000 in
set_option maxHeartbeats 8000000 in
theorem stage3 (w : World) (p : Program) (loose : List Str) (mean : ExcName → Option Value) (mg mb : Str → Option Value) (h₀ : Heap)
    (T₀ : Top p loose mean mg mb h₀) (X₀ : (hd.heap_39 w.params).In h₀)
    (A : Around) (s : Shared) (L fa : Addr) (cd : Value) (own base news : Led) (S tA dA sc t : Addr) (len a b' c t3 t4 : Nat) (fn : Int) (b : Bool) (fx fw pt ln : Str) (T : List Tk) (D : List Du) (m : Str → Option Value) (bs : List (Str × Value))
    (F : Fr h₀ L s.heap m) (N : News h₀ L s.heap (own ++ news)) (H : LS S tA dA sc len base T D news) (hown : Off S tA dA own) (hoff : Off S tA dA base) (hn : Names m bs)
    (hbs : ∀ q ∈ [(Str.ofString "former", Value.ref t), (Str.ofString "wants", .str pt t3), (Str.ofString "wide", .bool b), (Str.ofString "line", .str ln t4), (Str.ofString "due", .ref dA)], q ∈ bs) (hf : ∀ q ∈ bs, q.1 ≠ Str.ofString "want")
    (hp : (t, tup [.int fn a, .str fx b', .str fw c]) ∈ base) (d1 : @Ne Nat tA S) (d2 : @Ne Nat dA S) (d3 : @Ne Nat dA tA) (hz : D.length ≤ 10000) (hln : ln.length ≤ 100000)
    (hh : A.handled = none) (hd : A.depth + 20 < recursionLimit) (hu : A.units + 200 < cLine) :
    wpAny (model PySem.Challenge.rw_co0042_01.row.prog w) A (exec (forAt 2) (lawEnv L fa cd)) (fun f s' => Here (f = .next ∧ St3 h₀ L S tA dA sc len own base bs T ((D ++ duesOf fw b (ln.length : Int)) ++ duesOf pt b (ln.length : Int)) s s')) (fun _ _ => False) s := by
  revert X₀
  k_fill
  intro X₀
  obtain ⟨stO, tits, tn, dits, dn, R, N₁, ok, PT, PD, hb, ho, r1, r2, r3⟩ := ls_open N hown H
  have N₂ := news_put N₁ (hb _ hp)
  have F₂ := names_fr F (hn.sub hbs)
  clear F N N₁
  dsimp only [lawEnv, lawScope, scopeOf, forAt, lawFor, lawDef, PySem.Challenge.pw_co0042_01, bodyOf, List.getD, List.getD_cons_succ, List.getD_cons_zero, List.getElem?_cons_succ, List.getElem?_cons_zero, Option.getD]
  (try k_fold)
  k_steps
  refine For_invV h₀ rfl rfl ?_
  (try k_fold)
  k_steps
  rename Fr _ _ _ _ => F9
  rename News _ _ _ _ => N9
  have hb0 := hn.sub hbs
  rw [bindL_eq hb0] at F9
  have ls0 : LS S tA dA sc len (own ++ base) T D ((S, stO) :: (tA, lst tits tn) :: (dA, lst dits dn) :: R) :=
    ⟨stO, tits, tn, dits, dn, R, rfl, ok, PT, PD, fun q hq => (List.mem_append.mp hq).elim (ho q) (hb q), fun q hq => ⟨r1 q hq, r2 q hq, r3 q hq⟩⟩
  have hoff9 : Off S tA dA (own ++ base) := fun q hq => (List.mem_append.mp hq).elim (hown q) (hoff q)
  refine iter_tupJ (items := [.str fw c, .str pt t3]) (news₀ := (S, stO) :: (tA, lst tits tn) :: (dA, lst dits dn) :: R)
    (fun i m' news' => Names m' bs ∧ LS S tA dA sc len (own ++ base) T (D ++ (([duesOf fw b (ln.length : Int), duesOf pt b (ln.length : Int)] : List (List Du)).take i).flatten) news') hh F9 N9 (.head _) (fun q hq => ?sb) ⟨hn, by simpa using ls0⟩ ?turn ?done
  case sb =>
    rcases List.mem_cons.mp hq with rfl | hq
    · exact .tail _ (.head _)
    rcases List.mem_cons.mp hq with rfl | hq
    · exact .tail _ (.tail _ (.head _))
    rcases List.mem_cons.mp hq with rfl | hq
    · exact .tail _ (.tail _ (.tail _ (.head _)))
    · exact .tail _ (.tail _ (.tail _ (.tail _ (.tail _ hq))))
  case done =>
    intro m₁ news₁ h₉ tk hJ F₁ N₁
    show _ ∧ _
    refine ⟨rfl, ?_⟩
    obtain ⟨hn1, hl1⟩ := hJ
    obtain ⟨stO₁, tits₁, tn₁, dits₁, dn₁, seg, rfl, ok₁, PT₁, PD₁, hb₁, ho₁⟩ := hl1
    refine st3_end F₁ N₁ (.head _) ok₁ (.tail _ (.head _)) (.tail _ (.tail _ (.head _))) (TkIn.sub PT₁ fun q hq => .tail _ (.tail _ (.tail _ hq))) (DuIn.sub ?_ fun q hq => .tail _ (.tail _ (.tail _ hq))) (fun q hq => .tail _ (.tail _ (.tail _ (hb₁ q (List.mem_append_right _ hq))))) (fun q hq => .tail _ (.tail _ (.tail _ (hb₁ q (List.mem_append_left _ hq))))) hoff hn1
    simpa [List.append_assoc] using PD₁
  case turn =>
    intro i v m₁ news₁ h₉ tk I own₁ hv hJ hoI hI9 hcl F₁ N₁
    obtain ⟨hn1, hl1⟩ := hJ
    obtain ⟨u, tu, rfl, hD⟩ : ∃ u tu, v = .str u tu ∧ D ++ (([duesOf fw b (ln.length : Int), duesOf pt b (ln.length : Int)] : List (List Du)).take (i + 1)).flatten = (D ++ (([duesOf fw b (ln.length : Int), duesOf pt b (ln.length : Int)] : List (List Du)).take i).flatten) ++ duesOf u b (ln.length : Int) := by
      match i, hv with
      | 0, hv => cases hv; exact ⟨_, _, rfl, by simp⟩
      | 1, hv => cases hv; exact ⟨_, _, rfl, by simp⟩
    rw [hD]
    have hz9 : (D ++ (([duesOf fw b (ln.length : Int), duesOf pt b (ln.length : Int)] : List (List Du)).take i).flatten).length ≤ 20000 := by
      have x1 := dues_le (u := fw) (b := b) (c := (ln.length : Int))
      have x2 := dues_le (u := pt) (b := b) (c := (ln.length : Int))
      match i, hv with
      | 0, _ => simp; omega
      | 1, _ => simp; omega
    generalize D ++ (([duesOf fw b (ln.length : Int), duesOf pt b (ln.length : Int)] : List (List Du)).take i).flatten = D₁ at hl1 hz9 ⊢
    have hb1 := hn1.sub hbs
    have F₃ := fr_skip F₁ hb1
    have hbI : ∀ q ∈ own ++ base, q.1 ∉ [I] := by
      obtain ⟨_, _, _, _, _, seg, rfl, _, _, _, hb₁, _⟩ := hl1
      intro q hq hm
      exact hoI q (.tail _ (.tail _ (.tail _ (hb₁ q hq)))) (List.mem_singleton.mp hm)
    have hown1 : Off S tA dA own₁ := by
      obtain ⟨_, _, _, _, _, seg, rfl, ok₁, _, _, _, _⟩ := hl1
      intro q hq
      have nt : q.2.cls ≠ .type "list" := by rcases hcl q hq with e | e <;> rw [e] <;> decide
      exact ⟨cls_ne N₁ (List.mem_append_left _ hq) (q := (S, _)) (List.mem_append_right _ (.head _)) (by rw [ok₁.cls]; exact nt), cls_ne N₁ (List.mem_append_left _ hq) (q := (tA, lst _ _)) (List.mem_append_right _ (.tail _ (.head _))) nt, cls_ne N₁ (List.mem_append_left _ hq) (q := (dA, lst _ _)) (List.mem_append_right _ (.tail _ (.tail _ (.head _)))) nt⟩
    clear F9 N9 PT PD r1 r2 r3 ok ls0
    obtain ⟨stO₁, tits₁, tn₁, dits₁, dn₁, R₁, N₃, ok₁, PT₁, PD₁, hb₁, ho₁, r1, r2, r3⟩ := ls_open N₁ hown1 hl1
    have hdl := PD₁.length
    clear F₁ N₁ hl1
    (try k_fold)
    k_steps
    all_goals (
      rename Fr _ _ _ _ => F8
      rename News _ _ _ _ => N8
      obtain ⟨oI, hoI1, hoI2⟩ := hI9
      show _ ∧ _
      first
      | (rw [dues1 (by assumption) (by assumption)]
         obtain ⟨news', n1, n2, n3⟩ := ls_endX (own := own₁) (base := own ++ base) [I] N8 (by k_mem) ok₁ (by k_mem) (by k_mem) (TkIn.sub PT₁ (by tb_lt)) (AllIn.app (DuIn.sub PD₁ (by tb_lt)) (.cons (k := ⟨(ln.length : Int), m251⟩) ⟨_, _, _, _, _, rfl, by k_mem, by k_mem⟩ .nil)) (fun q hq => by have := hb₁ q hq; simp only [List.mem_cons, this, or_true]) (fun q hq => by have := ho₁ q hq; simp only [List.mem_cons, this, or_true]) hoff9 (fun x hx => ⟨oI, by rw [List.mem_singleton.mp hx]; have := ho₁ _ hoI1; simp only [List.mem_cons, this, or_true], by rw [hoI2]; decide, by rw [hoI2]; decide⟩) hbI
         exact ⟨by first | rfl | trivial, _, _, _, news', rfl, F8, n1, fun q hq e => n3 q hq (List.mem_singleton.mpr e), names_skip hb1 hn1 hf, n2⟩)
      | (rw [dues2 (by assumption) (by assumption)]
         obtain ⟨news', n1, n2, n3⟩ := ls_endX (own := own₁) (base := own ++ base) [I] N8 (by k_mem) ok₁ (by k_mem) (by k_mem) (TkIn.sub PT₁ (by tb_lt)) (AllIn.app (DuIn.sub PD₁ (by tb_lt)) (.cons (k := ⟨(ln.length : Int), m252⟩) ⟨_, _, _, _, _, rfl, by k_mem, by k_mem⟩ .nil)) (fun q hq => by have := hb₁ q hq; simp only [List.mem_cons, this, or_true]) (fun q hq => by have := ho₁ q hq; simp only [List.mem_cons, this, or_true]) hoff9 (fun x hx => ⟨oI, by rw [List.mem_singleton.mp hx]; have := ho₁ _ hoI1; simp only [List.mem_cons, this, or_true], by rw [hoI2]; decide, by rw [hoI2]; decide⟩) hbI
         exact ⟨by first | rfl | trivial, _, _, _, news', rfl, F8, n1, fun q hq e => n3 q hq (List.mem_singleton.mpr e), names_skip hb1 hn1 hf, n2⟩)
      | ((first | rw [dues3 (by assumption) (by assumption)] | rw [dues4 (by assumption) (by assumption)] | rw [dues5 (by assumption) (by assumption)])
         rw [List.append_nil]
         obtain ⟨news', n1, n2, n3⟩ := ls_endX (own := own₁) (base := own ++ base) [I] N8 (by k_mem) ok₁ (by k_mem) (by k_mem) (TkIn.sub PT₁ (by tb_lt)) (DuIn.sub PD₁ (by tb_lt)) (fun q hq => by have := hb₁ q hq; simp only [List.mem_cons, this, or_true]) (fun q hq => by have := ho₁ q hq; simp only [List.mem_cons, this, or_true]) hoff9 (fun x hx => ⟨oI, by rw [List.mem_singleton.mp hx]; have := ho₁ _ hoI1; simp only [List.mem_cons, this, or_true], by rw [hoI2]; decide, by rw [hoI2]; decide⟩) hbI
         exact ⟨by first | rfl | trivial, _, _, _, news', rfl, F8, n1, fun q hq e => n3 q hq (List.mem_singleton.mpr e), names_skip hb1 hn1 hf, n2⟩))
end Mine
end
theorem Mine.fresh_S4 : True ∧ True := by
  w_top off
  walk1 <;> exact True.intro
section
open PySem PySem.W PySem.Spec PySem.Calls PyProof.Rows
set_option Elab.async false
namespace Mine
local macro_rules | `(tactic| walk_at "call ref") => `(tactic| ((with_reducible show wpAny _ _ (call (Value.ref 69) [_, _]) _ _ _); k_dflt (refine' call_nextL ?a1 ?a3 ?a4 ?a5 ?a6 ?b1 ?b2 ?b3 ?b4 ?a7 ?a8 ?a9 ?a10 ?_; (case a1 => assumption); (case a3 => k_asm); (case a4 => k_asm); (case a5 => tb_start); (case a6 => assumption); (case b1 => k_mem); (case b2 => assumption); (case b3 => assumption); (case b4 => assumption); (case a7 => omega); (case a8 => omega); (case a9 => ktr_room); (case a10 => ktr_units)); intro r' tr' h' tk' stO' F' N' ok' hr0' hr1'; (try dsimp only at N'); (try dsimp only); (try k_sweep)))
local macro_rules | `(tactic| k_units) => `(tactic| ktr_units)
local macro_rules | `(tactic| k_room) => `(tactic| ktr_room)
local macro_rules | `(tactic| k_all) => `(tactic| first | assumption | (refine' List.forall_mem_append.mpr ⟨?a, ?b⟩; (case a => assumption); (case b => k_all)))
local macro_rules | `(tactic| tb_start) => `(tactic| first | (refine' UpdF.head ?a; (case a => k_all)) | (refine' UpdF.tail ?a ?b; (case a => k_ne); (case b => tb_start)) | (refine' UpdF.app ?a ?b; (case a => assumption); (case b => tb_start)))
local macro_rules | `(tactic| walk_at "binaryOp Add ref ref") => `(tactic| ((with_reducible show wpAny _ _ (binaryOp _ (Value.ref _) (Value.ref _)) _ _ _); k_dflt (refine' cat_made ?F ?N ?a ?b ?z ?_; (case F => k_asm); (case N => k_asm); (case a => k_mem); (case b => k_mem); (case z => first | decide | ((try simp only [List.length_append, List.length_cons, List.length_nil]); rw [sizeLine_eq]; omega))); intro D' h' F' N' l1; (try k_lt l1); (try k_sweep)))
local macro_rules | `(tactic| k_mem) => `(tactic| first | (with_reducible refine' mem_r ?_; k_mem) | (with_reducible refine' List.mem_append.mpr (Or.inr ?_); k_mem))
local macro_rules | `(tactic| tb_rel) => `(tactic| first | exact PcsIn.nil | (refine' PcsIn.one ?mm ?rr; (case mm => k_mem); (case rr => tb_rel)) | (refine' PcsIn.app ?aa ?bb; (case aa => tb_rel); (case bb => tb_rel)) | exact PcsIn.mono (by assumption) (fun q hq => by simp only [List.mem_cons, List.mem_append, hq, true_or, or_true]))
local macro_rules | `(tactic| tb_lt) => `(tactic| (intro p hp; simp only [List.mem_cons, List.mem_append, hp, or_true, true_or]))
local macro_rules | `(tactic| k_lt $h:ident) => `(tactic| (replace $h := allLt_of $h; simp only [AllLt, allLt_app, and_true] at $h:ident))
local macro_rules | `(tactic| walk_at "call builtin:list.append") => `(tactic| ((with_reducible show wpAny _ _ (call (Value.builtin _) [Value.ref _, _]) _ _ _); k_dflt (refine' app_made ?F ?N ?U ?z ?_; (case F => k_asm); (case N => k_asm); (case U => tb_start); (case z => omega)); intro h' F' N'; (try dsimp only at N'); (try k_sweep)))
set_option maxRecDepth 100000 in
set_option maxHeartbeats 8000000 in
theorem stage4 (w : World) (p : Program) (loose : List Str) (mean : ExcName → Option Value) (mg mb : Str → Option Value) (h₀ : Heap)
    (T₀ : Top p loose mean mg mb h₀) (X₀ : (hd.heap_39 w.params).In h₀)
    (A : Around) (s : Shared) (L fa : Addr) (cd : Value) (E : Value → Shared → Prop) (own base news : Led) (S tA dA sc pA : Addr) (len t1 t2 t4 : Nat) (pn : Int) (b : Bool) (pw ln : Str) (T : List Tk) (D : List Du) (m : Str → Option Value) (bs : List (Str × Value))
    (F : Fr h₀ L s.heap m) (N : News h₀ L s.heap (own ++ news)) (H : LS S tA dA sc len base T D news) (hown : Off S tA dA own) (hoff : Off S tA dA base) (hn : Names m bs)
    (hbs : ∀ q ∈ [(Str.ofString "number", Value.int pn t1), (Str.ofString "word", .str pw t2), (Str.ofString "wide", .bool b), (Str.ofString "line", .str ln t4), (Str.ofString "tokens", .ref tA), (Str.ofString "due", .ref dA), (Str.ofString "pieces", .ref pA), (Str.ofString "state", .ref S)], q ∈ bs)
    (d1 : @Ne Nat tA S) (d2 : @Ne Nat dA S) (d3 : @Ne Nat tA dA) (hz : T.length ≤ 10000) (hln : ln.length ≤ 100000) (hpw : pw.length ≤ 5)
    (hd : A.depth + 20 < recursionLimit) (hu : A.units + 200 < cLine) :
    wpAny (model PySem.Challenge.rw_co0042_01.row.prog w) A (execs (lawFor.drop 3) (lawEnv L fa cd)) (fun f s' => Here (f = .next ∧ ∃ tl, St3 h₀ L S tA dA sc len own base [(Str.ofString "line", .str ((ln ++ blank b) ++ pw) tl), (Str.ofString "tokens", .ref tA), (Str.ofString "due", .ref dA), (Str.ofString "pieces", .ref pA), (Str.ofString "state", .ref S)] (T ++ [⟨pn, pw, ((ln ++ blank b).length : Int), ((ln ++ blank b).length : Int) + (pw.length : Int)⟩]) D s s')) E s := by
  revert X₀
  k_fill
  intro X₀
  obtain ⟨stO, tits, tn, dits, dn, R, N₁, ok, PT, PD, hb, ho, r1, r2, r3⟩ := ls_open N hown H
  have F₂ := names_fr F (hn.sub hbs)
  have htl := PT.length
  clear F N
  dsimp only [lawEnv, lawScope, scopeOf, forAt, lawFor, lawDef, PySem.Challenge.pw_co0042_01, bodyOf, List.getD, List.getD_cons_succ, List.getD_cons_zero, List.getElem?_cons_succ, List.getElem?_cons_zero, Option.getD, List.drop_succ_cons, List.drop_zero]
  (try k_fold)
  k_steps
  all_goals (
    rename Fr _ _ _ _ => F8
    rename News _ _ _ _ => N8
    (first | (rename (b = true) => hb9) | (rename (b = false) => hb9))
    subst hb9
    show _ ∧ _
    refine ⟨by first | rfl | trivial, _, st3_end F8 N8 (by k_mem) ok (by k_mem) (by k_mem) (AllIn.app (TkIn.sub PT (by tb_lt)) (.cons ⟨_, _, _, _, _, _, _, _, _, _, rfl, by k_mem, by k_mem, by k_mem⟩ .nil)) (DuIn.sub PD (by tb_lt)) (fun q hq => by have := hb q hq; simp only [List.mem_cons, this, or_true]) (fun q hq => by have := ho q hq; simp only [List.mem_cons, this, or_true]) hoff (Names.cons rfl (Names.cons rfl (Names.cons rfl (Names.cons rfl (Names.cons rfl Names.nil)))))⟩)
end Mine
end
theorem Mine.fresh_Turn : True ∧ True := by
  w_top off
  walk1 <;> exact True.intro
section
open PySem PySem.W PySem.Spec PySem.Calls PyProof.Rows
set_option Elab.async false
namespace Mine
theorem run_len {ps : List Pc} {a : Acc} (h : Run ps a) : a.T.length = ps.length ∧ a.D.length ≤ 4 * ps.length ∧ (AllPW ps → a.ln.length ≤ 6 * ps.length) := by
  induction h with
  | nil => exact ⟨rfl, Nat.le_refl _, fun _ => Nat.le_refl _⟩
  | @snoc ps a p b _ _ _ ih =>
    obtain ⟨h1, h2, h3⟩ := ih
    have x1 := dues_le (u := a.fw) (b := b) (c := (a.ln.length : Int))
    have x2 := dues_le (u := p.wt) (b := b) (c := (a.ln.length : Int))
    refine ⟨by simp [accStep, h1], by simp [accStep]; omega, fun hw => ?_⟩
    have split : ∀ qs : List Pc, AllPW (qs ++ [p]) → AllPW qs ∧ PW p := by
      intro qs
      induction qs with
      | nil => intro k; exact ⟨trivial, k.1⟩
      | cons q qs ih => intro k; exact ⟨⟨k.1, (ih k.2).1⟩, (ih k.2).2⟩
    obtain ⟨w1, w2⟩ := split ps hw
    have := h3 w1
    have hb : (blank b).length ≤ 1 := by cases b <;> decide +kernel
    have hp := w2.2
    simp only [accStep, Str.length_append, List.length_append, List.length_cons, List.length_nil]
    omega
theorem run_last {ps : List Pc} {a : Acc} (h : Run ps a) : (ps = [] → a = acc0) ∧ ∀ qs p, ps = qs ++ [p] → a.fn = p.n ∧ a.fw = p.wt := by
  cases h with
  | nil => exact ⟨fun _ => rfl, fun qs p e => by simp at e⟩
  | @snoc ps a p b _ _ _ =>
    refine ⟨fun e => by simp at e, fun qs q e => ?_⟩
    have : p = q := by
      have := congrArg List.getLast? e
      simpa using this
    subst this
    exact ⟨rfl, rfl⟩
theorem allPW_get : ∀ {ps : List Pc}, AllPW ps → ∀ (i : Nat) (p : Pc), ps[i]? = some p → PW p
  | [], _, _, _, e => by cases e
  | _ :: _, h, 0, _, e => by cases e; exact h.1
  | _ :: ps, h, i + 1, p, e => allPW_get (ps := ps) h.2 i p e
theorem allPW_take : ∀ {ps : List Pc}, AllPW ps → ∀ n, AllPW (ps.take n)
  | [], _, n => by cases n <;> exact trivial
  | _ :: _, _, 0 => trivial
  | _ :: ps, h, n + 1 => ⟨h.1, allPW_take (ps := ps) h.2 n⟩
theorem names_ne {bs : List (Str × Value)} {x : Str} (ks : List Str) (e : bs.map (·.1) = ks) (h : (ks.all fun k => decide (k ≠ x)) = true) : ∀ b ∈ bs, b.1 ≠ x := fun b hb => by
  have : b.1 ∈ ks := e ▸ List.mem_map_of_mem hb
  exact of_decide_eq_true (List.all_eq_true.mp h _ this)
theorem lawFor_is : lawFor = forAt 0 :: forAt 1 :: forAt 2 :: lawFor.drop 3 := rfl
theorem st3_base {h₀ : Heap} {L S tA dA sc : Addr} {len : Nat} {own base base' : Led} {bs : List (Str × Value)} {T : List Tk} {D : List Du} {s s' : Shared} (H : St3 h₀ L S tA dA sc len own base' bs T D s s') (k : ∀ p ∈ base, p ∈ base') : St3 h₀ L S tA dA sc len own base bs T D s s' := by
  obtain ⟨h', tk', m', news', e, F, N, ⟨stO, tits, tn, dits, dn, seg, e2, ok, PT, PD, hb, ho⟩, hoff, hn⟩ := H
  exact ⟨h', tk', m', news', e, F, N, ⟨stO, tits, tn, dits, dn, seg, e2, ok, PT, PD, fun p hp => hb p (k p hp), ho⟩, fun p hp => hoff p (k p hp), hn⟩
theorem turn_ok (w : World) (p : Program) (loose : List Str) (mean : ExcName → Option Value) (mg mb : Str → Option Value) (h₀ : Heap)
    (T₀ : Top p loose mean mg mb h₀) (X₀ : (hd.heap_39 w.params).In h₀) (NX : NextOk w h₀)
    (A : Around) (s : Shared) (L fa : Addr) (cd : Value) (own base news : Led) (S tA dA sc pA : Addr) (n j kk tk t1 t2 t3 t4 : Nat) (vs its : List Value) (ns : List Int) (ps : List Pc) (q : Pc) (acc : Acc) (m : Str → Option Value)
    (F : Fr h₀ L s.heap m) (N : News h₀ L s.heap (own ++ news)) (H : LS S tA dA sc ns.length base acc.T acc.D news) (hown : Off S tA dA own) (hoff : Off S tA dA base)
    (hn : Names m [(Str.ofString "k", .int (j : Int) tk), (Str.ofString "number", .int q.n t1), (Str.ofString "word", .str q.wd t2), (Str.ofString "wants", .str q.wt t3), (Str.ofString "line", .str acc.ln t4), (Str.ofString "tokens", .ref tA), (Str.ofString "due", .ref dA), (Str.ofString "pieces", .ref pA), (Str.ofString "state", .ref S)])
    (hp : (pA, lst its n) ∈ base) (hP : PcsIn base its ps) (hq : ps[j]? = some q) (hz : ps.length ≤ 400) (hW : AllPW ps) (hR : Run (ps.take j) acc)
    (hsc : (sc, lst vs kk) ∈ base) (sS : @Ne Nat sc S) (d1 : @Ne Nat tA S) (d2 : @Ne Nat dA S) (d3 : @Ne Nat tA dA) (hI : IntsAre vs ns) (hL : ns.length ≤ 50)
    (hh : A.handled = none) (hd : A.depth + 20 < recursionLimit) (hu : A.units + 200 < cLine) :
    wpAny (model PySem.Challenge.rw_co0042_01.row.prog w) A (execs lawFor (lawEnv L fa cd)) (fun f s' => Here (f = .next ∧ ∃ acc' tl, Run (ps.take (j + 1)) acc' ∧ St3 h₀ L S tA dA sc ns.length own base [(Str.ofString "line", .str acc'.ln tl), (Str.ofString "tokens", .ref tA), (Str.ofString "due", .ref dA), (Str.ofString "pieces", .ref pA), (Str.ofString "state", .ref S)] acc'.T acc'.D s s')) (fun _ _ => False) s := by
  have hj : j < ps.length := by
    have := (List.getElem?_eq_some_iff.mp hq).1; exact this
  have hlen := run_len hR
  have hln := hlen.2.2 (allPW_take hW j)
  have htk : (ps.take j).length = j := by rw [List.length_take]; omega
  have hqW := allPW_get hW j q hq
  rw [lawFor_is]
  have sub1 : Names m [(Str.ofString "k", .int (j : Int) tk), (Str.ofString "pieces", .ref pA)] := hn.sub fun b hb => by
    rcases List.mem_cons.mp hb with rfl | hb
    · exact .head _
    · rw [List.mem_singleton.mp hb]; exact .tail _ (.tail _ (.tail _ (.tail _ (.tail _ (.tail _ (.tail _ (.head _)))))))
  refine cut _ (stage1 w p loose mean mg mb h₀ T₀ X₀ A s L fa cd _ own base news S tA dA sc pA _ n j its ps acc.T acc.D m _ tk F N H hown hoff hn sub1 (names_ne [Str.ofString "k", Str.ofString "number", Str.ofString "word", Str.ofString "wants", Str.ofString "line", Str.ofString "tokens", Str.ofString "due", Str.ofString "pieces", Str.ofString "state"] rfl (by decide +kernel)) hp hP hj hz) ?_
  rintro s₁ ⟨t, fn, fx, fw, a, b, c, ⟨h₁, tk₁, m₁, news₁, rfl, F₁, N₁, H₁, hoff₁, hn₁⟩, e0, e1⟩
  have hfw : acc.fn = fn ∧ acc.fw = fw := by
    obtain ⟨l1, l2⟩ := run_last hR
    cases j with
    | zero => obtain ⟨rfl, rfl⟩ := e0 rfl; rw [l1 rfl]; exact ⟨rfl, rfl⟩
    | succ i =>
      have hi := e1 i rfl
      exact l2 (ps.take i) ⟨fn, fx, fw⟩ (by rw [List.take_add_one, hi]; rfl)
  obtain ⟨hfn, hfw⟩ := hfw
  have sub2 : Names m₁ [(Str.ofString "k", .int (j : Int) tk), (Str.ofString "number", .int q.n t1), (Str.ofString "former", .ref t), (Str.ofString "state", .ref S)] := hn₁.sub fun b hb => by
    simp only [List.mem_cons, List.not_mem_nil, or_false] at hb ⊢
    rcases hb with h | h | h | h <;> simp [h]
  refine cut _ (stage2 w p loose mean mg mb h₀ T₀ X₀ NX A _ L fa cd _ own _ news₁ S tA dA sc t n j a b c kk t1 q.n fn fx fw vs ns acc.T acc.D m₁ _ tk F₁ N₁ H₁ hown hoff₁ hn₁ sub2 (names_ne [Str.ofString "former", Str.ofString "k", Str.ofString "number", Str.ofString "word", Str.ofString "wants", Str.ofString "line", Str.ofString "tokens", Str.ofString "due", Str.ofString "pieces", Str.ofString "state"] rfl (by decide +kernel)) (.head _) (.tail _ hsc) sS d1 d2 hI hL hd hu) ?_
  rintro s₂ ⟨bb, ⟨h₂, tk₂, m₂, news₂, rfl, F₂, N₂, H₂, hoff₂, hn₂⟩, w0, w1⟩
  refine cut _ (stage3 w p loose mean mg mb h₀ T₀ X₀ A _ L fa cd own _ news₂ S tA dA sc t ns.length a b c t3 t4 fn bb fx fw q.wt acc.ln acc.T acc.D m₂ _ F₂ N₂ H₂ hown hoff₂ hn₂ ?_ (names_ne [Str.ofString "wide", Str.ofString "former", Str.ofString "k", Str.ofString "number", Str.ofString "word", Str.ofString "wants", Str.ofString "line", Str.ofString "tokens", Str.ofString "due", Str.ofString "pieces", Str.ofString "state"] rfl (by decide +kernel)) (.head _) d1 d2 d3.symm (by omega) (by omega) hh hd hu) ?_
  · intro q' hq'
    simp only [List.mem_cons, List.not_mem_nil, or_false] at hq' ⊢
    rcases hq' with h | h | h | h | h <;> simp [h]
  rintro s₃ ⟨h₃, tk₃, m₃, news₃, rfl, F₃, N₃, H₃, hoff₃, hn₃⟩
  refine wpAny_mono (stage4 w p loose mean mg mb h₀ T₀ X₀ A _ L fa cd _ own _ news₃ S tA dA sc pA ns.length t1 t2 t4 q.n bb q.wd acc.ln acc.T _ m₃ _ F₃ N₃ H₃ hown hoff₃ hn₃ ?_ d1 d2 d3 (by omega) (by omega) hqW.2 hd hu) ?_ (fun _ _ x => x)
  · intro q' hq'
    simp only [List.mem_cons, List.not_mem_nil, or_false] at hq' ⊢
    rcases hq' with h | h | h | h | h | h | h | h <;> simp [h]
  rintro f s₄ ⟨rfl, tl, H₄⟩
  refine ⟨rfl, accStep acc q bb, tl, ?_, ?_⟩
  · rw [List.take_add_one, hq]
    refine .snoc hR (fun e => w0 ?_) (fun e k1 k2 => w1 ?_ k1 (by rw [← hfn]; exact k2))
    · rw [e] at htk; simpa using htk.symm
    · have : j ≠ 0 := fun z => e (by rw [z]; rfl)
      omega
  · rw [← hfw] at H₄
    exact st3_base H₄ fun p hp => .tail _ hp
end Mine
end
theorem Mine.fresh_ForL : True ∧ True := by
  w_top off
  walk1 <;> exact True.intro
section
open PySem PySem.W PySem.Spec PySem.Calls PyProof.Rows
set_option Elab.async false
namespace Mine
local macro_rules | `(tactic| walk_at "call ref") => `(tactic| ((with_reducible show wpAny _ _ (call (Value.ref 69) [_, _]) _ _ _); k_dflt (refine' call_nextL ?a1 ?a3 ?a4 ?a5 ?a6 ?b1 ?b2 ?b3 ?b4 ?a7 ?a8 ?a9 ?a10 ?_; (case a1 => assumption); (case a3 => k_asm); (case a4 => k_asm); (case a5 => tb_start); (case a6 => assumption); (case b1 => k_mem); (case b2 => assumption); (case b3 => assumption); (case b4 => assumption); (case a7 => omega); (case a8 => omega); (case a9 => ktr_room); (case a10 => ktr_units)); intro r' tr' h' tk' stO' F' N' ok' hr0' hr1'; (try dsimp only at N'); (try dsimp only); (try k_sweep)))
local macro_rules | `(tactic| k_units) => `(tactic| ktr_units)
local macro_rules | `(tactic| k_room) => `(tactic| ktr_room)
local macro_rules | `(tactic| k_all) => `(tactic| first | assumption | (refine' List.forall_mem_append.mpr ⟨?a, ?b⟩; (case a => assumption); (case b => k_all)))
local macro_rules | `(tactic| tb_start) => `(tactic| first | (refine' UpdF.head ?a; (case a => k_all)) | (refine' UpdF.tail ?a ?b; (case a => k_ne); (case b => tb_start)) | (refine' UpdF.app ?a ?b; (case a => assumption); (case b => tb_start)))
local macro_rules | `(tactic| walk_at "binaryOp Add ref ref") => `(tactic| ((with_reducible show wpAny _ _ (binaryOp _ (Value.ref _) (Value.ref _)) _ _ _); k_dflt (refine' cat_made ?F ?N ?a ?b ?z ?_; (case F => k_asm); (case N => k_asm); (case a => k_mem); (case b => k_mem); (case z => first | decide | ((try simp only [List.length_append, List.length_cons, List.length_nil]); rw [sizeLine_eq]; omega))); intro D' h' F' N' l1; (try k_lt l1); (try k_sweep)))
local macro_rules | `(tactic| k_mem) => `(tactic| first | (with_reducible refine' mem_r ?_; k_mem) | (with_reducible refine' List.mem_append.mpr (Or.inr ?_); k_mem))
local macro_rules | `(tactic| tb_rel) => `(tactic| first | exact PcsIn.nil | (refine' PcsIn.one ?mm ?rr; (case mm => k_mem); (case rr => tb_rel)) | (refine' PcsIn.app ?aa ?bb; (case aa => tb_rel); (case bb => tb_rel)) | exact PcsIn.mono (by assumption) (fun q hq => by simp only [List.mem_cons, List.mem_append, hq, true_or, or_true]))
local macro_rules | `(tactic| walk_at "call type:enumerate") => `(tactic| refine here_ ?_)
def lawForSt : Stmt := (bodyOf lawDef).getD 4 (.Pass ⟨0, 0, 0, 0⟩)
theorem names_push {m : Str → Option Value} {bs : List (Str × Value)} {x : Str} {v : Value} (H : Names m bs) (hf : ∀ b ∈ bs, b.1 ≠ x) : Names (fun y => if y = x then some v else m y) ((x, v) :: bs) := by
  refine Names.cons (if_pos rfl) fun b hb => ?_
  show (if b.1 = x then some v else m b.1) = some b.2
  rw [if_neg (hf b hb)]; exact H b hb
theorem assign_nest {prog : Program} {w : World} {A : Around} {E : Value → Shared → Prop} {s : Shared} {name : Str} {scope : Scope} {L fa T tp : Addr} {cd : Value} {h₀ : Heap} {m : Str → Option Value} {news : Led} {xk xn xw xa : Str} {p1 p2 p3 p4 p5 p6 : Pos} {k0 k1 : Nat} {v1 v2 v3 v4 : Value} {Q : Unit → Shared → Prop}
    (hh : A.handled = none) (F : Fr h₀ L s.heap m) (N : News h₀ L s.heap news) (hT : s.heap.IsTuple T #[v1, .ref tp]) (htp : (tp, tup [v2, v3, v4]) ∈ news)
    (h : ∀ h' tk', Fr h₀ L h' (fun y => if y = xa then some v4 else if y = xw then some v3 else if y = xn then some v2 else if y = xk then some v1 else m y) → News h₀ L h' news → Q () { s with heap := h', toks := tk' })
    (hk : scope.kind = .function) (l1 : (envOf name scope L fa cd).kindOf xk = some .local) (l2 : (envOf name scope L fa cd).kindOf xn = some .local) (l3 : (envOf name scope L fa cd).kindOf xw = some .local) (l4 : (envOf name scope L fa cd).kindOf xa = some .local) :
    wpAny (model prog w) A (assign (.Tuple [.Name xk p1, .Tuple [.Name xn p2, .Name xw p3, .Name xa p4] k1 p5] k0 p6) (envOf name scope L fa cd) (.ref T)) Q E s := by
  refine wpAny_assign_Tuple hh hT rfl rfl fun h₂ x₂ => ?_
  have F₂ := F.extBut x₂ (Nat.le_refl _)
  have N₂ := N.extBut x₂ (Nat.le_refl _)
  show wpAny _ A (do holding [.ref tp] (assign (.Name xk p1) (envOf name scope L fa cd) v1); do holding [] (assign (.Tuple [.Name xn p2, .Name xw p3, .Name xa p4] k1 p5) (envOf name scope L fa cd) (.ref tp)); pure ()) _ _ _
  refine wpAny_bind (wpAny_holding (wpAny_assign_Name (stN F₂ N₂ (fun h₃ F₃ N₃ => ?_) hk l1)))
  have htp₃ : h₃.IsTuple tp #[v2, v3, v4] := ⟨_, (N₃ _ htp).1, rfl, _, rfl⟩
  refine wpAny_bind (wpAny_holding (wpAny_assign_Tuple hh htp₃ rfl rfl fun h₄ x₄ => ?_))
  have F₄ := F₃.extBut x₄ (Nat.le_refl _)
  have N₄ := N₃.extBut x₄ (Nat.le_refl _)
  show wpAny _ A (do holding [v3, v4] (assign (.Name xn p2) (envOf name scope L fa cd) v2); do holding [v4] (assign (.Name xw p3) (envOf name scope L fa cd) v3); do holding [] (assign (.Name xa p4) (envOf name scope L fa cd) v4); pure ()) _ _ _
  refine wpAny_bind (wpAny_holding (wpAny_assign_Name (stN F₄ N₄ (fun h₅ F₅ N₅ => ?_) hk l2)))
  refine wpAny_bind (wpAny_holding (wpAny_assign_Name (stN F₅ N₅ (fun h₆ F₆ N₆ => ?_) hk l3)))
  refine wpAny_bind (wpAny_holding (wpAny_assign_Name (stN F₆ N₆ (fun h₇ F₇ N₇ => ?_) hk l4)))
  exact wpAny_pure (wpAny_pure (h _ _ F₇ N₇))
set_option maxRecDepth 100000 in
set_option maxHeartbeats 8000000 in
theorem for_ok (w : World) (p : Program) (loose : List Str) (mean : ExcName → Option Value) (mg mb : Str → Option Value) (h₀ : Heap)
    (T₀ : Top p loose mean mg mb h₀) (X₀ : (hd.heap_39 w.params).In h₀) (NX : NextOk w h₀)
    (A : Around) (s : Shared) (L fa : Addr) (cd : Value) (base news : Led) (S tA dA sc pA : Addr) (n kk t4 : Nat) (vs its : List Value) (ns : List Int) (ps : List Pc) (m : Str → Option Value)
    (F : Fr h₀ L s.heap m) (N : News h₀ L s.heap news) (H : LS S tA dA sc ns.length base [] [] news) (hoff : Off S tA dA base)
    (hn : Names m [(Str.ofString "line", .str (Str.ofString "") t4), (Str.ofString "tokens", .ref tA), (Str.ofString "due", .ref dA), (Str.ofString "pieces", .ref pA), (Str.ofString "state", .ref S)])
    (hp : (pA, lst its n) ∈ base) (hP : PcsIn base its ps) (hz : ps.length ≤ 400) (hW : AllPW ps)
    (hsc : (sc, lst vs kk) ∈ base) (sS : @Ne Nat sc S) (d1 : @Ne Nat tA S) (d2 : @Ne Nat dA S) (d3 : @Ne Nat tA dA) (hI : IntsAre vs ns) (hL : ns.length ≤ 50)
    (hh : A.handled = none) (hd : A.depth + 20 < recursionLimit) (hu : A.units + 200 < cLine) :
    wpAny (model PySem.Challenge.rw_co0042_01.row.prog w) A (exec lawForSt (lawEnv L fa cd)) (fun f s' => Here (f = .next ∧ ∃ acc tl, Run ps acc ∧ St3 h₀ L S tA dA sc ns.length [] base [(Str.ofString "line", .str acc.ln tl), (Str.ofString "tokens", .ref tA), (Str.ofString "due", .ref dA), (Str.ofString "pieces", .ref pA), (Str.ofString "state", .ref S)] acc.T acc.D s s')) (fun _ _ => False) s := by
  have X₁ := X₀
  revert X₀
  k_fill
  intro X₀
  have hnp : Names m [(Str.ofString "pieces", .ref pA)] := hn.sub fun b hb => by rw [List.mem_singleton.mp hb]; exact .tail _ (.tail _ (.tail _ (.head _)))
  have F₂ := names_fr F hnp
  have ⟨stO, tits, tn, dits, dn, seg, en, ok, PT, PD, hb, ho⟩ := H
  have hpn : (pA, lst its n) ∈ news := by rw [en]; exact .tail _ (.tail _ (.tail _ (hb _ hp)))
  clear F
  dsimp only [lawForSt, lawEnv, lawScope, scopeOf, lawDef, PySem.Challenge.pw_co0042_01, bodyOf, List.getD, List.getD_cons_succ, List.getD_cons_zero, List.getElem?_cons_succ, List.getElem?_cons_zero, Option.getD]
  refine wpAny_For ?_
  (try k_fold)
  k_steps
  show wpAny _ _ _ _ _ _
  have hlA : s.heap.IsList pA its.toArray := ⟨_, (N _ hpn).1, rfl, n, rfl⟩
  have hpl : its.length = ps.length := hP.length
  rw [bindL_eq hnp] at F₂
  have hpS := hoff _ hp
  refine call_enumerate_list hlA fun h' he hit hsz hk => ?_
  refine wpAny_pyIter_enum he ?_
  have ltp : pA < s.heap.objs.size := Heap.lt_size (N _ hpn).1
  have ltL : L < s.heap.objs.size := F₂.ns.lt
  have hl' : h'.IsList pA its.toArray := hlA.at fun o e => hk _ o e
  have F₃ : Fr h₀ L h' m := ⟨F₂.ns.keeps hk, fun b o e => hk b o (F₂.keep b o e), F₂.above⟩
  have N₃ : News h₀ L h' news := fun q hq => ⟨hk _ _ (N q hq).1, (N q hq).2⟩
  have W := ((WalksT.enumerate (prog := PySem.Challenge.rw_co0042_01.row.prog) (w := w) hh (s.heap.objs.size + 1) s.heap.objs.size pA (Nat.succ_ne_self _) (Nat.ne_of_lt (Nat.lt_succ_of_lt ltp)) (Nat.ne_of_lt ltp) its.toArray).toU)
  refine ktu_loop (KTurns.ofWalksU W) ?hLf ?hwr ?hnw ⟨⟨.none, he⟩, hit, hl'⟩ F₃ N₃ (fun i m' news' => ∃ acc tl, Run (ps.take i) acc ∧ Names m' [(Str.ofString "line", .str acc.ln tl), (Str.ofString "tokens", .ref tA), (Str.ofString "due", .ref dA), (Str.ofString "pieces", .ref pA), (Str.ofString "state", .ref S)] ∧ LS S tA dA sc ns.length base acc.T acc.D news') ⟨acc0, t4, .nil, hn, H⟩ ?step ?fin
  case hLf =>
    have hLA := (N _ hpn).2.1
    intro hm
    simp only [List.mem_cons, List.not_mem_nil, or_false] at hm
    rcases hm with e | e | e
    · exact absurd e (Nat.ne_of_lt (Nat.lt_succ_of_lt ltL))
    · exact absurd e (Nat.ne_of_lt ltL)
    · exact hLA e.symm
  case hwr =>
    intro b hm
    simp only [List.mem_cons, List.not_mem_nil, or_false] at hm
    have ab := F₂.above
    rcases hm with e | e
    · rw [e]; exact Heap.get?_none_of_le (Nat.le_trans ab (Nat.le_of_lt (Nat.lt_succ_of_lt ltL)))
    · rw [e]; exact Heap.get?_none_of_le (Nat.le_trans ab (Nat.le_of_lt ltL))
  case hnw =>
    intro q hq hm
    have := Heap.lt_size (N q hq).1
    simp only [List.mem_cons, List.not_mem_nil, or_false] at hm
    rcases hm with e | e
    · exact absurd e (Nat.ne_of_lt (Nat.lt_succ_of_lt this))
    · exact absurd e (Nat.ne_of_lt this)
  case fin =>
    rintro h₉ tk₉ m₉ news₉ F₉ N₉ _ ⟨acc, tl, R₉, n₉, L₉⟩
    have e9 : ps.take its.toArray.size = ps := by rw [List.size_toArray, hpl]; exact List.take_length
    rw [e9] at R₉
    show _ ∧ _
    exact ⟨rfl, acc, tl, R₉, h₉, tk₉, m₉, news₉, rfl, F₉, N₉, L₉, hoff, n₉⟩
  case step =>
    rintro i v m₁ news₁ h₁ tk₁ own hi ⟨Tt, vals, rfl, ⟨tk, x, hx, rfl⟩, hT⟩ ⟨acc, tl, R₁, n₁, L₁⟩ hnw₁ hown hmem hall hst F₁ N₁
    obtain ⟨⟨old, he₁⟩, hit₁, hl₁⟩ := hst
    have hi' : i < ps.length := by rw [List.size_toArray, hpl] at hi; exact hi
    obtain ⟨v, hv, tp, a, b, c, rfl, htp⟩ := hP.get i ps[i] (List.getElem?_eq_getElem hi')
    have hxv : x = .ref tp := by
      rw [List.getElem?_toArray, hv] at hx; exact (Option.some.inj hx).symm
    subst hxv
    obtain ⟨stO₁, tits₁, tn₁, dits₁, dn₁, seg₁, en₁, ok₁, PT₁, PD₁, hb₁, ho₁⟩ := id L₁
    have hownOff : Off S tA dA own := by
      intro q hq
      have mS := hnw₁ (S, stO₁) (by rw [en₁]; exact .head _)
      have mT := hnw₁ (tA, lst tits₁ tn₁) (by rw [en₁]; exact .tail _ (.head _))
      have mD := hnw₁ (dA, lst dits₁ dn₁) (by rw [en₁]; exact .tail _ (.tail _ (.head _)))
      simp only [List.mem_cons, List.not_mem_nil, or_false, not_or] at mS mT mD
      have h3 := hown q hq
      simp only [List.mem_cons, List.not_mem_nil, or_false] at h3
      rcases h3 with e | e | e
      · rw [e]; exact ⟨Ne.symm mS.1, Ne.symm mT.1, Ne.symm mD.1⟩
      · rw [e]; exact ⟨Ne.symm mS.2, Ne.symm mT.2, Ne.symm mD.2⟩
      · rw [e]; exact hpS
    have htp₁ : (tp, tup [.int ps[i].n a, .str ps[i].wd b, .str ps[i].wt c]) ∈ own ++ news₁ := List.mem_append_right _ (by rw [en₁]; exact .tail _ (.tail _ (.tail _ (hb₁ _ htp))))
    refine assign_nest hh F₁ N₁ hT htp₁ (fun h₇ tk₇ F₇ N₇ => ?_) rfl rfl rfl rfl rfl
    have n₇ := names_push (x := Str.ofString "wants") (v := .str ps[i].wt c) (names_push (x := Str.ofString "word") (v := .str ps[i].wd b) (names_push (x := Str.ofString "number") (v := .int ps[i].n a) (names_push (x := Str.ofString "k") (v := .int (i : Int) tk) n₁ (names_ne [Str.ofString "line", Str.ofString "tokens", Str.ofString "due", Str.ofString "pieces", Str.ofString "state"] rfl (by decide +kernel))) (names_ne [Str.ofString "k", Str.ofString "line", Str.ofString "tokens", Str.ofString "due", Str.ofString "pieces", Str.ofString "state"] rfl (by decide +kernel))) (names_ne [Str.ofString "number", Str.ofString "k", Str.ofString "line", Str.ofString "tokens", Str.ofString "due", Str.ofString "pieces", Str.ofString "state"] rfl (by decide +kernel))) (names_ne [Str.ofString "word", Str.ofString "number", Str.ofString "k", Str.ofString "line", Str.ofString "tokens", Str.ofString "due", Str.ofString "pieces", Str.ofString "state"] rfl (by decide +kernel))
    refine wpAny_mono (turn_ok w p loose mean mg mb h₀ T₀ X₁ NX A { s with heap := h₇, toks := tk₇ } L fa cd own base news₁ S tA dA sc pA n i kk tk a b c tl vs its ns ps ps[i] acc _ F₇ N₇ L₁ hownOff hoff (n₇.sub fun q hq => ?_) hp hP (List.getElem?_eq_getElem hi') hz hW R₁ hsc sS d1 d2 d3 hI hL hh hd hu) ?_ (fun _ _ x => x.elim)
    · simp only [List.mem_cons, List.not_mem_nil, or_false] at hq ⊢
      rcases hq with h | h | h | h | h | h | h | h | h <;> simp [h]
    rintro f s₂ ⟨rfl, acc', tl', R₂, ⟨h₈, tk₈, m₈, news₈, rfl, F₈, N₈, L₈, hoff₈, n₈⟩⟩
    obtain ⟨stO₈, tits₈, tn₈, dits₈, dn₈, R8, N₉, ok₈, PT₈, PD₈, hb₈, ho₈, _, _, _⟩ := ls_open N₈ hownOff L₈
    have hX9 : ∀ x ∈ [s.heap.objs.size + 1, s.heap.objs.size], ∃ o, (x, o) ∈ (S, stO₈) :: (tA, lst tits₈ tn₈) :: (dA, lst dits₈ dn₈) :: R8 ∧ o.cls ≠ .type "tuple" ∧ o.cls ≠ .type "list" := by
      intro x hx
      have ab := F₁.above
      have e0 : ∀ b, s.heap.objs.size ≤ b → h₀.get? b = none := fun b hb => Heap.get?_none_of_le (Nat.le_trans ab (Nat.le_trans (Nat.le_of_lt ltL) hb))
      simp only [List.mem_cons, List.not_mem_nil, or_false] at hx
      rcases hx with e | e
      · have hm := hall (s.heap.objs.size + 1) (.head _) (e0 _ (Nat.le_succ _)) _ he₁
        refine ⟨_, .tail _ (.tail _ (.tail _ (ho₈ _ (by rw [e]; exact hm)))), ?_, ?_⟩
        · show (Value.type "enumerate") ≠ _; decide
        · show (Value.type "enumerate") ≠ _; decide
      · obtain ⟨oi, hoi, hci, _⟩ := hit₁
        have hm := hall s.heap.objs.size (.tail _ (.head _)) (e0 _ (Nat.le_refl _)) _ hoi
        exact ⟨_, .tail _ (.tail _ (.tail _ (ho₈ _ (by rw [e]; exact hm)))), by rw [hci]; decide, by rw [hci]; decide⟩
    have hbX9 : ∀ q ∈ base, q.1 ∉ [s.heap.objs.size + 1, s.heap.objs.size] := fun q hq hm => hnw₁ q (by rw [en₁]; exact .tail _ (.tail _ (.tail _ (hb₁ q hq)))) hm
    obtain ⟨news', k1, k2, k3⟩ := ls_endX (own := own) (base := base) [s.heap.objs.size + 1, s.heap.objs.size] N₉ (.head _) ok₈ (.tail _ (.head _)) (.tail _ (.tail _ (.head _))) (TkIn.sub PT₈ fun q hq => .tail _ (.tail _ (.tail _ hq))) (DuIn.sub PD₈ fun q hq => .tail _ (.tail _ (.tail _ hq))) (fun q hq => .tail _ (.tail _ (.tail _ (hb₈ q hq)))) (fun q hq => .tail _ (.tail _ (.tail _ (ho₈ q hq)))) hoff hX9 hbX9
    exact .next ⟨rfl, h₈, tk₈, m₈, news', rfl, F₈, k1, k3, acc', tl', R₂, n₈, k2⟩
end Mine
end
theorem Mine.fresh_ListGen : True ∧ True := by
  w_top off
  walk1 <;> exact True.intro
section
open PySem PySem.W PySem.Spec PySem.Calls PyProof.Rows
set_option Elab.async false
namespace Mine
set_option maxRecDepth 100000
abbrev bl (acc : Array Value) (c : Nat) : Obj := { cls := .type "list", dict := none, data := .seq acc c, slots := #[] }
/-- a generator that is drawn from into the list at S: St i acc s -/
structure Drw (prog : Program) (w : World) (A : Around) (I S : Addr) (n : Nat) (St : Nat → Array Value → Shared → Prop) : Prop where
  ne : S ≠ I
  touch : ∀ i acc (s : Shared) h', St i acc s → (∃ o, h'.get? S = some o) → (∀ b o, b ≠ S → s.heap.get? b = some o → h'.get? b = some o) → St i acc { s with heap := h' }
  isGen : ∀ i acc (s : Shared), St i acc s → ∃ g, s.heap.IsGen I g
  item : ∀ i acc (s : Shared) (Q : Option Value → Shared → Prop) (E : Value → Shared → Prop), i < n → St i acc s → (∃ a c, s.heap.get? S = some (bl a c)) →
    (∀ v s', (∀ o, s.heap.get? S = some o → s'.heap.get? S = some o) → St (i + 1) (acc.push v) s' → Q (some v) s') → wpAny (model prog w) A (pyNext (.ref I)) Q E s
  done : ∀ acc (s : Shared) (Q : Option Value → Shared → Prop) (E : Value → Shared → Prop), St n acc s → (∃ a c, s.heap.get? S = some (bl a c)) →
    (∀ s', (∀ o, s.heap.get? S = some o → s'.heap.get? S = some o) → St (n + 1) acc s' → Q none s') → wpAny (model prog w) A (pyNext (.ref I)) Q E s
/-- the draw stands at i with acc drawn, and the list holds xs -/
def Own (St : Nat → Array Value → Shared → Prop) (S : Addr) (i : Nat) (acc xs : Array Value) (s : Shared) : Prop := St i acc s ∧ ∃ c, s.heap.get? S = some (bl xs c)
theorem own_grown {St : Nat → Array Value → Shared → Prop} {S : Addr} {i : Nat} {acc xs : Array Value} {s s' : Shared} {k : Nat} {acc' : Array Value} (H : Own St S i acc xs s)
    (keep : ∀ o, s.heap.get? S = some o → s'.heap.get? S = some o) (st : St k acc' s') : Own St S k acc' xs s' := ⟨st, H.2.imp fun _ e => keep _ e⟩
section
variable {prog : Program} {w : World} {A B : Around} {s : Shared} {I S : Addr} {n : Nat} {St : Nat → Array Value → Shared → Prop} {i : Nat} {acc xs : Array Value} {E : Value → Shared → Prop}
/-- the list is written over, the draw stands as it stood -/
theorem own_put (W : Drw prog w B I S n St) (f : Array Value → Array Value) {Q : Unit → Shared → Prop} (H : Own St S i acc xs s) (z : xs.size ≤ sizeLine) (z' : (f xs).size ≤ sizeLine + 1)
    (k : ∀ s', Own St S i acc (f xs) s' → Q () s') : wpAny (model prog w) A (Builtin.List.listUpdate (.ref S) f) Q E s := by
  obtain ⟨st, c, e⟩ := H
  have new : ∃ c', (s.heap.update S (Obj.mapSeq f)).get? S = some (bl (f xs) c') := ⟨_, Heap.get?_update_self _ e rfl⟩
  refine wpAny_updateSeq e rfl (k _ ⟨W.touch i acc s _ st (new.elim fun _ q => ⟨_, q⟩) ?_, new⟩) z z'
  intro b o n q
  rw [Heap.get?_update_other _ _ n.symm, q]
/-- room is made: one item on, one off -/
theorem own_touch (W : Drw prog w B I S n St) {Q : Unit → Shared → Prop} (H : Own St S i acc #[] s) (k : ∀ s', Own St S i acc #[] s' → Q () s') :
    wpAny (model prog w) A (Builtin.List.listTouch (.ref S)) Q E s :=
  wpAny_bind (own_put W (·.push .none) H (by decide +kernel) (by decide +kernel) fun _ H₁ => own_put W (·.pop) H₁ (by decide +kernel) (by decide +kernel) k)
/-- a generator knows no length -/
theorem hint_gen {g : Nat} {Q : Bool → Shared → Prop} (G : s.heap.IsGen I g) (q : Q true s) : wpAny (model prog w) A (Builtin.List.listLengthHint (.ref I)) Q E s := by
  have T := G.typeIs
  have l := F.gen_no_len
  have h := F.gen_no_hint
  unfold Builtin.List.listLengthHint
  repeat (any_goals (first | exact q | assumption | wp_step))
end
section
variable {prog : Program} {w : World} {A : Around} {R : Result → Shared → Prop} {I S : Addr} {n : Nat} {St : Nat → Array Value → Shared → Prop} {E : Value → Shared → Prop} {res : Value}
/-- one turn of the loop that fills the list -/
theorem fill_turn {s : Shared} (h : wpAny (model prog w) A.in1 (pyNext (.ref I)) (fun o s' => match o with
      | none => R (.ok (.ret res)) s'
      | some v => wpAny (model prog w) A.in1 (Builtin.List.listUpdate (.ref S) (·.push v)) (fun _ s₁ => codeAny (model prog w) A (.builtin "list.extend.loop" ⟨[.ref S, .ref I, res], []⟩) R s₁) (fun _ _ => False) s')
      (fun _ _ => False) s) : codeAny (model prog w) A (.builtin "list.extend.loop" ⟨[.ref S, .ref I, res], []⟩) R s := by
  refine codeAny_builtin F.entry_extend_loop ?_
  rw [Around.under_plainId F.plain_extend_loop _]
  refine wpAny_bind (m := pyNext (.ref I)) (wpAny_mono h (fun o s' g => ?_) fun _ _ x => x.elim)
  cases o with
  | none => exact wpAny_pure g
  | some v => exact wpAny_bind (m := Builtin.List.listUpdate (.ref S) (·.push v)) (wpAny_mono g (fun _ _ y => wpAny_pure ⟨plainId_quiet F.plain_extend_loop _, y⟩) fun _ _ x => x.elim)
theorem fill_loop (W : Drw prog w A.in1 I S n St) (hn : n ≤ sizeLine) (k : ∀ s' acc', Own St S (n + 1) acc' acc' s' → R (.ok (.ret res)) s') : ∀ (j i : Nat) (acc : Array Value) (s : Shared),
    i + j = n → acc.size = i → Own St S i acc acc s → codeAny (model prog w) A (.builtin "list.extend.loop" ⟨[.ref S, .ref I, res], []⟩) R s
  | 0, i, acc, s, e, _, H => by
    have e : i = n := e
    subst e
    obtain ⟨c, hc⟩ := H.2
    exact fill_turn (W.done acc s _ _ H.1 ⟨_, c, hc⟩ fun s' keep st => k s' acc (own_grown H keep st))
  | j + 1, i, acc, s, e, z, H => by
    obtain ⟨c, hc⟩ := H.2
    refine fill_turn (W.item i acc s _ _ (by omega) H.1 ⟨_, c, hc⟩ fun v s' keep st => ?_)
    have p : (acc.push v).size = i + 1 := by rw [Array.size_push, z]
    exact own_put W (·.push v) (own_grown H keep st) (by omega) (by show (acc.push v).size ≤ _; omega) fun s₁ H₁ => fill_loop W hn k j (i + 1) (acc.push v) s₁ (by omega) p H₁
/-- what a built-in's body has to show -/
abbrev Ends (prog : Program) (w : World) (A : Around) (R : Result → Shared → Prop) (m : Sem Fin) (s : Shared) : Prop := wpAny (model prog w) A.in1 m
  (fun fin s' => match fin with | .done f => R (.ok f) s' | .again c' => c'.quiet = true ∧ codeAny (model prog w) A c' R s') (fun e s' => R (.error e) s') s
theorem fill_from {s : Shared} (W : Drw prog w A.in1 I S n St) (hn : n ≤ sizeLine) (k : ∀ s' acc', Own St S (n + 1) acc' acc' s' → R (.ok (.ret res)) s') (H : Own St S 0 #[] #[] s) :
    Ends prog w A R (Builtin.List.listExtendWith (.ref S) (.ref I) res) s := by
  obtain ⟨g, G⟩ := W.isGen 0 #[] s H.1
  have other : (Builtin.List.listSameRef (.ref S) (.ref I) || Value.type "generator" == .type "list" || Value.type "generator" == .type "tuple") = false := by
    rw [show Builtin.List.listSameRef (.ref S) (.ref I) = (S == I) from rfl, beq_eq_false_iff_ne.mpr W.ne]
    decide
  unfold Builtin.List.listExtendWith
  refine wpAny_bind (wpAny_typeOf G.typeIs ?_)
  simp only [other]
  refine wpAny_bind (wpAny_pyIter_gen G (wpAny_bind (wpAny_holding (hint_gen G ?_))))
  refine wpAny_bind (wpAny_rule ?_)
  exact wpAny_bind (own_touch W H fun s₁ H₁ => wpAny_pure ⟨plainId_quiet F.plain_extend_loop _, fill_loop W hn k n 0 #[] s₁ (Nat.zero_add n) rfl H₁⟩)
theorem fill_init {s : Shared} (W : Drw prog w A.in1 I S n St) (hn : n ≤ sizeLine) (k : ∀ s' acc', Own St S (n + 1) acc' acc' s' → R (.ok (.ret .none)) s') (H : Own St S 0 #[] #[] s) :
    Ends prog w A R (Builtin.«list.__init__» ⟨[.ref S, .ref I], []⟩) s := by
  obtain ⟨c, hc⟩ := H.2
  refine wpAny_bind (m := Builtin.List.listItems (.ref S)) (wpAny_listItems hc rfl ?_)
  refine wpAny_bind (m := Builtin.List.listUpdate (.ref S) fun _ => #[]) (own_put W (fun _ => #[]) H (by decide +kernel) (by decide +kernel) fun s₁ H₁ => ?_)
  exact wpAny_bind (wpAny_letGo (fill_from W hn k H₁))
end
section
variable {prog : Program} {w : World} {A : Around} {E : Value → Shared → Prop} {s : Shared} {I : Addr} {n : Nat} {St : Nat → Array Value → Shared → Prop}
/-- list(g): a new list, and what was drawn into it -/
theorem drw_list {Q : Value → Shared → Prop} (W : Drw prog w A.in1.in1 I s.heap.objs.size n St) (hst : St 0 #[] { s with heap := s.heap.push (bl #[] 0) }) (hn : n ≤ sizeLine)
    (hQ : ∀ s' acc' c', s'.heap.get? s.heap.objs.size = some (bl acc' c') → St (n + 1) acc' s' → Q (.ref s.heap.objs.size) s') :
    wpAny (model prog w) A (call (.type "list") [.ref I]) Q E s := by
  have at0 := Heap.get?_push_size s.heap (o := bl #[] 0) rfl
  refine callType_codes (Q₁ := fun x s₁ => x = .ref s.heap.objs.size ∧ Own St s.heap.objs.size 0 #[] #[] s₁) F.called_list (F.typeCall_list_1 _) F.entry_list_init (code_list_new _ ⟨rfl, hst, 0, at0⟩) ?_
  rintro _ s₁ ⟨rfl, H⟩
  obtain ⟨c, hc⟩ := id H.2
  exact ⟨⟨_, hc, rfl⟩, F.args_list_init_2 _ _, fill_init W hn (fun s' acc' K => ⟨rfl, K.2.elim fun c e => hQ s' acc' c e K.1⟩) H⟩
end
end Mine
end
theorem Mine.fresh_SegR : True ∧ True := by
  w_top off
  walk1 <;> exact True.intro
section
open PySem PySem.W PySem.Spec PySem.Calls PyProof.Rows
set_option Elab.async false
namespace Mine
section
variable {M : Model} {A : Around} {R : GenEnd} {Y : Protocol} {n : Nat} {s₀ : Shared} {c : Code} {fs : List Frame} {s : Shared} {env : Env}
  {K : Flow → Sem Fin} {H : Value → Sem Fin} {gd : Bool → Bool} {lv : List Value → List Value}
theorem execs_app_wrap (xs ys : List Stmt) : (execs (xs ++ ys) env).wrap K H gd lv =
    (execs xs env).wrap (fun f => match f with | .next => (execs ys env).wrap K H gd lv | f => K f) H gd lv := by
  induction xs with
  | nil => rfl
  | cons st xs ih =>
    rw [List.cons_append, execs_cons_wrap, execs_cons_wrap]
    exact Sem.wrap_congr _ _ _ (fun f => by cases f <;> first | exact ih | rfl) (fun _ => rfl)
/-- statements that yield nothing -/
theorem seg_app {xs ys : List Stmt} (h : wpAny M (A.over c fs) (execs xs env) (fun f s' => Here (f = .next ∧ Seg M A R Y n s₀ c ((execs ys env).wrap K H gd lv) fs s')) (fun _ _ => False) s) :
    Seg M A R Y n s₀ c ((execs (xs ++ ys) env).wrap K H gd lv) fs s := by
  rw [execs_app_wrap]
  refine seg_wrap (wpAny_mono h (fun f s' h' => ?_) fun _ _ x => x.elim)
  obtain ⟨rfl, h'⟩ := h'
  exact h'
theorem seg_one {st : Stmt} {ys : List Stmt} (h : wpAny M (A.over c fs) (exec st env) (fun f s' => Here (f = .next ∧ Seg M A R Y n s₀ c ((execs ys env).wrap K H gd lv) fs s')) (fun _ _ => False) s) :
    Seg M A R Y n s₀ c ((execs (st :: ys) env).wrap K H gd lv) fs s := by
  rw [execs_cons_wrap]
  refine seg_wrap (wpAny_mono h (fun f s' h' => ?_) fun _ _ x => x.elim)
  obtain ⟨rfl, h'⟩ := h'
  exact h'
/-- the last statement, or one alone -/
theorem seg_last {st : Stmt} (h : wpAny M (A.over c fs) (exec st env) (fun f s' => Here (Seg M A R Y n s₀ c (K f) fs s')) (fun _ _ => False) s) :
    Seg M A R Y n s₀ c ((exec st env).wrap K H gd lv) fs s := seg_wrap (wpAny_mono h (fun _ _ h' => h') fun _ _ x => x.elim)
theorem seg_If {test : PySem.Expr} {body orelse : List Stmt} {pos : Pos}
    (h : wpAny M (A.over c fs) (isTrue test env (eval test env)) (fun b s' => Here (Seg M A R Y n s₀ c ((execs (if b = true then body else orelse) env).wrap K H gd lv) fs s')) (fun _ _ => False) s) :
    Seg M A R Y n s₀ c ((exec (.If test body orelse pos) env).wrap K H gd lv) fs s := by
  rw [exec_If]
  refine seg_bind_wrap (wpAny_standAt ?_)
  refine seg_bind_wrap (wpAny_mono h (fun b s' h' => ?_) fun _ _ x => x.elim)
  have h' : Seg M A R Y n s₀ c ((execs (if b = true then body else orelse) env).wrap K H gd lv) fs s' := h'
  cases b <;> exact h'
theorem seg_IfC {test : PySem.Expr} {body orelse ys : List Stmt} {pos : Pos}
    (h : wpAny M (A.over c fs) (isTrue test env (eval test env)) (fun b s' => Here (Seg M A R Y n s₀ c ((execs ((if b = true then body else orelse) ++ ys) env).wrap K H gd lv) fs s')) (fun _ _ => False) s) :
    Seg M A R Y n s₀ c ((execs (.If test body orelse pos :: ys) env).wrap K H gd lv) fs s := by
  rw [execs_cons_wrap]
  refine seg_If (wpAny_mono h (fun b s' h' => ?_) fun _ _ x => x)
  have h' : Seg M A R Y n s₀ c ((execs ((if b = true then body else orelse) ++ ys) env).wrap K H gd lv) fs s' := h'
  rw [execs_app_wrap] at h'
  exact h'
end
section
variable {prog : Program} {w : World} {A : Around} {R : GenEnd} {Y : Protocol} {n : Nat} {s₀ : Shared} {c : Code} {fs : List Frame} {s : Shared} {env : Env}
  {K : Flow → Sem Fin} {H : Value → Sem Fin} {gd : Bool → Bool} {lv : List Value → List Value}
theorem seg_For {target iter : PySem.Expr} {body orelse : List Stmt} {pos : Pos}
    (h : wpAny (model prog w) (A.over c fs) (eval iter env) (fun x s₁ => Here (wpAny (model prog w) (A.over c fs) (pyIter x) (fun it s₂ =>
      ∀ p, Seg (model prog w) A R Y n s₀ (.forLoop target it body orelse env) ((model prog w).den (.forLoop target it body orelse env))
      (.ret (fun r => ((match r with | .ok f => (.pure f : Sem Flow) | .error e => .raise e).onRaise fun (x : Value) => do
        if (← field x 1) == Value.none then unsupported "frame.own-activation:exception-without-traceback"
        setFlight x env.frame).wrap K H gd lv) none (gd false) (lv []) c p [] :: fs) s₂) (fun _ _ => False) s₁)) (fun _ _ => False) s)
    (hs : ∀ x, foldedSetIterable iter env x = pure x := by intro _; rfl) :
    Seg (model prog w) A R Y n s₀ c ((exec (.For target iter body orelse pos) env).wrap K H gd lv) fs s := by
  rw [exec_For]
  refine seg_bind_wrap (wpAny_standAt ?_)
  refine seg_bind_wrap (wpAny_mono h (fun x s₁ h₁ => ?_) fun _ _ x => x.elim)
  have h₁ : wpAny (model prog w) (A.over c fs) (pyIter x) _ _ s₁ := h₁
  refine seg_bind_wrap (wpAny_of_eq (hs x) ?_)
  refine seg_bind_wrap (wpAny_standAt ?_)
  refine seg_bind_wrap (wpAny_holding (wpAny_mono h₁ (fun it s₂ h₂ => ?_) fun _ _ x => x.elim))
  exact seg_call h₂
end
section
variable {prog : Program} {w : World} {A : Around} {R : GenEnd} {Y : Protocol} {n : Nat} {s₀ : Shared} {fs : List Frame} {s : Shared} {env : Env}
def forK (target : PySem.Expr) (it : Value) (body orelse : List Stmt) (env : Env) : Flow → Sem Fin := fun f => match f with
  | .next | .cont => .pure (.again (.forLoop target it body orelse env))
  | .brk => .pure (.done .next)
  | .ret v => .pure (.done (.ret v))
def forH (env : Env) : Value → Sem Fin := fun e => (do noteFrame e env; theTreesLotGoes e : Sem Unit).wrap (fun _ => .raise e) .raise id id
theorem seg_forLoop {target : PySem.Expr} {it : Value} {body : List Stmt}
    (h : wpAny (model prog w) (A.over (.forLoop target it body [] env) fs) (pyNext it) (fun r s₁ => match r with
        | none => Seg (model prog w) A R Y n s₀ (.block [] env) (.pure (.done .next)) fs s₁
        | some v => wpAny (model prog w) (A.over (.forLoop target it body [] env) fs) (letOwnedTupleGo target it v) (fun _ s₁' => wpAny (model prog w) (A.over (.forLoop target it body [] env) fs) (assign target env v) (fun _ s₂ =>
            Seg (model prog w) A R Y n s₀ (.forLoop target it body [] env) ((execs body env).wrap (forK target it body [] env) (forH env) id id) fs s₂) (fun _ _ => False) s₁') (fun _ _ => False) s₁) (fun _ _ => False) s) :
    Seg (model prog w) A R Y n s₀ (.forLoop target it body [] env) ((model prog w).den (.forLoop target it body [] env)) fs s := by
  show Seg _ A R Y n s₀ _ ((forTurn target it body [] env).onRaise (fun x => do noteFrame x env; theTreesLotGoes x)) fs s
  rw [Sem.onRaise_eq_wrap]
  simp only [forTurn]
  refine seg_bind_wrap (wpAny_standAt ?_)
  refine seg_bind_wrap (wpAny_onRaise (wpAny_mono h (fun r s₁ h₁ => ?_) fun _ _ x => x.elim))
  cases r with
  | none => exact seg_again rfl h₁
  | some v =>
    refine seg_bind_wrap (wpAny_mono h₁ (fun _ s₁' h₁' => ?_) fun _ _ x => x.elim)
    refine seg_bind_wrap (wpAny_mono h₁' (fun _ s₂ h₂ => ?_) fun _ _ x => x.elim)
    show Seg _ A R Y n s₀ _ ((execs body env >>= _).wrap _ _ _ _) fs s₂
    rw [Sem.bind_eq_wrap', Sem.wrap_wrap]
    rw [Sem.wrap_congr (execs body env) _ _ (K' := forK target it body [] env) (H' := forH env) (fun f => by cases f <;> rfl)
        (fun e => by first | exact Sem.bind_eq_wrap _ _ | (show (do noteFrame e env; theTreesLotGoes e : Sem Unit).bind (fun _ => .raise e) = _; rw [Sem.bind_eq_wrap]; rfl))]
    exact h₂
end
end Mine
end
theorem Mine.fresh_RegP : True ∧ True := by
  w_top off
  walk1 <;> exact True.intro
section
open PySem PySem.W PySem.Spec PySem.Calls PyProof.Rows
set_option Elab.async false
namespace Mine
/-- the ints that a list display writes -/
def writtenInts : List PySem.Expr → List Nat
  | .Constant (.int i) _ _ :: es => i.toNat :: writtenInts es
  | _ :: es => writtenInts es
  | [] => []
/-- the ints of the third argument of the call whose value the top's statement k stores -/
def wordsOf (k : Nat) : List Nat := match PySem.Challenge.pw_co0042_01.main.body.getD k (.Pass ⟨0, 0, 0, 0⟩) with
  | .Assign _ (.Call _ [_, _, .List es _, _, _, _] _ _) _ => writtenInts es
  | _ => []
set_option maxRecDepth 100000 in
/-- the pattern of a function's head, read out of the program -/
def read49 : { l : List Nat // l = wordsOf 3 } := ⟨_, by
  dsimp only [wordsOf, PySem.Challenge.pw_co0042_01, List.getD, List.getD_cons_succ, List.getD_cons_zero, List.getElem?_cons_succ, List.getElem?_cons_zero, Option.getD, writtenInts, Int.reduceToNat]⟩
set_option maxRecDepth 100000 in
/-- the pattern of a generic's head, read out of the program -/
def read54 : { l : List Nat // l = wordsOf 4 } := ⟨_, by
  dsimp only [wordsOf, PySem.Challenge.pw_co0042_01, List.getD, List.getD_cons_succ, List.getD_cons_zero, List.getElem?_cons_succ, List.getElem?_cons_zero, Option.getD, writtenInts, Int.reduceToNat]⟩
def code49 : Array Nat := read49.1.toArray
def code54 : Array Nat := read54.1.toArray
def mach (code : Array Nat) (l r : List Nat) : Sre.M := Sre.forMatch code (l ++ r).toArray 1 0 (l ++ r).length false false
def verdict (m : Sre.M) : Option Bool := match m.outcome with
  | some .matched => some true
  | some .failed => some false
  | _ => none
open Sre in
theorem runFor_done (m : Sre.M) (h : m.outcome.isSome = true) : ∀ n, m.runFor n = m
  | 0 => rfl
  | n + 1 => by show (if m.outcome.isSome then m else _) = m; rw [if_pos h]
theorem runFor_add (m : Sre.M) : ∀ a b, m.runFor (a + b) = (m.runFor a).runFor b
  | 0, b => by rw [Nat.zero_add]; rfl
  | a + 1, b => by
    rw [Nat.add_right_comm]
    show (if m.outcome.isSome then m else m.step.runFor (a + b)) = ((if m.outcome.isSome then m else m.step.runFor a)).runFor b
    by_cases h : m.outcome.isSome = true
    · rw [if_pos h, if_pos h, runFor_done m h]
    · rw [if_neg h, if_neg h, runFor_add m.step a b]
def rep1 (m : Sre.M) (s2 : Sre.Seen) : Sre.M :=
  ({ m with seen := s2, pos := m.pos + 1 } : Sre.M).afterRun .giveBack 1 (({ m with seen := s2, pos := m.pos + 1 } : Sre.M).keep m.inner.isSome)
def taken (m : Sre.M) (j : Nat) (s : Sre.Seen) : Bool × Sre.Seen := match Sre.accepts m.code (m.pc + 4) (m.text.getD j 0) s with
  | .ok x => x
  | .error _ => (false, {})
def sRep (m : Sre.M) : Sre.Seen := (taken m (m.pos + 1) (taken m m.pos ((m.seen.add (m.word 0)).add (m.word 4))).2).2
theorem rep_step (m : Sre.M) (k : Nat) (ho : m.outcome = none) (han : m.answer = none) (hpc : m.pc < m.code.size) (hop : Sre.ops[m.word 0]? = some .REPEAT_ONE) (h2 : m.word 2 = 1) (h3 : m.word 3 = 4294967295) (hl : m.lim = (k + 2) + m.pos)
    (ha : Sre.accepts m.code (m.pc + 4) (m.text.getD m.pos 0) ((m.seen.add (m.word 0)).add (m.word 4)) = .ok (true, (taken m m.pos ((m.seen.add (m.word 0)).add (m.word 4))).2))
    (hb : Sre.accepts m.code (m.pc + 4) (m.text.getD (m.pos + 1) 0) (taken m m.pos ((m.seen.add (m.word 0)).add (m.word 4))).2 = .ok (false, sRep m)) : m.step = rep1 m (sRep m) := by
  unfold Sre.M.step
  rw [ho, han]
  simp only [Option.isSome_none, Bool.false_eq_true, if_false, if_pos hpc]
  unfold Sre.M.exec
  simp only [hop]
  have hroom : (m.lim : Int) - (m.pos : Int) = ((k + 2 : Nat) : Int) := by rw [hl]; omega
  obtain ⟨j, hj⟩ : ∃ j, min 4294967295 (((k + 2 : Nat) : Int)).toNat = j + 2 := ⟨min 4294967295 (((k + 2 : Nat) : Int)).toNat - 2, by omega⟩
  have w2 : Sre.M.word { m with seen := m.seen.add (m.word 0) } 2 = 1 := h2
  have w3 : Sre.M.word { m with seen := m.seen.add (m.word 0) } 3 = 4294967295 := h3
  have w4 : Sre.M.word { m with seen := m.seen.add (m.word 0) } 4 = m.word 4 := rfl
  simp only [w2, w3, w4, hroom, Bool.false_eq_true, if_false, hj]
  have hr : ¬ (((1 : Nat) : Int) > ((k + 2 : Nat) : Int)) := by omega
  rw [if_neg hr]
  have run : Sre.run m.code m.text (m.pc + 4) (j + 2) m.pos 0 ((m.seen.add (m.word 0)).add (m.word 4)) = .ok (1, sRep m) := by
    show (Sre.accepts m.code (m.pc + 4) (m.text.getD m.pos 0) _ >>= fun x => if x.1 = true then Sre.run m.code m.text (m.pc + 4) (j + 1) (m.pos + 1) (0 + 1) x.2 else pure (0, x.2)) = _
    rw [ha]
    show (Sre.accepts m.code (m.pc + 4) (m.text.getD (m.pos + 1) 0) _ >>= fun x => if x.1 = true then Sre.run m.code m.text (m.pc + 4) j (m.pos + 1 + 1) (0 + 1 + 1) x.2 else pure (0 + 1, x.2)) = _
    rw [hb]; rfl
  simp only [run]
  rfl
theorem rep_go (m : Sre.M) (a n k : Nat) (ho : (m.runFor a).outcome = none) (han : (m.runFor a).answer = none) (hpc : Nat.ble ((m.runFor a).pc + 1) (m.runFor a).code.size = true) (hop : Sre.ops[(m.runFor a).word 0]? = some .REPEAT_ONE) (h2 : (m.runFor a).word 2 = 1) (h3 : (m.runFor a).word 3 = 4294967295) (hl : (m.runFor a).lim = (k + 2) + (m.runFor a).pos)
    (ha : Sre.accepts (m.runFor a).code ((m.runFor a).pc + 4) ((m.runFor a).text.getD (m.runFor a).pos 0) (((m.runFor a).seen.add ((m.runFor a).word 0)).add ((m.runFor a).word 4)) = .ok (true, (taken (m.runFor a) (m.runFor a).pos (((m.runFor a).seen.add ((m.runFor a).word 0)).add ((m.runFor a).word 4))).2))
    (hb : Sre.accepts (m.runFor a).code ((m.runFor a).pc + 4) ((m.runFor a).text.getD ((m.runFor a).pos + 1) 0) (taken (m.runFor a) (m.runFor a).pos (((m.runFor a).seen.add ((m.runFor a).word 0)).add ((m.runFor a).word 4))).2 = .ok (false, sRep (m.runFor a))) :
    m.runFor (a + (n + 1)) = (rep1 (m.runFor a) (sRep (m.runFor a))).runFor n := by
  rw [runFor_add]
  show (if (m.runFor a).outcome.isSome then _ else (m.runFor a).step.runFor n) = _
  rw [ho, rep_step (m.runFor a) k ho han (Nat.le_of_ble_eq_true hpc) hop h2 h3 hl ha hb]
  rfl
theorem def_d (r : List Nat) : verdict ((mach code49 [100, 101, 102, 32] r).runFor 60) = some true := by kernel_rfl
theorem def_x (a b c d e : Nat) (r : List Nat) : verdict ((mach code49 [120, a, b, c, d, e] r).runFor 60) = some false := by kernel_rfl
theorem gen_x (a b c d e : Nat) (r : List Nat) : verdict ((mach code54 [120, a, b, c, d, e] r).runFor 80) = some false := by kernel_rfl
theorem def_a (r : List Nat) : verdict ((mach code49 [97, 115, 121, 110, 99, 32, 100, 101, 102, 32] r).runFor 60) = some true := by
  have e := rep_go (mach code49 [97, 115, 121, 110, 99, 32, 100, 101, 102, 32] r) 8 51 (r.length + 3) (by kernel_rfl) (by kernel_rfl) (by kernel_rfl) (by kernel_rfl) (by kernel_rfl) (by kernel_rfl) (by kernel_rfl) (by kernel_rfl) (by kernel_rfl)
  rw [show (60 : Nat) = 8 + (51 + 1) from rfl, e]
  kernel_rfl

theorem gen_d1 (r : List Nat) : verdict ((mach code54 [100, 101, 102, 32, 102, 40] r).runFor 80) = some false := by
  have e := rep_go (mach code54 [100, 101, 102, 32, 102, 40] r) 10 69 (r.length + 1) (by kernel_rfl) (by kernel_rfl) (by kernel_rfl) (by kernel_rfl) (by kernel_rfl) (by kernel_rfl) (by kernel_rfl) (by kernel_rfl) (by kernel_rfl)
  rw [show (80 : Nat) = 10 + (69 + 1) from rfl, e]
  have e2 := rep_go (rep1 ((mach code54 [100, 101, 102, 32, 102, 40] r).runFor 10) (sRep ((mach code54 [100, 101, 102, 32, 102, 40] r).runFor 10))) 0 68 r.length (by kernel_rfl) (by kernel_rfl) (by kernel_rfl) (by kernel_rfl) (by kernel_rfl) (by kernel_rfl) (by kernel_rfl) (by kernel_rfl) (by kernel_rfl)
  rw [show (69 : Nat) = 0 + (68 + 1) from rfl, e2]
  kernel_rfl
theorem gen_d2 (r : List Nat) : verdict ((mach code54 [100, 101, 102, 32, 102, 32] r).runFor 80) = some false := by
  have e := rep_go (mach code54 [100, 101, 102, 32, 102, 32] r) 10 69 (r.length + 1) (by kernel_rfl) (by kernel_rfl) (by kernel_rfl) (by kernel_rfl) (by kernel_rfl) (by kernel_rfl) (by kernel_rfl) (by kernel_rfl) (by kernel_rfl)
  rw [show (80 : Nat) = 10 + (69 + 1) from rfl, e]
  have e2 := rep_go (rep1 ((mach code54 [100, 101, 102, 32, 102, 32] r).runFor 10) (sRep ((mach code54 [100, 101, 102, 32, 102, 32] r).runFor 10))) 0 68 r.length (by kernel_rfl) (by kernel_rfl) (by kernel_rfl) (by kernel_rfl) (by kernel_rfl) (by kernel_rfl) (by kernel_rfl) (by kernel_rfl) (by kernel_rfl)
  rw [show (69 : Nat) = 0 + (68 + 1) from rfl, e2]
  kernel_rfl
theorem gen_a1 (r : List Nat) : verdict ((mach code54 [97, 115, 121, 110, 99, 32, 100, 101, 102, 32, 102, 40] r).runFor 120) = some false := by
  have e := rep_go (mach code54 [97, 115, 121, 110, 99, 32, 100, 101, 102, 32, 102, 40] r) 8 111 (r.length + 5) (by kernel_rfl) (by kernel_rfl) (by kernel_rfl) (by kernel_rfl) (by kernel_rfl) (by kernel_rfl) (by kernel_rfl) (by kernel_rfl) (by kernel_rfl)
  rw [show (120 : Nat) = 8 + (111 + 1) from rfl, e]
  have e2 := rep_go (rep1 ((mach code54 [97, 115, 121, 110, 99, 32, 100, 101, 102, 32, 102, 40] r).runFor 8) (sRep ((mach code54 [97, 115, 121, 110, 99, 32, 100, 101, 102, 32, 102, 40] r).runFor 8))) 5 105 (r.length + 1) (by kernel_rfl) (by kernel_rfl) (by kernel_rfl) (by kernel_rfl) (by kernel_rfl) (by kernel_rfl) (by kernel_rfl) (by kernel_rfl) (by kernel_rfl)
  rw [show (111 : Nat) = 5 + (105 + 1) from rfl, e2]
  have e3 := rep_go (rep1 ((rep1 ((mach code54 [97, 115, 121, 110, 99, 32, 100, 101, 102, 32, 102, 40] r).runFor 8) (sRep ((mach code54 [97, 115, 121, 110, 99, 32, 100, 101, 102, 32, 102, 40] r).runFor 8))).runFor 5) (sRep ((rep1 ((mach code54 [97, 115, 121, 110, 99, 32, 100, 101, 102, 32, 102, 40] r).runFor 8) (sRep ((mach code54 [97, 115, 121, 110, 99, 32, 100, 101, 102, 32, 102, 40] r).runFor 8))).runFor 5))) 0 104 r.length (by kernel_rfl) (by kernel_rfl) (by kernel_rfl) (by kernel_rfl) (by kernel_rfl) (by kernel_rfl) (by kernel_rfl) (by kernel_rfl) (by kernel_rfl)
  rw [show (105 : Nat) = 0 + (104 + 1) from rfl, e3]
  kernel_rfl
theorem gen_a2 (r : List Nat) : verdict ((mach code54 [97, 115, 121, 110, 99, 32, 100, 101, 102, 32, 102, 32] r).runFor 120) = some false := by
  have e := rep_go (mach code54 [97, 115, 121, 110, 99, 32, 100, 101, 102, 32, 102, 32] r) 8 111 (r.length + 5) (by kernel_rfl) (by kernel_rfl) (by kernel_rfl) (by kernel_rfl) (by kernel_rfl) (by kernel_rfl) (by kernel_rfl) (by kernel_rfl) (by kernel_rfl)
  rw [show (120 : Nat) = 8 + (111 + 1) from rfl, e]
  have e2 := rep_go (rep1 ((mach code54 [97, 115, 121, 110, 99, 32, 100, 101, 102, 32, 102, 32] r).runFor 8) (sRep ((mach code54 [97, 115, 121, 110, 99, 32, 100, 101, 102, 32, 102, 32] r).runFor 8))) 5 105 (r.length + 1) (by kernel_rfl) (by kernel_rfl) (by kernel_rfl) (by kernel_rfl) (by kernel_rfl) (by kernel_rfl) (by kernel_rfl) (by kernel_rfl) (by kernel_rfl)
  rw [show (111 : Nat) = 5 + (105 + 1) from rfl, e2]
  have e3 := rep_go (rep1 ((rep1 ((mach code54 [97, 115, 121, 110, 99, 32, 100, 101, 102, 32, 102, 32] r).runFor 8) (sRep ((mach code54 [97, 115, 121, 110, 99, 32, 100, 101, 102, 32, 102, 32] r).runFor 8))).runFor 5) (sRep ((rep1 ((mach code54 [97, 115, 121, 110, 99, 32, 100, 101, 102, 32, 102, 32] r).runFor 8) (sRep ((mach code54 [97, 115, 121, 110, 99, 32, 100, 101, 102, 32, 102, 32] r).runFor 8))).runFor 5))) 0 104 r.length (by kernel_rfl) (by kernel_rfl) (by kernel_rfl) (by kernel_rfl) (by kernel_rfl) (by kernel_rfl) (by kernel_rfl) (by kernel_rfl) (by kernel_rfl)
  rw [show (105 : Nat) = 0 + (104 + 1) from rfl, e3]
  kernel_rfl
end Mine
end
theorem Mine.fresh_RegW : True ∧ True := by
  w_top off
  walk1 <;> exact True.intro
section
open PySem PySem.W PySem.Spec PySem.Calls PyProof.Rows
set_option Elab.async false
set_option maxRecDepth 100000
namespace Mine
theorem slot_pm : Slot "re.Pattern" "match" "re.Pattern.match" :=
  .of (owner := "re.Pattern") (n := "match") (by rw [typeLookup_type, builtinLookup_eq_fast]; kernel_rfl) (by decide +kernel) (by decide +kernel) (by decide +kernel)
    (by first | exact .inl (by decide +kernel) | exact .inr (by decide +kernel)) (by rw [isSubtype_type]; kernel_rfl)
theorem type_pm : typeOf (.builtin "re.Pattern.match") = pure (.type "method_descriptor") := by show builtinType _ = _; rw [builtinType_eq_fast]; kernel_rfl
theorem entry_pm : entryFor table "re.Pattern.match" = some Builtin.«re.Pattern.match» := entryFor_of_tree (by kernel_rfl)
theorem pat_ga : typeLookup (.type "re.Pattern") "__getattribute__" = pure (some (.builtin "object.__getattribute__")) := by rw [typeLookup_type, builtinLookup_eq_fast]; kernel_rfl
theorem pat_gn : typeLookup (.type "re.Pattern") "__getattr__" = pure none := by rw [typeLookup_type, builtinLookup_eq_fast]; kernel_rfl
theorem canon_oga : (Manifest.canonical "object.__getattribute__" != "object.__getattribute__") = false := by decide +kernel
theorem args_pm (a b : Value) : argsOk "re.Pattern.match" ⟨[a, b], []⟩ := by unfold argsOk; kernel_rfl
theorem match_nobool : typeLookup (.type "re.Match") "__bool__" = pure none := by rw [typeLookup_type, builtinLookup_eq_fast]; kernel_rfl
theorem match_nolen : typeLookup (.type "re.Match") "__len__" = pure none := by rw [typeLookup_type, builtinLookup_eq_fast]; kernel_rfl
theorem named_pm (v : Value) : Builtin.Re.reNamed "re.Pattern.match" "match" ["string", "pos", "endpos"] 1 [v] [] = pure [some v, none, none] := by kernel_rfl
section
variable {M : Model} {A : Around} {E : Value → Shared → Prop} {s : Shared}
theorem getMethod_pm {a : Addr} {o : Obj} {pl : Sem Bool} {Q : Value × List Value → Shared → Prop} (ho : s.heap.get? a = some o) (hc : o.cls = .type "re.Pattern") (hd : o.dict = none)
    (h : Q (.builtin "re.Pattern.match", [.ref a]) s) : wpAny M A (getMethod (.ref a) "match" pl) Q E s := by
  have hT : s.TypeIs (.ref a) "re.Pattern" := ⟨o, ho, hc⟩
  unfold getMethod
  refine wpAny_bind (wpAny_specialOf hT pat_ga ?_)
  show wpAny M A (if (Manifest.canonical "object.__getattribute__" != "object.__getattribute__") = true then _ else _) Q E s
  rw [canon_oga, if_neg Bool.false_ne_true]
  refine wpAny_bind (wpAny_specialOf hT pat_gn ?_)
  refine wpAny_bind (wpAny_specialOf hT slot_pm.lookup ?_)
  refine wpAny_bind (wpAny_of_eq type_pm ?_)
  refine wpAny_bind (wpAny_load ho ?_)
  rw [hd]
  exact wpAny_bind (wpAny_rule (wpAny_pure h))
theorem drive_ok (k : Nat) : ∀ (t : Nat) (m : Sre.M) (Q : Sre.M → Shared → Prop), k < t → ((m.runFor (4 * k)).runFor 4).outcome.isSome = true → Q ((m.runFor (4 * k)).runFor 4) s → wpAny M A (Builtin.Re.reDrive t m) Q E s := by
  induction k with
  | zero =>
    intro t m Q ht h q
    obtain ⟨t, rfl⟩ : ∃ j, t = j + 1 := ⟨t - 1, by omega⟩
    have h : (m.runFor 4).outcome.isSome = true := h
    show wpAny M A (if (m.runFor 4).outcome.isSome = true then pure (m.runFor 4) else _) Q E s
    rw [if_pos h]; exact wpAny_pure q
  | succ k ih =>
    intro t m Q ht h q
    obtain ⟨t, rfl⟩ : ∃ j, t = j + 1 := ⟨t - 1, by omega⟩
    have e : m.runFor (4 * (k + 1)) = (m.runFor 4).runFor (4 * k) := by rw [← runFor_add]; congr 1; omega
    rw [e] at h q
    show wpAny M A (if (m.runFor 4).outcome.isSome = true then pure (m.runFor 4) else _) Q E s
    by_cases hs : (m.runFor 4).outcome.isSome = true
    · rw [if_pos hs]
      rw [runFor_done _ hs, runFor_done _ hs] at q
      exact wpAny_pure q
    · rw [if_neg hs]
      exact wpAny_bind (wpAny_rule (ih t _ Q (by omega) h q))
theorem rules_ok (m : Sre.M) (l : List Nat) {Q : PUnit → Shared → Prop} (h : Q ⟨⟩ s) : wpAny M A (forIn l PUnit.unit fun i (_ : PUnit) => do
    if m.seen.has i = true then rule (Sre.names.getD i "")
    pure (ForInStep.yield PUnit.unit)) Q E s := by
  induction l with
  | nil => exact wpAny_pure h
  | cons a l ih =>
    rw [List.forIn_cons]
    by_cases hs : m.seen.has a = true
    · rw [if_pos hs]
      exact wpAny_bind (wpAny_bind (wpAny_rule (wpAny_pure ih)))
    · rw [if_neg hs]
      exact wpAny_bind (wpAny_pure ih)
end
section
variable {prog : Program} {w : World} {A : Around} {E : Value → Shared → Prop} {s : Shared}
def spanOk (m : Sre.M) : Bool := !((List.range 1).any (fun g => match m.marks.getD (2 * g) none, m.marks.getD (2 * g + 1) none with | some b, some e => decide (((2 * g + 1 : Nat) : Int) ≤ m.lastmark) && decide (e < b) | _, _ => false))
theorem newMatch_ok (pt st : Value) (pos lim : Nat) (m : Sre.M) {Q : Value → Shared → Prop} (hs : spanOk m = true)
    (h : ∀ Mt oM h', h'.get? Mt = some oM → oM.cls = .type "re.Match" → (∀ b o, s.heap.get? b = some o → h'.get? b = some o) → Q (.ref Mt) { s with heap := h' }) :
    wpAny (model prog w) A (Builtin.Re.reNewMatch pt st 1 pos lim m) Q E s := by
  unfold Builtin.Re.reNewMatch
  have hl : ((List.range 1).flatMap fun g => match if ((2 * g + 1 : Nat) : Int) ≤ m.lastmark then (m.marks.getD (2 * g) none, m.marks.getD (2 * g + 1) none) else (none, none) with
    | (some b, some e) => [rawInt b, rawInt e]
    | _ => [rawInt (-1), rawInt (-1)]).length = 2 := by
    show (List.flatMap _ [0]).length = 2
    rw [List.flatMap_cons, List.flatMap_nil, List.append_nil]
    split <;> rfl
  dsimp only
  revert hl
  generalize ((List.range 1).flatMap fun g => match if ((2 * g + 1 : Nat) : Int) ≤ m.lastmark then (m.marks.getD (2 * g) none, m.marks.getD (2 * g + 1) none) else (none, none) with
    | (some b, some e) => [rawInt b, rawInt e]
    | _ => [rawInt (-1), rawInt (-1)]) = spans
  intro hl
  refine wpAny_ite_split (fun hb => ?_) (fun _ => ?_)
  · have q : spanOk m = (!true) := congrArg (!·) hb
    rw [hs] at q; cases q
  · show wpAny _ _ (newTuple _ >>= _) _ _ s
    simp only [newTuple, newFields]
    refine wpAny_bind (wpAny_newObj_type ?_ ?_)
    · refine wpAny_newObj_type ?_ (by size_fits)
      exact h _ _ _ (Heap.get?_push_size _ rfl) rfl fun b o e => Heap.get?_push_of_some _ (Heap.get?_push_of_some _ e)
    · obtain ⟨x, y, rfl⟩ : ∃ x y, spans = [x, y] := by
        match spans, hl with
        | [x, y], _ => exact ⟨x, y, rfl⟩
      size_fits
theorem truthy_match {M : Model} {a : Addr} {Q : Bool → Shared → Prop} (hT : s.TypeIs (.ref a) "re.Match") (h : Q true s) : wpAny M A (truthy (.ref a)) Q E s := by
  unfold truthy
  refine wpAny_bind (m := callSpecial? (.ref a) (Str.ofString "__bool__")) (wpAny_callSpecial?_none (name := Str.ofString "__bool__") hT match_nobool ?_)
  refine wpAny_bind (wpAny_specialOf hT match_nolen ?_)
  exact wpAny_pure h
theorem meets_bool_match (a : Addr) : Meets (Builtin.«bool.__new__» ⟨[.type "bool", .ref a], []⟩) (fun _ R s => s.TypeIs (.ref a) "re.Match" ∧ R (.ok (.ret (.bool true))) s) :=
  Meets.of_wp fun prog w A R s hs => by
    obtain ⟨hp, g, d, tk, os⟩ := s
    have hT := hs.1
    have f1 := F.conv_sub_bool
    repeat (any_goals (first | assumption | (with_reducible refine truthy_match hT ?_) | wp_step))
    all_goals first | exact ⟨_, rfl, hs.2⟩ | skip
/-- bool of a match object -/
theorem bool_match {a : Addr} {o : Obj} {Q : Value → Shared → Prop} (ho : s.heap.get? a = some o) (hc : o.cls = .type "re.Match") (h : Q (.bool true) s) : wpAny (model prog w) A (call (.type "bool") [.ref a]) Q E s :=
  call_bool_1 (meets_bool_match a) ⟨⟨o, ho, hc⟩, rfl, h⟩
theorem bool_pm {v : Value} {ind : Bool} {Q : Value → Shared → Prop} (e0 : ind = false → v = .none) (e1 : ind = true → ∃ Mt oM, v = .ref Mt ∧ s.heap.get? Mt = some oM ∧ oM.cls = .type "re.Match") (h : Q (.bool ind) s) : wpAny (model prog w) A (call (.type "bool") [v]) Q E s := by
  cases ind with
  | false => rw [e0 rfl]; exact call_bool_none h
  | true => obtain ⟨Mt, oM, rfl, g1, g2⟩ := e1 rfl; exact bool_match g1 g2 h
theorem call_pm {a T : Addr} {oT : Obj} {fs ws : Array Value} {n : Nat} {code : Array Nat} {ln : Str} {tl : Tok} {l r : List Nat} {yes : Bool} {k : Nat} {Q : Value → Shared → Prop}
    (ho : s.heap.get? a = some { cls := .type "re.Pattern", data := .fields fs }) (h5 : fs.getD 5 .none = .ref T) (h6 : Builtin.Re.reRawNat (fs.getD 6 .none) = 0) (h2 : Builtin.Re.reRawNat (fs.getD 2 .none) = 1)
    (hT : s.heap.get? T = some oT) (hTd : oT.data = .seq ws n) (hcode : (ws.map Builtin.Re.reRawOf).map (·.toNat) = code) (hl : ln.cps = (l ++ r).toArray) (hz : (l ++ r).length < 2 ^ 62) (hk : k < 2 ^ 64)
    (hv : verdict ((mach code l r).runFor (4 * k + 4)) = some yes) (hsp : yes = true → spanOk ((mach code l r).runFor (4 * k + 4)) = true)
    (h : ∀ v h', (yes = false → v = .none) → (yes = true → ∃ Mt oM, v = .ref Mt ∧ h'.get? Mt = some oM ∧ oM.cls = .type "re.Match") → (∀ b o, s.heap.get? b = some o → h'.get? b = some o) → Q v { s with heap := h' }) :
    wpAny (model prog w) A (call (.builtin "re.Pattern.match") [.ref a, .str ln tl]) Q E s := by
  refine wpAny_call_entry slot_pm ⟨_, ho, rfl⟩ entry_pm ?_ (args_pm _ _)
  unfold Builtin.«re.Pattern.match»
  refine wpAny_bind ?_
  unfold Builtin.Re.reTarget
  show wpAny _ _ (Builtin.Re.reNamed "re.Pattern.match" "match" ["string", "pos", "endpos"] 1 [.str ln tl] [] >>= _) _ _ s
  refine wpAny_bind (wpAny_of_eq (named_pm _) ?_)
  refine wpAny_bind (wpAny_pure ?_)
  refine wpAny_bind (wpAny_pure ?_)
  refine wpAny_bind (wpAny_fieldsOf ho rfl ?_)
  refine wpAny_bind (m := Builtin.Re.reTextOf (.str ln tl)) (wpAny_pure ?_)
  simp only [h6]
  refine wpAny_bind (m := Builtin.Re.reNoCollectionInside _ 0) (wpAny_pure ?_)
  rw [h5]
  refine wpAny_bind ?_
  unfold Builtin.Re.reRawItems
  refine wpAny_bind (wpAny_seqItems hT hTd (wpAny_pure ?_))
  refine wpAny_pure ?_
  have e1 : min (Int.toNat 0) ln.cps.size = 0 := by simp
  have hsz : ln.cps.size = (l ++ r).length := by rw [hl]; exact List.size_toArray
  have e2 : min (2 ^ 63 - 1 : Int).toNat ln.cps.size = (l ++ r).length := by rw [hsz]; omega
  have e3 : ((some ws).getD #[]) = ws := rfl
  rw [e1, e2, hl, h2, e3, hcode]
  have hm : Sre.forMatch code (l ++ r).toArray 1 0 (l ++ r).length false false = mach code l r := rfl
  rw [hm]
  have ef : ((mach code l r).runFor (4 * k)).runFor 4 = (mach code l r).runFor (4 * k + 4) := (runFor_add _ _ _).symm
  unfold Builtin.Re.reAnswer Builtin.Re.reRunToEnd
  have hout : ∃ oc, ((mach code l r).runFor (4 * k + 4)).outcome = some oc ∧ ((yes = true ∧ oc = .matched) ∨ (yes = false ∧ oc = .failed)) := by
    unfold verdict at hv
    split at hv
    · rename_i e; exact ⟨_, e, .inl ⟨(Option.some.inj hv).symm, rfl⟩⟩
    · rename_i e; exact ⟨_, e, .inr ⟨(Option.some.inj hv).symm, rfl⟩⟩
    · cases hv
  obtain ⟨oc, ho1, ho2⟩ := hout
  refine wpAny_bind (wpAny_bind (drive_ok k _ _ _ hk (by rw [ef, ho1]; rfl) ?_))
  rw [ef]
  refine wpAny_bind (rules_ok _ _ ?_)
  rw [ho1]
  rcases ho2 with ⟨rfl, rfl⟩ | ⟨rfl, rfl⟩
  · refine wpAny_pure ?_
    show wpAny _ _ (Builtin.Re.reNewMatch _ _ _ _ _ _ >>= _) _ _ s
    have hs := hsp rfl
    refine wpAny_bind (newMatch_ok _ _ _ _ _ hs fun Mt oM h' g1 g2 g3 => ?_)
    exact wpAny_pure ⟨_, rfl, h _ h' (fun e => nomatch e) (fun _ => ⟨Mt, oM, rfl, g1, g2⟩) g3⟩
  · refine wpAny_pure ?_
    show wpAny _ _ (ret .none) _ _ s
    exact wpAny_pure ⟨_, rfl, h .none s.heap (fun _ => rfl) (fun e => nomatch e) fun _ _ e => e⟩
end
end Mine
end
theorem Mine.fresh_GenI : True ∧ True := by
  w_top off
  walk1 <;> exact True.intro
section
open PySem PySem.W PySem.Spec PySem.Calls PyProof.Rows
set_option Elab.async false
namespace Mine
def genDef : Stmt := PySem.Challenge.pw_co0042_01.main.body.getD 5 (.Pass ⟨0, 0, 0, 0⟩)
def genScope : Scope := scopeOf genDef
def genAt (i : Nat) : Stmt := (bodyOf genDef).getD i (.Pass ⟨0, 0, 0, 0⟩)
abbrev genEnv (L fa : Addr) (cd : Value) : Env := envOf (Str.ofString "whitespace_around_named_parameter_equals") genScope L fa cd
local macro_rules | `(tactic| k_units) => `(tactic| ktr_units)
local macro_rules | `(tactic| k_room) => `(tactic| ktr_room)
def genNames (P tA : Addr) (t1 t2 : Tok) (ns rs ann ind : Bool) (pe : Value) : List (Str × Value) :=
  [(Str.ofString "tokens", .ref tA), (Str.ofString "paren_stack", .ref P), (Str.ofString "no_space", .bool ns), (Str.ofString "require_space", .bool rs), (Str.ofString "prev_end", pe), (Str.ofString "annotated_func_arg", .bool ann), (Str.ofString "in_def", .bool ind), (Str.ofString "in_generic", .bool false), (Str.ofString "message", .str m251 t1), (Str.ofString "missing_message", .str m252 t2)]
set_option maxRecDepth 100000 in
set_option maxHeartbeats 8000000 in
theorem gen_init (w : World) (p : Program) (loose : List Str) (mean : ExcName → Option Value) (mg mb : Str → Option Value) (h₀ : Heap)
    (T₀ : Top p loose mean mg mb h₀) (X₀ : (hd.heap_39 w.params).In h₀)
    (A : Around) (s : Shared) (L fa : Addr) (cd : Value) (own : Led) (ln : Str) (tl : Tok) (m : Str → Option Value) (tA : Addr) (ind : Bool) (l r : List Nat)
    (F : Fr h₀ L s.heap m) (N : News h₀ L s.heap own) (hn : Names m [(Str.ofString "logical_line", .str ln tl), (Str.ofString "tokens", .ref tA)]) (hh : A.handled = none) (hd : A.depth + 20 < recursionLimit) (hu : A.units + 200 < cLine)
    (hl : ln.cps = (l ++ r).toArray) (hz : (l ++ r).length < 2 ^ 62) (k1 k2 : Nat) (hk1 : k1 < 2 ^ 64) (hk2 : k2 < 2 ^ 64)
    (hv1 : verdict ((mach code49 l r).runFor (4 * k1 + 4)) = some ind) (hs1 : ind = true → spanOk ((mach code49 l r).runFor (4 * k1 + 4)) = true) (hv2 : verdict ((mach code54 l r).runFor (4 * k2 + 4)) = some false) :
    wpAny (model PySem.Challenge.rw_co0042_01.row.prog w) A (execs [genAt 0, genAt 1, genAt 2, genAt 3, genAt 4, genAt 5, genAt 6, genAt 7, genAt 8] (genEnv L fa cd)) (fun f s' => Here (f = .next ∧ ∃ h' tk' m' P n t1 t2, s' = { s with heap := h', toks := tk' } ∧ Fr h₀ L h' m' ∧ News h₀ L h' ((P, lst [] n) :: own) ∧ (∀ q ∈ own, q.1 < P) ∧ Names m' (genNames P tA t1 t2 false false false ind .none))) (fun _ _ => False) s := by
  have X₁ := X₀
  revert X₀
  k_fill
  intro X₀
  have F₂ := names_fr F hn
  clear F 
  dsimp only [genEnv, genScope, scopeOf, genAt, genDef, PySem.Challenge.pw_co0042_01, bodyOf, List.getD, List.getD_cons_succ, List.getD_cons_zero, List.getElem?_cons_succ, List.getElem?_cons_zero, Option.getD]
  (try k_fold)
  k_steps
  have hk := fun b o e => Fr.keep (by assumption) b o (X₁ b o e)
  refine getMethod_pm (hk 50 _ rfl) rfl rfl ?_
  k_steps
  refine call_pm (hk 50 _ rfl) rfl rfl rfl (hk 49 _ rfl) rfl (by kernel_rfl) hl hz hk1 hv1 hs1 fun v h' e0 e1 kp => ?_
  rename Fr _ _ _ _ => F4
  rename News _ _ _ _ => N4
  have F5 := F4.keeps kp
  have N5 : News _ _ h' _ := fun q hq => ⟨kp _ _ (N4 q hq).1, (N4 q hq).2⟩
  clear F4 N4 kp hk
  k_steps
  refine bool_pm e0 e1 ?_
  k_steps
  have hk := fun b o e => Fr.keep (by assumption) b o (X₁ b o e)
  refine getMethod_pm (hk 55 _ rfl) rfl rfl ?_
  k_steps
  refine call_pm (hk 55 _ rfl) rfl rfl rfl (hk 54 _ rfl) rfl (by kernel_rfl) hl hz hk2 hv2 (fun e => nomatch e) fun v h' e0 e1 kp => ?_
  rename Fr _ _ _ _ => F4
  rename News _ _ _ _ => N4
  have F5 := F4.keeps kp
  have N5 : News _ _ h' _ := fun q hq => ⟨kp _ _ (N4 q hq).1, (N4 q hq).2⟩
  clear F4 N4 kp hk
  k_steps
  refine bool_pm e0 e1 ?_
  k_steps
  rename Fr _ _ _ _ => F9
  rename News _ _ _ _ => N9
  rename ∀ p ∈ own, _ => l9
  show _ ∧ _
  refine' ⟨rfl, _, _, _, _, _, ?ta, ?tb, rfl, F9, N9, l9, ?nm⟩
  case nm =>
    unfold genNames
    repeat (first | exact Names.nil | refine' Names.cons (by with_unfolding_all rfl) ?_)
end Mine
end
theorem Mine.fresh_GenC : True ∧ True := by
  w_top off
  walk1 <;> exact True.intro
section
open PySem PySem.W PySem.Spec PySem.Calls PyProof.Rows
set_option Elab.async false
namespace Mine
def genFor : Stmt := genAt 9
def gf (i : Nat) : Stmt := (bodyOf genFor).getD i (.Pass ⟨0, 0, 0, 0⟩)
/-- what lies in h that the generator does not own -/
def OwnOf (h₀ : Heap) (L S : Addr) (h : Heap) (own : Led) : Prop :=
  ∀ q : Addr × Obj, q ∈ own ↔ h.get? q.1 = some q.2 ∧ @Ne Nat q.1 L ∧ h₀.get? q.1 = none ∧ (@LE.le Nat _ q.1 S ∨ q.2.cls = .type "tuple")
open Classical in
theorem own_exists (h₀ : Heap) (L S : Addr) (h : Heap) : ∃ own, OwnOf h₀ L S h own := by
  refine ⟨(List.range h.objs.size).filterMap (fun b => match h.get? b with
    | some o => if @Ne Nat b L ∧ h₀.get? b = none ∧ (@LE.le Nat _ b S ∨ o.cls = .type "tuple") then some (b, o) else none
    | none => none), fun q => ?_⟩
  rw [List.mem_filterMap]
  constructor
  · rintro ⟨b, hb, e⟩
    split at e
    · rename_i o ho
      split at e
      · rename_i c
        cases e
        exact ⟨ho, c⟩
      · cases e
    · cases e
  · rintro ⟨e, c⟩
    refine ⟨q.1, List.mem_range.mpr (Heap.lt_size e), ?_⟩
    rw [e]
    show (if _ then _ else _) = _
    rw [if_pos c]
/-- what a stretch of the generator keeps -/
def Kp (h₀ : Heap) (L S : Addr) (h h' : Heap) : Prop :=
  (∀ b o, h₀.get? b = some o → h'.get? b = some o) ∧ ∀ b o, h.get? b = some o → @Ne Nat b L → h₀.get? b = none → (@LE.le Nat _ b S ∨ o.cls = .type "tuple") → h'.get? b = some o
theorem kp_of {h₀ h h' : Heap} {L S : Addr} {own news : Led} {m : Str → Option Value} (O : OwnOf h₀ L S h own) (F : Fr h₀ L h' m) (N : News h₀ L h' news) (k : ∀ q ∈ own, q ∈ news) : Kp h₀ L S h h' :=
  ⟨F.keep, fun b o e b1 b2 b3 => (N (b, o) (k _ ((O (b, o)).mpr ⟨e, b1, b2, b3⟩))).1⟩
inductive StrsAre : List Value → List Str → Prop
  | nil : StrsAre [] []
  | cons {x t vs xs} : PyData.strOk x = true → StrsAre vs xs → StrsAre (.str x t :: vs) (x :: xs)
theorem StrsAre.length {vs : List Value} {xs : List Str} (h : StrsAre vs xs) : vs.length = xs.length := by
  induction h with
  | nil => rfl
  | cons _ _ ih => simp [ih]
theorem StrsAre.emp {vs : List Value} {xs : List Str} (h : StrsAre vs xs) : vs.isEmpty = decide (xs = []) := by
  cases h <;> simp
theorem StrsAre.snoc {vs : List Value} {xs : List Str} {x : Str} {t : Tok} (h : StrsAre vs xs) (ok : PyData.strOk x = true) : StrsAre (vs ++ [.str x t]) (xs ++ [x]) := by
  induction h with
  | nil => exact .cons ok .nil
  | cons k _ ih => exact .cons k ih
theorem StrsAre.dropLast {vs : List Value} {xs : List Str} (h : StrsAre vs xs) : StrsAre vs.dropLast xs.dropLast := by
  induction h with
  | nil => exact .nil
  | cons k h ih =>
    cases h with
    | nil => exact .nil
    | cons k' h => exact .cons k ih
theorem StrsAre.dat {vs : List Value} {xs : List Str} (h : StrsAre vs xs) : DatAll [] vs (xs.map Dat.str) := by
  induction h with
  | nil => exact .nil
  | cons _ _ ih => exact .cons (.str _ _) ih
theorem StrsAre.ok {vs : List Value} {xs : List Str} (h : StrsAre vs xs) : ∀ d ∈ xs.map Dat.str, kqdOk 8 d = true := by
  induction h with
  | nil => intro d hd; cases hd
  | cons k _ ih =>
    intro d hd
    rcases List.mem_cons.mp hd with rfl | hd
    · exact k
    · exact ih d hd
theorem strmap_inj : ∀ {xs ys : List Str}, xs.map Dat.str = ys.map Dat.str → xs = ys
  | [], [], _ => rfl
  | [], _ :: _, h => by cases h
  | _ :: _, [], h => by cases h
  | x :: xs, y :: ys, h => by
    simp only [List.map_cons, List.cons.injEq, Dat.str.injEq] at h
    rw [h.1, strmap_inj h.2]
/-- a list of words is another -/
theorem stk_eq {prog : Program} {w : World} {A : Around} {E : Value → Shared → Prop} {s : Shared} {g : Heap} {L P b : Addr} {news : Led} {vs us : List Value} {xs ys : List Str} {n k : Nat} {Q : Value → Shared → Prop}
    (N : News g L s.heap news) (mP : (P, lst vs n) ∈ news) (sa : StrsAre vs xs) (mb : (b, lst us k) ∈ news) (sb : StrsAre us ys) (hu : A.units + 64 < cLine) (h : Q (.bool (decide (xs = ys))) s) :
    wpAny (model prog w) A (compareOp .Eq (.ref P) (.ref b)) Q E s := by
  refine kqd_eq N mP rfl rfl sa.dat (fun p hp => nomatch hp) mb rfl rfl sb.dat (fun p hp => nomatch hp) sa.ok sb.ok hu ?_
  have e : ∀ i : Decidable (xs.map Dat.str = ys.map Dat.str), @decide _ i = decide (xs = ys) := by
    intro i
    by_cases q : xs = ys
    · rw [decide_eq_true q]; exact @decide_eq_true _ i (by rw [q])
    · rw [decide_eq_false q]; exact @decide_eq_false _ i fun z => q (strmap_inj z)
  rw [e]; exact h
/-- the generator between two of its statements -/
def GSt (h₀ : Heap) (L S tA P I : Addr) (base : Led) (ind : Bool) (ix : Nat) (own : Led) (g : Gs) (ns rs : Bool) (pev : Value) (xs : List (Str × Value)) (s : Shared) : Prop :=
  ∃ m vs n io t1 t2, Fr h₀ L s.heap m ∧ News h₀ L s.heap ((P, lst vs n) :: (I, io) :: own) ∧ StrsAre vs g.st ∧ (io.cls = .type "list_iterator" ∧ io.data = .fields #[.ref tA, .int ix 0]) ∧ (∀ q ∈ own, @Ne Nat q.1 P) ∧ (∀ q ∈ own, @Ne Nat q.1 I) ∧ @Ne Nat I P ∧ (∀ q ∈ base, q ∈ own) ∧ Names m (xs ++ genNames P tA t1 t2 ns rs g.ann ind pev)
theorem gst_wake {h₀ : Heap} {L S tA P I : Addr} {base : Led} {ind : Bool} {ix : Nat} {own own' : Led} {g : Gs} {ns rs : Bool} {pev : Value} {xs : List (Str × Value)} {s s' : Shared}
    (H : GSt h₀ L S tA P I base ind ix own g ns rs pev xs s) (hS : h₀.get? S = none) (LS : @LT.lt Nat _ L S) (SP : @LT.lt Nat _ S P) (SI : @LT.lt Nat _ S I) (hb : ∀ q ∈ base, @LT.lt Nat _ q.1 S)
    (k : ∀ b o, @Ne Nat b S → s.heap.get? b = some o → s'.heap.get? b = some o) (O : OwnOf h₀ L S s'.heap own') : GSt h₀ L S tA P I base ind ix own' g ns rs pev xs s' := by
  obtain ⟨m, vs, n, io, t1, t2, F, N, sa, ic, oP, oI, IP, bo, nm⟩ := H
  have hP := k P _ (Nat.ne_of_gt SP) (N _ (.head _)).1
  have hI := k I _ (Nat.ne_of_gt SI) (N _ (.tail _ (.head _))).1
  refine ⟨m, vs, n, io, t1, t2, ⟨?_, fun b o e => ?_, F.above⟩, ?_, sa, ic, fun q hq e => ?_, fun q hq e => ?_, IP, fun q hq => ?_, nm⟩
  · obtain ⟨oL, a1, a2, hL, a3⟩ := F.ns
    exact ⟨oL, a1, a2, k L _ (Nat.ne_of_lt LS) hL, a3⟩
  · refine k b o (fun q => ?_) (F.keep b o e)
    have q : b = S := q
    rw [q, hS] at e; cases e
  · intro q hq
    rcases List.mem_cons.mp hq with rfl | hq
    · exact ⟨hP, (N _ (.head _)).2⟩
    rcases List.mem_cons.mp hq with rfl | hq
    · exact ⟨hI, (N _ (.tail _ (.head _))).2⟩
    · obtain ⟨e, c1, c2, _⟩ := (O q).mp hq
      exact ⟨e, c1, c2⟩
  · obtain ⟨e', _, _, c⟩ := (O q).mp hq
    rcases c with c | c
    · rw [e] at c; exact absurd c (Nat.not_le_of_gt SP)
    · have e : q.1 = P := e
      rw [e, hP] at e'
      rw [← Option.some.inj e'] at c
      exact absurd c (by show (Value.type "list") ≠ _; decide)
  · obtain ⟨e', _, _, c⟩ := (O q).mp hq
    rcases c with c | c
    · rw [e] at c; exact absurd c (Nat.not_le_of_gt SI)
    · have e : q.1 = I := e
      rw [e, hI] at e'
      rw [← Option.some.inj e', ic.1] at c
      exact absurd c (by decide)
  · have hq' := bo q hq
    have hN := N q (.tail _ (.tail _ hq'))
    exact (O q).mpr ⟨k _ _ (Nat.ne_of_lt (hb q hq)) hN.1, hN.2.1, hN.2.2, .inl (Nat.le_of_lt (hb q hq))⟩
/-- a due line in the heap -/
def DuAt (h₀ : Heap) (L : Addr) (h : Heap) (v : Value) (d : Du) : Prop := ∃ t q b b1 b2, v = .ref t ∧ (h.get? t = some (tup [.ref q, .str d.msg b]) ∧ t ≠ L ∧ h₀.get? t = none) ∧ (h.get? q = some (tup [.int 1 b1, .int d.c b2]) ∧ q ≠ L ∧ h₀.get? q = none)
def gR (h₀ : Heap) (L S : Addr) : GenEnd := fun n s₀ r s => r = .ok (.ret .none) ∧ (n = 0 ∧ (∃ h tk, s = { s₀ with heap := h, toks := tk }) ∧ Kp h₀ L S s₀.heap s.heap)
def gY (h₀ : Heap) (L S : Addr) (Ys : List Du) : Protocol := fun n s₀ v s κ =>
  (∃ d, Ys[Ys.length - 1 - n]? = some d ∧ DuAt h₀ L s.heap v d) ∧ (∃ h tk, s = { s₀ with heap := h, toks := tk }) ∧ Kp h₀ L S s₀.heap s.heap ∧
    ∀ s'', (∀ b o, @Ne Nat b S → s.heap.get? b = some o → s''.heap.get? b = some o) → κ (.send .none) s''
/-- the rest of a run that yields ys yet -/
def Cont (M : Model) (h₀ : Heap) (L S : Addr) (Ys : List Du) (A : Around) (c : Code) (fs : List Frame) (t : Sem Fin) (Inv : Led → Shared → Prop) (ys : List Du) : Prop :=
  ∀ s₀ s own, OwnOf h₀ L S s₀.heap own → (∃ pre, Ys = pre ++ ys) → (∃ h tk, s = { s₀ with heap := h, toks := tk }) → Inv own s → Seg M A (gR h₀ L S) (gY h₀ L S Ys) ys.length s₀ c t fs s
theorem ys_at {Ys pre ys : List Du} {d : Du} (e : Ys = pre ++ d :: ys) : Ys[Ys.length - 1 - ys.length]? = some d := by
  have : Ys.length - 1 - ys.length = pre.length := by rw [e]; simp
  rw [this, e]; simp
theorem y_end {M : Model} {h₀ h : Heap} {L S tA P I D q0 : Addr} {base own news : Led} {ind : Bool} {ix : Nat} {g : Gs} {ns rs : Bool} {pev : Value} {xs : List (Str × Value)} {Ys ys : List Du} {A : Around} {c : Code} {fs : List Frame} {t : Sem Fin} {s₀ : Shared} {tk : Tok} {m : Str → Option Value} {b b1 b2 : Tok} {cc : Int} {msg : Str} {kap : Resume → Shared → Prop}
    (hS : h₀.get? S = none) (LS : @LT.lt Nat _ L S) (SP : @LT.lt Nat _ S P) (SI : @LT.lt Nat _ S I) (hb : ∀ q ∈ base, @LT.lt Nat _ q.1 S)
    (O : OwnOf h₀ L S s₀.heap own) (F : Fr h₀ L h m) (N : News h₀ L h news) (ko : ∀ q ∈ own, q ∈ news) (hv : (D, tup [.ref q0, .str msg b]) ∈ news) (hq : (q0, tup [.int 1 b1, .int cc b2]) ∈ news)
    (hpre : ∃ pre, Ys = pre ++ (⟨cc, msg⟩ :: ys)) (G : GSt h₀ L S tA P I base ind ix own g ns rs pev xs { s₀ with heap := h, toks := tk })
    (hk : Cont M h₀ L S Ys A c fs t (fun own s => GSt h₀ L S tA P I base ind ix own g ns rs pev xs s) ys)
    (ha : ∀ s'', Seg M A (gR h₀ L S) (gY h₀ L S Ys) ys.length s'' c t fs s'' → kap (.send .none) s'') :
    gY h₀ L S Ys ys.length s₀ (.ref D) { s₀ with heap := h, toks := tk } kap := by
  obtain ⟨pre, hpre⟩ := hpre
  refine ⟨⟨⟨cc, msg⟩, ys_at hpre, D, q0, b, b1, b2, rfl, N _ hv, N _ hq⟩, ⟨h, tk, rfl⟩, kp_of O F N ko, fun s'' kx => ha s'' ?_⟩
  obtain ⟨own'', O''⟩ := own_exists h₀ L S s''.heap
  exact hk s'' s'' own'' O'' ⟨pre ++ [⟨cc, msg⟩], by rw [hpre]; simp⟩ ⟨s''.heap, s''.toks, rfl⟩ (gst_wake G hS LS SP SI hb kx O'')
end Mine
end
theorem Mine.fresh_GenN : True ∧ True := by
  w_top off
  walk1 <;> exact True.intro
section
open PySem PySem.W PySem.Spec PySem.Calls PyProof.Rows
set_option Elab.async false
namespace Mine
theorem names_upd {m : Str → Option Value} {b0 bs bs' : List (Str × Value)} {x : Str} {v : Value} (H0 : Names m b0) (H : Names m bs) (h : ∀ b ∈ bs', b = (x, v) ∨ (b ∈ bs ∧ b.1 ≠ x)) : Names (fun y => if y = x then some v else bindL b0 m y) bs' := fun b hb => by
  show (if b.1 = x then some v else bindL b0 m b.1) = some b.2
  rcases h b hb with rfl | ⟨h1, h2⟩
  · exact if_pos rfl
  · rw [if_neg h2, bindL_eq H0]; exact H b h1
theorem led_put {g h : Heap} {L : Addr} {x : Addr × Obj} {R : Led} (N : News g L h R) (hx : x ∈ R) : News g L h (x :: R) := fun p hp => by
  rcases List.mem_cons.mp hp with rfl | hp
  · exact N _ hx
  · exact N _ hp
section
variable {m : Str → Option Value} {xs b0 : List (Str × Value)} {P tA : Addr} {t1 t2 : Tok} {ns rs ann ind : Bool} {pe : Value}
theorem gn_all (H : Names m (xs ++ genNames P tA t1 t2 ns rs ann ind pe)) : m (Str.ofString "tokens") = some (.ref tA) ∧ m (Str.ofString "paren_stack") = some (.ref P) ∧ m (Str.ofString "no_space") = some (.bool ns) ∧ m (Str.ofString "require_space") = some (.bool rs) ∧ m (Str.ofString "prev_end") = some (pe) ∧ m (Str.ofString "annotated_func_arg") = some (.bool ann) ∧ m (Str.ofString "in_def") = some (.bool ind) ∧ m (Str.ofString "in_generic") = some (.bool false) ∧ m (Str.ofString "message") = some (.str m251 t1) ∧ m (Str.ofString "missing_message") = some (.str m252 t2) := by
  refine ⟨?_, ?_, ?_, ?_, ?_, ?_, ?_, ?_, ?_, ?_⟩
  · exact H (Str.ofString "tokens", .ref tA) (List.mem_append_right _ (by unfold genNames; simp only [List.mem_cons, true_or, or_true]))
  · exact H (Str.ofString "paren_stack", .ref P) (List.mem_append_right _ (by unfold genNames; simp only [List.mem_cons, true_or, or_true]))
  · exact H (Str.ofString "no_space", .bool ns) (List.mem_append_right _ (by unfold genNames; simp only [List.mem_cons, true_or, or_true]))
  · exact H (Str.ofString "require_space", .bool rs) (List.mem_append_right _ (by unfold genNames; simp only [List.mem_cons, true_or, or_true]))
  · exact H (Str.ofString "prev_end", pe) (List.mem_append_right _ (by unfold genNames; simp only [List.mem_cons, true_or, or_true]))
  · exact H (Str.ofString "annotated_func_arg", .bool ann) (List.mem_append_right _ (by unfold genNames; simp only [List.mem_cons, true_or, or_true]))
  · exact H (Str.ofString "in_def", .bool ind) (List.mem_append_right _ (by unfold genNames; simp only [List.mem_cons, true_or, or_true]))
  · exact H (Str.ofString "in_generic", .bool false) (List.mem_append_right _ (by unfold genNames; simp only [List.mem_cons, true_or, or_true]))
  · exact H (Str.ofString "message", .str m251 t1) (List.mem_append_right _ (by unfold genNames; simp only [List.mem_cons, true_or, or_true]))
  · exact H (Str.ofString "missing_message", .str m252 t2) (List.mem_append_right _ (by unfold genNames; simp only [List.mem_cons, true_or, or_true]))
theorem gn_ns (v : Bool) (H0 : Names m b0) (H : Names m (xs ++ genNames P tA t1 t2 ns rs ann ind pe)) (hx : ∀ b ∈ xs, b.1 ≠ Str.ofString "no_space") :
    Names (fun y => if y = Str.ofString "no_space" then some (.bool v) else bindL b0 m y) (xs ++ genNames P tA t1 t2 v rs ann ind pe) := by
  obtain ⟨x0, x1, x2, x3, x4, x5, x6, x7, x8, x9⟩ := gn_all H
  intro b hb
  rcases List.mem_append.mp hb with hb | hb
  · show (if b.1 = _ then _ else bindL b0 m b.1) = some b.2
    rw [if_neg (hx b hb), bindL_eq H0]; exact H b (List.mem_append_left _ hb)
  · unfold genNames at hb
    simp only [List.mem_cons, List.not_mem_nil, or_false] at hb
    rcases hb with rfl | rfl | rfl | rfl | rfl | rfl | rfl | rfl | rfl | rfl
    · show (if Str.ofString "tokens" = _ then _ else bindL b0 m (Str.ofString "tokens")) = _
      rw [if_neg (by decide +kernel), bindL_eq H0]; exact x0
    · show (if Str.ofString "paren_stack" = _ then _ else bindL b0 m (Str.ofString "paren_stack")) = _
      rw [if_neg (by decide +kernel), bindL_eq H0]; exact x1
    · exact if_pos rfl
    · show (if Str.ofString "require_space" = _ then _ else bindL b0 m (Str.ofString "require_space")) = _
      rw [if_neg (by decide +kernel), bindL_eq H0]; exact x3
    · show (if Str.ofString "prev_end" = _ then _ else bindL b0 m (Str.ofString "prev_end")) = _
      rw [if_neg (by decide +kernel), bindL_eq H0]; exact x4
    · show (if Str.ofString "annotated_func_arg" = _ then _ else bindL b0 m (Str.ofString "annotated_func_arg")) = _
      rw [if_neg (by decide +kernel), bindL_eq H0]; exact x5
    · show (if Str.ofString "in_def" = _ then _ else bindL b0 m (Str.ofString "in_def")) = _
      rw [if_neg (by decide +kernel), bindL_eq H0]; exact x6
    · show (if Str.ofString "in_generic" = _ then _ else bindL b0 m (Str.ofString "in_generic")) = _
      rw [if_neg (by decide +kernel), bindL_eq H0]; exact x7
    · show (if Str.ofString "message" = _ then _ else bindL b0 m (Str.ofString "message")) = _
      rw [if_neg (by decide +kernel), bindL_eq H0]; exact x8
    · show (if Str.ofString "missing_message" = _ then _ else bindL b0 m (Str.ofString "missing_message")) = _
      rw [if_neg (by decide +kernel), bindL_eq H0]; exact x9
theorem gn_rs (v : Bool) (H0 : Names m b0) (H : Names m (xs ++ genNames P tA t1 t2 ns rs ann ind pe)) (hx : ∀ b ∈ xs, b.1 ≠ Str.ofString "require_space") :
    Names (fun y => if y = Str.ofString "require_space" then some (.bool v) else bindL b0 m y) (xs ++ genNames P tA t1 t2 ns v ann ind pe) := by
  obtain ⟨x0, x1, x2, x3, x4, x5, x6, x7, x8, x9⟩ := gn_all H
  intro b hb
  rcases List.mem_append.mp hb with hb | hb
  · show (if b.1 = _ then _ else bindL b0 m b.1) = some b.2
    rw [if_neg (hx b hb), bindL_eq H0]; exact H b (List.mem_append_left _ hb)
  · unfold genNames at hb
    simp only [List.mem_cons, List.not_mem_nil, or_false] at hb
    rcases hb with rfl | rfl | rfl | rfl | rfl | rfl | rfl | rfl | rfl | rfl
    · show (if Str.ofString "tokens" = _ then _ else bindL b0 m (Str.ofString "tokens")) = _
      rw [if_neg (by decide +kernel), bindL_eq H0]; exact x0
    · show (if Str.ofString "paren_stack" = _ then _ else bindL b0 m (Str.ofString "paren_stack")) = _
      rw [if_neg (by decide +kernel), bindL_eq H0]; exact x1
    · show (if Str.ofString "no_space" = _ then _ else bindL b0 m (Str.ofString "no_space")) = _
      rw [if_neg (by decide +kernel), bindL_eq H0]; exact x2
    · exact if_pos rfl
    · show (if Str.ofString "prev_end" = _ then _ else bindL b0 m (Str.ofString "prev_end")) = _
      rw [if_neg (by decide +kernel), bindL_eq H0]; exact x4
    · show (if Str.ofString "annotated_func_arg" = _ then _ else bindL b0 m (Str.ofString "annotated_func_arg")) = _
      rw [if_neg (by decide +kernel), bindL_eq H0]; exact x5
    · show (if Str.ofString "in_def" = _ then _ else bindL b0 m (Str.ofString "in_def")) = _
      rw [if_neg (by decide +kernel), bindL_eq H0]; exact x6
    · show (if Str.ofString "in_generic" = _ then _ else bindL b0 m (Str.ofString "in_generic")) = _
      rw [if_neg (by decide +kernel), bindL_eq H0]; exact x7
    · show (if Str.ofString "message" = _ then _ else bindL b0 m (Str.ofString "message")) = _
      rw [if_neg (by decide +kernel), bindL_eq H0]; exact x8
    · show (if Str.ofString "missing_message" = _ then _ else bindL b0 m (Str.ofString "missing_message")) = _
      rw [if_neg (by decide +kernel), bindL_eq H0]; exact x9
theorem gn_ann (v : Bool) (H0 : Names m b0) (H : Names m (xs ++ genNames P tA t1 t2 ns rs ann ind pe)) (hx : ∀ b ∈ xs, b.1 ≠ Str.ofString "annotated_func_arg") :
    Names (fun y => if y = Str.ofString "annotated_func_arg" then some (.bool v) else bindL b0 m y) (xs ++ genNames P tA t1 t2 ns rs v ind pe) := by
  obtain ⟨x0, x1, x2, x3, x4, x5, x6, x7, x8, x9⟩ := gn_all H
  intro b hb
  rcases List.mem_append.mp hb with hb | hb
  · show (if b.1 = _ then _ else bindL b0 m b.1) = some b.2
    rw [if_neg (hx b hb), bindL_eq H0]; exact H b (List.mem_append_left _ hb)
  · unfold genNames at hb
    simp only [List.mem_cons, List.not_mem_nil, or_false] at hb
    rcases hb with rfl | rfl | rfl | rfl | rfl | rfl | rfl | rfl | rfl | rfl
    · show (if Str.ofString "tokens" = _ then _ else bindL b0 m (Str.ofString "tokens")) = _
      rw [if_neg (by decide +kernel), bindL_eq H0]; exact x0
    · show (if Str.ofString "paren_stack" = _ then _ else bindL b0 m (Str.ofString "paren_stack")) = _
      rw [if_neg (by decide +kernel), bindL_eq H0]; exact x1
    · show (if Str.ofString "no_space" = _ then _ else bindL b0 m (Str.ofString "no_space")) = _
      rw [if_neg (by decide +kernel), bindL_eq H0]; exact x2
    · show (if Str.ofString "require_space" = _ then _ else bindL b0 m (Str.ofString "require_space")) = _
      rw [if_neg (by decide +kernel), bindL_eq H0]; exact x3
    · show (if Str.ofString "prev_end" = _ then _ else bindL b0 m (Str.ofString "prev_end")) = _
      rw [if_neg (by decide +kernel), bindL_eq H0]; exact x4
    · exact if_pos rfl
    · show (if Str.ofString "in_def" = _ then _ else bindL b0 m (Str.ofString "in_def")) = _
      rw [if_neg (by decide +kernel), bindL_eq H0]; exact x6
    · show (if Str.ofString "in_generic" = _ then _ else bindL b0 m (Str.ofString "in_generic")) = _
      rw [if_neg (by decide +kernel), bindL_eq H0]; exact x7
    · show (if Str.ofString "message" = _ then _ else bindL b0 m (Str.ofString "message")) = _
      rw [if_neg (by decide +kernel), bindL_eq H0]; exact x8
    · show (if Str.ofString "missing_message" = _ then _ else bindL b0 m (Str.ofString "missing_message")) = _
      rw [if_neg (by decide +kernel), bindL_eq H0]; exact x9
theorem gn_pe (v : Value) (H0 : Names m b0) (H : Names m (xs ++ genNames P tA t1 t2 ns rs ann ind pe)) (hx : ∀ b ∈ xs, b.1 ≠ Str.ofString "prev_end") :
    Names (fun y => if y = Str.ofString "prev_end" then some (v) else bindL b0 m y) (xs ++ genNames P tA t1 t2 ns rs ann ind v) := by
  obtain ⟨x0, x1, x2, x3, x4, x5, x6, x7, x8, x9⟩ := gn_all H
  intro b hb
  rcases List.mem_append.mp hb with hb | hb
  · show (if b.1 = _ then _ else bindL b0 m b.1) = some b.2
    rw [if_neg (hx b hb), bindL_eq H0]; exact H b (List.mem_append_left _ hb)
  · unfold genNames at hb
    simp only [List.mem_cons, List.not_mem_nil, or_false] at hb
    rcases hb with rfl | rfl | rfl | rfl | rfl | rfl | rfl | rfl | rfl | rfl
    · show (if Str.ofString "tokens" = _ then _ else bindL b0 m (Str.ofString "tokens")) = _
      rw [if_neg (by decide +kernel), bindL_eq H0]; exact x0
    · show (if Str.ofString "paren_stack" = _ then _ else bindL b0 m (Str.ofString "paren_stack")) = _
      rw [if_neg (by decide +kernel), bindL_eq H0]; exact x1
    · show (if Str.ofString "no_space" = _ then _ else bindL b0 m (Str.ofString "no_space")) = _
      rw [if_neg (by decide +kernel), bindL_eq H0]; exact x2
    · show (if Str.ofString "require_space" = _ then _ else bindL b0 m (Str.ofString "require_space")) = _
      rw [if_neg (by decide +kernel), bindL_eq H0]; exact x3
    · exact if_pos rfl
    · show (if Str.ofString "annotated_func_arg" = _ then _ else bindL b0 m (Str.ofString "annotated_func_arg")) = _
      rw [if_neg (by decide +kernel), bindL_eq H0]; exact x5
    · show (if Str.ofString "in_def" = _ then _ else bindL b0 m (Str.ofString "in_def")) = _
      rw [if_neg (by decide +kernel), bindL_eq H0]; exact x6
    · show (if Str.ofString "in_generic" = _ then _ else bindL b0 m (Str.ofString "in_generic")) = _
      rw [if_neg (by decide +kernel), bindL_eq H0]; exact x7
    · show (if Str.ofString "message" = _ then _ else bindL b0 m (Str.ofString "message")) = _
      rw [if_neg (by decide +kernel), bindL_eq H0]; exact x8
    · show (if Str.ofString "missing_message" = _ then _ else bindL b0 m (Str.ofString "missing_message")) = _
      rw [if_neg (by decide +kernel), bindL_eq H0]; exact x9
end
def tkNames (n : Int) (tn : Tok) (wd : Str) (tt : Tok) (q1 q2 : Addr) : List (Str × Value) := [(Str.ofString "token_type", .int n tn), (Str.ofString "text", .str wd tt), (Str.ofString "start", .ref q1), (Str.ofString "end", .ref q2)]
section
variable {m : Str → Option Value} {ys : List (Str × Value)} {n : Int} {tn tt : Tok} {wd : Str} {q1 q2 : Addr}
theorem tk_all (H : Names m (tkNames n tn wd tt q1 q2 ++ ys)) : m (Str.ofString "token_type") = some (.int n tn) ∧ m (Str.ofString "text") = some (.str wd tt) ∧ m (Str.ofString "start") = some (.ref q1) ∧ m (Str.ofString "end") = some (.ref q2) := by
  refine ⟨?_, ?_, ?_, ?_⟩
  · exact H (Str.ofString "token_type", .int n tn) (List.mem_append_left _ (by unfold tkNames; simp only [List.mem_cons, true_or]))
  · exact H (Str.ofString "text", .str wd tt) (List.mem_append_left _ (by unfold tkNames; simp only [List.mem_cons, true_or, or_true]))
  · exact H (Str.ofString "start", .ref q1) (List.mem_append_left _ (by unfold tkNames; simp only [List.mem_cons, true_or, or_true]))
  · exact H (Str.ofString "end", .ref q2) (List.mem_append_left _ (by unfold tkNames; simp only [List.mem_cons, true_or, or_true]))
theorem tk_ne_ns : ∀ b ∈ tkNames n tn wd tt q1 q2, b.1 ≠ Str.ofString "no_space" := by
  intro b hb
  unfold tkNames at hb
  simp only [List.mem_cons, List.not_mem_nil, or_false] at hb
  rcases hb with rfl | rfl | rfl | rfl <;> (dsimp only; decide +kernel)
theorem tk_ne_rs : ∀ b ∈ tkNames n tn wd tt q1 q2, b.1 ≠ Str.ofString "require_space" := by
  intro b hb
  unfold tkNames at hb
  simp only [List.mem_cons, List.not_mem_nil, or_false] at hb
  rcases hb with rfl | rfl | rfl | rfl <;> (dsimp only; decide +kernel)
theorem tk_ne_ann : ∀ b ∈ tkNames n tn wd tt q1 q2, b.1 ≠ Str.ofString "annotated_func_arg" := by
  intro b hb
  unfold tkNames at hb
  simp only [List.mem_cons, List.not_mem_nil, or_false] at hb
  rcases hb with rfl | rfl | rfl | rfl <;> (dsimp only; decide +kernel)
theorem tk_ne_pe : ∀ b ∈ tkNames n tn wd tt q1 q2, b.1 ≠ Str.ofString "prev_end" := by
  intro b hb
  unfold tkNames at hb
  simp only [List.mem_cons, List.not_mem_nil, or_false] at hb
  rcases hb with rfl | rfl | rfl | rfl <;> (dsimp only; decide +kernel)
end
end Mine
end
theorem Mine.fresh_GenA : True ∧ True := by
  w_top off
  walk1 <;> exact True.intro
section
open PySem PySem.W PySem.Spec PySem.Calls PyProof.Rows
set_option Elab.async false
namespace Mine
local macro_rules | `(tactic| k_units) => `(tactic| ktr_units)
local macro_rules | `(tactic| k_room) => `(tactic| ktr_room)
def ifTest : Stmt → PySem.Expr
  | .If t _ _ _ => t
  | _ => .Constant .none 0 ⟨0, 0, 0, 0⟩
def ifBody : Stmt → List Stmt
  | .If _ b _ _ => b
  | _ => []
def ifElse : Stmt → List Stmt
  | .If _ _ e _ => e
  | _ => []
def ch0 : Stmt := (ifBody (gf 3)).getD 0 (.Pass ⟨0, 0, 0, 0⟩)
def ch1 : Stmt := (ifElse ch0).getD 0 (.Pass ⟨0, 0, 0, 0⟩)
def ch2 : Stmt := (ifElse ch1).getD 0 (.Pass ⟨0, 0, 0, 0⟩)
def ch3 : Stmt := (ifElse ch2).getD 0 (.Pass ⟨0, 0, 0, 0⟩)
def ch4 : Stmt := (ifElse ch3).getD 0 (.Pass ⟨0, 0, 0, 0⟩)
def ch5 : Stmt := (ifBody ch4).getD 0 (.Pass ⟨0, 0, 0, 0⟩)
def chE : Stmt := (ifBody (gf 3)).getD 1 (.Pass ⟨0, 0, 0, 0⟩)
theorem bq (x y : Int) : (x == y) = decide (x = y) := by by_cases h : x = y <;> simp [h]
section
variable {g : Gs} {vs : List Value} {wd x : Str} {ind : Bool}
theorem c1A (h : (Builtin.Str.occurrences (Str.ofString ")]") wd 0 (Str.ofString ")]").length 1).isEmpty = true) : false = decide (isClose wd = true ∧ g.st ≠ []) := by
  have : isClose wd = false := by unfold isClose subIn; rw [h]; rfl
  simp [this]
theorem c1B (sa : StrsAre vs g.st) (h : vs.isEmpty = true) : false = decide (isClose wd = true ∧ g.st ≠ []) := by
  rw [sa.emp] at h; simp [of_decide_eq_true h]
theorem c1C (sa : StrsAre vs g.st) (h : (Builtin.Str.occurrences (Str.ofString ")]") wd 0 (Str.ofString ")]").length 1).isEmpty = false) (k : vs.isEmpty = false) : true = decide (isClose wd = true ∧ g.st ≠ []) := by
  have a : isClose wd = true := by unfold isClose subIn; rw [h]; rfl
  rw [sa.emp] at k
  exact (decide_eq_true ⟨a, of_decide_eq_false k⟩).symm
theorem c2A (h : (wd == x) = true) (k : ind = true) {y : List Str} (l : g.st = y) : true = decide (wd = x ∧ ind = true ∧ g.st = y) := (decide_eq_true ⟨beq_iff_eq.mp h, k, l⟩).symm
theorem c2B {y : List Str} (l : ¬ g.st = y) : false = decide (wd = x ∧ ind = true ∧ g.st = y) := (decide_eq_false fun q => l q.2.2).symm
theorem c2C {y : List Str} (l : ind = false) : false = decide (wd = x ∧ ind = true ∧ g.st = y) := (decide_eq_false fun q => by rw [l] at q; exact absurd q.2.1 (by decide)).symm
theorem neq_of {x y : Str} (h : (x == y) = false) : ¬ x = y := fun q => by rw [q] at h; simp at h
theorem c2D {y : List Str} (l : (wd == x) = false) : false = decide (wd = x ∧ ind = true ∧ g.st = y) := (decide_eq_false fun q => neq_of l q.1).symm
theorem c3A (sa : StrsAre vs g.st) (h : ((vs.toArray.size : Nat) : Int) = 1) (k : (wd == x) = true) : true = decide (g.st.length = 1 ∧ wd = x) := by
  have := sa.length
  rw [List.size_toArray] at h
  exact (decide_eq_true ⟨by omega, beq_iff_eq.mp k⟩).symm
theorem c3B (k : (wd == x) = false) : false = decide (g.st.length = 1 ∧ wd = x) := (decide_eq_false fun q => neq_of k q.2).symm
theorem c3C (sa : StrsAre vs g.st) (h : ((vs.toArray.size : Nat) : Int) ≠ 1) : false = decide (g.st.length = 1 ∧ wd = x) := by
  have := sa.length
  rw [List.size_toArray] at h
  exact (decide_eq_false fun q => h (by omega)).symm
theorem c4A (sa : StrsAre vs g.st) (h : vs.isEmpty = true) : false = eqHere g wd := by
  rw [sa.emp] at h; simp [eqHere, of_decide_eq_true h]
theorem c4B (sa : StrsAre vs g.st) (h : vs.isEmpty = false) (k : (wd == Str.ofString "=") = true) : true = eqHere g wd := by
  rw [sa.emp] at h
  exact (decide_eq_true ⟨of_decide_eq_false h, beq_iff_eq.mp k⟩).symm
theorem c4C (k : (wd == Str.ofString "=") = false) : false = eqHere g wd := (decide_eq_false fun q => neq_of k q.2).symm
theorem c5A {y : List Str} (h : g.ann = true) (k : g.st = y) : true = decide (g.ann = true ∧ g.st = y) := (decide_eq_true ⟨h, k⟩).symm
theorem c5B {y : List Str} (k : ¬ g.st = y) : false = decide (g.ann = true ∧ g.st = y) := (decide_eq_false fun q => k q.2).symm
theorem c5C {y : List Str} (h : g.ann = false) : false = decide (g.ann = true ∧ g.st = y) := (decide_eq_false fun q => by rw [h] at q; exact absurd q.1 (by decide)).symm
theorem cEA (sa : StrsAre vs g.st) : (!(!vs.isEmpty)) = decide (g.st = []) := by rw [sa.emp, Bool.not_not]
end
end Mine
end
theorem Mine.fresh_GenT : True ∧ True := by
  w_top off
  walk1 <;> exact True.intro
section
open PySem PySem.W PySem.Spec PySem.Calls PyProof.Rows
set_option Elab.async false
namespace Mine
local macro_rules | `(tactic| k_units) => `(tactic| ktr_units)
local macro_rules | `(tactic| k_room) => `(tactic| ktr_room)
set_option maxRecDepth 100000
set_option maxHeartbeats 8000000
section
variable (w : World) (p : Program) (loose : List Str) (mean : ExcName → Option Value) (mg mb : Str → Option Value) (h₀ : Heap)
    (T₀ : Top p loose mean mg mb h₀) (X₀ : (hd.heap_39 w.params).In h₀)
    (A : Around) (L fa : Addr) (cd : Value) (S tA P I : Addr) (base : Led) (ind : Bool) (ix : Nat)
    (hh : A.handled = none) (hd : A.depth + 20 < recursionLimit) (hu : A.units + 200 < cLine)
include T₀ X₀ hh hd hu in
theorem t_op (g : Gs) (ns rs : Bool) (pev : Value) (q1 q2 : Addr) (tn tt : Tok) (n : Int) (wd : Str) (own : Led) (s : Shared) (hz : g.st.length ≤ 400)
    (G : GSt h₀ L S tA P I base ind ix own g ns rs pev (tkNames n tn wd tt q1 q2) s) :
    wpAny (model PySem.Challenge.rw_co0042_01.row.prog w) A (isTrue (ifTest (gf 3)) (genEnv L fa cd) (eval (ifTest (gf 3)) (genEnv L fa cd))) (fun b s' => Here (b = decide (n = 54) ∧ ∃ h tk, s' = { s with heap := h, toks := tk } ∧ GSt h₀ L S tA P I base ind ix own g ns rs pev (tkNames n tn wd tt q1 q2) s')) (fun _ _ => False) s := by
  obtain ⟨m, vs, nn, io, t1, t2, F, N, sa, ic, oP, oI, IP, bo, nm⟩ := id G
  have hvl := sa.length
  revert X₀
  k_fill
  intro X₀
  dsimp only [ifTest, ifBody, ifElse, ch0, ch1, ch2, ch3, ch4, ch5, chE, genEnv, genScope, scopeOf, gf, genFor, genAt, genDef, PySem.Challenge.pw_co0042_01, bodyOf, List.getD, List.getD_cons_succ, List.getD_cons_zero, List.getElem?_cons_succ, List.getElem?_cons_zero, Option.getD]
  (try k_fold)
  obtain ⟨x0, x1, x2, x3, x4, x5, x6, x7, x8, x9⟩ := gn_all nm
  obtain ⟨k0, k1, k2, k3⟩ := tk_all nm
  have nmA : Names m [(Str.ofString "token_type", .int n tn)] := (.cons k0 .nil)
  have F₂ := names_fr F nmA
  clear F
  k_steps
  all_goals
    rename Fr _ _ _ _ => F9
    rename News _ _ _ _ => N9
    rw [bindL_eq nmA] at F9
    show _ ∧ _
    refine ⟨?_, _, _, rfl, m, vs, nn, io, t1, t2, F9, fun q hq => N9 q (by first | exact hq | exact .tail _ hq | exact .tail _ (.tail _ hq)), sa, ic, oP, oI, IP, bo, nm⟩
    exact bq _ _
end
set_option maxRecDepth 100000
set_option maxHeartbeats 8000000
section
variable (w : World) (p : Program) (loose : List Str) (mean : ExcName → Option Value) (mg mb : Str → Option Value) (h₀ : Heap)
    (T₀ : Top p loose mean mg mb h₀) (X₀ : (hd.heap_39 w.params).In h₀)
    (A : Around) (L fa : Addr) (cd : Value) (S tA P I : Addr) (base : Led) (ind : Bool) (ix : Nat)
    (hh : A.handled = none) (hd : A.depth + 20 < recursionLimit) (hu : A.units + 200 < cLine)
include T₀ X₀ hh hd hu in
theorem t_nl (g : Gs) (ns rs : Bool) (pev : Value) (q1 q2 : Addr) (tn tt : Tok) (n : Int) (wd : Str) (own : Led) (s : Shared) (hz : g.st.length ≤ 400)
    (G : GSt h₀ L S tA P I base ind ix own g ns rs pev (tkNames n tn wd tt q1 q2) s) :
    wpAny (model PySem.Challenge.rw_co0042_01.row.prog w) A (isTrue (ifTest (gf 0)) (genEnv L fa cd) (eval (ifTest (gf 0)) (genEnv L fa cd))) (fun b s' => Here (b = decide (n = 62) ∧ ∃ h tk, s' = { s with heap := h, toks := tk } ∧ GSt h₀ L S tA P I base ind ix own g ns rs pev (tkNames n tn wd tt q1 q2) s')) (fun _ _ => False) s := by
  obtain ⟨m, vs, nn, io, t1, t2, F, N, sa, ic, oP, oI, IP, bo, nm⟩ := id G
  have hvl := sa.length
  revert X₀
  k_fill
  intro X₀
  dsimp only [ifTest, ifBody, ifElse, ch0, ch1, ch2, ch3, ch4, ch5, chE, genEnv, genScope, scopeOf, gf, genFor, genAt, genDef, PySem.Challenge.pw_co0042_01, bodyOf, List.getD, List.getD_cons_succ, List.getD_cons_zero, List.getElem?_cons_succ, List.getElem?_cons_zero, Option.getD]
  (try k_fold)
  obtain ⟨x0, x1, x2, x3, x4, x5, x6, x7, x8, x9⟩ := gn_all nm
  obtain ⟨k0, k1, k2, k3⟩ := tk_all nm
  have nmA : Names m [(Str.ofString "token_type", .int n tn)] := (.cons k0 .nil)
  have F₂ := names_fr F nmA
  clear F
  k_steps
  all_goals
    rename Fr _ _ _ _ => F9
    rename News _ _ _ _ => N9
    rw [bindL_eq nmA] at F9
    show _ ∧ _
    refine ⟨?_, _, _, rfl, m, vs, nn, io, t1, t2, F9, fun q hq => N9 q (by first | exact hq | exact .tail _ hq | exact .tail _ (.tail _ hq)), sa, ic, oP, oI, IP, bo, nm⟩
    exact bq _ _
end
set_option maxRecDepth 100000
set_option maxHeartbeats 8000000
section
variable (w : World) (p : Program) (loose : List Str) (mean : ExcName → Option Value) (mg mb : Str → Option Value) (h₀ : Heap)
    (T₀ : Top p loose mean mg mb h₀) (X₀ : (hd.heap_39 w.params).In h₀)
    (A : Around) (L fa : Addr) (cd : Value) (S tA P I : Addr) (base : Led) (ind : Bool) (ix : Nat)
    (hh : A.handled = none) (hd : A.depth + 20 < recursionLimit) (hu : A.units + 200 < cLine)
include T₀ X₀ hh hd hu in
theorem t_c0 (g : Gs) (ns rs : Bool) (pev : Value) (q1 q2 : Addr) (tn tt : Tok) (n : Int) (wd : Str) (own : Led) (s : Shared) (hz : g.st.length ≤ 400)
    (G : GSt h₀ L S tA P I base ind ix own g ns rs pev (tkNames n tn wd tt q1 q2) s) :
    wpAny (model PySem.Challenge.rw_co0042_01.row.prog w) A (isTrue (ifTest ch0) (genEnv L fa cd) (eval (ifTest ch0) (genEnv L fa cd))) (fun b s' => Here (b = isOpen wd ∧ ∃ h tk, s' = { s with heap := h, toks := tk } ∧ GSt h₀ L S tA P I base ind ix own g ns rs pev (tkNames n tn wd tt q1 q2) s')) (fun _ _ => False) s := by
  obtain ⟨m, vs, nn, io, t1, t2, F, N, sa, ic, oP, oI, IP, bo, nm⟩ := id G
  have hvl := sa.length
  revert X₀
  k_fill
  intro X₀
  dsimp only [ifTest, ifBody, ifElse, ch0, ch1, ch2, ch3, ch4, ch5, chE, genEnv, genScope, scopeOf, gf, genFor, genAt, genDef, PySem.Challenge.pw_co0042_01, bodyOf, List.getD, List.getD_cons_succ, List.getD_cons_zero, List.getElem?_cons_succ, List.getElem?_cons_zero, Option.getD]
  (try k_fold)
  obtain ⟨x0, x1, x2, x3, x4, x5, x6, x7, x8, x9⟩ := gn_all nm
  obtain ⟨k0, k1, k2, k3⟩ := tk_all nm
  have nmA : Names m [(Str.ofString "text", .str wd tt)] := (.cons k1 .nil)
  have F₂ := names_fr F nmA
  clear F
  k_steps
  all_goals
    rename Fr _ _ _ _ => F9
    rename News _ _ _ _ => N9
    rw [bindL_eq nmA] at F9
    show _ ∧ _
    refine ⟨?_, _, _, rfl, m, vs, nn, io, t1, t2, F9, fun q hq => N9 q (by first | exact hq | exact .tail _ hq | exact .tail _ (.tail _ hq)), sa, ic, oP, oI, IP, bo, nm⟩
    rfl
end
set_option maxRecDepth 100000
set_option maxHeartbeats 8000000
section
variable (w : World) (p : Program) (loose : List Str) (mean : ExcName → Option Value) (mg mb : Str → Option Value) (h₀ : Heap)
    (T₀ : Top p loose mean mg mb h₀) (X₀ : (hd.heap_39 w.params).In h₀)
    (A : Around) (L fa : Addr) (cd : Value) (S tA P I : Addr) (base : Led) (ind : Bool) (ix : Nat)
    (hh : A.handled = none) (hd : A.depth + 20 < recursionLimit) (hu : A.units + 200 < cLine)
include T₀ X₀ hh hd hu in
theorem t_c1 (g : Gs) (ns rs : Bool) (pev : Value) (q1 q2 : Addr) (tn tt : Tok) (n : Int) (wd : Str) (own : Led) (s : Shared) (hz : g.st.length ≤ 400)
    (G : GSt h₀ L S tA P I base ind ix own g ns rs pev (tkNames n tn wd tt q1 q2) s) :
    wpAny (model PySem.Challenge.rw_co0042_01.row.prog w) A (isTrue (ifTest ch1) (genEnv L fa cd) (eval (ifTest ch1) (genEnv L fa cd))) (fun b s' => Here (b = decide (isClose wd = true ∧ g.st ≠ []) ∧ ∃ h tk, s' = { s with heap := h, toks := tk } ∧ GSt h₀ L S tA P I base ind ix own g ns rs pev (tkNames n tn wd tt q1 q2) s')) (fun _ _ => False) s := by
  obtain ⟨m, vs, nn, io, t1, t2, F, N, sa, ic, oP, oI, IP, bo, nm⟩ := id G
  have hvl := sa.length
  revert X₀
  k_fill
  intro X₀
  dsimp only [ifTest, ifBody, ifElse, ch0, ch1, ch2, ch3, ch4, ch5, chE, genEnv, genScope, scopeOf, gf, genFor, genAt, genDef, PySem.Challenge.pw_co0042_01, bodyOf, List.getD, List.getD_cons_succ, List.getD_cons_zero, List.getElem?_cons_succ, List.getElem?_cons_zero, Option.getD]
  (try k_fold)
  obtain ⟨x0, x1, x2, x3, x4, x5, x6, x7, x8, x9⟩ := gn_all nm
  obtain ⟨k0, k1, k2, k3⟩ := tk_all nm
  have nmA : Names m [(Str.ofString "text", .str wd tt), (Str.ofString "paren_stack", .ref P)] := (.cons k1 (.cons x1 .nil))
  have F₂ := names_fr F nmA
  clear F
  k_steps
  all_goals
    rename Fr _ _ _ _ => F9
    rename News _ _ _ _ => N9
    rw [bindL_eq nmA] at F9
    show _ ∧ _
    refine ⟨?_, _, _, rfl, m, vs, nn, io, t1, t2, F9, fun q hq => N9 q (by first | exact hq | exact .tail _ hq | exact .tail _ (.tail _ hq)), sa, ic, oP, oI, IP, bo, nm⟩
    first | exact c1A (by assumption) | exact c1B sa (by assumption) | exact c1C sa (by assumption) (by assumption)
end
set_option maxRecDepth 100000
set_option maxHeartbeats 8000000
section
variable (w : World) (p : Program) (loose : List Str) (mean : ExcName → Option Value) (mg mb : Str → Option Value) (h₀ : Heap)
    (T₀ : Top p loose mean mg mb h₀) (X₀ : (hd.heap_39 w.params).In h₀)
    (A : Around) (L fa : Addr) (cd : Value) (S tA P I : Addr) (base : Led) (ind : Bool) (ix : Nat)
    (hh : A.handled = none) (hd : A.depth + 20 < recursionLimit) (hu : A.units + 200 < cLine)
include T₀ X₀ hh hd hu in
theorem t_c2 (g : Gs) (ns rs : Bool) (pev : Value) (q1 q2 : Addr) (tn tt : Tok) (n : Int) (wd : Str) (own : Led) (s : Shared) (hz : g.st.length ≤ 400)
    (G : GSt h₀ L S tA P I base ind ix own g ns rs pev (tkNames n tn wd tt q1 q2) s) :
    wpAny (model PySem.Challenge.rw_co0042_01.row.prog w) A (isTrue (ifTest ch2) (genEnv L fa cd) (eval (ifTest ch2) (genEnv L fa cd))) (fun b s' => Here (b = decide (wd = Str.ofString ":" ∧ ind = true ∧ g.st = [Str.ofString "("]) ∧ ∃ h tk, s' = { s with heap := h, toks := tk } ∧ GSt h₀ L S tA P I base ind ix own g ns rs pev (tkNames n tn wd tt q1 q2) s')) (fun _ _ => False) s := by
  obtain ⟨m, vs, nn, io, t1, t2, F, N, sa, ic, oP, oI, IP, bo, nm⟩ := id G
  have hvl := sa.length
  revert X₀
  k_fill
  intro X₀
  dsimp only [ifTest, ifBody, ifElse, ch0, ch1, ch2, ch3, ch4, ch5, chE, genEnv, genScope, scopeOf, gf, genFor, genAt, genDef, PySem.Challenge.pw_co0042_01, bodyOf, List.getD, List.getD_cons_succ, List.getD_cons_zero, List.getElem?_cons_succ, List.getElem?_cons_zero, Option.getD]
  (try k_fold)
  obtain ⟨x0, x1, x2, x3, x4, x5, x6, x7, x8, x9⟩ := gn_all nm
  obtain ⟨k0, k1, k2, k3⟩ := tk_all nm
  have nmA : Names m [(Str.ofString "text", .str wd tt), (Str.ofString "paren_stack", .ref P), (Str.ofString "in_def", .bool ind)] := (.cons k1 (.cons x1 (.cons x6 .nil)))
  have F₂ := names_fr F nmA
  clear F
  k_steps
  · refine stk_eq (by k_asm) (by k_mem) sa (by k_mem) (.cons (by decide +kernel) .nil) (by ktr_units) ?_
    k_steps
    all_goals
      rename Fr _ _ _ _ => F9
      rename News _ _ _ _ => N9
      rw [bindL_eq nmA] at F9
      show _ ∧ _
      refine ⟨?_, _, _, rfl, m, vs, nn, io, t1, t2, F9, fun q hq => N9 q (by first | exact hq | exact .tail _ hq | exact .tail _ (.tail _ hq)), sa, ic, oP, oI, IP, bo, nm⟩
      first | exact c2A (by assumption) (by assumption) (by assumption) | exact c2B (by assumption) | exact c2C (by assumption) | exact c2D (by assumption)
  all_goals
    rename Fr _ _ _ _ => F9
    rename News _ _ _ _ => N9
    rw [bindL_eq nmA] at F9
    show _ ∧ _
    refine ⟨?_, _, _, rfl, m, vs, nn, io, t1, t2, F9, fun q hq => N9 q (by first | exact hq | exact .tail _ hq | exact .tail _ (.tail _ hq)), sa, ic, oP, oI, IP, bo, nm⟩
    first | exact c2A (by assumption) (by assumption) (by assumption) | exact c2B (by assumption) | exact c2C (by assumption) | exact c2D (by assumption)
end
set_option maxRecDepth 100000
set_option maxHeartbeats 8000000
section
variable (w : World) (p : Program) (loose : List Str) (mean : ExcName → Option Value) (mg mb : Str → Option Value) (h₀ : Heap)
    (T₀ : Top p loose mean mg mb h₀) (X₀ : (hd.heap_39 w.params).In h₀)
    (A : Around) (L fa : Addr) (cd : Value) (S tA P I : Addr) (base : Led) (ind : Bool) (ix : Nat)
    (hh : A.handled = none) (hd : A.depth + 20 < recursionLimit) (hu : A.units + 200 < cLine)
include T₀ X₀ hh hd hu in
theorem t_c3 (g : Gs) (ns rs : Bool) (pev : Value) (q1 q2 : Addr) (tn tt : Tok) (n : Int) (wd : Str) (own : Led) (s : Shared) (hz : g.st.length ≤ 400)
    (G : GSt h₀ L S tA P I base ind ix own g ns rs pev (tkNames n tn wd tt q1 q2) s) :
    wpAny (model PySem.Challenge.rw_co0042_01.row.prog w) A (isTrue (ifTest ch3) (genEnv L fa cd) (eval (ifTest ch3) (genEnv L fa cd))) (fun b s' => Here (b = decide (g.st.length = 1 ∧ wd = Str.ofString ",") ∧ ∃ h tk, s' = { s with heap := h, toks := tk } ∧ GSt h₀ L S tA P I base ind ix own g ns rs pev (tkNames n tn wd tt q1 q2) s')) (fun _ _ => False) s := by
  obtain ⟨m, vs, nn, io, t1, t2, F, N, sa, ic, oP, oI, IP, bo, nm⟩ := id G
  have hvl := sa.length
  revert X₀
  k_fill
  intro X₀
  dsimp only [ifTest, ifBody, ifElse, ch0, ch1, ch2, ch3, ch4, ch5, chE, genEnv, genScope, scopeOf, gf, genFor, genAt, genDef, PySem.Challenge.pw_co0042_01, bodyOf, List.getD, List.getD_cons_succ, List.getD_cons_zero, List.getElem?_cons_succ, List.getElem?_cons_zero, Option.getD]
  (try k_fold)
  obtain ⟨x0, x1, x2, x3, x4, x5, x6, x7, x8, x9⟩ := gn_all nm
  obtain ⟨k0, k1, k2, k3⟩ := tk_all nm
  have nmA : Names m [(Str.ofString "text", .str wd tt), (Str.ofString "paren_stack", .ref P)] := (.cons k1 (.cons x1 .nil))
  have F₂ := names_fr F nmA
  clear F
  k_steps
  refine call_len_list (News.isList (by k_asm) (by k_mem)) (by rw [List.size_toArray]; omega) ?_
  k_steps
  all_goals
    rename Fr _ _ _ _ => F9
    rename News _ _ _ _ => N9
    rw [bindL_eq nmA] at F9
    show _ ∧ _
    refine ⟨?_, _, _, rfl, m, vs, nn, io, t1, t2, F9, fun q hq => N9 q (by first | exact hq | exact .tail _ hq | exact .tail _ (.tail _ hq)), sa, ic, oP, oI, IP, bo, nm⟩
    first | exact c3A sa (by assumption) (by assumption) | exact c3B (by assumption) | exact c3C sa (by assumption)
end
set_option maxRecDepth 100000
set_option maxHeartbeats 8000000
section
variable (w : World) (p : Program) (loose : List Str) (mean : ExcName → Option Value) (mg mb : Str → Option Value) (h₀ : Heap)
    (T₀ : Top p loose mean mg mb h₀) (X₀ : (hd.heap_39 w.params).In h₀)
    (A : Around) (L fa : Addr) (cd : Value) (S tA P I : Addr) (base : Led) (ind : Bool) (ix : Nat)
    (hh : A.handled = none) (hd : A.depth + 20 < recursionLimit) (hu : A.units + 200 < cLine)
include T₀ X₀ hh hd hu in
theorem t_c4 (g : Gs) (ns rs : Bool) (pev : Value) (q1 q2 : Addr) (tn tt : Tok) (n : Int) (wd : Str) (own : Led) (s : Shared) (hz : g.st.length ≤ 400)
    (G : GSt h₀ L S tA P I base ind ix own g ns rs pev (tkNames n tn wd tt q1 q2) s) :
    wpAny (model PySem.Challenge.rw_co0042_01.row.prog w) A (isTrue (ifTest ch4) (genEnv L fa cd) (eval (ifTest ch4) (genEnv L fa cd))) (fun b s' => Here (b = eqHere g wd ∧ ∃ h tk, s' = { s with heap := h, toks := tk } ∧ GSt h₀ L S tA P I base ind ix own g ns rs pev (tkNames n tn wd tt q1 q2) s')) (fun _ _ => False) s := by
  obtain ⟨m, vs, nn, io, t1, t2, F, N, sa, ic, oP, oI, IP, bo, nm⟩ := id G
  have hvl := sa.length
  revert X₀
  k_fill
  intro X₀
  dsimp only [ifTest, ifBody, ifElse, ch0, ch1, ch2, ch3, ch4, ch5, chE, genEnv, genScope, scopeOf, gf, genFor, genAt, genDef, PySem.Challenge.pw_co0042_01, bodyOf, List.getD, List.getD_cons_succ, List.getD_cons_zero, List.getElem?_cons_succ, List.getElem?_cons_zero, Option.getD]
  (try k_fold)
  obtain ⟨x0, x1, x2, x3, x4, x5, x6, x7, x8, x9⟩ := gn_all nm
  obtain ⟨k0, k1, k2, k3⟩ := tk_all nm
  have nmA : Names m [(Str.ofString "text", .str wd tt), (Str.ofString "paren_stack", .ref P)] := (.cons k1 (.cons x1 .nil))
  have F₂ := names_fr F nmA
  clear F
  k_steps
  all_goals
    rename Fr _ _ _ _ => F9
    rename News _ _ _ _ => N9
    rw [bindL_eq nmA] at F9
    show _ ∧ _
    refine ⟨?_, _, _, rfl, m, vs, nn, io, t1, t2, F9, fun q hq => N9 q (by first | exact hq | exact .tail _ hq | exact .tail _ (.tail _ hq)), sa, ic, oP, oI, IP, bo, nm⟩
    first | exact c4A sa (by assumption) | exact c4B sa (by assumption) (by assumption) | exact c4C (by assumption)
end
set_option maxRecDepth 100000
set_option maxHeartbeats 8000000
section
variable (w : World) (p : Program) (loose : List Str) (mean : ExcName → Option Value) (mg mb : Str → Option Value) (h₀ : Heap)
    (T₀ : Top p loose mean mg mb h₀) (X₀ : (hd.heap_39 w.params).In h₀)
    (A : Around) (L fa : Addr) (cd : Value) (S tA P I : Addr) (base : Led) (ind : Bool) (ix : Nat)
    (hh : A.handled = none) (hd : A.depth + 20 < recursionLimit) (hu : A.units + 200 < cLine)
include T₀ X₀ hh hd hu in
theorem t_c5 (g : Gs) (ns rs : Bool) (pev : Value) (q1 q2 : Addr) (tn tt : Tok) (n : Int) (wd : Str) (own : Led) (s : Shared) (hz : g.st.length ≤ 400)
    (G : GSt h₀ L S tA P I base ind ix own g ns rs pev (tkNames n tn wd tt q1 q2) s) :
    wpAny (model PySem.Challenge.rw_co0042_01.row.prog w) A (isTrue (ifTest ch5) (genEnv L fa cd) (eval (ifTest ch5) (genEnv L fa cd))) (fun b s' => Here (b = decide (g.ann = true ∧ g.st = [Str.ofString "("]) ∧ ∃ h tk, s' = { s with heap := h, toks := tk } ∧ GSt h₀ L S tA P I base ind ix own g ns rs pev (tkNames n tn wd tt q1 q2) s')) (fun _ _ => False) s := by
  obtain ⟨m, vs, nn, io, t1, t2, F, N, sa, ic, oP, oI, IP, bo, nm⟩ := id G
  have hvl := sa.length
  revert X₀
  k_fill
  intro X₀
  dsimp only [ifTest, ifBody, ifElse, ch0, ch1, ch2, ch3, ch4, ch5, chE, genEnv, genScope, scopeOf, gf, genFor, genAt, genDef, PySem.Challenge.pw_co0042_01, bodyOf, List.getD, List.getD_cons_succ, List.getD_cons_zero, List.getElem?_cons_succ, List.getElem?_cons_zero, Option.getD]
  (try k_fold)
  obtain ⟨x0, x1, x2, x3, x4, x5, x6, x7, x8, x9⟩ := gn_all nm
  obtain ⟨k0, k1, k2, k3⟩ := tk_all nm
  have nmA : Names m [(Str.ofString "paren_stack", .ref P), (Str.ofString "in_generic", .bool false), (Str.ofString "annotated_func_arg", .bool g.ann)] := (.cons x1 (.cons x7 (.cons x5 .nil)))
  have F₂ := names_fr F nmA
  clear F
  k_steps
  · refine stk_eq (by k_asm) (by k_mem) sa (by k_mem) (.cons (by decide +kernel) .nil) (by ktr_units) ?_
    k_steps
    all_goals
      rename Fr _ _ _ _ => F9
      rename News _ _ _ _ => N9
      rw [bindL_eq nmA] at F9
      show _ ∧ _
      refine ⟨?_, _, _, rfl, m, vs, nn, io, t1, t2, F9, fun q hq => N9 q (by first | exact hq | exact .tail _ hq | exact .tail _ (.tail _ hq)), sa, ic, oP, oI, IP, bo, nm⟩
      first | exact c5A (by assumption) (by assumption) | exact c5B (by assumption) | exact c5C (by assumption)
  all_goals
    rename Fr _ _ _ _ => F9
    rename News _ _ _ _ => N9
    rw [bindL_eq nmA] at F9
    show _ ∧ _
    refine ⟨?_, _, _, rfl, m, vs, nn, io, t1, t2, F9, fun q hq => N9 q (by first | exact hq | exact .tail _ hq | exact .tail _ (.tail _ hq)), sa, ic, oP, oI, IP, bo, nm⟩
    first | exact c5A (by assumption) (by assumption) | exact c5B (by assumption) | exact c5C (by assumption)
end
set_option maxRecDepth 100000
set_option maxHeartbeats 8000000
section
variable (w : World) (p : Program) (loose : List Str) (mean : ExcName → Option Value) (mg mb : Str → Option Value) (h₀ : Heap)
    (T₀ : Top p loose mean mg mb h₀) (X₀ : (hd.heap_39 w.params).In h₀)
    (A : Around) (L fa : Addr) (cd : Value) (S tA P I : Addr) (base : Led) (ind : Bool) (ix : Nat)
    (hh : A.handled = none) (hd : A.depth + 20 < recursionLimit) (hu : A.units + 200 < cLine)
include T₀ X₀ hh hd hu in
theorem t_cE (g : Gs) (ns rs : Bool) (pev : Value) (q1 q2 : Addr) (tn tt : Tok) (n : Int) (wd : Str) (own : Led) (s : Shared) (hz : g.st.length ≤ 400)
    (G : GSt h₀ L S tA P I base ind ix own g ns rs pev (tkNames n tn wd tt q1 q2) s) :
    wpAny (model PySem.Challenge.rw_co0042_01.row.prog w) A (isTrue (ifTest chE) (genEnv L fa cd) (eval (ifTest chE) (genEnv L fa cd))) (fun b s' => Here (b = decide (g.st = []) ∧ ∃ h tk, s' = { s with heap := h, toks := tk } ∧ GSt h₀ L S tA P I base ind ix own g ns rs pev (tkNames n tn wd tt q1 q2) s')) (fun _ _ => False) s := by
  obtain ⟨m, vs, nn, io, t1, t2, F, N, sa, ic, oP, oI, IP, bo, nm⟩ := id G
  have hvl := sa.length
  revert X₀
  k_fill
  intro X₀
  dsimp only [ifTest, ifBody, ifElse, ch0, ch1, ch2, ch3, ch4, ch5, chE, genEnv, genScope, scopeOf, gf, genFor, genAt, genDef, PySem.Challenge.pw_co0042_01, bodyOf, List.getD, List.getD_cons_succ, List.getD_cons_zero, List.getElem?_cons_succ, List.getElem?_cons_zero, Option.getD]
  (try k_fold)
  obtain ⟨x0, x1, x2, x3, x4, x5, x6, x7, x8, x9⟩ := gn_all nm
  obtain ⟨k0, k1, k2, k3⟩ := tk_all nm
  have nmA : Names m [(Str.ofString "paren_stack", .ref P)] := (.cons x1 .nil)
  have F₂ := names_fr F nmA
  clear F
  k_steps
  all_goals
    rename Fr _ _ _ _ => F9
    rename News _ _ _ _ => N9
    rw [bindL_eq nmA] at F9
    show _ ∧ _
    refine ⟨?_, _, _, rfl, m, vs, nn, io, t1, t2, F9, fun q hq => N9 q (by first | exact hq | exact .tail _ hq | exact .tail _ (.tail _ hq)), sa, ic, oP, oI, IP, bo, nm⟩
    exact cEA sa
end
end Mine
end
theorem Mine.fresh_GenU : True ∧ True := by
  w_top off
  walk1 <;> exact True.intro
section
open PySem PySem.W PySem.Spec PySem.Calls PyProof.Rows
set_option Elab.async false
namespace Mine
local macro_rules | `(tactic| k_units) => `(tactic| ktr_units)
local macro_rules | `(tactic| k_room) => `(tactic| ktr_room)
set_option maxRecDepth 100000
set_option maxHeartbeats 8000000
section
variable (w : World) (p : Program) (loose : List Str) (mean : ExcName → Option Value) (mg mb : Str → Option Value) (h₀ : Heap)
    (T₀ : Top p loose mean mg mb h₀) (X₀ : (hd.heap_39 w.params).In h₀)
    (A : Around) (L fa : Addr) (cd : Value) (S tA P I : Addr) (base : Led) (ind : Bool) (ix : Nat)
    (hh : A.handled = none) (hd : A.depth + 20 < recursionLimit) (hu : A.units + 200 < cLine)
include T₀ X₀ hh hd hu in
theorem a_push (g : Gs) (ns rs : Bool) (pev : Value) (q1 q2 : Addr) (tn tt : Tok) (n : Int) (wd : Str) (own : Led) (s : Shared) (hz : g.st.length ≤ 400) (hok : PyData.strOk wd = true)
    (G : GSt h₀ L S tA P I base ind ix own g ns rs pev (tkNames n tn wd tt q1 q2) s) :
    wpAny (model PySem.Challenge.rw_co0042_01.row.prog w) A (exec ((ifBody ch0).getD 0 (.Pass ⟨0, 0, 0, 0⟩)) (genEnv L fa cd)) (fun f s' => Here (f = .next ∧ ∃ h tk, s' = { s with heap := h, toks := tk } ∧ GSt h₀ L S tA P I base ind ix own ⟨g.st ++ [wd], g.ann⟩ ns rs pev (tkNames n tn wd tt q1 q2) s')) (fun _ _ => False) s := by
  obtain ⟨m, vs, nn, io, t1, t2, F, N, sa, ic, oP, oI, IP, bo, nm⟩ := id G
  have hvl := sa.length
  revert X₀
  k_fill
  intro X₀
  dsimp only [ifTest, ifBody, ifElse, ch0, ch1, ch2, ch3, ch4, ch5, chE, genEnv, genScope, scopeOf, gf, genFor, genAt, genDef, PySem.Challenge.pw_co0042_01, bodyOf, List.getD, List.getD_cons_succ, List.getD_cons_zero, List.getElem?_cons_succ, List.getElem?_cons_zero, Option.getD]
  (try k_fold)
  obtain ⟨x0, x1, x2, x3, x4, x5, x6, x7, x8, x9⟩ := gn_all nm
  obtain ⟨k0, k1, k2, k3⟩ := tk_all nm
  have nmA : Names m [(Str.ofString "text", .str wd tt), (Str.ofString "paren_stack", .ref P)] := (.cons k1 (.cons x1 .nil))
  have F₂ := names_fr F nmA
  clear F
  k_steps
  refine app_made F₂ N (.head fun p hp => ?_) (by omega) fun h' F' N' => ?_
  · rcases List.mem_cons.mp hp with rfl | hp
    · exact IP
    · exact oP p hp
  rw [bindL_eq nmA] at F'
  show _ ∧ _
  exact ⟨by trivial, _, _, rfl, _, _, _, io, t1, t2, F', N', sa.snoc hok, ic, oP, oI, IP, bo, nm⟩
end
set_option maxRecDepth 100000
set_option maxHeartbeats 8000000
section
variable (w : World) (p : Program) (loose : List Str) (mean : ExcName → Option Value) (mg mb : Str → Option Value) (h₀ : Heap)
    (T₀ : Top p loose mean mg mb h₀) (X₀ : (hd.heap_39 w.params).In h₀)
    (A : Around) (L fa : Addr) (cd : Value) (S tA P I : Addr) (base : Led) (ind : Bool) (ix : Nat)
    (hh : A.handled = none) (hd : A.depth + 20 < recursionLimit) (hu : A.units + 200 < cLine)
include T₀ X₀ hh hd hu in
theorem a_pop (g : Gs) (ns rs : Bool) (pev : Value) (q1 q2 : Addr) (tn tt : Tok) (n : Int) (wd : Str) (own : Led) (s : Shared) (hz : g.st.length ≤ 400) (hne : g.st ≠ [])
    (G : GSt h₀ L S tA P I base ind ix own g ns rs pev (tkNames n tn wd tt q1 q2) s) :
    wpAny (model PySem.Challenge.rw_co0042_01.row.prog w) A (exec ((ifBody ch1).getD 0 (.Pass ⟨0, 0, 0, 0⟩)) (genEnv L fa cd)) (fun f s' => Here (f = .next ∧ ∃ h tk, s' = { s with heap := h, toks := tk } ∧ GSt h₀ L S tA P I base ind ix own ⟨g.st.dropLast, g.ann⟩ ns rs pev (tkNames n tn wd tt q1 q2) s')) (fun _ _ => False) s := by
  obtain ⟨m, vs, nn, io, t1, t2, F, N, sa, ic, oP, oI, IP, bo, nm⟩ := id G
  have hvl := sa.length
  revert X₀
  k_fill
  intro X₀
  dsimp only [ifTest, ifBody, ifElse, ch0, ch1, ch2, ch3, ch4, ch5, chE, genEnv, genScope, scopeOf, gf, genFor, genAt, genDef, PySem.Challenge.pw_co0042_01, bodyOf, List.getD, List.getD_cons_succ, List.getD_cons_zero, List.getElem?_cons_succ, List.getElem?_cons_zero, Option.getD]
  (try k_fold)
  obtain ⟨x0, x1, x2, x3, x4, x5, x6, x7, x8, x9⟩ := gn_all nm
  obtain ⟨k0, k1, k2, k3⟩ := tk_all nm
  have nmA : Names m [(Str.ofString "paren_stack", .ref P)] := (.cons x1 .nil)
  have F₂ := names_fr F nmA
  clear F
  k_steps
  have hv : vs ≠ [] := fun e => by
    rw [e] at hvl; exact hne (List.length_eq_zero_iff.mp hvl.symm)
  refine Copied.pop_at (hsz := by rw [List.size_toArray, sizeLine_eq]; omega) (y := vs.getLast hv) (N _ (.head _)).1 (by rw [List.size_toArray, List.getElem?_toArray, ← List.getLast?_eq_getElem?, List.getLast?_eq_some_getLast hv]) fun h' hs ho' => ?_
  have z := N _ (.head _)
  have F' := F₂.change hs z.2.1 z.2.2
  rw [bindL_eq nmA] at F'
  have N' : News h₀ L h' ((P, lst vs.dropLast (nn + 1)) :: (I, io) :: own) := fun p hp => by
    rcases List.mem_cons.mp hp with rfl | hp
    · refine ⟨?_, z.2⟩
      rw [ho']; simp
    · refine ⟨(hs.2 _ ?_).trans (N p (.tail _ hp)).1, (N p (.tail _ hp)).2⟩
      rcases List.mem_cons.mp hp with rfl | hp
      · exact IP
      · exact oP p hp
  show _ ∧ _
  exact ⟨by trivial, _, _, rfl, _, _, _, io, t1, t2, F', N', sa.dropLast, ic, oP, oI, IP, bo, nm⟩
end
set_option maxRecDepth 100000
set_option maxHeartbeats 8000000
section
variable (w : World) (p : Program) (loose : List Str) (mean : ExcName → Option Value) (mg mb : Str → Option Value) (h₀ : Heap)
    (T₀ : Top p loose mean mg mb h₀) (X₀ : (hd.heap_39 w.params).In h₀)
    (A : Around) (L fa : Addr) (cd : Value) (S tA P I : Addr) (base : Led) (ind : Bool) (ix : Nat)
    (hh : A.handled = none) (hd : A.depth + 20 < recursionLimit) (hu : A.units + 200 < cLine)
include T₀ X₀ hh hd hu in
theorem a_annT (g : Gs) (ns rs : Bool) (pev : Value) (q1 q2 : Addr) (tn tt : Tok) (n : Int) (wd : Str) (own : Led) (s : Shared) (hz : g.st.length ≤ 400) 
    (G : GSt h₀ L S tA P I base ind ix own g ns rs pev (tkNames n tn wd tt q1 q2) s) :
    wpAny (model PySem.Challenge.rw_co0042_01.row.prog w) A (exec ((ifBody ch2).getD 0 (.Pass ⟨0, 0, 0, 0⟩)) (genEnv L fa cd)) (fun f s' => Here (f = .next ∧ ∃ h tk, s' = { s with heap := h, toks := tk } ∧ GSt h₀ L S tA P I base ind ix own ⟨g.st, true⟩ ns rs pev (tkNames n tn wd tt q1 q2) s')) (fun _ _ => False) s := by
  obtain ⟨m, vs, nn, io, t1, t2, F, N, sa, ic, oP, oI, IP, bo, nm⟩ := id G
  have hvl := sa.length
  revert X₀
  k_fill
  intro X₀
  dsimp only [ifTest, ifBody, ifElse, ch0, ch1, ch2, ch3, ch4, ch5, chE, genEnv, genScope, scopeOf, gf, genFor, genAt, genDef, PySem.Challenge.pw_co0042_01, bodyOf, List.getD, List.getD_cons_succ, List.getD_cons_zero, List.getElem?_cons_succ, List.getElem?_cons_zero, Option.getD]
  (try k_fold)
  obtain ⟨x0, x1, x2, x3, x4, x5, x6, x7, x8, x9⟩ := gn_all nm
  obtain ⟨k0, k1, k2, k3⟩ := tk_all nm
  have nmA : Names m [(Str.ofString "annotated_func_arg", .bool g.ann)] := (.cons x5 .nil)
  have F₂ := names_fr F nmA
  clear F
  k_steps
  rename Fr _ _ _ _ => F9
  rename News _ _ _ _ => N9
  show _ ∧ _
  exact ⟨rfl, _, _, rfl, _, vs, nn, io, t1, t2, F9, N9, sa, ic, oP, oI, IP, bo, gn_ann true nmA nm tk_ne_ann⟩
end
set_option maxRecDepth 100000
set_option maxHeartbeats 8000000
section
variable (w : World) (p : Program) (loose : List Str) (mean : ExcName → Option Value) (mg mb : Str → Option Value) (h₀ : Heap)
    (T₀ : Top p loose mean mg mb h₀) (X₀ : (hd.heap_39 w.params).In h₀)
    (A : Around) (L fa : Addr) (cd : Value) (S tA P I : Addr) (base : Led) (ind : Bool) (ix : Nat)
    (hh : A.handled = none) (hd : A.depth + 20 < recursionLimit) (hu : A.units + 200 < cLine)
include T₀ X₀ hh hd hu in
theorem a_annF (g : Gs) (ns rs : Bool) (pev : Value) (q1 q2 : Addr) (tn tt : Tok) (n : Int) (wd : Str) (own : Led) (s : Shared) (hz : g.st.length ≤ 400) 
    (G : GSt h₀ L S tA P I base ind ix own g ns rs pev (tkNames n tn wd tt q1 q2) s) :
    wpAny (model PySem.Challenge.rw_co0042_01.row.prog w) A (exec ((ifBody ch3).getD 0 (.Pass ⟨0, 0, 0, 0⟩)) (genEnv L fa cd)) (fun f s' => Here (f = .next ∧ ∃ h tk, s' = { s with heap := h, toks := tk } ∧ GSt h₀ L S tA P I base ind ix own ⟨g.st, false⟩ ns rs pev (tkNames n tn wd tt q1 q2) s')) (fun _ _ => False) s := by
  obtain ⟨m, vs, nn, io, t1, t2, F, N, sa, ic, oP, oI, IP, bo, nm⟩ := id G
  have hvl := sa.length
  revert X₀
  k_fill
  intro X₀
  dsimp only [ifTest, ifBody, ifElse, ch0, ch1, ch2, ch3, ch4, ch5, chE, genEnv, genScope, scopeOf, gf, genFor, genAt, genDef, PySem.Challenge.pw_co0042_01, bodyOf, List.getD, List.getD_cons_succ, List.getD_cons_zero, List.getElem?_cons_succ, List.getElem?_cons_zero, Option.getD]
  (try k_fold)
  obtain ⟨x0, x1, x2, x3, x4, x5, x6, x7, x8, x9⟩ := gn_all nm
  obtain ⟨k0, k1, k2, k3⟩ := tk_all nm
  have nmA : Names m [(Str.ofString "annotated_func_arg", .bool g.ann)] := (.cons x5 .nil)
  have F₂ := names_fr F nmA
  clear F
  k_steps
  rename Fr _ _ _ _ => F9
  rename News _ _ _ _ => N9
  show _ ∧ _
  exact ⟨rfl, _, _, rfl, _, vs, nn, io, t1, t2, F9, N9, sa, ic, oP, oI, IP, bo, gn_ann false nmA nm tk_ne_ann⟩
end
set_option maxRecDepth 100000
set_option maxHeartbeats 8000000
section
variable (w : World) (p : Program) (loose : List Str) (mean : ExcName → Option Value) (mg mb : Str → Option Value) (h₀ : Heap)
    (T₀ : Top p loose mean mg mb h₀) (X₀ : (hd.heap_39 w.params).In h₀)
    (A : Around) (L fa : Addr) (cd : Value) (S tA P I : Addr) (base : Led) (ind : Bool) (ix : Nat)
    (hh : A.handled = none) (hd : A.depth + 20 < recursionLimit) (hu : A.units + 200 < cLine)
include T₀ X₀ hh hd hu in
theorem a_annE (g : Gs) (ns rs : Bool) (pev : Value) (q1 q2 : Addr) (tn tt : Tok) (n : Int) (wd : Str) (own : Led) (s : Shared) (hz : g.st.length ≤ 400) 
    (G : GSt h₀ L S tA P I base ind ix own g ns rs pev (tkNames n tn wd tt q1 q2) s) :
    wpAny (model PySem.Challenge.rw_co0042_01.row.prog w) A (exec ((ifBody chE).getD 0 (.Pass ⟨0, 0, 0, 0⟩)) (genEnv L fa cd)) (fun f s' => Here (f = .next ∧ ∃ h tk, s' = { s with heap := h, toks := tk } ∧ GSt h₀ L S tA P I base ind ix own ⟨g.st, false⟩ ns rs pev (tkNames n tn wd tt q1 q2) s')) (fun _ _ => False) s := by
  obtain ⟨m, vs, nn, io, t1, t2, F, N, sa, ic, oP, oI, IP, bo, nm⟩ := id G
  have hvl := sa.length
  revert X₀
  k_fill
  intro X₀
  dsimp only [ifTest, ifBody, ifElse, ch0, ch1, ch2, ch3, ch4, ch5, chE, genEnv, genScope, scopeOf, gf, genFor, genAt, genDef, PySem.Challenge.pw_co0042_01, bodyOf, List.getD, List.getD_cons_succ, List.getD_cons_zero, List.getElem?_cons_succ, List.getElem?_cons_zero, Option.getD]
  (try k_fold)
  obtain ⟨x0, x1, x2, x3, x4, x5, x6, x7, x8, x9⟩ := gn_all nm
  obtain ⟨k0, k1, k2, k3⟩ := tk_all nm
  have nmA : Names m [(Str.ofString "annotated_func_arg", .bool g.ann)] := (.cons x5 .nil)
  have F₂ := names_fr F nmA
  clear F
  k_steps
  rename Fr _ _ _ _ => F9
  rename News _ _ _ _ => N9
  show _ ∧ _
  exact ⟨rfl, _, _, rfl, _, vs, nn, io, t1, t2, F9, N9, sa, ic, oP, oI, IP, bo, gn_ann false nmA nm tk_ne_ann⟩
end
set_option maxRecDepth 100000
set_option maxHeartbeats 8000000
section
variable (w : World) (p : Program) (loose : List Str) (mean : ExcName → Option Value) (mg mb : Str → Option Value) (h₀ : Heap)
    (T₀ : Top p loose mean mg mb h₀) (X₀ : (hd.heap_39 w.params).In h₀)
    (A : Around) (L fa : Addr) (cd : Value) (S tA P I : Addr) (base : Led) (ind : Bool) (ix : Nat)
    (hh : A.handled = none) (hd : A.depth + 20 < recursionLimit) (hu : A.units + 200 < cLine)
include T₀ X₀ hh hd hu in
theorem a_rs (g : Gs) (ns rs : Bool) (pev : Value) (q1 q2 : Addr) (tn tt : Tok) (n : Int) (wd : Str) (own : Led) (s : Shared) (hz : g.st.length ≤ 400) 
    (G : GSt h₀ L S tA P I base ind ix own g ns rs pev (tkNames n tn wd tt q1 q2) s) :
    wpAny (model PySem.Challenge.rw_co0042_01.row.prog w) A (exec ((ifBody ch5).getD 0 (.Pass ⟨0, 0, 0, 0⟩)) (genEnv L fa cd)) (fun f s' => Here (f = .next ∧ ∃ h tk, s' = { s with heap := h, toks := tk } ∧ GSt h₀ L S tA P I base ind ix own g ns true pev (tkNames n tn wd tt q1 q2) s')) (fun _ _ => False) s := by
  obtain ⟨m, vs, nn, io, t1, t2, F, N, sa, ic, oP, oI, IP, bo, nm⟩ := id G
  have hvl := sa.length
  revert X₀
  k_fill
  intro X₀
  dsimp only [ifTest, ifBody, ifElse, ch0, ch1, ch2, ch3, ch4, ch5, chE, genEnv, genScope, scopeOf, gf, genFor, genAt, genDef, PySem.Challenge.pw_co0042_01, bodyOf, List.getD, List.getD_cons_succ, List.getD_cons_zero, List.getElem?_cons_succ, List.getElem?_cons_zero, Option.getD]
  (try k_fold)
  obtain ⟨x0, x1, x2, x3, x4, x5, x6, x7, x8, x9⟩ := gn_all nm
  obtain ⟨k0, k1, k2, k3⟩ := tk_all nm
  have nmA : Names m [(Str.ofString "annotated_func_arg", .bool g.ann)] := (.cons x5 .nil)
  have F₂ := names_fr F nmA
  clear F
  k_steps
  rename Fr _ _ _ _ => F9
  rename News _ _ _ _ => N9
  show _ ∧ _
  exact ⟨rfl, _, _, rfl, _, vs, nn, io, t1, t2, F9, N9, sa, ic, oP, oI, IP, bo, gn_rs true nmA nm tk_ne_rs⟩
end
set_option maxRecDepth 100000
set_option maxHeartbeats 8000000
section
variable (w : World) (p : Program) (loose : List Str) (mean : ExcName → Option Value) (mg mb : Str → Option Value) (h₀ : Heap)
    (T₀ : Top p loose mean mg mb h₀) (X₀ : (hd.heap_39 w.params).In h₀)
    (A : Around) (L fa : Addr) (cd : Value) (S tA P I : Addr) (base : Led) (ind : Bool) (ix : Nat)
    (hh : A.handled = none) (hd : A.depth + 20 < recursionLimit) (hu : A.units + 200 < cLine)
include T₀ X₀ hh hd hu in
theorem a_ns (g : Gs) (ns rs : Bool) (pev : Value) (q1 q2 : Addr) (tn tt : Tok) (n : Int) (wd : Str) (own : Led) (s : Shared) (hz : g.st.length ≤ 400) 
    (G : GSt h₀ L S tA P I base ind ix own g ns rs pev (tkNames n tn wd tt q1 q2) s) :
    wpAny (model PySem.Challenge.rw_co0042_01.row.prog w) A (exec ((ifElse ch5).getD 0 (.Pass ⟨0, 0, 0, 0⟩)) (genEnv L fa cd)) (fun f s' => Here (f = .next ∧ ∃ h tk, s' = { s with heap := h, toks := tk } ∧ GSt h₀ L S tA P I base ind ix own g true rs pev (tkNames n tn wd tt q1 q2) s')) (fun _ _ => False) s := by
  obtain ⟨m, vs, nn, io, t1, t2, F, N, sa, ic, oP, oI, IP, bo, nm⟩ := id G
  have hvl := sa.length
  revert X₀
  k_fill
  intro X₀
  dsimp only [ifTest, ifBody, ifElse, ch0, ch1, ch2, ch3, ch4, ch5, chE, genEnv, genScope, scopeOf, gf, genFor, genAt, genDef, PySem.Challenge.pw_co0042_01, bodyOf, List.getD, List.getD_cons_succ, List.getD_cons_zero, List.getElem?_cons_succ, List.getElem?_cons_zero, Option.getD]
  (try k_fold)
  obtain ⟨x0, x1, x2, x3, x4, x5, x6, x7, x8, x9⟩ := gn_all nm
  obtain ⟨k0, k1, k2, k3⟩ := tk_all nm
  have nmA : Names m [(Str.ofString "annotated_func_arg", .bool g.ann)] := (.cons x5 .nil)
  have F₂ := names_fr F nmA
  clear F
  k_steps
  rename Fr _ _ _ _ => F9
  rename News _ _ _ _ => N9
  show _ ∧ _
  exact ⟨rfl, _, _, rfl, _, vs, nn, io, t1, t2, F9, N9, sa, ic, oP, oI, IP, bo, gn_ns true nmA nm tk_ne_ns⟩
end
set_option maxRecDepth 100000
set_option maxHeartbeats 8000000
section
variable (w : World) (p : Program) (loose : List Str) (mean : ExcName → Option Value) (mg mb : Str → Option Value) (h₀ : Heap)
    (T₀ : Top p loose mean mg mb h₀) (X₀ : (hd.heap_39 w.params).In h₀)
    (A : Around) (L fa : Addr) (cd : Value) (S tA P I : Addr) (base : Led) (ind : Bool) (ix : Nat)
    (hh : A.handled = none) (hd : A.depth + 20 < recursionLimit) (hu : A.units + 200 < cLine)
include T₀ X₀ hh hd hu in
theorem a_pe (g : Gs) (ns rs : Bool) (pev : Value) (q1 q2 : Addr) (tn tt : Tok) (n : Int) (wd : Str) (own : Led) (s : Shared) (hz : g.st.length ≤ 400) 
    (G : GSt h₀ L S tA P I base ind ix own g ns rs pev (tkNames n tn wd tt q1 q2) s) :
    wpAny (model PySem.Challenge.rw_co0042_01.row.prog w) A (exec (gf 4) (genEnv L fa cd)) (fun f s' => Here (f = .next ∧ ∃ h tk, s' = { s with heap := h, toks := tk } ∧ GSt h₀ L S tA P I base ind ix own g ns rs (.ref q2) (tkNames n tn wd tt q1 q2) s')) (fun _ _ => False) s := by
  obtain ⟨m, vs, nn, io, t1, t2, F, N, sa, ic, oP, oI, IP, bo, nm⟩ := id G
  have hvl := sa.length
  revert X₀
  k_fill
  intro X₀
  dsimp only [ifTest, ifBody, ifElse, ch0, ch1, ch2, ch3, ch4, ch5, chE, genEnv, genScope, scopeOf, gf, genFor, genAt, genDef, PySem.Challenge.pw_co0042_01, bodyOf, List.getD, List.getD_cons_succ, List.getD_cons_zero, List.getElem?_cons_succ, List.getElem?_cons_zero, Option.getD]
  (try k_fold)
  obtain ⟨x0, x1, x2, x3, x4, x5, x6, x7, x8, x9⟩ := gn_all nm
  obtain ⟨k0, k1, k2, k3⟩ := tk_all nm
  have nmA : Names m [(Str.ofString "end", .ref q2)] := (.cons k3 .nil)
  have F₂ := names_fr F nmA
  clear F
  k_steps
  rename Fr _ _ _ _ => F9
  rename News _ _ _ _ => N9
  show _ ∧ _
  exact ⟨rfl, _, _, rfl, _, vs, nn, io, t1, t2, F9, N9, sa, ic, oP, oI, IP, bo, gn_pe (.ref q2) nmA nm tk_ne_pe⟩
end
end Mine
end
theorem Mine.fresh_GenY : True ∧ True := by
  w_top off
  walk1 <;> exact True.intro
section
open PySem PySem.W PySem.Spec PySem.Calls PyProof.Rows
set_option Elab.async false
namespace Mine
local macro_rules | `(tactic| k_units) => `(tactic| ktr_units)
local macro_rules | `(tactic| k_room) => `(tactic| ktr_room)
set_option maxRecDepth 100000
set_option maxHeartbeats 8000000
section
variable (w : World) (p : Program) (loose : List Str) (mean : ExcName → Option Value) (mg mb : Str → Option Value) (h₀ : Heap)
    (T₀ : Top p loose mean mg mb h₀) (X₀ : (hd.heap_39 w.params).In h₀)
    (A : Around) (c : Code) (fs : List Frame) (L fa : Addr) (cd : Value) (S tA P I : Addr) (base : Led) (ind : Bool) (ix : Nat) (Ys : List Du)
    (hS : h₀.get? S = none) (LS : @LT.lt Nat _ L S) (SP : @LT.lt Nat _ S P) (SI : @LT.lt Nat _ S I) (hb : ∀ q ∈ base, @LT.lt Nat _ q.1 S)
    (hfs : splitAtGen fs = none) (hfg : fs.any Frame.guarded = false)
    (hh : (A.over c fs).handled = none) (hd : (A.over c fs).depth + 20 < recursionLimit) (hu : (A.over c fs).units + 200 < cLine)
    (K : Flow → Sem Fin) (H : Value → Sem Fin)
include T₀ X₀ hS LS SP SI hb hfs hfg hh hd hu in
theorem g_yA (rest : List Stmt) (g : Gs) (ns rs : Bool) (q1 q2 q0 : Addr) (a1 a2 b1 b2 tn tt : Tok) (c1 cc : Int) (n : Int) (wd : Str) (ys : List Du)
    (h1 : (q1, tup [.int 1 a1, .int c1 a2]) ∈ base) (h0' : (q0, tup [.int 1 b1, .int cc b2]) ∈ base)
    (hk : Cont (model PySem.Challenge.rw_co0042_01.row.prog w) h₀ L S Ys A c fs ((execs rest (genEnv L fa cd)).wrap K H id id) (fun own s => GSt h₀ L S tA P I base ind ix own g ns rs (.ref q0) (tkNames n tn wd tt q1 q2) s) ys) :
    Cont (model PySem.Challenge.rw_co0042_01.row.prog w) h₀ L S Ys A c fs ((execs ((ifBody ch5).getD 1 (.Pass ⟨0, 0, 0, 0⟩) :: rest) (genEnv L fa cd)).wrap K H id id) (fun own s => GSt h₀ L S tA P I base ind ix own g ns rs (.ref q0) (tkNames n tn wd tt q1 q2) s) ((if c1 = cc then [⟨cc, m252⟩] else []) ++ ys) := by
  intro s₀ s own O hpre hs G
  obtain ⟨m, vs, nn, io, t1, t2, F, N, sa, ic, oP, oI, IP, bo, nm⟩ := id G
  revert X₀
  k_fill
  intro X₀
  dsimp only [ifTest, ifBody, ifElse, ch0, ch1, ch2, ch3, ch4, ch5, chE, genEnv, genScope, scopeOf, gf, genFor, genAt, genDef, PySem.Challenge.pw_co0042_01, bodyOf, List.getD, List.getD_cons_succ, List.getD_cons_zero, List.getElem?_cons_succ, List.getElem?_cons_zero, Option.getD]
  (try k_fold)
  refine seg_IfC ?_
  obtain ⟨x0, x1, x2, x3, x4, x5, x6, x7, x8, x9⟩ := gn_all nm
  obtain ⟨k0, k1, k2, k3⟩ := tk_all nm
  have nmA : Names m [(Str.ofString "start", .ref q1), (Str.ofString "prev_end", .ref q0), (Str.ofString "missing_message", .str m252 t2)] := .cons k2 (.cons x4 (.cons x9 .nil))
  have F₂ := names_fr F nmA
  clear F
  have N₂ := led_put (led_put N (.tail _ (.tail _ (bo _ h0')))) (.tail _ (.tail _ (.tail _ (bo _ h1))))
  clear N
  k_steps
  obtain ⟨hp0, tk0, rfl⟩ := hs
  show Seg _ _ _ _ _ _ _ _ _ _
  by_cases e : c1 = cc
  · have e1 : (c1 == cc) = true := by rw [e]; simp
    rw [e1]
    simp only [if_true, Bool.false_eq_true, if_false] at hpre ⊢
    rw [if_pos e] at hpre ⊢
    refine seg_execs_cons ?_
    refine seg_Expr_Yield hfs rfl hfg ?_
    k_steps
    rename Fr _ _ _ _ => F4
    rename News _ _ _ _ => N4
    rw [bindL_eq nmA] at F4
    rename_i kap ha
    exact y_end hS LS SP SI hb O F4 N4 (fun q hq => .tail _ (.tail _ (.tail _ (.tail _ (.tail _ hq))))) (.head _) (.tail _ (.tail _ (.head _))) hpre ⟨_, vs, nn, io, t1, t2, F4, fun q hq => N4 q (.tail _ (.tail _ (.tail _ hq))), sa, ic, oP, oI, IP, bo, nm⟩ hk (fun s'' x => ha .none s'' x)
  · have e1 : (c1 == cc) = false := by simpa using e
    rw [e1]
    simp only [if_true, Bool.false_eq_true, if_false] at hpre ⊢
    rw [if_neg e] at hpre ⊢
    have F3 := F₂
    rw [bindL_eq nmA] at F3
    exact hk s₀ _ own O hpre ⟨_, _, rfl⟩ ⟨_, vs, nn, io, t1, t2, F3, fun q hq => N₂ q (.tail _ (.tail _ hq)), sa, ic, oP, oI, IP, bo, nm⟩
include T₀ X₀ hS LS SP SI hb hfs hfg hh hd hu in
theorem g_yB (rest : List Stmt) (g : Gs) (ns rs : Bool) (q1 q2 q0 : Addr) (a1 a2 b1 b2 tn tt : Tok) (c1 cc : Int) (n : Int) (wd : Str) (ys : List Du)
    (h1 : (q1, tup [.int 1 a1, .int c1 a2]) ∈ base) (h0' : (q0, tup [.int 1 b1, .int cc b2]) ∈ base)
    (hk : Cont (model PySem.Challenge.rw_co0042_01.row.prog w) h₀ L S Ys A c fs ((execs rest (genEnv L fa cd)).wrap K H id id) (fun own s => GSt h₀ L S tA P I base ind ix own g ns rs (.ref q0) (tkNames n tn wd tt q1 q2) s) ys) :
    Cont (model PySem.Challenge.rw_co0042_01.row.prog w) h₀ L S Ys A c fs ((execs ((ifElse ch5).getD 1 (.Pass ⟨0, 0, 0, 0⟩) :: rest) (genEnv L fa cd)).wrap K H id id) (fun own s => GSt h₀ L S tA P I base ind ix own g ns rs (.ref q0) (tkNames n tn wd tt q1 q2) s) ((if c1 ≠ cc then [⟨cc, m251⟩] else []) ++ ys) := by
  intro s₀ s own O hpre hs G
  obtain ⟨m, vs, nn, io, t1, t2, F, N, sa, ic, oP, oI, IP, bo, nm⟩ := id G
  revert X₀
  k_fill
  intro X₀
  dsimp only [ifTest, ifBody, ifElse, ch0, ch1, ch2, ch3, ch4, ch5, chE, genEnv, genScope, scopeOf, gf, genFor, genAt, genDef, PySem.Challenge.pw_co0042_01, bodyOf, List.getD, List.getD_cons_succ, List.getD_cons_zero, List.getElem?_cons_succ, List.getElem?_cons_zero, Option.getD]
  (try k_fold)
  refine seg_IfC ?_
  obtain ⟨x0, x1, x2, x3, x4, x5, x6, x7, x8, x9⟩ := gn_all nm
  obtain ⟨k0, k1, k2, k3⟩ := tk_all nm
  have nmA : Names m [(Str.ofString "start", .ref q1), (Str.ofString "prev_end", .ref q0), (Str.ofString "message", .str m251 t1)] := .cons k2 (.cons x4 (.cons x8 .nil))
  have F₂ := names_fr F nmA
  clear F
  have N₂ := led_put (led_put N (.tail _ (.tail _ (bo _ h0')))) (.tail _ (.tail _ (.tail _ (bo _ h1))))
  clear N
  k_steps
  obtain ⟨hp0, tk0, rfl⟩ := hs
  show Seg _ _ _ _ _ _ _ _ _ _
  by_cases e : c1 = cc
  · have e1 : (!c1 == cc) = false := by rw [e]; simp
    rw [e1]
    simp only [if_true, Bool.false_eq_true, if_false] at hpre ⊢
    rw [if_neg (fun q => q e)] at hpre ⊢
    have F3 := F₂
    rw [bindL_eq nmA] at F3
    exact hk s₀ _ own O hpre ⟨_, _, rfl⟩ ⟨_, vs, nn, io, t1, t2, F3, fun q hq => N₂ q (.tail _ (.tail _ hq)), sa, ic, oP, oI, IP, bo, nm⟩
  · have e1 : (!c1 == cc) = true := by simpa using e
    rw [e1]
    simp only [if_true, Bool.false_eq_true, if_false] at hpre ⊢
    rw [if_pos e] at hpre ⊢
    refine seg_execs_cons ?_
    refine seg_Expr_Yield hfs rfl hfg ?_
    k_steps
    rename Fr _ _ _ _ => F4
    rename News _ _ _ _ => N4
    rw [bindL_eq nmA] at F4
    rename_i kap ha
    exact y_end hS LS SP SI hb O F4 N4 (fun q hq => .tail _ (.tail _ (.tail _ (.tail _ (.tail _ hq))))) (.head _) (.tail _ (.tail _ (.head _))) hpre ⟨_, vs, nn, io, t1, t2, F4, fun q hq => N4 q (.tail _ (.tail _ (.tail _ hq))), sa, ic, oP, oI, IP, bo, nm⟩ hk (fun s'' x => ha .none s'' x)
end
end Mine
end
theorem Mine.fresh_GenS1 : True ∧ True := by
  w_top off
  walk1 <;> exact True.intro
section
open PySem PySem.W PySem.Spec PySem.Calls PyProof.Rows
set_option Elab.async false
namespace Mine
local macro_rules | `(tactic| k_units) => `(tactic| ktr_units)
local macro_rules | `(tactic| k_room) => `(tactic| ktr_room)
set_option maxRecDepth 100000
set_option maxHeartbeats 8000000
section
variable (w : World) (p : Program) (loose : List Str) (mean : ExcName → Option Value) (mg mb : Str → Option Value) (h₀ : Heap)
    (T₀ : Top p loose mean mg mb h₀) (X₀ : (hd.heap_39 w.params).In h₀)
    (A : Around) (c : Code) (fs : List Frame) (L fa : Addr) (cd : Value) (S tA P I : Addr) (base : Led) (ind : Bool) (ix : Nat) (Ys : List Du)
    (hS : h₀.get? S = none) (LS : @LT.lt Nat _ L S) (SP : @LT.lt Nat _ S P) (SI : @LT.lt Nat _ S I) (hb : ∀ q ∈ base, @LT.lt Nat _ q.1 S)
    (hfs : splitAtGen fs = none) (hfg : fs.any Frame.guarded = false)
    (hh : (A.over c fs).handled = none) (hd : (A.over c fs).depth + 20 < recursionLimit) (hu : (A.over c fs).units + 200 < cLine)
    (K : Flow → Sem Fin) (H : Value → Sem Fin)
include T₀ X₀ hS LS SP SI hb hfs hfg hh hd hu in
theorem g_st1 (rest : List Stmt) (g : Gs) (ns rs : Bool) (pev : Value) (q1 q2 q0 : Addr) (a1 a2 b1 b2 tn tt : Tok) (c1 cc : Int) (n : Int) (wd : Str) (ys : List Du)
    (h1 : (q1, tup [.int 1 a1, .int c1 a2]) ∈ base) (h0 : ns = true → pev = .ref q0 ∧ (q0, tup [.int 1 b1, .int cc b2]) ∈ base)
    (hk : Cont (model PySem.Challenge.rw_co0042_01.row.prog w) h₀ L S Ys A c fs ((execs rest (genEnv L fa cd)).wrap K H id id) (fun own s => GSt h₀ L S tA P I base ind ix own g false rs pev (tkNames n tn wd tt q1 q2) s) ys) :
    Cont (model PySem.Challenge.rw_co0042_01.row.prog w) h₀ L S Ys A c fs ((execs (gf 1 :: rest) (genEnv L fa cd)).wrap K H id id) (fun own s => GSt h₀ L S tA P I base ind ix own g ns rs pev (tkNames n tn wd tt q1 q2) s) ((if ns = true ∧ c1 ≠ cc then [⟨cc, m251⟩] else []) ++ ys) := by
  intro s₀ s own O hpre hs G
  obtain ⟨m, vs, nn, io, t1, t2, F, N, sa, ic, oP, oI, IP, bo, nm⟩ := id G
  revert X₀
  k_fill
  intro X₀
  dsimp only [genEnv, genScope, scopeOf, gf, genFor, genAt, genDef, PySem.Challenge.pw_co0042_01, bodyOf, List.getD, List.getD_cons_succ, List.getD_cons_zero, List.getElem?_cons_succ, List.getElem?_cons_zero, Option.getD]
  (try k_fold)
  refine seg_IfC ?_
  obtain ⟨x0, x1, x2, x3, x4, x5, x6, x7, x8, x9⟩ := gn_all nm
  obtain ⟨k0, k1, k2, k3⟩ := tk_all nm
  have nmA : Names m [(Str.ofString "no_space", .bool ns), (Str.ofString "start", .ref q1), (Str.ofString "prev_end", pev), (Str.ofString "message", .str m251 t1)] := .cons x2 (.cons k2 (.cons x4 (.cons x8 .nil)))
  have F₂ := names_fr F nmA
  clear F
  k_steps
  show Seg _ _ _ _ _ _ _ _ _ _
  cases ns with
  | false => exact hk s₀ s own O hpre hs G
  | true =>
    obtain ⟨rfl, h0'⟩ := h0 rfl
    rw [if_pos rfl]
    refine seg_one ?_
    have N₂ := led_put (led_put N (.tail _ (.tail _ (bo _ h0')))) (.tail _ (.tail _ (.tail _ (bo _ h1))))
    clear N
    k_steps
    show _ ∧ _
    refine ⟨rfl, ?_⟩
    refine seg_IfC ?_
    k_steps
    rename Fr _ _ _ _ => F3
    rename News _ _ _ _ => N3
    obtain ⟨hp0, tk0, rfl⟩ := hs
    have nm3 := gn_ns false nmA nm tk_ne_ns
    show Seg _ _ _ _ _ _ _ _ _ _
    by_cases e : c1 = cc
    · have e1 : (!c1 == cc) = false := by rw [e]; simp
      have e2 : ¬ (True ∧ c1 ≠ cc) := fun q => q.2 e
      rw [e1]
      simp only [if_neg e2, Bool.false_eq_true, if_false, List.nil_append, ne_eq, true_and] at hpre ⊢
      rw [if_neg (fun q => q e)] at hpre ⊢
      exact hk s₀ _ own O hpre ⟨_, _, rfl⟩ ⟨_, vs, nn, io, t1, t2, F3, fun q hq => N3 q (.tail _ (.tail _ hq)), sa, ic, oP, oI, IP, bo, nm3⟩
    · have e1 : (!c1 == cc) = true := by simpa using e
      rw [e1]
      simp only [if_true, List.nil_append, ne_eq, true_and] at hpre ⊢
      rw [if_pos e] at hpre ⊢
      refine seg_execs_cons ?_
      refine seg_Expr_Yield hfs rfl hfg ?_
      k_steps
      rename Fr _ _ _ _ => F4
      rename News _ _ _ _ => N4
      have nm4 := gn_ns false nmA nm tk_ne_ns
      rename_i kap ha
      exact y_end hS LS SP SI hb O F4 N4 (fun q hq => .tail _ (.tail _ (.tail _ (.tail _ (.tail _ hq))))) (.head _) (.tail _ (.tail _ (.head _))) hpre ⟨_, vs, nn, io, t1, t2, F4, fun q hq => N4 q (.tail _ (.tail _ (.tail _ hq))), sa, ic, oP, oI, IP, bo, nm4⟩ hk (fun s'' x => ha .none s'' x)
end
end Mine
end
theorem Mine.fresh_GenS2 : True ∧ True := by
  w_top off
  walk1 <;> exact True.intro
section
open PySem PySem.W PySem.Spec PySem.Calls PyProof.Rows
set_option Elab.async false
namespace Mine
local macro_rules | `(tactic| k_units) => `(tactic| ktr_units)
local macro_rules | `(tactic| k_room) => `(tactic| ktr_room)
set_option maxRecDepth 100000
set_option maxHeartbeats 8000000
section
variable (w : World) (p : Program) (loose : List Str) (mean : ExcName → Option Value) (mg mb : Str → Option Value) (h₀ : Heap)
    (T₀ : Top p loose mean mg mb h₀) (X₀ : (hd.heap_39 w.params).In h₀)
    (A : Around) (c : Code) (fs : List Frame) (L fa : Addr) (cd : Value) (S tA P I : Addr) (base : Led) (ind : Bool) (ix : Nat) (Ys : List Du)
    (hS : h₀.get? S = none) (LS : @LT.lt Nat _ L S) (SP : @LT.lt Nat _ S P) (SI : @LT.lt Nat _ S I) (hb : ∀ q ∈ base, @LT.lt Nat _ q.1 S)
    (hfs : splitAtGen fs = none) (hfg : fs.any Frame.guarded = false)
    (hh : (A.over c fs).handled = none) (hd : (A.over c fs).depth + 20 < recursionLimit) (hu : (A.over c fs).units + 200 < cLine)
    (K : Flow → Sem Fin) (H : Value → Sem Fin)
include T₀ X₀ hS LS SP SI hb hfs hfg hh hd hu in
theorem g_st2 (rest : List Stmt) (g : Gs) (ns rs : Bool) (pev : Value) (q1 q2 q0 : Addr) (a1 a2 b1 b2 tn tt : Tok) (c1 cc : Int) (n : Int) (wd : Str) (ys : List Du)
    (h1 : (q1, tup [.int 1 a1, .int c1 a2]) ∈ base) (h0 : rs = true → pev = .ref q0 ∧ (q0, tup [.int 1 b1, .int cc b2]) ∈ base)
    (hk : Cont (model PySem.Challenge.rw_co0042_01.row.prog w) h₀ L S Ys A c fs ((execs rest (genEnv L fa cd)).wrap K H id id) (fun own s => GSt h₀ L S tA P I base ind ix own g ns false pev (tkNames n tn wd tt q1 q2) s) ys) :
    Cont (model PySem.Challenge.rw_co0042_01.row.prog w) h₀ L S Ys A c fs ((execs (gf 2 :: rest) (genEnv L fa cd)).wrap K H id id) (fun own s => GSt h₀ L S tA P I base ind ix own g ns rs pev (tkNames n tn wd tt q1 q2) s) ((if rs = true ∧ c1 = cc then [⟨cc, m252⟩] else []) ++ ys) := by
  intro s₀ s own O hpre hs G
  obtain ⟨m, vs, nn, io, t1, t2, F, N, sa, ic, oP, oI, IP, bo, nm⟩ := id G
  revert X₀
  k_fill
  intro X₀
  dsimp only [genEnv, genScope, scopeOf, gf, genFor, genAt, genDef, PySem.Challenge.pw_co0042_01, bodyOf, List.getD, List.getD_cons_succ, List.getD_cons_zero, List.getElem?_cons_succ, List.getElem?_cons_zero, Option.getD]
  (try k_fold)
  refine seg_IfC ?_
  obtain ⟨x0, x1, x2, x3, x4, x5, x6, x7, x8, x9⟩ := gn_all nm
  obtain ⟨k0, k1, k2, k3⟩ := tk_all nm
  have nmA : Names m [(Str.ofString "require_space", .bool rs), (Str.ofString "start", .ref q1), (Str.ofString "prev_end", pev), (Str.ofString "missing_message", .str m252 t2)] := .cons x3 (.cons k2 (.cons x4 (.cons x9 .nil)))
  have F₂ := names_fr F nmA
  clear F
  k_steps
  show Seg _ _ _ _ _ _ _ _ _ _
  cases rs with
  | false => exact hk s₀ s own O hpre hs G
  | true =>
    obtain ⟨rfl, h0'⟩ := h0 rfl
    rw [if_pos rfl]
    refine seg_one ?_
    have N₂ := led_put (led_put N (.tail _ (.tail _ (bo _ h0')))) (.tail _ (.tail _ (.tail _ (bo _ h1))))
    clear N
    k_steps
    show _ ∧ _
    refine ⟨rfl, ?_⟩
    refine seg_IfC ?_
    k_steps
    rename Fr _ _ _ _ => F3
    rename News _ _ _ _ => N3
    obtain ⟨hp0, tk0, rfl⟩ := hs
    have nm3 := gn_rs false nmA nm tk_ne_rs
    show Seg _ _ _ _ _ _ _ _ _ _
    by_cases e : c1 = cc
    · have e1 : (c1 == cc) = true := by rw [e]; simp
      rw [e1]
      simp only [if_true, true_and] at hpre ⊢
      rw [if_pos e] at hpre ⊢
      refine seg_execs_cons ?_
      refine seg_Expr_Yield hfs rfl hfg ?_
      k_steps
      rename Fr _ _ _ _ => F4
      rename News _ _ _ _ => N4
      have nm4 := gn_rs false nmA nm tk_ne_rs
      rename_i kap ha
      exact y_end hS LS SP SI hb O F4 N4 (fun q hq => .tail _ (.tail _ (.tail _ (.tail _ (.tail _ hq))))) (.head _) (.tail _ (.tail _ (.head _))) hpre ⟨_, vs, nn, io, t1, t2, F4, fun q hq => N4 q (.tail _ (.tail _ (.tail _ hq))), sa, ic, oP, oI, IP, bo, nm4⟩ hk (fun s'' x => ha .none s'' x)
    · have e1 : (c1 == cc) = false := by simpa using e
      rw [e1]
      simp only [Bool.false_eq_true, if_false, true_and] at hpre ⊢
      rw [if_neg e] at hpre ⊢
      exact hk s₀ _ own O hpre ⟨_, _, rfl⟩ ⟨_, vs, nn, io, t1, t2, F3, fun q hq => N3 q (.tail _ (.tail _ hq)), sa, ic, oP, oI, IP, bo, nm3⟩
end
end Mine
end
theorem Mine.fresh_GenW : True ∧ True := by
  w_top off
  walk1 <;> exact True.intro
section
open PySem PySem.W PySem.Spec PySem.Calls PyProof.Rows
set_option Elab.async false
set_option maxRecDepth 100000
namespace Mine
theorem open_ok {t : Str} (h : isOpen t = true) : PyData.strOk t = true := by
  obtain ⟨i, _, hs⟩ := (StrLaws.found_iff (Str.ofString "([") t).mp h
  have e : (Str.ofString "([").cps.extract i (i + t.length) = t.cps := eq_of_beq hs
  have hx : ∀ c ∈ (Str.ofString "([").cps, c < 0x110000 := by
    have : PyData.strOk (Str.ofString "([") = true := by decide +kernel
    unfold PyData.strOk at this
    rw [Array.all_eq_true'] at this
    intro c hc; exact of_decide_eq_true (this c hc)
  unfold PyData.strOk
  rw [Array.all_eq_true']
  intro c hc
  rw [← e] at hc
  exact decide_eq_true (hx c (by
    obtain ⟨k, hk, rfl⟩ := Array.mem_iff_getElem.mp hc
    rw [Array.getElem_extract]; exact Array.getElem_mem _))
theorem is_gf (i : Nat) (h : i = 0 ∨ i = 3) : ∃ pos, gf i = .If (ifTest (gf i)) (ifBody (gf i)) (ifElse (gf i)) pos := by rcases h with rfl | rfl <;> exact ⟨_, rfl⟩
theorem is_c0 : ∃ pos, ch0 = .If (ifTest ch0) (ifBody ch0) (ifElse ch0) pos := ⟨_, rfl⟩
theorem is_c1 : ∃ pos, ch1 = .If (ifTest ch1) (ifBody ch1) (ifElse ch1) pos := ⟨_, rfl⟩
theorem is_c2 : ∃ pos, ch2 = .If (ifTest ch2) (ifBody ch2) (ifElse ch2) pos := ⟨_, rfl⟩
theorem is_c3 : ∃ pos, ch3 = .If (ifTest ch3) (ifBody ch3) (ifElse ch3) pos := ⟨_, rfl⟩
theorem is_c4 : ∃ pos, ch4 = .If (ifTest ch4) (ifBody ch4) (ifElse ch4) pos := ⟨_, rfl⟩
theorem is_c5 : ∃ pos, ch5 = .If (ifTest ch5) (ifBody ch5) (ifElse ch5) pos := ⟨_, rfl⟩
theorem is_cE : ∃ pos, chE = .If (ifTest chE) (ifBody chE) (ifElse chE) pos := ⟨_, rfl⟩
section
variable {M : Model} {h₀ : Heap} {L S : Addr} {Ys ys : List Du} {A : Around} {c : Code} {fs : List Frame} {env : Env} {K : Flow → Sem Fin} {H : Value → Sem Fin} {rest : List Stmt} {Inv Inv' : Led → Shared → Prop}
theorem cont_one {st : Stmt} (h : ∀ own s, Inv own s → wpAny M (A.over c fs) (exec st env) (fun f s' => Here (f = .next ∧ ∃ h tk, s' = { s with heap := h, toks := tk } ∧ Inv' own s')) (fun _ _ => False) s)
    (hk : Cont M h₀ L S Ys A c fs ((execs rest env).wrap K H id id) Inv' ys) : Cont M h₀ L S Ys A c fs ((execs (st :: rest) env).wrap K H id id) Inv ys := by
  intro s₀ s own O hpre hs G
  refine seg_one (wpAny_mono (h own s G) (fun f s' h' => ?_) fun _ _ x => x)
  obtain ⟨rfl, hp, tk, rfl, G'⟩ := h'
  obtain ⟨h0, t0, rfl⟩ := hs
  show _ ∧ _
  exact ⟨rfl, hk s₀ _ own O hpre ⟨hp, tk, rfl⟩ G'⟩
theorem cont_if {st : Stmt} {test : PySem.Expr} {body orelse : List Stmt} {B : Bool} (hst : ∃ pos, st = .If test body orelse pos)
    (h : ∀ own s, Inv own s → wpAny M (A.over c fs) (isTrue test env (eval test env)) (fun b s' => Here (b = B ∧ ∃ h tk, s' = { s with heap := h, toks := tk } ∧ Inv own s')) (fun _ _ => False) s)
    (hk : Cont M h₀ L S Ys A c fs ((execs ((if B = true then body else orelse) ++ rest) env).wrap K H id id) Inv ys) : Cont M h₀ L S Ys A c fs ((execs (st :: rest) env).wrap K H id id) Inv ys := by
  obtain ⟨pos, rfl⟩ := hst
  intro s₀ s own O hpre hs G
  refine seg_IfC (wpAny_mono (h own s G) (fun b s' h' => ?_) fun _ _ x => x)
  obtain ⟨rfl, hp, tk, rfl, G'⟩ := h'
  obtain ⟨h0, t0, rfl⟩ := hs
  exact hk s₀ _ own O hpre ⟨hp, tk, rfl⟩ G'
end
theorem dues_nil {b : Bool} {c : Int} : duesOf (Str.ofString "") b c = [] := dues5 (by decide +kernel) (by decide +kernel)
theorem nn1 : (Str.ofString "" == Str.ofString "none") = false := by decide +kernel
theorem nn2 : (Str.ofString "" == Str.ofString "both") = false := by decide +kernel
theorem nn3 : (Str.ofString "none" == Str.ofString "both") = false := by decide +kernel
theorem nn4 : (Str.ofString "both" == Str.ofString "none") = false := by decide +kernel
theorem dues_both {b : Bool} {c : Int} : duesOf (Str.ofString "both") b c = if b = false then [⟨c, m252⟩] else [] := by
  cases b with
  | false => exact dues2 (by decide +kernel) rfl
  | true => exact dues4 (by decide +kernel) rfl
theorem dues_none {b : Bool} {c : Int} : duesOf (Str.ofString "none") b c = if b = true then [⟨c, m251⟩] else [] := by
  cases b with
  | true => exact dues1 (by decide +kernel) rfl
  | false => exact dues3 (by decide +kernel) rfl
section
variable (w : World) (p : Program) (loose : List Str) (mean : ExcName → Option Value) (mg mb : Str → Option Value) (h₀ : Heap)
    (T₀ : Top p loose mean mg mb h₀) (X₀ : (hd.heap_39 w.params).In h₀)
    (A : Around) (c : Code) (fs : List Frame) (L fa : Addr) (cd : Value) (S tA P I : Addr) (base : Led) (ind : Bool) (ix : Nat) (Ys : List Du)
    (hS : h₀.get? S = none) (LS : @LT.lt Nat _ L S) (SP : @LT.lt Nat _ S P) (SI : @LT.lt Nat _ S I) (hb : ∀ q ∈ base, @LT.lt Nat _ q.1 S)
    (hfs : splitAtGen fs = none) (hfg : fs.any Frame.guarded = false)
    (hh : (A.over c fs).handled = none) (hd : (A.over c fs).depth + 20 < recursionLimit) (hu : (A.over c fs).units + 200 < cLine)
    (K : Flow → Sem Fin) (H : Value → Sem Fin)
include T₀ X₀ hh hd hu in
theorem g_cE (rest : List Stmt) (g : Gs) (ns rs : Bool) (pev : Value) (q1 q2 : Addr) (tn tt : Tok) (n : Int) (wd : Str) (ys : List Du) (hz : g.st.length ≤ 400)
    (hk : Cont (model PySem.Challenge.rw_co0042_01.row.prog w) h₀ L S Ys A c fs ((execs rest (genEnv L fa cd)).wrap K H id id) (fun own s => GSt h₀ L S tA P I base ind ix own (close0 g) ns rs pev (tkNames n tn wd tt q1 q2) s) ys) :
    Cont (model PySem.Challenge.rw_co0042_01.row.prog w) h₀ L S Ys A c fs ((execs (chE :: rest) (genEnv L fa cd)).wrap K H id id) (fun own s => GSt h₀ L S tA P I base ind ix own g ns rs pev (tkNames n tn wd tt q1 q2) s) ys := by
  refine cont_if is_cE (fun own s G => t_cE w p loose mean mg mb h₀ T₀ X₀ _ L fa cd S tA P I base ind ix hh hd hu g ns rs pev q1 q2 tn tt n wd own s hz G) ?_
  by_cases e : g.st = []
  · rw [if_pos (decide_eq_true e)]
    have e2 : close0 g = ⟨g.st, false⟩ := if_pos e
    rw [e2] at hk
    exact cont_one (fun own s G => a_annE w p loose mean mg mb h₀ T₀ X₀ _ L fa cd S tA P I base ind ix hh hd hu g ns rs pev q1 q2 tn tt n wd own s hz G) hk
  · rw [if_neg (by rw [decide_eq_false e]; decide)]
    have e2 : close0 g = g := if_neg e
    rw [e2] at hk
    exact hk
include T₀ X₀ hS LS SP SI hb hfs hfg hh hd hu in
theorem g_st3 (rest : List Stmt) (g : Gs) (pev : Value) (q1 q2 q0 : Addr) (a1 a2 f1 f2 tn tt : Tok) (c1 cc : Int) (n : Int) (wd wt : Str) (ys : List Du) (hz : g.st.length < 400)
    (h1 : (q1, tup [.int 1 a1, .int c1 a2]) ∈ base) (h0 : g.st ≠ [] → pev = .ref q0 ∧ (q0, tup [.int 1 f1, .int cc f2]) ∈ base)
    (hk : Cont (model PySem.Challenge.rw_co0042_01.row.prog w) h₀ L S Ys A c fs ((execs rest (genEnv L fa cd)).wrap K H id id) (fun own s => GSt h₀ L S tA P I base ind ix own (stepG ind g ⟨n, wd, wt⟩) (wantOf g ⟨n, wd, wt⟩ == Str.ofString "none") (wantOf g ⟨n, wd, wt⟩ == Str.ofString "both") pev (tkNames n tn wd tt q1 q2) s) ys) :
    Cont (model PySem.Challenge.rw_co0042_01.row.prog w) h₀ L S Ys A c fs ((execs (gf 3 :: rest) (genEnv L fa cd)).wrap K H id id) (fun own s => GSt h₀ L S tA P I base ind ix own g false false pev (tkNames n tn wd tt q1 q2) s) (duesOf (wantOf g ⟨n, wd, wt⟩) (decide (c1 ≠ cc)) cc ++ ys) := by
  have hz' : g.st.length ≤ 400 := Nat.le_of_lt hz
  refine cont_if (is_gf 3 (.inr rfl)) (fun own s G => t_op w p loose mean mg mb h₀ T₀ X₀ _ L fa cd S tA P I base ind ix hh hd hu g false false pev q1 q2 tn tt n wd own s hz' G) ?_
  by_cases e54 : n = 54
  case neg =>
    rw [if_neg (by rw [decide_eq_false e54]; decide)]
    have e1 : wantOf g ⟨n, wd, wt⟩ = Str.ofString "" := if_neg fun q => e54 q.1
    have e2 : stepG ind g ⟨n, wd, wt⟩ = g := if_neg e54
    rw [e1, e2, nn1, nn2] at hk
    rw [e1, dues_nil]
    exact hk
  case pos =>
    rw [if_pos (decide_eq_true e54)]
    subst e54
    have body : ifBody (gf 3) = [ch0, chE] := rfl
    rw [body]
    have e2 : stepG ind g ⟨54, wd, wt⟩ = close0 (step0 ind g wd) := if_pos rfl
    rw [e2] at hk
    have noeq : wd ≠ Str.ofString "=" → wantOf g ⟨54, wd, wt⟩ = Str.ofString "" := fun q => if_neg fun r => by
      have := r.2; simp only [eqHere, decide_eq_true_eq] at this; exact q this.2
    show Cont _ _ _ _ _ _ _ _ ((execs (ch0 :: chE :: rest) _).wrap _ _ _ _) _ _
    refine cont_if is_c0 (fun own s G => t_c0 w p loose mean mg mb h₀ T₀ X₀ _ L fa cd S tA P I base ind ix hh hd hu g false false pev q1 q2 tn tt 54 wd own s hz' G) ?_
    by_cases b0 : isOpen wd = true
    · rw [if_pos b0]
      have ne : wd ≠ Str.ofString "=" := fun q => by rw [q, o7] at b0; cases b0
      have e3 : step0 ind g wd = ⟨g.st ++ [wd], g.ann⟩ := if_pos b0
      rw [noeq ne, nn1, nn2, e3] at hk
      rw [noeq ne, dues_nil]
      exact cont_one (fun own s G => a_push w p loose mean mg mb h₀ T₀ X₀ _ L fa cd S tA P I base ind ix hh hd hu g false false pev q1 q2 tn tt 54 wd own s hz' (open_ok b0) G)
        (g_cE w p loose mean mg mb h₀ T₀ X₀ A c fs L fa cd S tA P I base ind ix Ys hh hd hu K H rest ⟨g.st ++ [wd], g.ann⟩ false false pev q1 q2 tn tt 54 wd ys (by simp; omega) hk)
    rw [if_neg b0]
    show Cont _ _ _ _ _ _ _ _ ((execs (ch1 :: chE :: rest) _).wrap _ _ _ _) _ _
    refine cont_if is_c1 (fun own s G => t_c1 w p loose mean mg mb h₀ T₀ X₀ _ L fa cd S tA P I base ind ix hh hd hu g false false pev q1 q2 tn tt 54 wd own s hz' G) ?_
    by_cases b1 : isClose wd = true ∧ g.st ≠ []
    · rw [if_pos (decide_eq_true b1)]
      have ne : wd ≠ Str.ofString "=" := fun q => by have := b1.1; rw [q, c7] at this; cases this
      have e3 : step0 ind g wd = ⟨g.st.dropLast, g.ann⟩ := by unfold step0; rw [if_neg b0, if_pos b1]
      rw [noeq ne, nn1, nn2, e3] at hk
      rw [noeq ne, dues_nil]
      exact cont_one (fun own s G => a_pop w p loose mean mg mb h₀ T₀ X₀ _ L fa cd S tA P I base ind ix hh hd hu g false false pev q1 q2 tn tt 54 wd own s hz' b1.2 G)
        (g_cE w p loose mean mg mb h₀ T₀ X₀ A c fs L fa cd S tA P I base ind ix Ys hh hd hu K H rest ⟨g.st.dropLast, g.ann⟩ false false pev q1 q2 tn tt 54 wd ys (by simp; omega) hk)
    rw [if_neg (by rw [decide_eq_false b1]; decide)]
    show Cont _ _ _ _ _ _ _ _ ((execs (ch2 :: chE :: rest) _).wrap _ _ _ _) _ _
    refine cont_if is_c2 (fun own s G => t_c2 w p loose mean mg mb h₀ T₀ X₀ _ L fa cd S tA P I base ind ix hh hd hu g false false pev q1 q2 tn tt 54 wd own s hz' G) ?_
    by_cases b2 : wd = Str.ofString ":" ∧ ind = true ∧ g.st = [Str.ofString "("]
    · rw [if_pos (decide_eq_true b2)]
      have ne : wd ≠ Str.ofString "=" := fun q => by rw [b2.1] at q; exact e6.mp q
      have e3 : step0 ind g wd = ⟨g.st, true⟩ := by unfold step0; rw [if_neg b0, if_neg b1, if_pos b2]
      rw [noeq ne, nn1, nn2, e3] at hk
      rw [noeq ne, dues_nil]
      exact cont_one (fun own s G => a_annT w p loose mean mg mb h₀ T₀ X₀ _ L fa cd S tA P I base ind ix hh hd hu g false false pev q1 q2 tn tt 54 wd own s hz' G)
        (g_cE w p loose mean mg mb h₀ T₀ X₀ A c fs L fa cd S tA P I base ind ix Ys hh hd hu K H rest ⟨g.st, true⟩ false false pev q1 q2 tn tt 54 wd ys hz' hk)
    rw [if_neg (by rw [decide_eq_false b2]; decide)]
    show Cont _ _ _ _ _ _ _ _ ((execs (ch3 :: chE :: rest) _).wrap _ _ _ _) _ _
    refine cont_if is_c3 (fun own s G => t_c3 w p loose mean mg mb h₀ T₀ X₀ _ L fa cd S tA P I base ind ix hh hd hu g false false pev q1 q2 tn tt 54 wd own s hz' G) ?_
    by_cases b3 : g.st.length = 1 ∧ wd = Str.ofString ","
    · rw [if_pos (decide_eq_true b3)]
      have ne : wd ≠ Str.ofString "=" := fun q => by rw [b3.2] at q; exact e5.mp q
      have e3 : step0 ind g wd = ⟨g.st, false⟩ := by unfold step0; rw [if_neg b0, if_neg b1, if_neg b2, if_pos b3]
      rw [noeq ne, nn1, nn2, e3] at hk
      rw [noeq ne, dues_nil]
      exact cont_one (fun own s G => a_annF w p loose mean mg mb h₀ T₀ X₀ _ L fa cd S tA P I base ind ix hh hd hu g false false pev q1 q2 tn tt 54 wd own s hz' G)
        (g_cE w p loose mean mg mb h₀ T₀ X₀ A c fs L fa cd S tA P I base ind ix Ys hh hd hu K H rest ⟨g.st, false⟩ false false pev q1 q2 tn tt 54 wd ys hz' hk)
    rw [if_neg (by rw [decide_eq_false b3]; decide)]
    have e3 : step0 ind g wd = g := by unfold step0; rw [if_neg b0, if_neg b1, if_neg b2, if_neg b3]
    rw [e3] at hk
    show Cont _ _ _ _ _ _ _ _ ((execs (ch4 :: chE :: rest) _).wrap _ _ _ _) _ _
    refine cont_if is_c4 (fun own s G => t_c4 w p loose mean mg mb h₀ T₀ X₀ _ L fa cd S tA P I base ind ix hh hd hu g false false pev q1 q2 tn tt 54 wd own s hz' G) ?_
    by_cases b4 : eqHere g wd = true
    · rw [if_pos b4]
      have b4' : g.st ≠ [] ∧ wd = Str.ofString "=" := of_decide_eq_true b4
      obtain ⟨rfl, h0'⟩ := h0 b4'.1
      show Cont _ _ _ _ _ _ _ _ ((execs (ch5 :: chE :: rest) _).wrap _ _ _ _) _ _
      refine cont_if is_c5 (fun own s G => t_c5 w p loose mean mg mb h₀ T₀ X₀ _ L fa cd S tA P I base ind ix hh hd hu g false false (.ref q0) q1 q2 tn tt 54 wd own s hz' G) ?_
      by_cases b5 : g.ann = true ∧ g.st = [Str.ofString "("]
      · rw [if_pos (decide_eq_true b5)]
        have ew : wantOf g ⟨54, wd, wt⟩ = Str.ofString "both" := by unfold wantOf; rw [if_pos ⟨rfl, b4⟩, if_pos b5]
        rw [ew, nn4, beq_self_eq_true] at hk
        rw [ew, dues_both]
        have ec : (if decide (c1 ≠ cc) = false then ([⟨cc, m252⟩] : List Du) else []) = (if c1 = cc then [⟨cc, m252⟩] else []) := by
          by_cases q : c1 = cc <;> simp [q]
        rw [ec]
        exact cont_one (fun own s G => a_rs w p loose mean mg mb h₀ T₀ X₀ _ L fa cd S tA P I base ind ix hh hd hu g false false (.ref q0) q1 q2 tn tt 54 wd own s hz' G)
          (g_yA w p loose mean mg mb h₀ T₀ X₀ A c fs L fa cd S tA P I base ind ix Ys hS LS SP SI hb hfs hfg hh hd hu K H (chE :: rest) g false true q1 q2 q0 a1 a2 f1 f2 tn tt c1 cc 54 wd ys h1 h0'
            (g_cE w p loose mean mg mb h₀ T₀ X₀ A c fs L fa cd S tA P I base ind ix Ys hh hd hu K H rest g false true (.ref q0) q1 q2 tn tt 54 wd ys hz' hk))
      · rw [if_neg (by rw [decide_eq_false b5]; decide)]
        have ew : wantOf g ⟨54, wd, wt⟩ = Str.ofString "none" := by unfold wantOf; rw [if_pos ⟨rfl, b4⟩, if_neg b5]
        rw [ew, nn3, beq_self_eq_true] at hk
        rw [ew, dues_none]
        have ec : (if decide (c1 ≠ cc) = true then ([⟨cc, m251⟩] : List Du) else []) = (if c1 ≠ cc then [⟨cc, m251⟩] else []) := by
          by_cases q : c1 = cc <;> simp [q]
        rw [ec]
        exact cont_one (fun own s G => a_ns w p loose mean mg mb h₀ T₀ X₀ _ L fa cd S tA P I base ind ix hh hd hu g false false (.ref q0) q1 q2 tn tt 54 wd own s hz' G)
          (g_yB w p loose mean mg mb h₀ T₀ X₀ A c fs L fa cd S tA P I base ind ix Ys hS LS SP SI hb hfs hfg hh hd hu K H (chE :: rest) g true false q1 q2 q0 a1 a2 f1 f2 tn tt c1 cc 54 wd ys h1 h0'
            (g_cE w p loose mean mg mb h₀ T₀ X₀ A c fs L fa cd S tA P I base ind ix Ys hh hd hu K H rest g true false (.ref q0) q1 q2 tn tt 54 wd ys hz' hk))
    · rw [if_neg b4]
      have ew : wantOf g ⟨54, wd, wt⟩ = Str.ofString "" := if_neg fun q => b4 q.2
      rw [ew, nn1, nn2] at hk
      rw [ew, dues_nil]
      exact g_cE w p loose mean mg mb h₀ T₀ X₀ A c fs L fa cd S tA P I base ind ix Ys hh hd hu K H rest g false false pev q1 q2 tn tt 54 wd ys hz' hk
end
end Mine
end
theorem Mine.fresh_GenL : True ∧ True := by
  w_top off
  walk1 <;> exact True.intro
section
open PySem PySem.W PySem.Spec PySem.Calls PyProof.Rows
set_option Elab.async false
set_option maxRecDepth 100000
namespace Mine
def genYs (ind : Bool) : Gs → Str → Int → List Tk → List Du
  | _, _, _, [] => []
  | g, fw, cc, t :: r => duesOf fw (decide (t.c1 ≠ cc)) cc ++ (duesOf (wantOf g ⟨t.n, t.wd, Str.ofString ""⟩) (decide (t.c1 ≠ cc)) cc ++ genYs ind (stepG ind g ⟨t.n, t.wd, Str.ofString ""⟩) (wantOf g ⟨t.n, t.wd, Str.ofString ""⟩) t.c2 r)
theorem stepG_len (d : Bool) (g : Gs) (p : Pc) : (stepG d g p).st.length ≤ g.st.length + 1 := by
  have c : ∀ x : Gs, (close0 x).st = x.st := fun x => by unfold close0; split <;> rfl
  have h0 : ∀ x : Str, (step0 d g x).st.length ≤ g.st.length + 1 := fun x => by
    unfold step0
    split
    · simp
    split
    · simp; omega
    split
    · simp
    split
    · simp
    · omega
  unfold stepG
  split
  · rw [c]; exact h0 _
  · omega
theorem want_cases (g : Gs) (p : Pc) : wantOf g p = Str.ofString "" ∨ (g.st ≠ [] ∧ (wantOf g p = Str.ofString "none" ∨ wantOf g p = Str.ofString "both")) := by
  unfold wantOf
  split
  · rename_i h
    have h := of_decide_eq_true h.2
    refine .inr ⟨h.1, ?_⟩
    split
    · exact .inr rfl
    · exact .inl rfl
  · exact .inl rfl
theorem dues_split (fw : Str) (c1 cc : Int) : (if (fw == Str.ofString "none") = true ∧ c1 ≠ cc then ([⟨cc, m251⟩] : List Du) else []) ++ (if (fw == Str.ofString "both") = true ∧ c1 = cc then [⟨cc, m252⟩] else []) = duesOf fw (decide (c1 ≠ cc)) cc := by
  unfold duesOf
  simp only [beq_iff_eq, decide_eq_true_eq, decide_eq_false_iff_not, ne_eq, Classical.not_not]
section
variable (w : World) (p : Program) (loose : List Str) (mean : ExcName → Option Value) (mg mb : Str → Option Value) (h₀ : Heap)
    (T₀ : Top p loose mean mg mb h₀) (X₀ : (hd.heap_39 w.params).In h₀)
    (A : Around) (c : Code) (fs : List Frame) (L fa : Addr) (cd : Value) (S tA P I : Addr) (base : Led) (ind : Bool) (ix : Nat) (Ys : List Du)
    (hS : h₀.get? S = none) (LS : @LT.lt Nat _ L S) (SP : @LT.lt Nat _ S P) (SI : @LT.lt Nat _ S I) (hb : ∀ q ∈ base, @LT.lt Nat _ q.1 S)
    (hfs : splitAtGen fs = none) (hfg : fs.any Frame.guarded = false)
    (hh : (A.over c fs).handled = none) (hd : (A.over c fs).depth + 20 < recursionLimit) (hu : (A.over c fs).units + 200 < cLine)
    (K : Flow → Sem Fin) (H : Value → Sem Fin)
include T₀ X₀ hS LS SP SI hb hfs hfg hh hd hu in
theorem g_turn (g : Gs) (fw : Str) (pev : Value) (q1 q2 q0 : Addr) (a1 a2 f1 f2 tn tt : Tok) (c1 cc : Int) (n : Int) (wd : Str) (ys : List Du) (hz : g.st.length < 400) (h62 : n ≠ 62)
    (h1 : (q1, tup [.int 1 a1, .int c1 a2]) ∈ base) (h0 : (fw = Str.ofString "none" ∨ fw = Str.ofString "both" ∨ g.st ≠ []) → pev = .ref q0 ∧ (q0, tup [.int 1 f1, .int cc f2]) ∈ base)
    (hk : Cont (model PySem.Challenge.rw_co0042_01.row.prog w) h₀ L S Ys A c fs (K .next) (fun own s => GSt h₀ L S tA P I base ind ix own (stepG ind g ⟨n, wd, Str.ofString ""⟩) (wantOf g ⟨n, wd, Str.ofString ""⟩ == Str.ofString "none") (wantOf g ⟨n, wd, Str.ofString ""⟩ == Str.ofString "both") (.ref q2) (tkNames n tn wd tt q1 q2) s) ys) :
    Cont (model PySem.Challenge.rw_co0042_01.row.prog w) h₀ L S Ys A c fs ((execs (bodyOf genFor) (genEnv L fa cd)).wrap K H id id) (fun own s => GSt h₀ L S tA P I base ind ix own g (fw == Str.ofString "none") (fw == Str.ofString "both") pev (tkNames n tn wd tt q1 q2) s)
      (duesOf fw (decide (c1 ≠ cc)) cc ++ (duesOf (wantOf g ⟨n, wd, Str.ofString ""⟩) (decide (c1 ≠ cc)) cc ++ ys)) := by
  have hb5 : bodyOf genFor = [gf 0, gf 1, gf 2, gf 3, gf 4] := rfl
  rw [hb5]
  have hz' : g.st.length ≤ 400 := Nat.le_of_lt hz
  refine cont_if (is_gf 0 (.inl rfl)) (fun own s G => t_nl w p loose mean mg mb h₀ T₀ X₀ _ L fa cd S tA P I base ind ix hh hd hu g _ _ pev q1 q2 tn tt n wd own s hz' G) ?_
  rw [if_neg (by rw [decide_eq_false h62]; decide)]
  show Cont _ _ _ _ _ _ _ _ ((execs [gf 1, gf 2, gf 3, gf 4] _).wrap _ _ _ _) _ _
  rw [← dues_split, List.append_assoc]
  refine g_st1 w p loose mean mg mb h₀ T₀ X₀ A c fs L fa cd S tA P I base ind ix Ys hS LS SP SI hb hfs hfg hh hd hu K H _ g _ _ pev q1 q2 q0 a1 a2 f1 f2 tn tt c1 cc n wd _ h1 (fun e => h0 (.inl (beq_iff_eq.mp e))) ?_
  refine g_st2 w p loose mean mg mb h₀ T₀ X₀ A c fs L fa cd S tA P I base ind ix Ys hS LS SP SI hb hfs hfg hh hd hu K H _ g _ _ pev q1 q2 q0 a1 a2 f1 f2 tn tt c1 cc n wd _ h1 (fun e => h0 (.inr (.inl (beq_iff_eq.mp e)))) ?_
  refine g_st3 w p loose mean mg mb h₀ T₀ X₀ A c fs L fa cd S tA P I base ind ix Ys hS LS SP SI hb hfs hfg hh hd hu K H _ g pev q1 q2 q0 a1 a2 f1 f2 tn tt c1 cc n wd _ _ hz h1 (fun e => h0 (.inr (.inr e))) ?_
  have hz2 := stepG_len ind g ⟨n, wd, Str.ofString ""⟩
  exact cont_one (fun own s G => a_pe w p loose mean mg mb h₀ T₀ X₀ _ L fa cd S tA P I base ind ix hh hd hu _ _ _ pev q1 q2 tn tt n wd own s (by omega) G) hk
end
/-- the target of the loop takes a token apart -/
theorem assign_tok {prog : Program} {w : World} {A : Around} {E : Value → Shared → Prop} {s : Shared} {name : Str} {scope : Scope} {L fa tp : Addr} {cd : Value} {h₀ : Heap} {m : Str → Option Value} {news : Led} {x1 x2 x3 x4 x5 : Str} {p1 p2 p3 p4 p5 p6 : Pos} {k0 : Nat} {v1 v2 v3 v4 v5 : Value} {Q : Unit → Shared → Prop}
    (hh : A.handled = none) (F : Fr h₀ L s.heap m) (N : News h₀ L s.heap news) (htp : (tp, tup [v1, v2, v3, v4, v5]) ∈ news)
    (h : ∀ h' tk', Fr h₀ L h' (fun y => if y = x5 then some v5 else if y = x4 then some v4 else if y = x3 then some v3 else if y = x2 then some v2 else if y = x1 then some v1 else m y) → News h₀ L h' news → Q () { s with heap := h', toks := tk' })
    (hk : scope.kind = .function) (l1 : (envOf name scope L fa cd).kindOf x1 = some .local) (l2 : (envOf name scope L fa cd).kindOf x2 = some .local) (l3 : (envOf name scope L fa cd).kindOf x3 = some .local) (l4 : (envOf name scope L fa cd).kindOf x4 = some .local) (l5 : (envOf name scope L fa cd).kindOf x5 = some .local) :
    wpAny (model prog w) A (assign (.Tuple [.Name x1 p1, .Name x2 p2, .Name x3 p3, .Name x4 p4, .Name x5 p5] k0 p6) (envOf name scope L fa cd) (.ref tp)) Q E s := by
  have hT : s.heap.IsTuple tp #[v1, v2, v3, v4, v5] := ⟨_, (N _ htp).1, rfl, _, rfl⟩
  refine wpAny_assign_Tuple hh hT rfl rfl fun h₂ x₂ => ?_
  have F₂ := F.extBut x₂ (Nat.le_refl _)
  have N₂ := N.extBut x₂ (Nat.le_refl _)
  show wpAny _ A (do holding [v2, v3, v4, v5] (assign (.Name x1 p1) (envOf name scope L fa cd) v1); do holding [v3, v4, v5] (assign (.Name x2 p2) (envOf name scope L fa cd) v2); do holding [v4, v5] (assign (.Name x3 p3) (envOf name scope L fa cd) v3); do holding [v5] (assign (.Name x4 p4) (envOf name scope L fa cd) v4); do holding [] (assign (.Name x5 p5) (envOf name scope L fa cd) v5); pure ()) _ _ _
  refine wpAny_bind (wpAny_holding (wpAny_assign_Name (stN F₂ N₂ (fun h₃ F₃ N₃ => ?_) hk l1)))
  refine wpAny_bind (wpAny_holding (wpAny_assign_Name (stN F₃ N₃ (fun h₄ F₄ N₄ => ?_) hk l2)))
  refine wpAny_bind (wpAny_holding (wpAny_assign_Name (stN F₄ N₄ (fun h₅ F₅ N₅ => ?_) hk l3)))
  refine wpAny_bind (wpAny_holding (wpAny_assign_Name (stN F₅ N₅ (fun h₆ F₆ N₆ => ?_) hk l4)))
  refine wpAny_bind (wpAny_holding (wpAny_assign_Name (stN F₆ N₆ (fun h₇ F₇ N₇ => ?_) hk l5)))
  exact wpAny_pure (h _ _ F₇ N₇)
theorem tk_put {m : Str → Option Value} {xs : List (Str × Value)} {P tA q1 q2 : Addr} {t1 t2 tn tt : Tok} {ns rs ann ind : Bool} {pe v5 : Value} {n : Int} {wd : Str}
    (Hm : Names m (xs ++ genNames P tA t1 t2 ns rs ann ind pe)) :
    Names (fun y => if y = Str.ofString "line" then some v5 else if y = Str.ofString "end" then some (.ref q2) else if y = Str.ofString "start" then some (.ref q1) else if y = Str.ofString "text" then some (.str wd tt) else if y = Str.ofString "token_type" then some (.int n tn) else m y) (tkNames n tn wd tt q1 q2 ++ genNames P tA t1 t2 ns rs ann ind pe) := by
  intro b hb
  rcases List.mem_append.mp hb with hb | hb
  · unfold tkNames at hb
    simp only [List.mem_cons, List.not_mem_nil, or_false] at hb
    rcases hb with rfl | rfl | rfl | rfl <;> with_unfolding_all rfl
  · have e := Hm b (List.mem_append_right _ hb)
    unfold genNames at hb
    simp only [List.mem_cons, List.not_mem_nil, or_false] at hb
    rcases hb with rfl | rfl | rfl | rfl | rfl | rfl | rfl | rfl | rfl | rfl <;> exact e
end Mine
end
theorem Mine.fresh_GenM : True ∧ True := by
  w_top off
  walk1 <;> exact True.intro
section
open PySem PySem.W PySem.Spec PySem.Calls PyProof.Rows
set_option Elab.async false
set_option maxRecDepth 100000
namespace Mine
def forTarget : Stmt → PySem.Expr
  | .For t _ _ _ _ => t
  | _ => .Constant .none 0 ⟨0, 0, 0, 0⟩
def forIter : Stmt → PySem.Expr
  | .For _ i _ _ _ => i
  | _ => .Constant .none 0 ⟨0, 0, 0, 0⟩
theorem is_For : ∃ pos, genFor = .For (forTarget genFor) (forIter genFor) (bodyOf genFor) [] pos := ⟨_, rfl⟩
theorem is_tgt : ∃ p1 p2 p3 p4 p5 p6 k0, forTarget genFor = .Tuple [.Name (Str.ofString "token_type") p1, .Name (Str.ofString "text") p2, .Name (Str.ofString "start") p3, .Name (Str.ofString "end") p4, .Name (Str.ofString "line") p5] k0 p6 := ⟨_, _, _, _, _, _, _, rfl⟩
abbrev genLoop (I L fa : Addr) (cd : Value) : Code := .forLoop (forTarget genFor) (.ref I) (bodyOf genFor) [] (genEnv L fa cd)
theorem drop_cons {α : Type} {l r : List α} {i : Nat} {v : α} (h : l.drop i = v :: r) : l[i]? = some v ∧ l.drop (i + 1) = r := by
  constructor
  · have : (l.drop i)[0]? = some v := by rw [h]; rfl
    rw [List.getElem?_drop] at this; exact this
  · rw [← List.drop_drop, h]; rfl
section
variable (w : World) (p : Program) (loose : List Str) (mean : ExcName → Option Value) (mg mb : Str → Option Value) (h₀ : Heap)
    (T₀ : Top p loose mean mg mb h₀) (X₀ : (hd.heap_39 w.params).In h₀)
    (A : Around) (fs : List Frame) (L fa : Addr) (cd : Value) (S tA P I : Addr) (base : Led) (ind : Bool) (Ys : List Du)
    (hS : h₀.get? S = none) (LS : @LT.lt Nat _ L S) (SP : @LT.lt Nat _ S P) (SI : @LT.lt Nat _ S I) (hb : ∀ q ∈ base, @LT.lt Nat _ q.1 S)
    (hfs : splitAtGen fs = none) (hfg : fs.any Frame.guarded = false)
    (hh : (A.over (genLoop I L fa cd) fs).handled = none) (hd : (A.over (genLoop I L fa cd) fs).depth + 20 < recursionLimit) (hu : (A.over (genLoop I L fa cd) fs).units + 200 < cLine)
    (its : List Value) (tn : Nat) (hT : (tA, lst its tn) ∈ base)
    (hend : Cont (model PySem.Challenge.rw_co0042_01.row.prog w) h₀ L S Ys A (.block [] (genEnv L fa cd)) fs (.pure (.done .next)) (fun own s => ∃ m, Fr h₀ L s.heap m ∧ News h₀ L s.heap own) [])
include T₀ X₀ hS LS SP SI hb hfs hfg hh hd hu hT hend in
theorem g_loop : ∀ (rest : List Tk) (i : Nat) (g : Gs) (fw : Str) (pev : Value) (cc : Int), AllIn (TkIn base) (its.drop i) rest → (∀ t ∈ rest, t.n ≠ 62) → g.st.length + rest.length ≤ 400 →
    ((fw = Str.ofString "none" ∨ fw = Str.ofString "both" ∨ g.st ≠ []) → ∃ q0 f1 f2, pev = .ref q0 ∧ (q0, tup [.int 1 f1, .int cc f2]) ∈ base) →
    Cont (model PySem.Challenge.rw_co0042_01.row.prog w) h₀ L S Ys A (genLoop I L fa cd) fs ((model PySem.Challenge.rw_co0042_01.row.prog w).den (genLoop I L fa cd)) (fun own s => GSt h₀ L S tA P I base ind i own g (fw == Str.ofString "none") (fw == Str.ofString "both") pev [] s) (genYs ind g fw cc rest) := by
  intro rest
  induction rest with
  | nil =>
    intro i g fw pev cc hA _ _ _ s₀ s own O hpre hs G
    obtain ⟨m, vs, nn, io, t1, t2, F, N, sa, ic, oP, oI, IP, bo, nm⟩ := G
    have hd0 : its.drop i = [] := by
      have := hA.length
      exact List.length_eq_zero_iff.mp this
    have hx : its.toArray[i]? = none := by
      rw [List.getElem?_toArray, List.getElem?_eq_none_iff]
      exact List.drop_eq_nil_iff.mp hd0
    refine seg_forLoop ?_
    have NI := N _ (.tail _ (.head _))
    have NT := N _ (.tail _ (.tail _ (bo _ hT)))
    refine wpAny_pyNext_list_end hh (l := tA) ⟨io, NI.1, ic.1, ic.2⟩ ⟨_, NT.1, rfl, tn, rfl⟩ hx fun h' hx' => ?_
    obtain ⟨hp0, tk0, rfl⟩ := hs
    refine hend s₀ _ own O hpre ⟨_, _, rfl⟩ ⟨m, ⟨?_, fun b o e => hx' b o (fun q => ?_) (F.keep b o e), F.above⟩, fun q hq => ⟨hx' _ _ (oI q hq) (N q (.tail _ (.tail _ hq))).1, (N q (.tail _ (.tail _ hq))).2⟩⟩
    · obtain ⟨oL, z1, z2, hL, z3⟩ := F.ns
      exact ⟨oL, z1, z2, hx' _ _ (fun q => NI.2.1 q.symm) hL, z3⟩
    · have q : b = I := q
      rw [q, NI.2.2] at e; cases e
  | cons t rest ih =>
    intro i g fw pev cc hA h62 hz hpe s₀ s own O hpre hs G
    obtain ⟨m, vs, nn, io, t1, t2, F, N, sa, ic, oP, oI, IP, bo, nm⟩ := G
    generalize hdr : its.drop i = dr at hA
    cases hA with
    | @cons v _ vs' _ hv hA =>
    obtain ⟨hx, hdr'⟩ := drop_cons hdr
    obtain ⟨t0, q1, q2, ta, tb, tc, a1, a2, b1, b2, rfl, m0, m1, m2⟩ := hv
    refine seg_forLoop ?_
    have NI := N _ (.tail _ (.head _))
    have NT := N _ (.tail _ (.tail _ (bo _ hT)))
    refine wpAny_pyNext_list_item (l := tA) (items := its.toArray) ⟨io, NI.1, ic.1, ic.2⟩ ⟨_, NT.1, rfl, tn, rfl⟩ (by rw [List.getElem?_toArray]; exact hx) fun h' hit hsb => ?_
    obtain ⟨io', hio, ic1, ic2⟩ := hit
    have F₁ := F.change hsb NI.2.1 NI.2.2
    have N₁ : News h₀ L h' ((P, lst vs nn) :: (I, io') :: own) := fun q hq => by
      rcases List.mem_cons.mp hq with rfl | hq
      · exact ⟨(hsb.2 _ (Ne.symm IP)).trans (N _ (.head _)).1, (N _ (.head _)).2⟩
      rcases List.mem_cons.mp hq with rfl | hq
      · exact ⟨hio, NI.2⟩
      · exact ⟨(hsb.2 _ (oI q hq)).trans (N q (.tail _ (.tail _ hq))).1, (N q (.tail _ (.tail _ hq))).2⟩
    obtain ⟨p1, p2, p3, p4, p5, p6, k0, et⟩ := is_tgt
    show wpAny _ _ (letOwnedTupleGo (forTarget genFor) _ _) _ _ _
    rw [et]
    refine wpAny_letOwnedTupleGo_listiter (l := tA) (i := i + 1) ⟨io', hio, ic1, ic2⟩ ?_
    obtain ⟨hp0, tk0, rfl⟩ := hs
    refine assign_tok hh F₁ N₁ (.tail _ (.tail _ (bo _ m0))) (fun h'' tk'' F₂ N₂ => ?_) rfl rfl rfl rfl rfl rfl
    rw [← et]
    have hzg := stepG_len ind g ⟨t.n, t.wd, Str.ofString ""⟩
    have hzl : g.st.length + (rest.length + 1) ≤ 400 := hz
    have hpe' : ∃ q0 f1 f2, ((fw = Str.ofString "none" ∨ fw = Str.ofString "both" ∨ g.st ≠ []) → pev = .ref q0 ∧ (q0, tup [.int 1 f1, .int cc f2]) ∈ base) := by
      by_cases q : fw = Str.ofString "none" ∨ fw = Str.ofString "both" ∨ g.st ≠ []
      · obtain ⟨q0, f1, f2, e⟩ := hpe q
        exact ⟨q0, f1, f2, fun _ => e⟩
      · exact ⟨0, 0, 0, fun z => absurd z q⟩
    obtain ⟨q0, f1, f2, hpe'⟩ := hpe'
    refine g_turn w p loose mean mg mb h₀ T₀ X₀ A _ fs L fa cd S tA P I base ind (i + 1) Ys hS LS SP SI hb hfs hfg hh hd hu _ _ g fw pev q1 q2 q0 a1 a2 f1 f2 ta tb t.c1 cc t.n t.wd _ (by omega) (h62 t (.head _)) m1 hpe' ?_ s₀ _ own O hpre ⟨_, _, rfl⟩ ⟨_, vs, nn, io', t1, t2, F₂, N₂, sa, ⟨ic1, ic2⟩, oP, oI, IP, bo, tk_put nm⟩
    intro s₀' s' own' O' hpre' hs' G'
    refine seg_again rfl ?_
    obtain ⟨m', vs2, nn2, io2, t12, t22, F', N', sa', ic', oP', oI', IP', bo', nm'⟩ := G'
    exact ih (i + 1) _ _ _ t.c2 (by rw [hdr']; exact hA) (fun x hx => h62 x (.tail _ hx)) (by omega) (fun _ => ⟨q2, b1, b2, rfl, m2⟩) s₀' s' own' O' hpre' hs' ⟨m', vs2, nn2, io2, t12, t22, F', N', sa', ic', oP', oI', IP', bo', nm'.sub fun b hb => List.mem_append_right _ hb⟩
end
end Mine
end
theorem Mine.fresh_GenX : True ∧ True := by
  w_top off
  walk1 <;> exact True.intro
section
open PySem PySem.W PySem.Spec PySem.Calls PyProof.Rows
set_option Elab.async false
set_option maxRecDepth 100000
namespace Mine
theorem over_f (A : Around) (b : List Stmt) (e : Env) : (A.over (.func b e) []).handled = A.handled ∧ (A.over (.func b e) []).depth = A.depth + 1 ∧ (A.over (.func b e) []).units = A.units + 3 := ⟨rfl, rfl, rfl⟩
theorem over_l (A : Around) (t : PySem.Expr) (it : Value) (b o b' : List Stmt) (e e' : Env) (k : Result → Sem Fin) (g : Bool) (l : List Value) (p : Pos) (kp : List Value) : (A.over (.forLoop t it b o e) [.ret k none g l (.func b' e') p kp]).handled = A.handled ∧ (A.over (.forLoop t it b o e) [.ret k none g l (.func b' e') p kp]).depth = A.depth + 1 ∧ (A.over (.forLoop t it b o e) [.ret k none g l (.func b' e') p kp]).units = A.units + 3 := ⟨rfl, rfl, rfl⟩
theorem is_iter : ∃ pos, forIter genFor = .Name (Str.ofString "tokens") pos := ⟨_, rfl⟩
theorem is_body : bodyOf genDef = [genAt 0, genAt 1, genAt 2, genAt 3, genAt 4, genAt 5, genAt 6, genAt 7, genAt 8] ++ [genFor] := rfl
section
variable (w : World) (p : Program) (loose : List Str) (mean : ExcName → Option Value) (mg mb : Str → Option Value) (h₀ : Heap)
    (T₀ : Top p loose mean mg mb h₀) (X₀ : (hd.heap_39 w.params).In h₀)
    (A : Around) (L fa : Addr) (cd : Value) (S tA : Addr) (base : Led) (ind : Bool)
    (hS : h₀.get? S = none) (LS : @LT.lt Nat _ L S)
    (hh : A.handled = none) (hd : A.depth + 24 < recursionLimit) (hu : A.units + 210 < cLine)
include T₀ X₀ hS LS hh hd hu in
theorem g_all (s : Shared) (so : Obj) (m : Str → Option Value) (ln : Str) (tl : Tok) (its : List Value) (tn : Nat) (T : List Tk) (l r : List Nat)
    (F : Fr h₀ L s.heap m) (hn : Names m [(Str.ofString "logical_line", .str ln tl), (Str.ofString "tokens", .ref tA)]) (hso : s.heap.get? S = some so)
    (hb : ∀ q ∈ base, s.heap.get? q.1 = some q.2 ∧ @LT.lt Nat _ q.1 S ∧ @Ne Nat q.1 L ∧ h₀.get? q.1 = none)
    (hT : (tA, lst its tn) ∈ base) (hA : AllIn (TkIn base) its T) (h62 : ∀ t ∈ T, t.n ≠ 62) (hz : T.length ≤ 400)
    (hl : ln.cps = (l ++ r).toArray) (hlz : (l ++ r).length < 2 ^ 62) (k1 k2 : Nat) (hk1 : k1 < 2 ^ 64) (hk2 : k2 < 2 ^ 64)
    (hv1 : verdict ((mach code49 l r).runFor (4 * k1 + 4)) = some ind) (hs1 : ind = true → spanOk ((mach code49 l r).runFor (4 * k1 + 4)) = true) (hv2 : verdict ((mach code54 l r).runFor (4 * k2 + 4)) = some false) :
    Seg (model PySem.Challenge.rw_co0042_01.row.prog w) A (gR h₀ L S) (gY h₀ L S (genYs ind ⟨[], false⟩ (Str.ofString "") 0 T)) (genYs ind ⟨[], false⟩ (Str.ofString "") 0 T).length s (.func (bodyOf genDef) (genEnv L fa cd)) ((model PySem.Challenge.rw_co0042_01.row.prog w).den (.func (bodyOf genDef) (genEnv L fa cd))) [] s := by
  obtain ⟨own, O⟩ := own_exists h₀ L S s.heap
  have N : News h₀ L s.heap own := fun q hq => by
    obtain ⟨e, c1, c2, _⟩ := (O q).mp hq
    exact ⟨e, c1, c2⟩
  have hSo : (S, so) ∈ own := (O (S, so)).mpr ⟨hso, Nat.ne_of_gt LS, hS, .inl (Nat.le_refl _)⟩
  have bo : ∀ q ∈ base, q ∈ own := fun q hq => let ⟨e, c0, c1, c2⟩ := hb q hq; (O q).mpr ⟨e, c1, c2, .inl (Nat.le_of_lt c0)⟩
  obtain ⟨o1, o2, o3⟩ := over_f A (bodyOf genDef) (genEnv L fa cd)
  refine seg_func ?_
  have hbd := is_body
  generalize bodyOf genDef = bd at hbd o1 o2 o3 ⊢
  subst hbd
  refine seg_app (wpAny_mono (gen_init w p loose mean mg mb h₀ T₀ X₀ _ s L fa cd own ln tl m tA ind l r F N hn (by rw [o1]; exact hh) (by rw [o2]; omega) (by rw [o3]; omega) hl hlz k1 k2 hk1 hk2 hv1 hs1 hv2) ?_ fun _ _ x => x)
  rintro f s' ⟨rfl, h', tk', m', P, n, t1, t2, rfl, F', N', lt', nm'⟩
  show _ ∧ _
  refine ⟨rfl, ?_⟩
  have SP : @LT.lt Nat _ S P := lt' _ hSo
  have NP := N' _ (.head _)
  have hSh : @LT.lt Nat _ S h'.objs.size := Heap.lt_size (N' _ (.tail _ hSo)).1
  have hPh : @LT.lt Nat _ P h'.objs.size := Heap.lt_size NP.1
  have Fp := F'.push { cls := .type "list_iterator", data := .fields #[.ref tA, .int 0 0] }
  have Np := N'.push F' { cls := .type "list_iterator", data := .fields #[.ref tA, .int 0 0] } rfl
  have hTa := N' _ (.tail _ (bo _ hT))
  obtain ⟨pos, ef⟩ := is_For
  obtain ⟨pos2, ei⟩ := is_iter
  refine seg_execs_cons ?_
  rw [ef]
  refine seg_For ?_ (by intro x; rw [ei]; rfl)
  rw [ei]
  refine ld F' (gn_all (xs := []) nm').1 ?_
  show wpAny _ _ _ _ _ _
  refine wpAny_pyIter_list (items := its.toArray) ⟨_, hTa.1, rfl, tn, rfl⟩ ?_
  intro p'
  refine g_loop w p loose mean mg mb h₀ T₀ X₀ A _ L fa cd S tA P h'.objs.size base ind (genYs ind ⟨[], false⟩ (Str.ofString "") 0 T) hS LS SP hSh (fun q hq => (hb q hq).2.1) rfl rfl
    ((over_l A _ _ _ _ _ _ _ _ _ _ _ _).1.trans hh) (Nat.lt_of_le_of_lt (Nat.le_of_eq (congrArg (· + 20) (over_l A _ _ _ _ _ _ _ _ _ _ _ _).2.1)) (by show A.depth + 1 + 20 < _; omega)) (Nat.lt_of_le_of_lt (Nat.le_of_eq (congrArg (· + 200) (over_l A _ _ _ _ _ _ _ _ _ _ _ _).2.2)) (by show A.units + 3 + 200 < _; omega)) its tn hT ?_ T 0 ⟨[], false⟩ (Str.ofString "") .none 0 hA h62 (by simpa using hz)
    (fun q => by rcases q with q | q | q <;> first | exact absurd q (by decide +kernel) | exact absurd rfl q) s _ own O ⟨[], rfl⟩ ⟨_, _, rfl⟩
    ⟨m', [], n, _, t1, t2, Fp, fun q hq => Np q (by
      rcases List.mem_cons.mp hq with rfl | hq
      · exact .tail _ (.head _)
      rcases List.mem_cons.mp hq with rfl | hq
      · exact .head _
      · exact .tail _ (.tail _ hq)), .nil, ⟨rfl, rfl⟩, fun q hq => Nat.ne_of_lt (lt' q hq), fun q hq => Nat.ne_of_lt (Nat.lt_trans (lt' q hq) hPh), Nat.ne_of_gt hPh, bo, nm'⟩
  intro s₀ s₁ own₁ O₁ _ hs₁ ⟨m₁, F₁, N₁⟩
  refine seg_leaf (.ok .next) ?_
  refine seg_end (.ok (.ret .none)) ?_
  exact ⟨rfl, rfl, hs₁, kp_of O₁ F₁ N₁ fun _ hq => hq⟩
end
end Mine
end
theorem Mine.fresh_GenR : True ∧ True := by
  w_top off
  walk1 <;> exact True.intro
section
open PySem PySem.W PySem.Spec PySem.Calls PyProof.Rows
set_option Elab.async false
set_option maxRecDepth 100000
namespace Mine
section
variable {prog : Program} {w : World} {A : Around} {R : Result → Shared → Prop} {s : Shared} {K : Frag}
  {name qual : Str} {params : Arguments} {body : List Stmt} {scope : Scope} {dV kV doc pm cdv ct oc : Value} {an od : Option Addr} {osl : Array (Option Value)} {f : Addr} {args : Args} {binds : List (Str × Value)}
theorem gen_enter (X : K.In s.heap) (lim : s.heap.NoLimit)
    (ho : K.lookup f = some ⟨oc, od, .func (fnOf name qual params body scope dV kV doc pm an cdv ct), osl⟩) (hcd : codeIn K cdv qual = true) (hroom : A.depth < recursionLimit)
    (hbind : BindsTo s (fnOf name qual params body scope dV kV doc pm an cdv ct) args binds) (hloc : ∀ y ∈ binds, scope.names.lookup y.1 = some .local)
    (h : ∀ (h₁ : Heap) (g : Obj) (qn : Str) (t1 t2 tk : Tok), h₁.Ns s.heap.objs.size (fun y => binds.reverse.lookup y) → (∀ b o, s.heap.get? b = some o → h₁.get? b = some o) → g = { cls := .type "generator", data := .fields #[.int s.gens.size 0, .str name t1, .str qn t2] } →
      R (.ok (.ret (.ref h₁.objs.size))) { s with gens := s.gens.push (.fresh (.func body (envOf qual scope s.heap.objs.size f cdv))), toks := tk, heap := h₁.push g })
    (hco : scope.isCoroutine = false) (hgen : scope.isGenerator = true) (hk : scope.kind = .function) (hcell : ∀ x ∈ scope.names, x.2 ≠ .cell) :
    codeAny (model prog w) A (.call (.ref f) args) R s := by
  refine codeAny_call_generator (body := body) hroom (X _ _ ho) rfl hco hgen rfl (codeRec_of X hcd) (hbind _ _ _ _ ?_)
  refine wpAny_newFunctionEnv hcell hloc (fun h' hn hs => ⟨lim.fresh _ hs, ?_⟩) hk
  exact h h' _ _ _ _ _ hn (fun b o e => hs.extBut b o (Nat.ne_of_lt (Heap.lt_size e)) (Heap.get?_push_of_some _ e)) rfl
end
set_option maxHeartbeats 8000000 in
/-- the generator is made -/
theorem gen_make (w : World) (p : Program) (loose : List Str) (mean : ExcName → Option Value) (mg mb : Str → Option Value) (A : Around) (s : Shared) (ln : Str) (tl : Tok) (tA : Addr) (Q E : Value → Shared → Prop)
    (T : Top p loose mean mg mb s.heap) (X₀ : (hd.heap_39 w.params).In s.heap) (hroom : A.depth < recursionLimit) 
    (h : ∀ (cd : Value) (h₁ : Heap) (g : Obj) (qn t0 : Str) (t1 t2 tk : Tok), h₁.Ns s.heap.objs.size (fun y => ([(Str.ofString "logical_line", .str ln tl), (Str.ofString "tokens", .ref tA)] : List (Str × Value)).reverse.lookup y) → (∀ b o, s.heap.get? b = some o → h₁.get? b = some o) → g = { cls := .type "generator", data := .fields #[.int s.gens.size 0, .str t0 t1, .str qn t2] } →
      Q (.ref h₁.objs.size) { s with gens := s.gens.push (.fresh (.func (bodyOf genDef) (genEnv s.heap.objs.size 62 cd))), toks := tk, heap := h₁.push g }) :
    wpAny (model PySem.Challenge.rw_co0042_01.row.prog w) A (call (.ref 62) [.str ln tl, .ref tA]) Q E s := by
  revert X₀
  k_fill
  intro X₀
  refine wpAny_call ?_
  k_dflt (refine' gen_enter X₀ T.nolimit ?k6 ?k7 hroom ?k9 ?kB ?_ ?c2 ?c3 ?c4 ?c5; (case k6 => k_is); (case k7 => k_is); (case k9 => exact BindsTo.of_eq rfl); (case c5 => decide); (case kB => exact locs rfl); (case c2 => exact rfl); (case c3 => exact rfl); (case c4 => exact rfl))
  intro h₁ g qn t1 t2 tk hn hk hg
  exact h _ h₁ g qn _ t1 t2 tk hn hk hg
end Mine
end
theorem Mine.fresh_GenZ : True ∧ True := by
  w_top off
  walk1 <;> exact True.intro
section
open PySem PySem.W PySem.Spec PySem.Calls PyProof.Rows
set_option Elab.async false
set_option maxRecDepth 100000
namespace Mine
def DuS (h₀ : Heap) (L S : Addr) (h : Heap) (v : Value) (d : Du) : Prop := ∃ t q b b1 b2, v = .ref t ∧ @Ne Nat t S ∧ @Ne Nat q S ∧ (h.get? t = some (tup [.ref q, .str d.msg b]) ∧ @Ne Nat t L ∧ h₀.get? t = none) ∧ (h.get? q = some (tup [.int 1 b1, .int d.c b2]) ∧ @Ne Nat q L ∧ h₀.get? q = none)
theorem duS_of {h₀ h : Heap} {L S : Addr} {v : Value} {d : Du} {a : Array Value} {c : Nat} (hS : h.get? S = some (bl a c)) (H : DuAt h₀ L h v d) : DuS h₀ L S h v d := by
  obtain ⟨t, q, b, b1, b2, e, h1, h2⟩ := H
  have ne : ∀ (x : Addr) its, h.get? x = some (tup its) → @Ne Nat x S := fun x its hx e => by
    have e : x = S := e
    rw [e, hS] at hx
    have z : Value.type "list" = Value.type "tuple" := congrArg Obj.cls (Option.some.inj hx)
    exact absurd z (by decide)
  exact ⟨t, q, b, b1, b2, e, ne _ _ h1.1, ne _ _ h2.1, h1, h2⟩
theorem DuS.keep {h₀ h h' : Heap} {L S : Addr} {v : Value} {d : Du} (H : DuS h₀ L S h v d) (k : ∀ b o, h.get? b = some o → @Ne Nat b L → @Ne Nat b S → h₀.get? b = none → o.cls = .type "tuple" → h'.get? b = some o) : DuS h₀ L S h' v d := by
  obtain ⟨t, q, b, b1, b2, e, n1, n2, h1, h2⟩ := H
  exact ⟨t, q, b, b1, b2, e, n1, n2, ⟨k _ _ h1.1 h1.2.1 n1 h1.2.2 rfl, h1.2⟩, ⟨k _ _ h2.1 h2.2.1 n2 h2.2.2 rfl, h2.2⟩⟩
def StZ (M : Model) (A' : Around) (h₀ : Heap) (L S : Addr) (Ys : List Du) (gi : Nat) (s : Shared) (i : Nat) (acc : Array Value) (s' : Shared) : Prop :=
  ∃ gs h tk, s' = { s with gens := s.gens.setIfInBounds gi gs, heap := h, toks := tk } ∧ (∀ b o, h₀.get? b = some o → h.get? b = some o) ∧ (∀ b o, @Ne Nat b L → @LT.lt Nat _ b S → s.heap.get? b = some o → h.get? b = some o) ∧ AllIn (DuS h₀ L S h) acc.toList (Ys.take i) ∧
    (i ≤ Ys.length → ∀ h'' tk'', (∃ o, h''.get? S = some o) → (∀ b o, @Ne Nat b S → h.get? b = some o → h''.get? b = some o) → gs.Goes M A' (gR h₀ L S) (gY h₀ L S Ys) (Ys.length - i) (.send .none) { s with gens := s.gens.setIfInBounds gi .running, heap := h'', toks := tk'' }) ∧ (Ys.length < i → gs = .finished)
theorem AllIn.snoc {α : Type} {R : Value → α → Prop} {vs : List Value} {ks : List α} {v : Value} {k : α} (h : AllIn R vs ks) (r : R v k) : AllIn R (vs ++ [v]) (ks ++ [k]) := h.app (.cons r .nil)
section
variable (w : World) (p : Program) (loose : List Str) (mean : ExcName → Option Value) (mg mb : Str → Option Value) (h₀ : Heap)
    (T₀ : Top p loose mean mg mb h₀) (A : Around) (L S I : Addr) (Ys : List Du) (gi : Nat) (s : Shared)
    (hS : h₀.get? S = none) (IS : @LT.lt Nat _ I S) (IL : @Ne Nat I L) (SL : @Ne Nat S L) (hh : A.handled = none) (hroom : A.depth < recursionLimit) (hgi : gi < s.gens.size) (hG : s.heap.IsGen I gi)
include T₀ hS IS IL SL hh hroom hgi hG in
theorem drw_ok : Drw PySem.Challenge.rw_co0042_01.row.prog w A I S Ys.length (StZ (model PySem.Challenge.rw_co0042_01.row.prog w) A.in1 h₀ L S Ys gi s) := by
  have isg : ∀ h : Heap, (∀ b o, @Ne Nat b L → @LT.lt Nat _ b S → s.heap.get? b = some o → h.get? b = some o) → h.IsGen I gi := fun h k => by
    obtain ⟨o, nm, qn, ho, r⟩ := hG
    exact ⟨o, nm, qn, k _ _ IL IS ho, r⟩
  have set2 : ∀ (x y : GenState), (s.gens.setIfInBounds gi x).setIfInBounds gi y = s.gens.setIfInBounds gi y := fun x y => by simp
  have getg : ∀ x : GenState, (s.gens.setIfInBounds gi x)[gi]? = some x := fun x => by
    rw [Array.getElem?_setIfInBounds_self_of_lt hgi]
  have keepK : ∀ h h' : Heap, Kp h₀ L S h h' → (∀ b o, h₀.get? b = some o → h.get? b = some o) → (∀ b o, @Ne Nat b L → @LT.lt Nat _ b S → s.heap.get? b = some o → h.get? b = some o) → ∀ b o, @Ne Nat b L → @LT.lt Nat _ b S → s.heap.get? b = some o → h'.get? b = some o := fun h h' kp k0 k1 b o n1 n2 e => by
    have e1 := k1 b o n1 n2 e
    cases q : h₀.get? b with
    | none => exact kp.2 b o e1 n1 q (.inl (Nat.le_of_lt n2))
    | some o' =>
      have := k0 b o' q
      rw [e1] at this
      rw [Option.some.inj this]; exact kp.1 b o' q
  refine ⟨fun e => absurd (e : S = I) (fun e => Nat.lt_irrefl _ (e ▸ IS)), ?_, ?_, ?_, ?_⟩
  · rintro i acc s' h' ⟨gs, h, tk, rfl, k0, k1, D, G, gf⟩ hSx hx
    refine ⟨gs, h', tk, rfl, fun b o e => hx b o (fun q => by rw [q, hS] at e; cases e) (k0 b o e), fun b o n1 n2 e => hx b o (fun q => Nat.lt_irrefl S (q ▸ n2)) (k1 b o n1 n2 e), D.mono fun v d r => r.keep fun b o e _ n2 _ _ => hx b o n2 e, fun hi h'' tk'' hSy hy => G hi h'' tk'' hSy fun b o n e => hy b o n (hx b o n e), gf⟩
  · rintro i acc s' ⟨gs, h, tk, rfl, k0, k1, D, G, gf⟩
    exact ⟨gi, isg h k1⟩
  · rintro i acc s' Q E hi ⟨gs, h, tk, rfl, k0, k1, D, G, gf⟩ ⟨a, c, hSo⟩ hQ
    have go := G (Nat.le_of_lt hi) h tk ⟨_, hSo⟩ (fun _ _ _ e => e)
    refine wpAny_pyNext_gen (n := Ys.length - i) (gs := gs) (P := fun n s₀ s => n = 0 ∧ (∃ h tk, s = { s₀ with heap := h, toks := tk }) ∧ Kp h₀ L S s₀.heap s.heap) (Y := gY h₀ L S Ys) hh (T₀.nolimit.keeps k0) hroom (isg h k1) (getg gs) ?_ ?_ ?_
    · show GenState.Goes _ _ _ _ _ _ _ { s with gens := (s.gens.setIfInBounds gi gs).setIfInBounds gi .running, heap := h, toks := tk }
      rw [set2]; exact go
    · rintro v s₁ gs' ⟨⟨d, hd, hDu⟩, ⟨h1, tk1, rfl⟩, kp, hk⟩
      have kp : Kp h₀ L S h h1 := kp
      have hDu : DuAt h₀ L h1 v d := hDu
      have hd : Ys[i]? = some d := by
        have : Ys.length - 1 - (Ys.length - i - 1) = i := by omega
        rw [this] at hd; exact hd
      have hS1 : h1.get? S = some (bl a c) := kp.2 S _ hSo SL hS (.inl (Nat.le_refl _))
      refine hQ v _ (fun o e => by
        have e : h.get? S = some o := e
        rw [hSo] at e; rw [← Option.some.inj e]; exact hS1) ⟨gs', h1, tk1, ?_, kp.1, keepK h h1 kp k0 k1, ?_, ?_, ?_⟩
      · show { s with gens := ((s.gens.setIfInBounds gi gs).setIfInBounds gi .running).setIfInBounds gi gs', heap := h1, toks := tk1 } = _
        rw [set2, set2]
      · rw [Array.toList_push, List.take_add_one, hd]
        refine (D.mono fun v d r => r.keep fun b o e n1 n2 n3 n4 => kp.2 b o e n1 n3 (.inr n4)).snoc (duS_of hS1 hDu)
      · intro hi' h'' tk'' _ hy
        have z := hk { s with gens := s.gens.setIfInBounds gi .running, heap := h'', toks := tk'' } hy
        have e : Ys.length - i = (Ys.length - (i + 1)) + 1 := by omega
        rw [e] at z
        exact z
      · intro q; omega
    · rintro s₁ ⟨q, _⟩
      omega
  · rintro acc s' Q E ⟨gs, h, tk, rfl, k0, k1, D, G, gf⟩ ⟨a, c, hSo⟩ hQ
    have go := G (Nat.le_refl _) h tk ⟨_, hSo⟩ (fun _ _ _ e => e)
    refine wpAny_pyNext_gen (n := Ys.length - Ys.length) (gs := gs) (P := fun n s₀ s => n = 0 ∧ (∃ h tk, s = { s₀ with heap := h, toks := tk }) ∧ Kp h₀ L S s₀.heap s.heap) (Y := gY h₀ L S Ys) hh (T₀.nolimit.keeps k0) hroom (isg h k1) (getg gs) ?_ ?_ ?_
    · show GenState.Goes _ _ _ _ _ _ _ { s with gens := (s.gens.setIfInBounds gi gs).setIfInBounds gi .running, heap := h, toks := tk }
      rw [set2]; exact go
    · rintro v s₁ gs' ⟨_, _, _, hk⟩
      have z := hk s₁ fun _ _ _ e => e
      rw [Nat.sub_self] at z
      exact z.elim
    · rintro s₁ ⟨_, ⟨h1, tk1, rfl⟩, kp⟩ h' hx
      have kp : Kp h₀ L S h h1 := kp
      have hx : ∀ b o, h1.get? b = some o → h'.get? b = some o := hx
      refine hQ _ (fun o e => ?_) ⟨.finished, h', tk1, ?_, fun b o e => hx _ _ (kp.1 b o e), fun b o n1 n2 e => hx _ _ (keepK h h1 kp k0 k1 b o n1 n2 e), ?_, fun q => by omega, fun _ => rfl⟩
      · have e : h.get? S = some o := e
        exact hx _ _ (kp.2 S _ e SL hS (.inl (Nat.le_refl _)))
      · show { s with gens := ((s.gens.setIfInBounds gi gs).setIfInBounds gi .running).setIfInBounds gi .finished, heap := h', toks := tk1 } = _
        rw [set2, set2]
      · rw [List.take_of_length_le (Nat.le_succ _)]
        rw [List.take_length] at D
        exact D.mono fun v d r => r.keep fun b o e n1 n2 n3 n4 => hx _ _ (kp.2 b o e n1 n3 (.inr n4))
end
section
variable (w : World) (p : Program) (loose : List Str) (mean : ExcName → Option Value) (mg mb : Str → Option Value) (h₀ : Heap)
    (T₀ : Top p loose mean mg mb h₀) (X₀ : (hd.heap_39 w.params).In h₀) (A : Around) (L I fa tA : Addr) (cd : Value) (base : Led) (ind : Bool) (gi : Nat) (s : Shared) (Q E : Value → Shared → Prop)
    (hh : A.handled = none) (hd : A.depth + 24 < recursionLimit) (hu : A.units + 220 < cLine)
include T₀ X₀ hh hd hu in
/-- list of the generator: the due lines that its tokens call for -/
theorem gen_list (m : Str → Option Value) (ln : Str) (tl : Tok) (its : List Value) (tn : Nat) (T : List Tk) (l r : List Nat)
    (F : Fr h₀ L s.heap m) (hn : Names m [(Str.ofString "logical_line", .str ln tl), (Str.ofString "tokens", .ref tA)]) (IL : @Ne Nat I L) (hG : s.heap.IsGen I gi) (hgs : s.gens[gi]? = some (.fresh (.func (bodyOf genDef) (genEnv L fa cd))))
    (hb : ∀ q ∈ base, s.heap.get? q.1 = some q.2 ∧ @Ne Nat q.1 L ∧ h₀.get? q.1 = none)
    (hT : (tA, lst its tn) ∈ base) (hA : AllIn (TkIn base) its T) (h62 : ∀ t ∈ T, t.n ≠ 62) (hz : T.length ≤ 400)
    (hl : ln.cps = (l ++ r).toArray) (hlz : (l ++ r).length < 2 ^ 62) (k1 k2 : Nat) (hk1 : k1 < 2 ^ 64) (hk2 : k2 < 2 ^ 64)
    (hv1 : verdict ((mach code49 l r).runFor (4 * k1 + 4)) = some ind) (hs1 : ind = true → spanOk ((mach code49 l r).runFor (4 * k1 + 4)) = true) (hv2 : verdict ((mach code54 l r).runFor (4 * k2 + 4)) = some false)
    (hN : (genYs ind ⟨[], false⟩ (Str.ofString "") 0 T).length ≤ sizeLine)
    (hQ : ∀ S' vs c h' tk', (∀ b o, @Ne Nat b L → s.heap.get? b = some o → h'.get? b = some o) → (∀ b o, h₀.get? b = some o → h'.get? b = some o) → h'.get? S' = some (lst vs c) → s.heap.get? S' = none → h₀.get? S' = none → AllIn (DuS h₀ L S' h') vs (genYs ind ⟨[], false⟩ (Str.ofString "") 0 T) →
      Q (.ref S') { s with gens := s.gens.setIfInBounds gi .finished, heap := h', toks := tk' }) :
    wpAny (model PySem.Challenge.rw_co0042_01.row.prog w) A (call (.type "list") [.ref I]) Q E s := by
  have ltL : @LT.lt Nat _ L s.heap.objs.size := F.ns.lt
  obtain ⟨oI, nm, qn, hoI, rI⟩ := id hG
  have ltI : @LT.lt Nat _ I s.heap.objs.size := Heap.lt_size hoI
  have hS : h₀.get? s.heap.objs.size = none := Heap.get?_none_of_le (Nat.le_trans F.above (Nat.le_of_lt ltL))
  have hSs : s.heap.get? s.heap.objs.size = none := Heap.get?_none_of_le (Nat.le_refl _)
  have hgi : gi < s.gens.size := (Array.getElem?_eq_some_iff.mp hgs).1
  have W := drw_ok w p loose mean mg mb h₀ T₀ A.in1.in1 L s.heap.objs.size I (genYs ind ⟨[], false⟩ (Str.ofString "") 0 T) gi s hS ltI IL (Nat.ne_of_gt ltL) hh (by show A.depth < _; omega) hgi hG
  refine drw_list W ?_ hN ?_
  · refine ⟨.fresh (.func (bodyOf genDef) (genEnv L fa cd)), s.heap.push { cls := .type "list", data := .seq #[] }, s.toks, ?_, fun b o e => Heap.get?_push_of_some _ (F.keep b o e), fun b o _ _ e => Heap.get?_push_of_some _ e, .nil, ?_, fun q => by omega⟩
    · have : s.gens.setIfInBounds gi (.fresh (.func (bodyOf genDef) (genEnv L fa cd))) = s.gens := by
        refine Array.ext_getElem? fun j => ?_
        rw [Array.getElem?_setIfInBounds]
        split
        · rename_i e; rw [← e, hgs]
        · rfl
      rw [this]
    · intro _ h'' tk'' ⟨so, hso⟩ hy
      rw [Nat.sub_zero]
      refine ⟨rfl, ?_⟩
      have up : ∀ b o, s.heap.get? b = some o → h''.get? b = some o := fun b o e => hy b o (Nat.ne_of_lt (Heap.lt_size e)) (Heap.get?_push_of_some _ e)
      have F'' : Fr h₀ L h'' m := F.keeps up
      exact g_all w p loose mean mg mb h₀ T₀ X₀ A.in1.in1.in1 L fa cd s.heap.objs.size tA base ind hS ltL hh hd (by show A.units + 1 + 1 + 1 + 210 < _; omega) _ so m ln tl its tn T l r F'' hn hso (fun q hq => let ⟨e, c1, c2⟩ := hb q hq; ⟨up _ _ e, Heap.lt_size e, c1, c2⟩) hT hA h62 hz hl hlz k1 k2 hk1 hk2 hv1 hs1 hv2
  · rintro s' acc' c' hS' ⟨gs, h, tk, rfl, k0, k1', D, _, gf⟩
    have hf := gf (Nat.lt_succ_self _)
    subst hf
    rw [List.take_of_length_le (Nat.le_succ _)] at D
    have hS' : h.get? s.heap.objs.size = some (bl acc' c') := hS'
    exact hQ s.heap.objs.size acc'.toList c' h tk (fun b o n e => k1' b o n (Heap.lt_size e) e) k0 (by rw [hS']) hSs hS D
end
end Mine
end
theorem Mine.fresh_PureG : True ∧ True := by
  w_top off
  walk1 <;> exact True.intro
section
open PySem PySem.W PySem.Spec PySem.Calls PyProof.Rows
set_option Elab.async false
namespace Mine
def genSt (ind : Bool) : Gs → Str → Int → List Tk → Gs × Str × Int
  | g, fw, cc, [] => (g, fw, cc)
  | g, _, _, t :: r => genSt ind (stepG ind g ⟨t.n, t.wd, Str.ofString ""⟩) (wantOf g ⟨t.n, t.wd, Str.ofString ""⟩) t.c2 r
theorem genYs_app (ind : Bool) : ∀ (T U : List Tk) (g : Gs) (fw : Str) (cc : Int), genYs ind g fw cc (T ++ U) = genYs ind g fw cc T ++ genYs ind (genSt ind g fw cc T).1 (genSt ind g fw cc T).2.1 (genSt ind g fw cc T).2.2 U
  | [], _, _, _, _ => rfl
  | t :: T, U, g, fw, cc => by
    show duesOf _ _ _ ++ (duesOf _ _ _ ++ genYs _ _ _ _ (T ++ U)) = (duesOf _ _ _ ++ (duesOf _ _ _ ++ genYs _ _ _ _ T)) ++ _
    rw [genYs_app ind T U]
    simp only [List.append_assoc]; rfl
theorem genSt_app (ind : Bool) : ∀ (T U : List Tk) (g : Gs) (fw : Str) (cc : Int), genSt ind g fw cc (T ++ U) = genSt ind (genSt ind g fw cc T).1 (genSt ind g fw cc T).2.1 (genSt ind g fw cc T).2.2 U
  | [], _, _, _, _ => rfl
  | t :: T, U, g, fw, cc => genSt_app ind T U _ _ _
theorem okG_split {d : Bool} : ∀ {ps qs : List Pc} {g : Gs}, okG d g (ps ++ qs) → okG d g ps ∧ okG d (after d g ps) qs
  | [], _, _, h => ⟨trivial, h⟩
  | p :: ps, qs, g, h => ⟨⟨h.1, (okG_split (ps := ps) h.2).1⟩, (okG_split (ps := ps) h.2).2⟩
theorem wantOf_any (g : Gs) (n : Int) (wd u v : Str) : wantOf g ⟨n, wd, u⟩ = wantOf g ⟨n, wd, v⟩ := rfl
theorem stepG_any (d : Bool) (g : Gs) (n : Int) (wd u v : Str) : stepG d g ⟨n, wd, u⟩ = stepG d g ⟨n, wd, v⟩ := rfl
theorem slen (a b : Str) : (a ++ b).length = a.length + b.length := Array.size_append
theorem run_gen {d : Bool} {ps : List Pc} {acc : Acc} (R : Run ps acc) : okG d ⟨[], false⟩ ps → genYs d ⟨[], false⟩ (Str.ofString "") 0 acc.T = acc.D ∧ genSt d ⟨[], false⟩ (Str.ofString "") 0 acc.T = (after d ⟨[], false⟩ ps, acc.fw, (acc.ln.length : Int)) := by
  induction R with
  | nil => exact fun _ => ⟨rfl, rfl⟩
  | @snoc ps a p b _ _ _ ih =>
    intro h
    obtain ⟨h1, h2⟩ := okG_split h
    obtain ⟨i1, i2⟩ := ih h1
    have hw : p.wt = wantOf (after d ⟨[], false⟩ ps) p := h2.1
    have hbl : (blank b).length = if b = true then 1 else 0 := by cases b <;> rfl
    have hc : decide ((((a.ln ++ blank b).length : Nat) : Int) ≠ (a.ln.length : Int)) = b := by
      rw [slen, hbl]
      cases b
      · simp
      · simp only [if_true]
        exact decide_eq_true (by omega)
    constructor
    · show genYs d _ _ _ (a.T ++ [_]) = (a.D ++ duesOf a.fw b _) ++ duesOf p.wt b _
      rw [genYs_app, i1, i2]
      show a.D ++ (duesOf a.fw (decide _) _ ++ (duesOf (wantOf _ _) (decide _) _ ++ [])) = _
      rw [hc, hw, List.append_nil, List.append_assoc]; rfl
    · show genSt d _ _ _ (a.T ++ [_]) = _
      rw [genSt_app, i2, after_append]
      show (_, _, _) = (_, _, _)
      refine Prod.ext ?_ (Prod.ext ?_ ?_)
      · rfl
      · exact hw.symm
      · show (((a.ln ++ blank b).length : Nat) : Int) + (p.wd.length : Int) = ((((a.ln ++ blank b) ++ p.wd).length : Nat) : Int)
        rw [slen (a.ln ++ blank b)]; omega
/-- the generator over all the tokens, the newline with them -/
theorem law_true {d : Bool} {ps : List Pc} {acc : Acc} {nl : Str} {c2 : Int} (R : Run ps acc) (h : okG d ⟨[], false⟩ ps) (hf : acc.fw = Str.ofString "") :
    genYs d ⟨[], false⟩ (Str.ofString "") 0 (acc.T ++ [⟨4, nl, (acc.ln.length : Int), c2⟩]) = acc.D := by
  obtain ⟨i1, i2⟩ := run_gen R h
  rw [genYs_app, i1, i2, hf]
  show acc.D ++ (duesOf (Str.ofString "") _ _ ++ (duesOf (wantOf _ _) _ _ ++ [])) = _
  rw [dues5 (by decide +kernel) (by decide +kernel), show wantOf (after d ⟨[], false⟩ ps) ⟨4, nl, Str.ofString ""⟩ = Str.ofString "" from if_neg fun q => absurd q.1 (show ¬ (4 : Int) = 54 by decide), dues5 (by decide +kernel) (by decide +kernel)]
  simp
end Mine
end
theorem Mine.fresh_Head : True ∧ True := by
  w_top off
  walk1 <;> exact True.intro
section
open PySem PySem.W PySem.Spec PySem.Calls PyProof.Rows
set_option Elab.async false
set_option maxRecDepth 100000
namespace Mine
inductive Lay : Option Int → List Pc → List Nat → Prop
  | nil {f} : Lay f [] []
  | cons {f : Option Int} {p : Pc} {ps : List Pc} {t : List Nat} (b : Bool) : (f = none → b = false) → (∀ n, f = some n → p.n ≠ 54 → n ≠ 54 → b = true) → Lay (some p.n) ps t → Lay f (p :: ps) ((blank b).cps.toList ++ (p.wd.cps.toList ++ t))
def lastN (f : Option Int) : List Pc → Option Int
  | [] => f
  | p :: ps => lastN (some p.n) ps
theorem lay_snoc {p : Pc} {b : Bool} : ∀ {ps : List Pc} {f : Option Int} {t : List Nat}, Lay f ps t → (lastN f ps = none → b = false) → (∀ n, lastN f ps = some n → p.n ≠ 54 → n ≠ 54 → b = true) → Lay f (ps ++ [p]) (t ++ ((blank b).cps.toList ++ p.wd.cps.toList)) := by
  intro ps f t h
  induction h with
  | nil =>
    intro h1 h2
    have := Lay.cons (ps := []) (t := []) b h1 h2 .nil
    rw [List.append_nil] at this
    exact this
  | cons b' k1 k2 _ ih =>
    intro h1 h2
    have := Lay.cons b' k1 k2 (ih h1 h2)
    rw [List.append_assoc, List.append_assoc]
    exact this
theorem lastN_snoc (p : Pc) : ∀ (ps : List Pc) (f : Option Int), lastN f (ps ++ [p]) = some p.n
  | [], _ => rfl
  | q :: ps, _ => lastN_snoc p ps (some q.n)
theorem run_lay {ps : List Pc} {a : Acc} (R : Run ps a) : Lay none ps a.ln.cps.toList ∧ (ps ≠ [] → lastN none ps = some a.fn) := by
  induction R with
  | nil => exact ⟨.nil, fun h => absurd rfl h⟩
  | @snoc ps a p b _ w0 w1 ih =>
    refine ⟨?_, fun _ => lastN_snoc p ps none⟩
    have e : (accStep a p b).ln.cps.toList = a.ln.cps.toList ++ ((blank b).cps.toList ++ p.wd.cps.toList) := by
      show ((a.ln ++ blank b) ++ p.wd).cps.toList = _
      show ((a.ln.cps ++ (blank b).cps) ++ p.wd.cps).toList = _
      rw [Array.toList_append, Array.toList_append, List.append_assoc]
    rw [e]
    refine lay_snoc ih.1 (fun h => w0 ?_) (fun n h k1 k2 => ?_)
    · cases ps with
      | nil => rfl
      | cons q qs =>
        have := ih.2 (by simp)
        rw [h] at this; cases this
    · cases ps with
      | nil => cases h
      | cons q qs =>
        have := ih.2 (by simp)
        rw [h] at this
        exact w1 (by simp) k1 (by rw [← Option.some.inj this]; exact k2)
theorem lay_inv {f : Option Int} {p : Pc} {ps : List Pc} {t : List Nat} (h : Lay f (p :: ps) t) : ∃ b t', (f = none → b = false) ∧ (∀ n, f = some n → p.n ≠ 54 → n ≠ 54 → b = true) ∧ Lay (some p.n) ps t' ∧ t = (blank b).cps.toList ++ (p.wd.cps.toList ++ t') := by
  cases h with
  | cons b h1 h2 h3 => exact ⟨b, _, h1, h2, h3, rfl⟩
theorem bl_t : (blank true).cps.toList = [32] := by decide +kernel
theorem bl_f : (blank false).cps.toList = [] := by decide +kernel
/-- what the two patterns say of a line -/
def Heads (ind : Bool) (ln : Str) : Prop := ∃ l r k1 k2, ln.cps = (l ++ r).toArray ∧ k1 < 2 ^ 64 ∧ k2 < 2 ^ 64 ∧ verdict ((mach code49 l r).runFor (4 * k1 + 4)) = some ind ∧ (ind = true → spanOk ((mach code49 l r).runFor (4 * k1 + 4)) = true) ∧ verdict ((mach code54 l r).runFor (4 * k2 + 4)) = some false
theorem sp_d (r : List Nat) : spanOk ((mach code49 [100, 101, 102, 32] r).runFor 60) = true := by kernel_rfl
theorem sp_a (r : List Nat) : spanOk ((mach code49 [97, 115, 121, 110, 99, 32, 100, 101, 102, 32] r).runFor 60) = true := by
  have e := rep_go (mach code49 [97, 115, 121, 110, 99, 32, 100, 101, 102, 32] r) 8 51 (r.length + 3) (by kernel_rfl) (by kernel_rfl) (by kernel_rfl) (by kernel_rfl) (by kernel_rfl) (by kernel_rfl) (by kernel_rfl) (by kernel_rfl) (by kernel_rfl)
  rw [show (60 : Nat) = 8 + (51 + 1) from rfl, e]
  kernel_rfl
theorem toA {ln : Str} {t : List Nat} (h : ln.cps.toList = t) : ln.cps = t.toArray := by rw [← h]
theorem heads_def {qs : List Pc} {acc : Acc} (R : Run (nm (Str.ofString "def") :: nm (Str.ofString "f") :: op (Str.ofString "(") :: qs) acc) : Heads true acc.ln := by
  obtain ⟨b1, t1, f1, _, l1, e1⟩ := lay_inv (run_lay R).1
  obtain ⟨b2, t2, _, f2, l2, rfl⟩ := lay_inv l1
  obtain ⟨b3, t3, _, _, l3, rfl⟩ := lay_inv l2
  have h1 := f1 rfl
  have h2 := f2 1 rfl (show (1 : Int) ≠ 54 by decide) (by decide)
  subst h1 h2
  rw [bl_f, bl_t] at e1
  cases b3 with
  | true =>
    rw [bl_t] at e1
    exact ⟨[100, 101, 102, 32, 102, 32], 40 :: t3, 14, 19, toA (e1.trans rfl), by decide, by decide, def_d (102 :: 32 :: 40 :: t3), fun _ => sp_d (102 :: 32 :: 40 :: t3), gen_d2 (40 :: t3)⟩
  | false =>
    rw [bl_f] at e1
    exact ⟨[100, 101, 102, 32, 102, 40], t3, 14, 19, toA (e1.trans rfl), by decide, by decide, def_d (102 :: 40 :: t3), fun _ => sp_d (102 :: 40 :: t3), gen_d1 t3⟩
theorem heads_async {qs : List Pc} {acc : Acc} (R : Run (nm (Str.ofString "async") :: nm (Str.ofString "def") :: nm (Str.ofString "f") :: op (Str.ofString "(") :: qs) acc) : Heads true acc.ln := by
  obtain ⟨b1, t1, f1, _, l1, e1⟩ := lay_inv (run_lay R).1
  obtain ⟨b2, t2, _, f2, l2, rfl⟩ := lay_inv l1
  obtain ⟨b3, t3, _, f3, l3, rfl⟩ := lay_inv l2
  obtain ⟨b4, t4, _, _, l4, rfl⟩ := lay_inv l3
  have h1 := f1 rfl
  have h2 := f2 1 rfl (show (1 : Int) ≠ 54 by decide) (by decide)
  have h3 := f3 1 rfl (show (1 : Int) ≠ 54 by decide) (by decide)
  subst h1 h2 h3
  rw [bl_f, bl_t] at e1
  cases b4 with
  | true =>
    rw [bl_t] at e1
    exact ⟨[97, 115, 121, 110, 99, 32, 100, 101, 102, 32, 102, 32], 40 :: t4, 14, 29, toA (e1.trans rfl), by decide, by decide, def_a (102 :: 32 :: 40 :: t4), fun _ => sp_a (102 :: 32 :: 40 :: t4), gen_a2 (40 :: t4)⟩
  | false =>
    rw [bl_f] at e1
    exact ⟨[97, 115, 121, 110, 99, 32, 100, 101, 102, 32, 102, 40], t4, 14, 29, toA (e1.trans rfl), by decide, by decide, def_a (102 :: 40 :: t4), fun _ => sp_a (102 :: 40 :: t4), gen_a1 t4⟩
theorem five {t : List Nat} (h : 5 ≤ t.length) : ∃ a b c d e r, t = a :: b :: c :: d :: e :: r := by
  match t, h with
  | a :: b :: c :: d :: e :: r, _ => exact ⟨a, b, c, d, e, r, rfl⟩
theorem heads_x {qs : List Pc} {acc : Acc} (R : Run (nm (Str.ofString "x") :: qs) acc) : Heads false acc.ln := by
  obtain ⟨b1, t1, f1, _, l1, e1⟩ := lay_inv (run_lay R).1
  have h1 := f1 rfl
  subst h1
  rw [bl_f] at e1
  have e2 : acc.ln.cps.toList = 120 :: t1 := e1.trans rfl
  clear e1 l1
  match t1, e2 with
  | [], e2 => exact ⟨[120], [], 14, 19, toA e2, by decide, by decide, by kernel_rfl, (fun q => nomatch q), by kernel_rfl⟩
  | [a], e2 => exact ⟨[120, a], [], 14, 19, toA e2, by decide, by decide, by kernel_rfl, (fun q => nomatch q), by kernel_rfl⟩
  | [a, b], e2 => exact ⟨[120, a, b], [], 14, 19, toA e2, by decide, by decide, by kernel_rfl, (fun q => nomatch q), by kernel_rfl⟩
  | [a, b, c], e2 => exact ⟨[120, a, b, c], [], 14, 19, toA e2, by decide, by decide, by kernel_rfl, (fun q => nomatch q), by kernel_rfl⟩
  | [a, b, c, d], e2 => exact ⟨[120, a, b, c, d], [], 14, 19, toA e2, by decide, by decide, by kernel_rfl, (fun q => nomatch q), by kernel_rfl⟩
  | a :: b :: c :: d :: e :: r, e2 => exact ⟨[120, a, b, c, d, e], r, 14, 19, toA e2, by decide, by decide, def_x a b c d e r, (fun q => nomatch q), gen_x a b c d e r⟩
end Mine
end
theorem Mine.fresh_E1 : True ∧ True := by
  w_top off
  walk1 <;> exact True.intro
section
open PySem PySem.W PySem.Spec PySem.Calls PyProof.Rows
set_option Elab.async false
namespace Mine
local macro_rules | `(tactic| walk_at "call ref") => `(tactic| ((with_reducible show wpAny _ _ (call (Value.ref 69) [_, _]) _ _ _); k_dflt (refine' call_nextL ?a1 ?a3 ?a4 ?a5 ?a6 ?b1 ?b2 ?b3 ?b4 ?a7 ?a8 ?a9 ?a10 ?_; (case a1 => assumption); (case a3 => k_asm); (case a4 => k_asm); (case a5 => tb_start); (case a6 => assumption); (case b1 => k_mem); (case b2 => assumption); (case b3 => assumption); (case b4 => assumption); (case a7 => omega); (case a8 => omega); (case a9 => ktr_room); (case a10 => ktr_units)); intro r' tr' h' tk' stO' F' N' ok' hr0' hr1'; (try dsimp only at N'); (try dsimp only); (try k_sweep)))
local macro_rules | `(tactic| k_units) => `(tactic| ktr_units)
local macro_rules | `(tactic| k_room) => `(tactic| ktr_room)
local macro_rules | `(tactic| k_all) => `(tactic| first | assumption | (refine' List.forall_mem_append.mpr ⟨?a, ?b⟩; (case a => assumption); (case b => k_all)))
local macro_rules | `(tactic| tb_start) => `(tactic| first | (refine' UpdF.head ?a; (case a => k_all)) | (refine' UpdF.tail ?a ?b; (case a => k_ne); (case b => tb_start)) | (refine' UpdF.app ?a ?b; (case a => assumption); (case b => tb_start)))
local macro_rules | `(tactic| walk_at "binaryOp Add ref ref") => `(tactic| ((with_reducible show wpAny _ _ (binaryOp _ (Value.ref _) (Value.ref _)) _ _ _); k_dflt (refine' cat_made ?F ?N ?a ?b ?z ?_; (case F => k_asm); (case N => k_asm); (case a => k_mem); (case b => k_mem); (case z => first | decide | ((try simp only [List.length_append, List.length_cons, List.length_nil]); rw [sizeLine_eq]; omega))); intro D' h' F' N' l1; (try k_lt l1); (try k_sweep)))
local macro_rules | `(tactic| k_mem) => `(tactic| first | (with_reducible refine' mem_r ?_; k_mem) | (with_reducible refine' List.mem_append.mpr (Or.inr ?_); k_mem))
local macro_rules | `(tactic| tb_rel) => `(tactic| first | exact PcsIn.nil | (refine' PcsIn.one ?mm ?rr; (case mm => k_mem); (case rr => tb_rel)) | (refine' PcsIn.app ?aa ?bb; (case aa => tb_rel); (case bb => tb_rel)) | exact PcsIn.mono (by assumption) (fun q hq => by simp only [List.mem_cons, List.mem_append, hq, true_or, or_true]))
local macro_rules | `(tactic| tb_lt) => `(tactic| (intro p hp; simp only [List.mem_cons, List.mem_append, hp, or_true, true_or]))
local macro_rules | `(tactic| k_lt $h:ident) => `(tactic| (replace $h := allLt_of $h; simp only [AllLt, allLt_app, and_true] at $h:ident))
local macro_rules | `(tactic| walk_at "call builtin:list.append") => `(tactic| ((with_reducible show wpAny _ _ (call (Value.builtin _) [Value.ref _, _]) _ _ _); k_dflt (refine' app_made ?F ?N ?U ?z ?_; (case F => k_asm); (case N => k_asm); (case U => tb_start); (case z => omega)); intro h' F' N'; (try dsimp only at N'); (try k_sweep)))
def lawAt (i : Nat) : Stmt := (bodyOf lawDef).getD i (.Pass ⟨0, 0, 0, 0⟩)
set_option maxRecDepth 100000 in
set_option maxHeartbeats 8000000 in
theorem stage5 (w : World) (p : Program) (loose : List Str) (mean : ExcName → Option Value) (mg mb : Str → Option Value) (h₀ : Heap)
    (T₀ : Top p loose mean mg mb h₀) (X₀ : (hd.heap_39 w.params).In h₀)
    (A : Around) (s : Shared) (L fa : Addr) (cd : Value) (E : Value → Shared → Prop) (base news : Led) (S tA dA sc : Addr) (len t4 : Nat) (ln : Str) (T : List Tk) (D : List Du) (m : Str → Option Value) (bs : List (Str × Value))
    (F : Fr h₀ L s.heap m) (N : News h₀ L s.heap news) (H : LS S tA dA sc len base T D news) (hoff : Off S tA dA base) (hn : Names m bs)
    (hbs : ∀ q ∈ [(Str.ofString "line", Value.str ln t4), (Str.ofString "tokens", .ref tA), (Str.ofString "due", .ref dA)], q ∈ bs)
    (d1 : @Ne Nat tA S) (d2 : @Ne Nat dA S) (d3 : @Ne Nat tA dA) (hz : T.length ≤ 10000) (hln : ln.length ≤ 100000)
    (hd : A.depth + 20 < recursionLimit) (hu : A.units + 200 < cLine) :
    wpAny (model PySem.Challenge.rw_co0042_01.row.prog w) A (exec (lawAt 5) (lawEnv L fa cd)) (fun f s' => Here (f = .next ∧ St3 h₀ L S tA dA sc len [] base [(Str.ofString "line", .str ln t4), (Str.ofString "tokens", .ref tA), (Str.ofString "due", .ref dA)] (T ++ [⟨4, Str.ofString "\n", (ln.length : Int), (ln.length : Int) + 1⟩]) D s s')) E s := by
  revert X₀
  k_fill
  intro X₀
  obtain ⟨stO, tits, tn, dits, dn, R, N₁, ok, PT, PD, hb, ho, r1, r2, r3⟩ := ls_open (own := []) N (by intro p hp; cases hp) H
  have F₂ := names_fr F (hn.sub hbs)
  have htl := PT.length
  clear F N
  dsimp only [lawEnv, lawScope, scopeOf, lawAt, lawDef, PySem.Challenge.pw_co0042_01, bodyOf, List.getD, List.getD_cons_succ, List.getD_cons_zero, List.getElem?_cons_succ, List.getElem?_cons_zero, Option.getD, List.drop_succ_cons, List.drop_zero]
  (try k_fold)
  k_steps
  all_goals (
    rename Fr _ _ _ _ => F8
    rename News _ _ _ _ => N8
    show _ ∧ _
    refine ⟨by first | rfl | trivial, st3_end F8 N8 (by k_mem) ok (by k_mem) (by k_mem) (AllIn.app (TkIn.sub PT (by tb_lt)) (.cons ⟨_, _, _, _, _, _, _, _, _, _, rfl, by k_mem, by k_mem, by k_mem⟩ .nil)) (DuIn.sub PD (by tb_lt)) (fun q hq => by have := hb q hq; simp only [List.mem_cons, this, or_true]) (fun q hq => by cases hq) hoff (Names.cons rfl (Names.cons rfl (Names.cons rfl Names.nil)))⟩)
end Mine
end
theorem Mine.fresh_E2 : True ∧ True := by
  w_top off
  walk1 <;> exact True.intro
section
open PySem PySem.W PySem.Spec PySem.Calls PyProof.Rows
set_option Elab.async false
namespace Mine
local macro_rules | `(tactic| walk_at "call ref") => `(tactic| ((with_reducible show wpAny _ _ (call (Value.ref 69) [_, _]) _ _ _); k_dflt (refine' call_nextL ?a1 ?a3 ?a4 ?a5 ?a6 ?b1 ?b2 ?b3 ?b4 ?a7 ?a8 ?a9 ?a10 ?_; (case a1 => assumption); (case a3 => k_asm); (case a4 => k_asm); (case a5 => tb_start); (case a6 => assumption); (case b1 => k_mem); (case b2 => assumption); (case b3 => assumption); (case b4 => assumption); (case a7 => omega); (case a8 => omega); (case a9 => ktr_room); (case a10 => ktr_units)); intro r' tr' h' tk' stO' F' N' ok' hr0' hr1'; (try dsimp only at N'); (try dsimp only); (try k_sweep)))
local macro_rules | `(tactic| k_units) => `(tactic| ktr_units)
local macro_rules | `(tactic| k_room) => `(tactic| ktr_room)
local macro_rules | `(tactic| k_all) => `(tactic| first | assumption | (refine' List.forall_mem_append.mpr ⟨?a, ?b⟩; (case a => assumption); (case b => k_all)))
local macro_rules | `(tactic| tb_start) => `(tactic| first | (refine' UpdF.head ?a; (case a => k_all)) | (refine' UpdF.tail ?a ?b; (case a => k_ne); (case b => tb_start)) | (refine' UpdF.app ?a ?b; (case a => assumption); (case b => tb_start)))
local macro_rules | `(tactic| walk_at "binaryOp Add ref ref") => `(tactic| ((with_reducible show wpAny _ _ (binaryOp _ (Value.ref _) (Value.ref _)) _ _ _); k_dflt (refine' cat_made ?F ?N ?a ?b ?z ?_; (case F => k_asm); (case N => k_asm); (case a => k_mem); (case b => k_mem); (case z => first | decide | ((try simp only [List.length_append, List.length_cons, List.length_nil]); rw [sizeLine_eq]; omega))); intro D' h' F' N' l1; (try k_lt l1); (try k_sweep)))
local macro_rules | `(tactic| k_mem) => `(tactic| first | (with_reducible refine' mem_r ?_; k_mem) | (with_reducible refine' List.mem_append.mpr (Or.inr ?_); k_mem))
local macro_rules | `(tactic| tb_rel) => `(tactic| first | exact PcsIn.nil | (refine' PcsIn.one ?mm ?rr; (case mm => k_mem); (case rr => tb_rel)) | (refine' PcsIn.app ?aa ?bb; (case aa => tb_rel); (case bb => tb_rel)) | exact PcsIn.mono (by assumption) (fun q hq => by simp only [List.mem_cons, List.mem_append, hq, true_or, or_true]))
local macro_rules | `(tactic| tb_lt) => `(tactic| (intro p hp; simp only [List.mem_cons, List.mem_append, hp, or_true, true_or]))
local macro_rules | `(tactic| k_lt $h:ident) => `(tactic| (replace $h := allLt_of $h; simp only [AllLt, allLt_app, and_true] at $h:ident))
local macro_rules | `(tactic| walk_at "call builtin:list.append") => `(tactic| ((with_reducible show wpAny _ _ (call (Value.builtin _) [Value.ref _, _]) _ _ _); k_dflt (refine' app_made ?F ?N ?U ?z ?_; (case F => k_asm); (case N => k_asm); (case U => tb_start); (case z => omega)); intro h' F' N'; (try dsimp only at N'); (try k_sweep)))
local macro_rules | `(tactic| walk_at "call ref") => `(tactic| refine here_ ?_)
local macro_rules | `(tactic| walk_at "compareOp Eq ref ref") => `(tactic| refine here_ ?_)
abbrev duDat (d : Du) : Dat := .tuple [.tuple [.int 1, .int d.c], .str d.msg]
theorem duIn_dat {news : Led} {vs : List Value} {D : List Du} (h : AllIn (DuIn news) vs D) : DatAll news vs (D.map duDat) := by
  induction h with
  | nil => exact .nil
  | cons r _ ih =>
    obtain ⟨t, q, b, b1, b2, rfl, m1, m2⟩ := r
    exact .cons (.tuple m1 (.cons (.tuple m2 (.cons (.int _ _) (.cons (.int _ _) .nil))) (.cons (.str _ _) .nil))) ih
theorem duS_dat {h₀ h : Heap} {L S : Addr} {vs : List Value} {D : List Du} (H : AllIn (DuS h₀ L S h) vs D) : ∃ n₁ : Led, News h₀ L h n₁ ∧ DatAll n₁ vs (D.map duDat) := by
  induction H with
  | nil => exact ⟨[], (fun _ hp => nomatch hp), .nil⟩
  | @cons v d vs ks r _ ih =>
    obtain ⟨n₁, N, dd⟩ := ih
    obtain ⟨t, q, b, b1, b2, rfl, _, _, h1, h2⟩ := r
    refine ⟨(t, tup [.ref q, .str d.msg b]) :: (q, tup [.int 1 b1, .int d.c b2]) :: n₁, fun p hp => ?_, .cons (.tuple (.head _) (.cons (.tuple (.tail _ (.head _)) (.cons (.int _ _) (.cons (.int _ _) .nil))) (.cons (.str _ _) .nil))) (DatAll.mono (fun p hp => .tail _ (.tail _ hp)) dd)⟩
    rcases List.mem_cons.mp hp with rfl | hp
    · exact h1
    rcases List.mem_cons.mp hp with rfl | hp
    · exact h2
    · exact N p hp
theorem du_ok {D : List Du} (h : ∀ d ∈ D, PyData.strOk d.msg = true) : ∀ d ∈ D.map duDat, kqdOk 8 d = true := by
  intro d hd
  obtain ⟨x, hx, rfl⟩ := List.mem_map.mp hd
  have := h x hx
  simp [duDat, kqdOk, this]
theorem run_msg {ps : List Pc} {a : Acc} (R : Run ps a) : ∀ d ∈ a.D, PyData.strOk d.msg = true := by
  have one : ∀ u b c, ∀ d ∈ duesOf u b c, PyData.strOk d.msg = true := fun u b c d hd => by
    unfold duesOf at hd
    rcases List.mem_append.mp hd with hd | hd
    · split at hd
      · rw [List.mem_singleton.mp hd]; show PyData.strOk m251 = true; decide +kernel
      · cases hd
    · split at hd
      · rw [List.mem_singleton.mp hd]; show PyData.strOk m252 = true; decide +kernel
      · cases hd
  induction R with
  | nil => intro d hd; cases hd
  | snoc _ _ _ ih =>
    intro d hd
    rcases List.mem_append.mp hd with hd | hd
    · rcases List.mem_append.mp hd with hd | hd
      · exact ih d hd
      · exact one _ _ _ d hd
    · exact one _ _ _ d hd
set_option maxRecDepth 100000 in
set_option maxHeartbeats 8000000 in
theorem stage6 (w : World) (p : Program) (loose : List Str) (mean : ExcName → Option Value) (mg mb : Str → Option Value) (h₀ : Heap)
    (T₀ : Top p loose mean mg mb h₀) (X₀ : (hd.heap_39 w.params).In h₀)
    (A : Around) (s : Shared) (L fa : Addr) (cd : Value) (base news : Led) (S tA dA sc : Addr) (len t4 : Nat) (ln : Str) (T : List Tk) (D : List Du) (m : Str → Option Value) (bs : List (Str × Value)) (ind : Bool)
    (F : Fr h₀ L s.heap m) (N : News h₀ L s.heap news) (H : LS S tA dA sc len base T D news) (hn : Names m bs)
    (hbs : ∀ q ∈ [(Str.ofString "line", Value.str ln t4), (Str.ofString "tokens", .ref tA), (Str.ofString "due", .ref dA)], q ∈ bs)
    (h62 : ∀ t ∈ T, t.n ≠ 62) (hz : T.length ≤ 400) (hzD : D.length ≤ 10000) (hln : ln.length ≤ 100000) (hms : ∀ d ∈ D, PyData.strOk d.msg = true) (hH : Heads ind ln) (hlaw : genYs ind ⟨[], false⟩ (Str.ofString "") 0 T = D)
    (hh : A.handled = none) (hd : A.depth + 24 < recursionLimit) (hu : A.units + 220 < cLine) :
    wpAny (model PySem.Challenge.rw_co0042_01.row.prog w) A (exec (lawAt 6) (lawEnv L fa cd)) (fun f s' => Here (f = .ret (.bool true) ∧ ∃ h tk m' c, s' = { s with gens := (s.gens.push (.fresh c)).setIfInBounds s.gens.size .finished, heap := h, toks := tk } ∧ Fr h₀ L h m')) (fun _ _ => False) s := by
  have X₁ := X₀
  revert X₀
  k_fill
  intro X₀
  obtain ⟨stO, tits, tn, dits, dn, R, N₁, ok, PT, PD, hb, ho, r1, r2, r3⟩ := ls_open (own := []) N (by intro p hp; cases hp) H
  have F₂ := names_fr F (hn.sub hbs)
  have htl := PT.length
  dsimp only [lawEnv, lawScope, scopeOf, lawAt, lawDef, PySem.Challenge.pw_co0042_01, bodyOf, List.getD, List.getD_cons_succ, List.getD_cons_zero, List.getElem?_cons_succ, List.getElem?_cons_zero, Option.getD, List.drop_succ_cons, List.drop_zero]
  (try k_fold)
  clear F N
  k_steps
  show wpAny _ _ _ _ _ _
  have F₃ := F₂
  rw [bindL_eq (hn.sub hbs)] at F₃
  refine gen_make w _ _ _ _ _ A s ln t4 tA _ _ (T₀.keeps F₃.keep) (X₁.keeps F₃.keep) (by omega) fun cd' h₁ gO qn t0' ta tb tk hns hk hg => ?_
  have hk2 : ∀ b o, s.heap.get? b = some o → (h₁.push gO).get? b = some o := fun b o e => Heap.get?_push_of_some _ (hk b o e)
  have F₄ := F₂.keeps hk2
  have N₄ : News h₀ L (h₁.push gO) ((S, stO) :: (tA, lst tits tn) :: (dA, lst dits dn) :: R) := fun q hq => ⟨hk2 _ _ (N₁ q hq).1, (N₁ q hq).2⟩
  have ltG : @LT.lt Nat _ s.heap.objs.size h₁.objs.size := hns.lt
  have ab := F₃.above
  have ltL := F₃.ns.lt
  have FG : Fr h₀ s.heap.objs.size (h₁.push gO) (fun y => ([(Str.ofString "logical_line", .str ln t4), (Str.ofString "tokens", .ref tA)] : List (Str × Value)).reverse.lookup y) := by
    obtain ⟨oL, a1, a2, hL, a3⟩ := hns
    exact ⟨⟨oL, a1, a2, Heap.get?_push_of_some _ hL, a3⟩, fun b o e => hk2 b o (F₃.keep b o e), Nat.le_trans ab (Nat.le_of_lt ltL)⟩
  have gG : (h₁.push gO).IsGen h₁.objs.size s.gens.size := ⟨gO, _, _, Heap.get?_push_size _ (by rw [hg]; rfl), by rw [hg], by rw [hg], by rw [hg]⟩
  clear F₂
  k_steps
  show wpAny _ _ _ _ _ _
  obtain ⟨l, r, k1, k2, e1, e2, e3, e4, e5, e6⟩ := hH
  have hlr : (l ++ r).length = ln.length := by
    show _ = ln.cps.size
    rw [e1]; exact List.size_toArray.symm
  refine gen_list w p loose mean mg mb h₀ T₀ X₁ A s.heap.objs.size h₁.objs.size 62 tA cd' ((tA, lst tits tn) :: R) ind s.gens.size _ _ _ hh hd hu _ ln t4 tits tn T l r FG (Names.cons rfl (Names.cons rfl Names.nil)) (Nat.ne_of_gt ltG) gG Array.getElem?_push_size
    (fun q hq => ?_) (.head _) (TkIn.sub PT fun q hq => .tail _ hq) h62 hz e1 (by rw [hlr]; omega) k1 k2 e2 e3 e4 e5 e6 (by rw [hlaw, sizeLine_eq]; omega) fun S' vs' c' h' tk' kp kp0 hS' hSn hS0 hAll => ?_
  · have hm : q ∈ (S, stO) :: (tA, lst tits tn) :: (dA, lst dits dn) :: R := by
      rcases List.mem_cons.mp hq with rfl | hq
      · exact .tail _ (.head _)
      · exact .tail _ (.tail _ (.tail _ hq))
    exact ⟨(N₄ q hm).1, Nat.ne_of_lt (Heap.lt_size (N₁ q hm).1), (N₄ q hm).2.2⟩
  rw [hlaw] at hAll
  have up : ∀ b o, s.heap.get? b = some o → h'.get? b = some o := fun b o e => kp b o (Nat.ne_of_lt (Heap.lt_size e)) (hk2 b o e)
  have F₅ := F₃.keeps up
  have F₆ := names_fr F₅ (hn.sub hbs)
  have N₅ : News h₀ L h' ((S, stO) :: (tA, lst tits tn) :: (dA, lst dits dn) :: R) := fun q hq => ⟨up _ _ (N₁ q hq).1, (N₁ q hq).2⟩
  clear F₄ N₄ F₅
  k_steps
  show wpAny _ _ _ _ _ _
  obtain ⟨n₁, M1, dd⟩ := duS_dat hAll
  have M2 : News h₀ s.heap.objs.size h' ((S', lst vs' c') :: (dA, lst dits dn) :: (n₁ ++ R)) := fun q hq => by
    have old : ∀ x, x ∈ (S, stO) :: (tA, lst tits tn) :: (dA, lst dits dn) :: R → h'.get? x.1 = some x.2 ∧ x.1 ≠ s.heap.objs.size ∧ h₀.get? x.1 = none := fun x hx => ⟨up _ _ (N₁ x hx).1, Nat.ne_of_lt (Heap.lt_size (N₁ x hx).1), (N₁ x hx).2.2⟩
    rcases List.mem_cons.mp hq with rfl | hq
    · refine ⟨hS', fun e => ?_, hS0⟩
      have e : S' = s.heap.objs.size := e
      rw [e] at hSn
      obtain ⟨oL, _, _, hL, _⟩ := FG.ns
      rw [hL] at hSn; cases hSn
    rcases List.mem_cons.mp hq with rfl | hq
    · exact old _ (.tail _ (.tail _ (.head _)))
    rcases List.mem_append.mp hq with hq | hq
    · exact M1 q hq
    · exact old _ (.tail _ (.tail _ (.tail _ hq)))
  refine kqd_eq M2 (.head _) rfl rfl dd (fun q hq => .tail _ (.tail _ (List.mem_append_left _ hq))) (.tail _ (.head _)) rfl rfl (duIn_dat PD) (fun q hq => .tail _ (.tail _ (List.mem_append_right _ hq))) (du_ok hms) (du_ok hms) (by ktr_units) ?_
  show _ ∧ _
  exact ⟨congrArg (fun b => Flow.ret (Value.bool b)) (@decide_eq_true (D.map duDat = D.map duDat) (_) rfl), _, _, _, _, rfl, F₆⟩
end Mine
end
theorem Mine.fresh_Mid : True ∧ True := by
  w_top off
  walk1 <;> exact True.intro
section
open PySem PySem.W PySem.Spec PySem.Calls PyProof.Rows
set_option Elab.async false
namespace Mine
def MidP (ps : List Pc) (ind : Bool) : Prop :=
  okG ind ⟨[], false⟩ ps ∧ AllPW ps ∧ ps.length ≤ 399 ∧ (∃ qs q, ps = qs ++ [q] ∧ q.wt = Str.ofString "") ∧
    ((ind = true ∧ ∃ qs, ps = nm (Str.ofString "def") :: nm (Str.ofString "f") :: op (Str.ofString "(") :: qs) ∨ (ind = true ∧ ∃ qs, ps = nm (Str.ofString "async") :: nm (Str.ofString "def") :: nm (Str.ofString "f") :: op (Str.ofString "(") :: qs) ∨ (ind = false ∧ ∃ qs, ps = nm (Str.ofString "x") :: qs))
theorem s_colon0 {d : Bool} {u : Str} : stepG d ⟨[], false⟩ ⟨54, Str.ofString ":", u⟩ = ⟨[], false⟩ := by
  simp [stepG, step0, close0, o6, c6, n6]
theorem s_eq0 {d : Bool} {u : Str} : stepG d ⟨[], false⟩ ⟨54, Str.ofString "=", u⟩ = ⟨[], false⟩ := by
  simp [stepG, step0, close0, o7, c7, n2, n3]
theorem w_eq0 {u : Str} : wantOf ⟨[], false⟩ ⟨54, Str.ofString "=", u⟩ = Str.ofString "" := if_neg fun q => by
  have := of_decide_eq_true q.2; exact this.1 rfl
theorem one54 : (1 : Int) ≠ 54 := by decide
theorem head_ok {d : Bool} {qs : List Pc} (h : okG d ⟨[Str.ofString "("], false⟩ qs) : okG d ⟨[], false⟩ (nm (Str.ofString "def") :: nm (Str.ofString "f") :: op (Str.ofString "(") :: qs) := by
  simp only [okG_cons, s_nm one54, w_nm one54, w_op e1, s_open o1, List.nil_append, true_and]
  exact h
theorem tail_ok {qs : List Pc} {ann : Bool} (h : okG true ⟨[Str.ofString "("], false⟩ qs) (a : after true ⟨[Str.ofString "("], false⟩ qs = ⟨[Str.ofString "("], ann⟩) : okG true ⟨[Str.ofString "("], false⟩ (qs ++ [op (Str.ofString ")"), op (Str.ofString ":")]) := by
  refine okG_append h ?_
  rw [a]
  simp only [okG_cons, s_close1 o3 c3, w_op e3, w_op e6, s_colon0, true_and]
  trivial
theorem pw1 : PW (nm (Str.ofString "def")) := pw_ (by decide) (by decide +kernel)
theorem pw2 : PW (nm (Str.ofString "f")) := pw_ (by decide) (by decide +kernel)
theorem pw3 : PW (op (Str.ofString "(")) := pw_ (by decide) (by decide +kernel)
theorem pw4 : PW (op (Str.ofString ")")) := pw_ (by decide) (by decide +kernel)
theorem pw5 : PW (op (Str.ofString ":")) := pw_ (by decide) (by decide +kernel)
theorem pw6 : PW (nm (Str.ofString "async")) := pw_ (by decide) (by decide +kernel)
theorem pw7 : PW (nm (Str.ofString "x")) := pw_ (by decide) (by decide +kernel)
theorem pw8 : PW (op (Str.ofString "=")) := pw_ (by decide) (by decide +kernel)
theorem mid_def {qs : List Pc} (h : ∃ ann, PPa qs ann) (l : qs.length ≤ 148) : MidP ([nm (Str.ofString "def"), nm (Str.ofString "f"), op (Str.ofString "(")] ++ qs ++ [op (Str.ofString ")"), op (Str.ofString ":")]) true := by
  obtain ⟨ann, h1, h2, h3⟩ := h
  refine ⟨head_ok (tail_ok h2 h3), allPW_append (allPW_append ⟨pw1, pw2, pw3, trivial⟩ h1) ⟨pw4, pw5, trivial⟩, by simp; omega, ⟨[nm (Str.ofString "def"), nm (Str.ofString "f"), op (Str.ofString "(")] ++ qs ++ [op (Str.ofString ")")], op (Str.ofString ":"), by simp, rfl⟩, .inl ⟨rfl, qs ++ [op (Str.ofString ")"), op (Str.ofString ":")], rfl⟩⟩
theorem mid_async {qs : List Pc} (h : ∃ ann, PPa qs ann) (l : qs.length ≤ 148) : MidP ([nm (Str.ofString "async")] ++ [nm (Str.ofString "def"), nm (Str.ofString "f"), op (Str.ofString "(")] ++ qs ++ [op (Str.ofString ")"), op (Str.ofString ":")]) true := by
  obtain ⟨ann, h1, h2, h3⟩ := h
  refine ⟨⟨(w_nm one54).symm, ?_⟩, allPW_append (allPW_append ⟨pw6, pw1, pw2, pw3, trivial⟩ h1) ⟨pw4, pw5, trivial⟩, by simp; omega, ⟨[nm (Str.ofString "async")] ++ [nm (Str.ofString "def"), nm (Str.ofString "f"), op (Str.ofString "(")] ++ qs ++ [op (Str.ofString ")")], op (Str.ofString ":"), by simp, rfl⟩, .inr (.inl ⟨rfl, qs ++ [op (Str.ofString ")"), op (Str.ofString ":")], rfl⟩)⟩
  rw [s_nm one54]
  exact head_ok (tail_ok h2 h3)
theorem mid_x {qs : List Pc} (h : GA qs) (l : qs.length ≤ 394) : MidP ([nm (Str.ofString "x"), op (Str.ofString "="), nm (Str.ofString "f"), op (Str.ofString "(")] ++ qs ++ [op (Str.ofString ")")]) false := by
  obtain ⟨h1, h2⟩ := h
  obtain ⟨k1, k2⟩ := h2 false [Str.ofString "("] false (.inr ⟨by simp, rfl⟩)
  refine ⟨?_, allPW_append (allPW_append ⟨pw7, pw8, pw2, pw3, trivial⟩ h1) ⟨pw4, trivial⟩, by simp; omega, ⟨[nm (Str.ofString "x"), op (Str.ofString "="), nm (Str.ofString "f"), op (Str.ofString "(")] ++ qs, op (Str.ofString ")"), by simp, rfl⟩, .inr (.inr ⟨rfl, op (Str.ofString "=") :: nm (Str.ofString "f") :: op (Str.ofString "(") :: (qs ++ [op (Str.ofString ")")]), rfl⟩)⟩
  show okG false _ (nm (Str.ofString "x") :: op (Str.ofString "=") :: nm (Str.ofString "f") :: op (Str.ofString "(") :: (qs ++ [op (Str.ofString ")")]))
  simp only [okG_cons, s_nm one54, w_nm one54, w_op e1, s_open o1, s_eq0, w_eq0, List.nil_append, true_and]
  refine okG_append k1 ?_
  rw [k2]
  simp only [okG_cons, s_close1 o3 c3, w_op e3, true_and]
  trivial
theorem lw2 : LW 2 ≤ 390 := by decide
end Mine
end
theorem Mine.fresh_H0 : True ∧ True := by
  w_top off
  walk1 <;> exact True.intro
section
open PySem PySem.W PySem.Spec PySem.Calls PyProof.Rows
set_option Elab.async false
namespace Mine
local macro_rules | `(tactic| walk_at "call ref") => `(tactic| ((with_reducible show wpAny _ _ (call (Value.ref 69) [_, _]) _ _ _); k_dflt (refine' call_nextL ?a1 ?a3 ?a4 ?a5 ?a6 ?b1 ?b2 ?b3 ?b4 ?a7 ?a8 ?a9 ?a10 ?_; (case a1 => assumption); (case a3 => k_asm); (case a4 => k_asm); (case a5 => tb_start); (case a6 => assumption); (case b1 => k_mem); (case b2 => assumption); (case b3 => assumption); (case b4 => assumption); (case a7 => omega); (case a8 => omega); (case a9 => ktr_room); (case a10 => ktr_units)); intro r' tr' h' tk' stO' F' N' ok' hr0' hr1'; (try dsimp only at N'); (try dsimp only); (try k_sweep)))
local macro_rules | `(tactic| k_units) => `(tactic| ktr_units)
local macro_rules | `(tactic| k_room) => `(tactic| ktr_room)
local macro_rules | `(tactic| k_all) => `(tactic| first | assumption | (refine' List.forall_mem_append.mpr ⟨?a, ?b⟩; (case a => assumption); (case b => k_all)))
local macro_rules | `(tactic| tb_start) => `(tactic| first | (refine' UpdF.head ?a; (case a => k_all)) | (refine' UpdF.tail ?a ?b; (case a => k_ne); (case b => tb_start)) | (refine' UpdF.app ?a ?b; (case a => assumption); (case b => tb_start)))
local macro_rules | `(tactic| walk_at "binaryOp Add ref ref") => `(tactic| ((with_reducible show wpAny _ _ (binaryOp _ (Value.ref _) (Value.ref _)) _ _ _); k_dflt (refine' cat_made ?F ?N ?a ?b ?z ?_; (case F => k_asm); (case N => k_asm); (case a => k_mem); (case b => k_mem); (case z => first | decide | ((try simp only [List.length_append, List.length_cons, List.length_nil]); rw [sizeLine_eq]; omega))); intro D' h' F' N' l1; (try k_lt l1); (try k_sweep)))
local macro_rules | `(tactic| k_mem) => `(tactic| first | (with_reducible refine' mem_r ?_; k_mem) | (with_reducible refine' List.mem_append.mpr (Or.inr ?_); k_mem))
local macro_rules | `(tactic| tb_rel) => `(tactic| first | exact PcsIn.nil | (refine' PcsIn.one ?mm ?rr; (case mm => k_mem); (case rr => tb_rel)) | (refine' PcsIn.app ?aa ?bb; (case aa => tb_rel); (case bb => tb_rel)) | exact PcsIn.mono (by assumption) (fun q hq => by simp only [List.mem_cons, List.mem_append, hq, true_or, or_true]))
local macro_rules | `(tactic| tb_lt) => `(tactic| (intro p hp; simp only [List.mem_cons, List.mem_append, hp, or_true, true_or]))
local macro_rules | `(tactic| k_lt $h:ident) => `(tactic| (replace $h := allLt_of $h; simp only [AllLt, allLt_app, and_true] at $h:ident))
local macro_rules | `(tactic| walk_at "call builtin:list.append") => `(tactic| ((with_reducible show wpAny _ _ (call (Value.builtin _) [Value.ref _, _]) _ _ _); k_dflt (refine' app_made ?F ?N ?U ?z ?_; (case F => k_asm); (case N => k_asm); (case U => tb_start); (case z => omega)); intro h' F' N'; (try dsimp only at N'); (try k_sweep)))
local macro_rules | `(tactic| walk_at "call ref") => `(tactic| refine here_ ?_)
set_option maxRecDepth 100000 in
set_option maxHeartbeats 8000000 in
theorem stage01 (w : World) (p : Program) (loose : List Str) (mean : ExcName → Option Value) (mg mb : Str → Option Value) (h₀ : Heap)
    (T₀ : Top p loose mean mg mb h₀) (X₀ : (hd.heap_39 w.params).In h₀) (NX : NextOk w h₀)
    (A : Around) (s : Shared) (Q : Flow → Shared → Prop) (E : Value → Shared → Prop) (rest : List Stmt) (L fa : Addr) (cd : Value) (l : Addr) (vs : List Value) (ns : List Int) (m : Str → Option Value)
    (F : Fr h₀ L s.heap m) (hL : h₀.IsList l vs.toArray) (hI : IntsAre vs ns) (hz : ¬ (63 : Int) < (ns.length : Int))
    (hn : Names m [(Str.ofString "script", .ref l)])
    (hh : A.handled = none) (hd : A.depth + 60 < recursionLimit) (hu : A.units + 500 < cLine)
    (K : ∀ h' tk' m' S sc stO kk vs' ns' r tr, Fr h₀ L h' m' → News h₀ L h' [(S, stO), (sc, lst vs' kk)] → StOk sc ns'.length stO → sc ≠ S → IntsAre vs' ns' → ns'.length ≤ 50 → 0 ≤ r → r < 3 → Names m' [(Str.ofString "state", .ref S), (Str.ofString "kind", .int r tr)] → wpAny (model PySem.Challenge.rw_co0042_01.row.prog w) A (execs rest (lawEnv L fa cd)) Q E { s with heap := h', toks := tk' }) :
    wpAny (model PySem.Challenge.rw_co0042_01.row.prog w) A (execs (lawAt 0 :: lawAt 1 :: rest) (lawEnv L fa cd)) Q E s := by
  have X₁ := X₀
  revert X₀
  k_fill
  intro X₀
  have F₂ := names_fr F hn
  have N : News h₀ L s.heap [] := News.nil
  clear F
  dsimp only [lawEnv, lawScope, scopeOf, lawAt, lawDef, PySem.Challenge.pw_co0042_01, bodyOf, List.getD, List.getD_cons_succ, List.getD_cons_zero, List.getElem?_cons_succ, List.getElem?_cons_zero, Option.getD, List.drop_succ_cons, List.drop_zero]
  (try k_fold)
  k_steps
  show wpAny _ _ _ _ _ _
  rename IntsAre _ (List.take 50 ns) => hI5
  have hl5 : (List.take 50 ns).length ≤ 50 := by rw [List.length_take]; omega
  rename News _ _ _ _ => N4
  rename Fr _ _ _ _ => F4
  have n45 := (N4 _ (.head _)).1
  refine call_nextL (k := 0) NX F4 N4 (UpdF.head fun q hq => ?_) ⟨0, 17, _, _, 0, rfl, by omega, by omega, by omega, by omega⟩ (.tail _ (.head _)) ?_ hI5 hl5 (by decide) (by decide) (by omega) (by omega) fun r' tr' h' tk' stO' F' N' ok' h0' h1' => ?_
  · rw [List.mem_singleton.mp hq]
    k_ne
  · k_ne
  clear F4 N4
  k_steps
  rename News _ _ _ _ => N6
  rename Fr _ _ _ _ => F6
  exact K _ _ _ _ _ _ _ _ _ _ _ F6 N6 ok' (by k_ne) hI5 hl5 h0' h1' (Names.cons (by with_unfolding_all rfl) (Names.cons (by with_unfolding_all rfl) Names.nil))
local macro_rules | `(tactic| walk_at "unpackItems ref") => `(tactic| (k_dflt (refine' unpackItemsN_ ?k1 ?k2 ?k3 ?k4 ?k5 ?_; (case k1 => k_asm); (case k2 => k_asm); (case k3 => kun_tup); (case k4 => assumption); (case k5 => exact rfl)); intro h' F' N'; (try k_sweep)))
theorem st3_names {h₀ : Heap} {L S tA dA sc : Addr} {len : Nat} {own base : Led} {bs bs' : List (Str × Value)} {T : List Tk} {D : List Du} {s s' : Shared} (H : St3 h₀ L S tA dA sc len own base bs T D s s') (k : ∀ b ∈ bs', b ∈ bs) : St3 h₀ L S tA dA sc len own base bs' T D s s' := by
  obtain ⟨h', tk', m', news', e, F, N, H, ho, hn⟩ := H
  exact ⟨h', tk', m', news', e, F, N, H, ho, hn.sub k⟩
set_option maxRecDepth 100000 in
set_option maxHeartbeats 8000000 in
theorem stage3L (w : World) (p : Program) (loose : List Str) (mean : ExcName → Option Value) (mg mb : Str → Option Value) (h₀ : Heap)
    (T₀ : Top p loose mean mg mb h₀) (X₀ : (hd.heap_39 w.params).In h₀)
    (A : Around) (s : Shared) (L fa : Addr) (cd : Value) (S sc pA : Addr) (kk n : Nat) (vs its : List Value) (ns : List Int) (ps : List Pc) (stO : Obj) (m : Str → Option Value) (big : Led)
    (F : Fr h₀ L s.heap m) (N : News h₀ L s.heap big) (hS : (S, stO) ∈ big) (ok : StOk sc ns.length stO) (hsc : (sc, lst vs kk) ∈ big) (hp : (pA, lst its n) ∈ big) (pS : @Ne Nat pA S) (sS : @Ne Nat sc S) (hP : PcsIn big its ps)
    (hn : Names m [(Str.ofString "pieces", .ref pA), (Str.ofString "state", .ref S)])
    (hh : A.handled = none) (hd : A.depth + 60 < recursionLimit) (hu : A.units + 500 < cLine) :
    wpAny (model PySem.Challenge.rw_co0042_01.row.prog w) A (exec (lawAt 3) (lawEnv L fa cd)) (fun f s' => Here (f = .next ∧ ∃ h' tk' m' tA dA t4 big', s' = { s with heap := h', toks := tk' } ∧ Fr h₀ L h' m' ∧ News h₀ L h' ((tA, lst [] 0) :: (dA, lst [] 0) :: big) ∧ big' = big ∧ (∀ q ∈ big, @LT.lt Nat _ q.1 tA) ∧ (∀ q ∈ big, @LT.lt Nat _ q.1 dA) ∧ @Ne Nat tA dA ∧ Names m' [(Str.ofString "line", .str (Str.ofString "") t4), (Str.ofString "tokens", .ref tA), (Str.ofString "due", .ref dA), (Str.ofString "pieces", .ref pA), (Str.ofString "state", .ref S)])) (fun _ _ => False) s := by
  have X₁ := X₀
  revert X₀
  k_fill
  intro X₀
  have F₂ := names_fr F hn
  clear F
  dsimp only [lawEnv, lawScope, scopeOf, lawAt, lawDef, PySem.Challenge.pw_co0042_01, bodyOf, List.getD, List.getD_cons_succ, List.getD_cons_zero, List.getElem?_cons_succ, List.getElem?_cons_zero, Option.getD, List.drop_succ_cons, List.drop_zero]
  (try k_fold)
  k_steps
  rename_i lt1 dA' hA' l2 D3 h4 l3 x3 x2 x1 x0 F9 N9
  show _ ∧ _
  refine ⟨trivial, _, _, _, _, dA', _, big, rfl, F9, fun q hq => ?_, rfl, lt1, fun q hq => Nat.lt_trans (lt1 q hq) l2.1, Nat.ne_of_lt l2.1, Names.cons rfl (Names.cons rfl (Names.cons rfl (Names.cons rfl (Names.cons rfl Names.nil))))⟩
  rcases List.mem_cons.mp hq with rfl | hq
  · exact N9 _ (.tail _ (.tail _ (.head _)))
  rcases List.mem_cons.mp hq with rfl | hq
  · exact N9 _ (.tail _ (.head _))
  · exact N9 _ (.tail _ (.tail _ (.tail _ hq)))
end Mine
end
theorem Mine.fresh_H1 : True ∧ True := by
  w_top off
  walk1 <;> exact True.intro
section
open PySem PySem.W PySem.Spec PySem.Calls PyProof.Rows
set_option Elab.async false
namespace Mine
local macro_rules | `(tactic| walk_at "call ref") => `(tactic| ((with_reducible show wpAny _ _ (call (Value.ref 69) [_, _]) _ _ _); k_dflt (refine' call_nextL ?a1 ?a3 ?a4 ?a5 ?a6 ?b1 ?b2 ?b3 ?b4 ?a7 ?a8 ?a9 ?a10 ?_; (case a1 => assumption); (case a3 => k_asm); (case a4 => k_asm); (case a5 => tb_start); (case a6 => assumption); (case b1 => k_mem); (case b2 => assumption); (case b3 => assumption); (case b4 => assumption); (case a7 => omega); (case a8 => omega); (case a9 => ktr_room); (case a10 => ktr_units)); intro r' tr' h' tk' stO' F' N' ok' hr0' hr1'; (try dsimp only at N'); (try dsimp only); (try k_sweep)))
local macro_rules | `(tactic| k_units) => `(tactic| ktr_units)
local macro_rules | `(tactic| k_room) => `(tactic| ktr_room)
local macro_rules | `(tactic| k_all) => `(tactic| first | assumption | (refine' List.forall_mem_append.mpr ⟨?a, ?b⟩; (case a => assumption); (case b => k_all)))
local macro_rules | `(tactic| tb_start) => `(tactic| first | (refine' UpdF.head ?a; (case a => k_all)) | (refine' UpdF.tail ?a ?b; (case a => k_ne); (case b => tb_start)) | (refine' UpdF.app ?a ?b; (case a => assumption); (case b => tb_start)))
local macro_rules | `(tactic| walk_at "binaryOp Add ref ref") => `(tactic| ((with_reducible show wpAny _ _ (binaryOp _ (Value.ref _) (Value.ref _)) _ _ _); k_dflt (refine' cat_made ?F ?N ?a ?b ?z ?_; (case F => k_asm); (case N => k_asm); (case a => k_mem); (case b => k_mem); (case z => first | decide | ((try simp only [List.length_append, List.length_cons, List.length_nil]); rw [sizeLine_eq]; omega))); intro D' h' F' N' l1; (try k_lt l1); (try k_sweep)))
local macro_rules | `(tactic| k_mem) => `(tactic| first | (with_reducible refine' mem_r ?_; k_mem) | (with_reducible refine' List.mem_append.mpr (Or.inr ?_); k_mem))
local macro_rules | `(tactic| tb_rel) => `(tactic| first | exact PcsIn.nil | (refine' PcsIn.one ?mm ?rr; (case mm => k_mem); (case rr => tb_rel)) | (refine' PcsIn.app ?aa ?bb; (case aa => tb_rel); (case bb => tb_rel)) | exact PcsIn.mono (by assumption) (fun q hq => by simp only [List.mem_cons, List.mem_append, hq, true_or, or_true]))
local macro_rules | `(tactic| tb_lt) => `(tactic| (intro p hp; simp only [List.mem_cons, List.mem_append, hp, or_true, true_or]))
local macro_rules | `(tactic| k_lt $h:ident) => `(tactic| (replace $h := allLt_of $h; simp only [AllLt, allLt_app, and_true] at $h:ident))
local macro_rules | `(tactic| walk_at "call builtin:list.append") => `(tactic| ((with_reducible show wpAny _ _ (call (Value.builtin _) [Value.ref _, _]) _ _ _); k_dflt (refine' app_made ?F ?N ?U ?z ?_; (case F => k_asm); (case N => k_asm); (case U => tb_start); (case z => omega)); intro h' F' N'; (try dsimp only at N'); (try k_sweep)))
section
variable {w : World} {A : Around} {Q E : Value → Shared → Prop} {s : Shared} {g : Heap} {S sc L : Addr} {vs : List Value} {ns : List Int} {stO : Obj} {m : Str → Option Value} {news : Led} {f : Obj → Led} {k : Nat}
theorem call_wordsL {td : Nat} (WK : WordsOk w g 2) (F : Fr g L s.heap m) (N : News g L s.heap news) (U : UpdF S stO news f) (ok : StOk sc ns.length stO) (hsc : (sc, lst vs k) ∈ news) (sS : sc ≠ S) (hI : IntsAre vs ns) (hL : ns.length ≤ 50)
    (hd : A.depth + 60 < recursionLimit) (hu : A.units + 500 < cLine) (hh : A.handled = none)
    (ret : ∀ r h' tk' stO' its n ps seg, Fr g L h' m → News g L h' ((r, lst its n) :: (seg ++ f stO')) → StOk sc ns.length stO' → @Ne Nat r S → (∀ p ∈ seg, p.1 ≠ S) → PcsIn seg its ps → its.length = ps.length → GA ps → ps.length ≤ LW 2 → Q (.ref r) { s with heap := h', toks := tk' }) :
    wpAny (model PySem.Challenge.rw_co0042_01.row.prog w) A (call (.ref 83) [.ref S, .int 2 td]) Q E s :=
  WK A s S sc vs ns stO 2 td Q E ⟨F.keep, (N _ U.mem).2.2, (N _ U.mem).1, ⟨_, (N _ hsc).1, rfl, k, rfl⟩, sS, hI, hL, ok⟩ rfl (by omega) (by omega) hh fun r h' tk' D => by
    obtain ⟨stO', its, n, ps, seg, a1, a2, a3, a4, a5, a6, a7, a8, a9⟩ := back_gives F N U D
    exact ret r h' tk' stO' its n ps seg a1 a2 a3 a4 a5 a6 a7 a8 a9
theorem call_paramsL (WK : ParamsOk w g) (F : Fr g L s.heap m) (N : News g L s.heap news) (U : UpdF S stO news f) (ok : StOk sc ns.length stO) (hsc : (sc, lst vs k) ∈ news) (sS : sc ≠ S) (hI : IntsAre vs ns) (hL : ns.length ≤ 50)
    (hd : A.depth + 60 < recursionLimit) (hu : A.units + 500 < cLine) (hh : A.handled = none)
    (ret : ∀ r h' tk' stO' its n ps seg, Fr g L h' m → News g L h' ((r, lst its n) :: (seg ++ f stO')) → StOk sc ns.length stO' → @Ne Nat r S → (∀ p ∈ seg, p.1 ≠ S) → PcsIn seg its ps → its.length = ps.length → (∃ ann, PPa ps ann) → ps.length ≤ 148 → Q (.ref r) { s with heap := h', toks := tk' }) :
    wpAny (model PySem.Challenge.rw_co0042_01.row.prog w) A (call (.ref 90) [.ref S]) Q E s :=
  WK A s S sc vs ns stO Q E ⟨F.keep, (N _ U.mem).2.2, (N _ U.mem).1, ⟨_, (N _ hsc).1, rfl, k, rfl⟩, sS, hI, hL, ok⟩ hd hu hh fun r h' tk' D => by
    obtain ⟨stO', its, n, ps, seg, a1, a2, a3, a4, a5, a6, a7, a8, a9⟩ := back_gives F N U D
    exact ret r h' tk' stO' its n ps seg a1 a2 a3 a4 a5 a6 a7 a8 a9
end
local macro_rules | `(tactic| walk_at "call ref") => `(tactic| ((with_reducible show wpAny _ _ (call (Value.ref 83) [_, _]) _ _ _); k_dflt (refine' call_wordsL ?a1 ?a3 ?a4 ?a5 ?a6 ?b1 ?b2 ?b3 ?b4 ?a9 ?a10 ?a11 ?_; (case a1 => assumption); (case a3 => k_asm); (case a4 => k_asm); (case a5 => tb_start); (case a6 => assumption); (case b1 => k_mem); (case b2 => assumption); (case b3 => assumption); (case b4 => assumption); (case a9 => assumption); (case a10 => assumption); (case a11 => assumption)); intro r' h' tk' stO' its' n' ps' seg' F' N' ok' hne' hsg' hpc' hln' hga' hle'; (try dsimp only at N'); (try dsimp only); (try k_sweep)))
local macro_rules | `(tactic| walk_at "call ref") => `(tactic| ((with_reducible show wpAny _ _ (call (Value.ref 90) [_]) _ _ _); k_dflt (refine' call_paramsL ?a1 ?a3 ?a4 ?a5 ?a6 ?b1 ?b2 ?b3 ?b4 ?a9 ?a10 ?a11 ?_; (case a1 => assumption); (case a3 => k_asm); (case a4 => k_asm); (case a5 => tb_start); (case a6 => assumption); (case b1 => k_mem); (case b2 => assumption); (case b3 => assumption); (case b4 => assumption); (case a9 => assumption); (case a10 => assumption); (case a11 => assumption)); intro r' h' tk' stO' its' n' ps' seg' F' N' ok' hne' hsg' hpc' hln' hga' hle'; (try dsimp only at N'); (try dsimp only); (try k_sweep)))
set_option maxRecDepth 100000 in
set_option maxHeartbeats 8000000 in
theorem stage2L (w : World) (p : Program) (loose : List Str) (mean : ExcName → Option Value) (mg mb : Str → Option Value) (h₀ : Heap)
    (T₀ : Top p loose mean mg mb h₀) (X₀ : (hd.heap_39 w.params).In h₀) (WK : WordsOk w h₀ 2) (PK : ParamsOk w h₀)
    (A : Around) (s : Shared) (L fa : Addr) (cd : Value) (S sc : Addr) (kk : Nat) (vs : List Value) (ns : List Int) (stO : Obj) (m : Str → Option Value) (r : Int) (tr : Tok)
    (F : Fr h₀ L s.heap m) (N : News h₀ L s.heap [(S, stO), (sc, lst vs kk)]) (ok : StOk sc ns.length stO) (sS : sc ≠ S) (hI : IntsAre vs ns) (hL : ns.length ≤ 50)
    (hn : Names m [(Str.ofString "state", .ref S), (Str.ofString "kind", .int r tr)]) (hr0 : 0 ≤ r) (hr1 : r < 3)
    (hh : A.handled = none) (hd : A.depth + 60 < recursionLimit) (hu : A.units + 500 < cLine) :
    wpAny (model PySem.Challenge.rw_co0042_01.row.prog w) A (exec (lawAt 2) (lawEnv L fa cd)) (fun f s' => Here (f = .next ∧ ∃ h' tk' m' stO' pA n its ps ind big, s' = { s with heap := h', toks := tk' } ∧ Fr h₀ L h' m' ∧ News h₀ L h' big ∧ (S, stO') ∈ big ∧ StOk sc ns.length stO' ∧ (sc, lst vs kk) ∈ big ∧ (pA, lst its n) ∈ big ∧ @Ne Nat pA S ∧ PcsIn big its ps ∧ MidP ps ind ∧ Names m' [(Str.ofString "pieces", .ref pA), (Str.ofString "state", .ref S)])) (fun _ _ => False) s := by
  have X₁ := X₀
  revert X₀
  k_fill
  intro X₀
  have F₂ := names_fr F hn
  clear F
  have hLW := lw2
  dsimp only [lawEnv, lawScope, scopeOf, lawAt, lawDef, PySem.Challenge.pw_co0042_01, bodyOf, List.getD, List.getD_cons_succ, List.getD_cons_zero, List.getElem?_cons_succ, List.getElem?_cons_zero, Option.getD, List.drop_succ_cons, List.drop_zero]
  (try k_fold)
  k_steps
  ·
    rename Fr _ _ _ _ => F8
    rename News _ _ _ _ => N8
    rename StOk _ _ _ => ok8
    show _ ∧ _
    refine' ⟨by first | rfl | trivial, _, _, _, _, _, _, _, _, _, _, rfl, F8, N8, ?mS, ok8, ?msc, ?mp, ?ne, ?pcs, ?mid, ?nm⟩
    case mS => k_mem
    case msc => k_mem
    case mp => exact List.Mem.head _
    case ne => first | k_ne | exact Ne.symm (by k_ne)
    case pcs => tb_rel
    case mid => first | exact mid_async (by assumption) (by assumption) | exact mid_def (by assumption) (by assumption) | exact mid_x (by assumption) (Nat.le_trans (by assumption) (Nat.le_trans hLW (by decide)))
    case nm => exact Names.cons (by with_unfolding_all rfl) (Names.cons (by with_unfolding_all rfl) Names.nil)
  ·
    rename Fr _ _ _ _ => F8
    rename News _ _ _ _ => N8
    rename StOk _ _ _ => ok8
    show _ ∧ _
    refine' ⟨by first | rfl | trivial, _, _, _, _, _, _, _, _, _, _, rfl, F8, N8, ?mS, ok8, ?msc, ?mp, ?ne, ?pcs, ?mid, ?nm⟩
    case mS => k_mem
    case msc => k_mem
    case mp => exact List.Mem.head _
    case ne => first | k_ne | exact Ne.symm (by k_ne)
    case pcs => tb_rel
    case mid => first | exact mid_async (by assumption) (by assumption) | exact mid_def (by assumption) (by assumption) | exact mid_x (by assumption) (Nat.le_trans (by assumption) (Nat.le_trans hLW (by decide)))
    case nm => exact Names.cons (by with_unfolding_all rfl) (Names.cons (by with_unfolding_all rfl) Names.nil)
  ·
    rename Fr _ _ _ _ => F8
    rename News _ _ _ _ => N8
    rename StOk _ _ _ => ok8
    show _ ∧ _
    refine' ⟨by first | rfl | trivial, _, _, _, _, _, _, _, _, _, _, rfl, F8, N8, ?mS, ok8, ?msc, ?mp, ?ne, ?pcs, ?mid, ?nm⟩
    case mS => k_mem
    case msc => k_mem
    case mp => exact List.Mem.head _
    case ne => first | k_ne | exact Ne.symm (by k_ne)
    case pcs => tb_rel
    case mid => first | exact mid_async (by assumption) (by assumption) | exact mid_def (by assumption) (by assumption) | exact mid_x (by assumption) (Nat.le_trans (by assumption) (Nat.le_trans hLW (by decide)))
    case nm => exact Names.cons (by with_unfolding_all rfl) (Names.cons (by with_unfolding_all rfl) Names.nil)
end Mine
end
theorem Mine.fresh_LawB : True ∧ True := by
  w_top off
  walk1 <;> exact True.intro
section
open PySem PySem.W PySem.Spec PySem.Calls PyProof.Rows
set_option Elab.async false
namespace Mine
theorem off_of {S tA dA : Addr} {big : Led} (h1 : ∀ q ∈ big, @LT.lt Nat _ q.1 tA) (h2 : ∀ q ∈ big, @LT.lt Nat _ q.1 dA) (h3 : ∀ q ∈ big, q.1 ≠ S) : Off S tA dA big := fun q hq => ⟨h3 q hq, Nat.ne_of_lt (h1 q hq), Nat.ne_of_lt (h2 q hq)⟩
theorem law_is : bodyOf lawDef = lawAt 0 :: lawAt 1 :: [lawAt 2, lawAt 3, lawAt 4, lawAt 5, lawAt 6] := rfl
theorem for_is : lawAt 4 = lawForSt := rfl
theorem n62_of {ps : List Pc} {a : Acc} (R : Run ps a) (hW : AllPW ps) : ∀ t ∈ a.T, t.n ≠ 62 := by
  induction R with
  | nil => intro t ht; cases ht
  | @snoc ps a p b _ _ _ ih =>
    have split : ∀ qs : List Pc, AllPW (qs ++ [p]) → AllPW qs ∧ PW p := by
      intro qs
      induction qs with
      | nil => intro k; exact ⟨trivial, k.1⟩
      | cons q qs ih => intro k; exact ⟨⟨k.1, (ih k.2).1⟩, (ih k.2).2⟩
    obtain ⟨w1, w2⟩ := split ps hW
    intro t ht
    rcases List.mem_append.mp ht with ht | ht
    · exact ih w1 t ht
    · rw [List.mem_singleton.mp ht]; exact w2.1
theorem pcs_off {big base : Led} {vs : List Value} {ps : List Pc} (h : PcsIn big vs ps) (k : ∀ q ∈ big, q.2.cls = .type "tuple" → q ∈ base) : PcsIn base vs ps := by
  induction h with
  | nil => exact .nil
  | cons a _ ih =>
    obtain ⟨t, x, y, z, e, m⟩ := a
    exact .cons ⟨t, x, y, z, e, k _ m rfl⟩ ih
theorem law_body (w : World) (p : Program) (loose : List Str) (mean : ExcName → Option Value) (mg mb : Str → Option Value) (h₀ : Heap)
    (T₀ : Top p loose mean mg mb h₀) (X₀ : (hd.heap_39 w.params).In h₀)
    (A : Around) (s : Shared) (L fa : Addr) (cd : Value) (l : Addr) (vs : List Value) (ns : List Int) (m : Str → Option Value)
    (F : Fr h₀ L s.heap m) (hL : h₀.IsList l vs.toArray) (hI : IntsAre vs ns) (hz : ¬ (63 : Int) < (ns.length : Int))
    (hn : Names m [(Str.ofString "script", .ref l)])
    (hh : A.handled = none) (hd : A.depth + 60 < recursionLimit) (hu : A.units + 500 < cLine) :
    wpAny (model PySem.Challenge.rw_co0042_01.row.prog w) A (execs (bodyOf lawDef) (lawEnv L fa cd)) (fun f s' => f = .ret (.bool true) ∧ ∃ h tk m' c, s' = { s with gens := (s.gens.push (.fresh c)).setIfInBounds s.gens.size .finished, heap := h, toks := tk } ∧ Fr h₀ L h m') (fun _ _ => False) s := by
  have NX := next_ok w p loose mean mg mb h₀ T₀ X₀
  have V0 := value_ok w p loose mean mg mb h₀ T₀ X₀ NX 0 (by omega) (fun q => absurd q (by omega))
  have W0 := words_ok w p loose mean mg mb h₀ T₀ X₀ NX 0 (by omega) V0
  have V1 := value_ok w p loose mean mg mb h₀ T₀ X₀ NX 1 (by omega) (fun _ => W0)
  have W1 := words_ok w p loose mean mg mb h₀ T₀ X₀ NX 1 (by omega) V1
  have V2 := value_ok w p loose mean mg mb h₀ T₀ X₀ NX 2 (by omega) (fun _ => W1)
  have W2 := words_ok w p loose mean mg mb h₀ T₀ X₀ NX 2 (by omega) V2
  have PK := params_ok w p loose mean mg mb h₀ T₀ X₀ NX V1
  rw [law_is]
  refine stage01 w p loose mean mg mb h₀ T₀ X₀ NX A s _ _ _ L fa cd l vs ns m F hL hI hz hn hh hd hu ?_
  intro h1 tk1 m1 S sc stO kk vs' ns' r tr F1 N1 ok1 sS hI' hL' hr0 hr1 hn1
  refine cut _ (stage2L w p loose mean mg mb h₀ T₀ X₀ W2 PK A _ L fa cd S sc kk vs' ns' stO m1 r tr F1 N1 ok1 sS hI' hL' hn1 hr0 hr1 hh hd hu) ?_
  rintro s2 ⟨h2, tk2, m2, stO2, pA, n, its, ps, ind, big, rfl, F2, N2, mS, ok2, msc, mp, pS, hP, hM, hn2⟩
  refine cut _ (stage3L w p loose mean mg mb h₀ T₀ X₀ A _ L fa cd S sc pA kk n vs' its ns' ps stO2 m2 big F2 N2 mS ok2 msc mp pS sS hP hn2 hh hd hu) ?_
  rintro s3 ⟨h3, tk3, m3, tA, dA, t4, big9, rfl, F3, N3, e9, lt1, lt2, d3, hn3⟩
  clear e9
  obtain ⟨g1, g2, g3, ⟨qs, q, g4, g4'⟩, g5⟩ := hM
  have d1 : @Ne Nat tA S := Nat.ne_of_gt (lt1 _ mS)
  have d2 : @Ne Nat dA S := Nat.ne_of_gt (lt2 _ mS)
  have hoff : Off S tA dA (big.filter fun q => decide (@Ne Nat q.1 S)) := fun q hq => by
    have h := List.mem_filter.mp hq
    exact ⟨of_decide_eq_true h.2, Nat.ne_of_lt (lt1 q h.1), Nat.ne_of_lt (lt2 q h.1)⟩
  have inb : ∀ q ∈ big, @Ne Nat q.1 S → q ∈ big.filter fun q => decide (@Ne Nat q.1 S) := fun q hq h => List.mem_filter.mpr ⟨hq, decide_eq_true h⟩
  have hP' : PcsIn (big.filter fun q => decide (@Ne Nat q.1 S)) its ps := pcs_off hP fun q hq hc => inb q hq (cls_ne N2 hq (q := (S, stO2)) mS (by rw [hc, ok2.cls]; show (Value.type "tuple") ≠ Value.type "list"; decide))
  obtain ⟨news', n1, n2⟩ := ls_end (own := []) (base := big.filter fun q => decide (@Ne Nat q.1 S)) (T := []) (D := []) N3 (.tail _ (.tail _ mS)) ok2 (.head _) (.tail _ (.head _)) .nil .nil (fun q hq => .tail _ (.tail _ (List.mem_filter.mp hq).1)) (fun _ hp => nomatch hp) hoff
  show wpAny _ _ (execs (lawForSt :: [lawAt 5, lawAt 6]) _) _ _ _
  refine cut _ (for_ok w p loose mean mg mb h₀ T₀ X₀ NX A _ L fa cd _ news' S tA dA sc pA n kk t4 vs' its ns' ps m3 F3 n1 n2 hoff hn3 (inb _ mp pS) hP' (by omega) g2 (inb _ msc sS) sS d1 d2 d3 hI' hL' hh (by omega) (by omega)) ?_
  rintro s4 ⟨acc, tl, R4, h4, tk4, m4, news4, rfl, F4, N4, H4, _, hn4⟩
  obtain ⟨rl1, rl2, rl3⟩ := run_len R4
  have rl3 := rl3 g2
  have hfw : acc.fw = Str.ofString "" := by rw [((run_last R4).2 qs q g4).2, g4']
  have hH : Heads ind acc.ln := by
    rcases g5 with ⟨rfl, x, rfl⟩ | ⟨rfl, x, rfl⟩ | ⟨rfl, x, rfl⟩
    · exact heads_def R4
    · exact heads_async R4
    · exact heads_x R4
  refine cut _ (stage5 w p loose mean mg mb h₀ T₀ X₀ A _ L fa cd _ _ news4 S tA dA sc ns'.length tl acc.ln acc.T acc.D m4 _ F4 N4 H4 hoff hn4 (by intro b hb; simp only [List.mem_cons, List.not_mem_nil, or_false] at hb ⊢; rcases hb with h | h | h <;> simp [h]) d1 d2 d3 (by omega) (by omega) (by omega) (by omega)) ?_
  rintro s5 ⟨h5, tk5, m5, news5, rfl, F5, N5, H5, _, hn5⟩
  refine wpAny_execs_cons (wpAny_mono (stage6 w p loose mean mg mb h₀ T₀ X₀ A _ L fa cd _ news5 S tA dA sc ns'.length tl acc.ln _ acc.D m5 _ ind F5 N5 H5 hn5 (fun _ h => h) ?_ ?_ (by omega) (by omega) (run_msg R4) hH (law_true R4 g1 hfw) hh (by omega) (by omega)) (fun f s' h' => ?_) fun _ _ x => x)
  · intro t ht
    rcases List.mem_append.mp ht with ht | ht
    · exact n62_of R4 g2 t ht
    · rw [List.mem_singleton.mp ht]; show (4 : Int) ≠ 62; decide
  · rw [List.length_append, List.length_singleton]; omega
  · obtain ⟨rfl, h6, tk6, m6, c6, rfl, F6⟩ := h'
    exact ⟨rfl, h6, tk6, m6, c6, rfl, F6⟩
end Mine
end
theorem Mine.fresh_Top : True ∧ True := by
  w_top off
  walk1 <;> exact True.intro
section
open PySem PySem.W PySem.Spec PySem.Calls PyProof.Rows
set_option Elab.async false
namespace Mine
set_option maxRecDepth 100000 in
set_option maxHeartbeats 8000000 in
theorem law_walk : PySem.Challenge.rw_co0042_01.Holds := hd (by
  k_fill
  intro w s₀ s₁ mg mb G Y fa o pm cd doc dV kV ho hd' hcd hD hmg hg args vals as hpre hlay hrd hwl hlo
  have KX := kIn_of Y
  refine Ground.open G ?_
  intro T B D TE TW
  clear D
  clear hmg
  wrow_args hpre hlay hrd hwl hlo
  refine enter_call ?_
  w_top on
  w_call any ho hd' hcd hD T F
  k_drop
  show wpAny _ (callerA.deeper (lawEnv s₁.heap.objs.size fa _)) (execs (bodyOf lawDef) (lawEnv s₁.heap.objs.size fa _)) _ _ _
  rename s₁.heap.IsList _ _ => hLL
  rename IntsAre _ _ => hII
  refine wpAny_mono (Q := fun f s' => f = .ret (.bool true) ∧ ∃ h tk m' c, s' = { s₁ with gens := (s₁.gens.push (.fresh c)).setIfInBounds s₁.gens.size .finished, heap := h, toks := tk } ∧ Fr s₁.heap s₁.heap.objs.size h m') (E := fun _ _ => False) ?_ ?_ (fun _ _ x => x.elim)
  · refine law_body w _ _ _ _ _ s₁.heap T KX _ ⟨_, s₁.gens, s₁.drawn, _, s₁.os⟩ s₁.heap.objs.size fa _ _ _ _ _ F hLL hII (by assumption) (fun b hb => by rw [List.mem_singleton.mp hb]; rfl) rfl ?_ ?_
    · first | decide | k_room
    · first | decide | k_units
  · rintro f s' ⟨rfl, h, tk, m', c, rfl, F'⟩
    have hA : AllBare ((s₁.gens.push (.fresh c)).setIfInBounds s₁.gens.size .finished) := by
      rw [hg]
      intro y hy
      have hy : y ∈ #[GenState.finished] := hy
      rw [Array.mem_singleton.mp hy]; rfl
    refine (fun (q : GoodWG _ _ _ _ s₁ _ { s₁ with heap := h, toks := tk, gens := #[] }) => ⟨q.1, q.2.1, q.2.2.1, hA⟩) (GoodW.toG ?_)
    refine goodW_bool F' rfl ?_ ?_ rfl
    · exact raisesW_false (by wrow_none_raised)
    · first | exact postW_of rfl rfl | exact postW_of rfl (by decide) | (with_unfolding_all rfl) | kernel_rfl)
end Mine
end
theorem PySem.Challenge.cw_co0042_01_holds : PySem.Challenge.rw_co0042_01.Holds :=
  Mine.law_walk
