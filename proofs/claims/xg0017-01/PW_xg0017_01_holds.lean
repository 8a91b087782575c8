import PyProof.Rows.All
import Wide.All
import OpenK.AllK
import Wide.FinOn
import PySem.Challenge.RW_xg0017_01
set_option Elab.async false
set_option compiler.extract_closed false
set_option genInjectivity false
set_option genSizeOf false
set_option linter.unusedVariables false
set_option linter.unusedSimpArgs false
namespace X17
theorem za1 {L : Nat} : L < L + 1 := Nat.lt_succ_self _
theorem za2 {L : Nat} : L < L + 1 + 1 := Nat.lt_trans za1 za1
theorem za3 {L : Nat} : L < L + 1 + 1 + 1 := Nat.lt_trans za2 za1
theorem za4 {L : Nat} : L < L + 1 + 1 + 1 + 1 := Nat.lt_trans za3 za1
theorem za5 {L : Nat} : L < L + 1 + 1 + 1 + 1 + 1 := Nat.lt_trans za4 za1
theorem zu0 {a b L : Nat} (h : b < L) (k : Nat.ble a b = true) : a < L := Nat.lt_of_le_of_lt (Nat.le_of_ble_eq_true k) h
theorem zu1 {a b L : Nat} (h : b < L) (k : Nat.ble a b = true) : a < L + 1 := Nat.lt_trans (zu0 h k) za1
theorem zu2 {a b L : Nat} (h : b < L) (k : Nat.ble a b = true) : a < L + 1 + 1 := Nat.lt_trans (zu0 h k) za2
theorem zu3 {a b L : Nat} (h : b < L) (k : Nat.ble a b = true) : a < L + 1 + 1 + 1 := Nat.lt_trans (zu0 h k) za3
theorem zu4 {a b L : Nat} (h : b < L) (k : Nat.ble a b = true) : a < L + 1 + 1 + 1 + 1 := Nat.lt_trans (zu0 h k) za4
theorem zu5 {a b L : Nat} (h : b < L) (k : Nat.ble a b = true) : a < L + 1 + 1 + 1 + 1 + 1 := Nat.lt_trans (zu0 h k) za5
theorem zlt {a b c : Nat} (h : a < b) (k : Nat.ble b c = true) : a < c := Nat.lt_of_lt_of_le h (Nat.le_of_ble_eq_true k)
theorem zlt' {a b c : Nat} (h : a ≤ b) (k : Nat.ble (b + 1) c = true) : a < c := Nat.lt_of_le_of_lt h (Nat.le_of_ble_eq_true k)
theorem zle {a b c : Nat} (h : a ≤ b) (k : Nat.ble b c = true) : a ≤ c := Nat.le_trans h (Nat.le_of_ble_eq_true k)
theorem zle' {a b c : Nat} (h : a < b) (k : Nat.ble b (c + 1) = true) : a ≤ c := Nat.le_of_lt_succ (Nat.lt_of_lt_of_le h (Nat.le_of_ble_eq_true k))
theorem zb {a b : Nat} (k : Nat.ble a b = true) : a ≤ b := Nat.le_of_ble_eq_true k
theorem zb' {a b : Nat} (k : Nat.ble (a + 1) b = true) : a < b := Nat.le_of_ble_eq_true k
theorem zd1 {a j k c : Nat} (h : a + k < c) (e : Nat.ble j k = true) : a + j < c := Nat.lt_of_le_of_lt (Nat.add_le_add_left (Nat.le_of_ble_eq_true e) a) h
theorem zd2 {a i j k c : Nat} (h : a + k < c) (e : Nat.ble (i + j) k = true) : a + i + j < c := by rw [Nat.add_assoc]; exact zd1 h e
theorem zd3 {a i j l k c : Nat} (h : a + k < c) (e : Nat.ble (i + j + l) k = true) : a + i + j + l < c := by rw [Nat.add_assoc a, Nat.add_assoc a]; exact zd1 h e
end X17
namespace X17
open Lean PySem PySem.W PyProof.Rows PySem.Spec PySem.Calls
/-! the words that the walk's lines use again and again, as bare syntax: a compiled quotation weighs too much -/
def nd (k : Name) (l : List Syntax) : Syntax := .node .none k l.toArray
def tk (s : String) : Syntax := .atom .none s
def sepS (l : List Syntax) : List Syntax := (l.foldr (fun t r => tk ";" :: t :: r) []).drop 1
def sq (ts : List Syntax) : Syntax := nd ``Parser.Tactic.tacticSeq [nd ``Parser.Tactic.tacticSeq1Indented [nd `null (sepS ts)]]
def paS (ts : List Syntax) : Syntax := nd ``Parser.Tactic.paren [tk "(", sq ts, tk ")"]
def byS (t : Syntax) : Syntax := nd ``Parser.Term.byTactic [tk "by", sq [t]]
def apS (f : Name) (as : List Syntax) : Syntax := if as.isEmpty then mkIdent f else nd ``Parser.Term.app [mkIdent f, nd `null as]
def exS (e : Syntax) : Syntax := nd ``Parser.Tactic.exact [tk "exact", e]
def exN (f : Name) (as : List Syntax) : Syntax := exS (apS f as)
def fiS (ts : List Syntax) : Syntax := nd ``Parser.Tactic.first [tk "first", nd `null (ts.map fun t => nd `group [tk "|", sq [t]])]
def tryS (t : Syntax) : Syntax := paS [nd ``Parser.Tactic.tacticTry_ [tk "try", sq [t]]]
/-- a word of the library's walk -/
def wS (s : String) : Syntax := nd ((`PySem.W).str ("tactic" ++ s.capitalize)) [tk s]
def cfS (k : Name) (s : String) : Syntax := nd k [tk s, nd ``Parser.Tactic.optConfig [nd `null []]]
def asmS : Syntax := nd ``Parser.Tactic.assumption [tk "assumption"]
def omS : Syntax := cfS ``Parser.Tactic.omega "omega"
def decS : Syntax := cfS ``Parser.Tactic.decide "decide"
def hoS : Syntax := nd ``Parser.Term.hole [tk "_"]
def rflS : Syntax := mkIdent `rfl
def bleS : Syntax := apS ``Nat.le_of_ble_eq_true [rflS]
def tabS : List (String × Syntax) := [("a", wS "k_asm"), ("e", wS "k_mem"), ("u", wS "k_updF"), ("o", omS), ("s", asmS), ("r", exS rflS), ("d", decS), ("i", wS "k_is"), ("K", wS "k_in"), ("I", wS "k_inst"), ("p", wS "k_upd"),
  ("P", wS "k_put"), ("m", wS "k_room"), ("y", wS "lge_lay"), ("f", fiS [asmS, exS rflS]), ("h", fiS [exS rflS, asmS]), ("z", fiS [asmS, exS bleS]), ("b", exS bleS), ("O", fiS [omS, decS]), ("l", exN ``locs [rflS]), ("c", exN ``List.cons_ne_nil [hoS, hoS]),
  ("N", fiS [exN ``IsPart.none [], exN ``IsPart.int [hoS, hoS]]), ("1", fiS [exN ``Or.inl [rflS], exN ``Or.inr [rflS]]), ("T", exN ``Top.nolimit [byS (wS "k_asm")]), ("C", exN ``CodeHd.keeps [byS asmS, byS (exN ``Below.stays [byS asmS])]),
  ("B", fiS [exN ``BindsTo.of_eq [rflS], exN ``binds_K [byS (wS "k_in"), rflS, byS (wS "k_is"), rflS, rflS, rflS]])]
def nuS (l : List Syntax) : Syntax := nd `null l
def onS (ls : List Name) : Syntax := nuS (if ls.isEmpty then [] else [tk "[", nuS ((ls.foldr (fun n r => tk "," :: nd ``Parser.Tactic.simpLemma [nuS [], nuS [], mkIdent n] :: r) []).drop 1), tk "]"])
/-- simp only, dsimp only -/
def siS (k : Name) (w : String) (ls : List Name) (lo : List Syntax) : Syntax := tryS (nd k [tk w, nd ``Parser.Tactic.optConfig [nuS []], nuS [], nuS [tk "only"], onS ls, nuS lo])
def dsS : List Syntax → Syntax := siS ``Parser.Tactic.dsimp "dsimp" []
def haS (n e : Syntax) : Syntax := nd ``Parser.Tactic.tacticHave__ [tk "have", nd ``Parser.Term.letConfig [nuS []], nd ``Parser.Term.letDecl [nd ``Parser.Term.letIdDecl [nd ``Parser.Term.letId [n], nuS [], nuS [], tk ":=", e]]]
def siO (ls : List Name) (r : List Syntax) : Syntax := byS (paS (r ++ [siS ``Parser.Tactic.simp "simp" (``List.size_toArray :: ls) [], omS]))
def hygN (n : String) : MacroM Syntax := return mkIdent (← MonadQuotation.addMacroScope (Name.mkSimple n))
def byOf (c : String) : MacroM Syntax := do
  if let some t := tabS.lookup c then return byS t
  if c == "_" then return nd ``Parser.Term.syntheticHole [tk "?", tk "_"]
  if c == "R" then return rflS
  if c == "L" then return siO [``List.length_append, ``List.length_cons, ``List.length_nil] []
  if c == "S" then return siO [] [haS (← hygN "hz") (mkIdent ``sizeLine_eq)]
  if c.startsWith "?" then return nd ``Parser.Term.syntheticHole [tk "?", ← hygN (c.drop 1).toString]
  return mkIdent (`X17 ++ Name.mkSimple c)
def mapS (f : String → MacroM Syntax) (l : List String) : MacroM (List Syntax) := l.foldr (fun c r => do return (← f c) :: (← r)) (return [])
def argL (s : String) : MacroM (List Syntax) := mapS byOf (s.splitOn " ")
def args (s : String) : MacroM (Array (TSyntax `term)) := return ((← argL s).map fun x => (⟨x⟩ : TSyntax `term)).toArray
structure Bys where
  (a e u o s r d i : TSyntax `term)
def bys : MacroM Bys := return ⟨⟨byS (wS "k_asm")⟩, ⟨byS (wS "k_mem")⟩, ⟨byS (wS "k_updF")⟩, ⟨byS omS⟩, ⟨byS asmS⟩, ⟨byS (exS rflS)⟩, ⟨byS decS⟩, ⟨byS (wS "k_is")⟩⟩
def guS (t : Syntax) : MacroM (TSyntax `tactic) := return ⟨nd ``Parser.Tactic.withReducible [tk "with_reducible", sq [nd ``Parser.Tactic.«show» [tk "show", apS ``wpAny [hoS, hoS, t, hoS, hoS, hoS]]]]⟩
def guardC (n : Nat) : MacroM (TSyntax `tactic) := guS (apS ``PySem.call [apS ``Value.ref [Syntax.mkNumLit (toString n)], hoS])
def guardM (s : String) : MacroM (TSyntax `tactic) := guS (apS ``getMethod [apS ``Value.ref [hoS], apS ``PySem.Str.ofString [Syntax.mkStrLit s], hoS])
def naS (n : Name) (t : Syntax) : Syntax := nd ``Parser.Term.namedArgument [tk "(", mkIdent n, tk ":=", t, tk ")"]
def insS (s : String) : MacroM (List Syntax) := do
  if s == "" then return []
  return [nd ``Parser.Tactic.intro [tk "intro", nd `null (← mapS hygN (s.splitOn " "))]]
def ins (s : String) : MacroM (TSyntax `tactic) := return ⟨paS (← insS s)⟩
def k1S (k : String) (w n : String) : MacroM Syntax := return tryS (nd ((`PySem.W).str k) [tk w, ← hygN n])
def tailOf (c : String) : MacroM Syntax := do
  match c with
  | "n" => return dsS [nd ``Parser.Tactic.location [tk "at", nd ``Parser.Tactic.locationHyp [nuS [← hygN "N'"]]]]
  | "d" => return dsS []
  | "l" => k1S "tacticK_lt_" "k_lt" "l1"
  | "2" => k1S "tacticK_lt2_" "k_lt2" "l2"
  | "B" => k1S "tacticK_lift_" "k_lift" "B'"
  | "w" => return tryS (wS "k_sweep")
  | "E" => return wS "ks_enter"
  | "H" => return haS (← hygN "hrx") (apS `X17.ltNe [← hygN "l1", ← hygN "l2"])
  | _ => return wS "k_whole"
def tails (s : String) : MacroM (List Syntax) := mapS tailOf (s.toList.map fun c => c.toString)
/-- a line: the lemma with its premises' words, the names, the rest -/
def lineT (t : TSyntax `term) (is tl : String) : MacroM (TSyntax `tactic) := return ⟨paS (nd ``Parser.Tactic.refine [tk "refine", t] :: ((← insS is) ++ (← tails tl)))⟩
def hereS (g : Option Syntax) (l : Syntax) : TSyntax `tactic := ⟨paS ((wS "k_here" :: g.toList) ++ [nd `PySem.W.tacticK_dflt_ [tk "k_dflt", l]])⟩
/-- a call of one of the law's own functions -/
def lineF (fn : Name) (n : Nat) (as is tl : String) : MacroM (TSyntax `tactic) := do
  let l ← lineT ⟨apS fn (naS `outer (mkIdent ``List.nil) :: naS `A₀ (mkIdent ``callerA) :: (← argL as))⟩ is tl
  return hereS (some (← guardC n)) l
/-- any other line -/
def lineA (g : TSyntax `tactic) (fn : Name) (as is tl : String) : MacroM (TSyntax `tactic) := do
  return hereS (some g) (← lineT ⟨apS fn (← argL as)⟩ is tl)
/-- no guard -/
def line0 (fn : Name) (as is tl : String) : MacroM (TSyntax `tactic) := do
  return hereS none (← lineT ⟨apS fn (← argL as)⟩ is tl)
def case1 (n c : String) (r : MacroM (List Syntax)) : MacroM (List Syntax) := do
  let i ← hygN n
  let b ← byOf c
  return nd ``Parser.Tactic.case [tk "case", nd `null [nd ``Parser.Tactic.caseArg [nd ``binderIdent [i], nd `null []]], tk "=>", sq [exS b]] :: (← r)
def caseS (l : List (String × String)) : MacroM (List Syntax) := l.foldr (fun p r => case1 p.1 p.2 r) (return [])
/-- named holes, closed in an order of their own -/
def coreN (fn : Name) (as : String) (cs : List (String × String)) (is tl : String) : MacroM (TSyntax `tactic) := do
  return ⟨paS ((nd ``Parser.Tactic.refine' [tk "refine'", apS fn (← argL as)] :: (← caseS cs)) ++ (← insS is) ++ (← tails tl))⟩
def lineN (fn : Name) (as : String) (cs : List (String × String)) (is tl : String) : MacroM (TSyntax `tactic) := do
  return hereS none (← coreN fn as cs is tl)
/-- the ends of a chain of < -/
def closeZ : MacroM (TSyntax `tactic) := do
  let b := byS asmS
  let as := ["za1", "za2", "za3", "za4", "za5"].map fun n => exN (`X17 ++ Name.mkSimple n) []
  let us := ["zu0", "zu1", "zu2", "zu3", "zu4", "zu5"].map fun n => exN (`X17 ++ Name.mkSimple n) [b, rflS]
  return ⟨fiS (nd ``Parser.Tactic.done [tk "done"] :: (as ++ us))⟩
end X17
section JoinHD
open PySem PySem.W PyProof.Rows
set_option Elab.async false
set_option maxRecDepth 100000
set_option maxHeartbeats 8000000
namespace X17
/-- both code tables laid aside (the doubled brackets keep this line from itself) -/
local macro_rules | `(tactic| o_head ($f:ident $k $a $p $t)) => `(tactic| o_head (($f $k $a $p [185, 100])))
open_top hd for PySem.Challenge.rw_xg0017_01
end X17
end JoinHD

section JoinX0
open PySem PySem.W PyProof.Rows PySem.Calls PySem.Spec
namespace X17
abbrev PR : Program := PySem.Challenge.rw_xg0017_01.row.toRowW.prog
end X17
end JoinX0

section JoinQ0
open PySem PySem.W PyProof.Rows PySem.Spec PySem.Calls
set_option Elab.async false
set_option maxRecDepth 100000
set_option maxHeartbeats 0
namespace X17
noncomputable def lawScope : Scope := match PySem.Challenge.pw_xg0017_01.main.body.getLast? with
  | some (.FunctionDef _ _ _ _ _ _ sc _ _ _) => sc
  | _ => default
noncomputable def lawBody : List Stmt := match PySem.Challenge.pw_xg0017_01.main.body.getLast? with
  | some (.FunctionDef _ _ b _ _ _ _ _ _ _) => b
  | _ => default
noncomputable def lawSt (i : Nat) : Stmt := lawBody.getD i default
noncomputable abbrev envLaw (L fa : Addr) : Env := envOfC (Str.ofString "law") lawScope L fa (.ref 187)
noncomputable abbrev ALaw (L fa : Addr) : Around := callerA.deeper (envLaw L fa)
theorem fillK (P : Params) : PySem.Challenge.rw_xg0017_01 = PySem.Challenge.rw_xg0017_01 ∧ hd.heap_39 P = hd.heap_39 P := by k_fill; exact ⟨rfl, rfl⟩
structure Cx (w : World) (g : Heap) (L : Addr) : Prop where
  X : (hd.heap_39 w.params).In g
  B : Below callerA g [] g
  T : ∃ p loose mean mg mb, Top p loose mean mg mb g
  C1 : CodeHd g 187 185
  C2 : CodeHd g 104 100
  l0 : 185 < L
end X17
end JoinQ0

namespace X17
open PySem PySem.W PyProof.Rows
section ResetPO
local macro_rules | `(tactic| walk_at "none") => `(tactic| skip)
theorem resetPO : True := by first | walk1 | (w_top off; trivial)
end ResetPO
end X17
section JoinPO
open PySem PySem.W PyProof.Rows PySem.Spec PySem.Calls
set_option Elab.async false
set_option maxRecDepth 100000
set_option maxHeartbeats 0
namespace X17
open PySem.Builtin
/-- the end of a law whose frame has grown tables and left bare generators: my own variant for GoodWG -/
theorem post_bare {M : Model} {A : Around} {cd : Code} {s s₁ : Shared} {cw : ClaimW} {cl : Str → Option Addr} {mean : ExcName → Option Value} {args : List WData} {tabs : List (Addr × Addr)} (hT : TabsAt tabs s₁.heap)
    (h : codeAny M A cd (fun r s' => (∃ v d, r = .ok (.ret v) ∧ (∀ cls, cw.raises args cls = false) ∧ ReadsW cw.records cl s'.heap v d [] ∧ cw.post args d args = true) ∧ (∀ b o, (ghostOf s₁.heap tabs).get? b = some o → s'.heap.get? b = some o) ∧ s'.os = s₁.os ∧ AllBare s'.gens ∧ GrownAll tabs s'.heap) s) :
    codeAny M A cd (GoodWG cw cl mean args s₁) s :=
  codeAny_mono h fun r s' hr => by
    obtain ⟨⟨v, d, e1, e2, e3, e4⟩, hk, hos, hg, hgr⟩ := hr
    have table : ∀ b o, b ∈ tabs.map (·.2) → s₁.heap.get? b = some o → isCodeTable s₁.heap b ∧ o = tabObj #[] ∧ ∃ ps, s'.heap.get? b = some (tabObj ps) := by
      intro b o hb e
      obtain ⟨q, hq, rfl⟩ := List.mem_map.mp hb
      have t := hT q hq
      have e0 := t.2
      rw [e] at e0
      exact ⟨(t.1.tab t.2).isCodeTable, Option.some.inj e0, hgr.get q hq⟩
    refine ⟨.inl ⟨v, d, [], e1, e2, e3, e4, fun _ => ⟨List.nodup_nil, fun _ h => nomatch h⟩⟩, ⟨fun b o e => ?_, fun b o e => ?_⟩, hos, hg⟩
    · by_cases hb : b ∈ tabs.map (·.2)
      · obtain ⟨t, rfl, ps, hp⟩ := table b o hb e
        exact .inr (.inl ⟨t, rfl, #[], ps, rfl, by rw [Array.empty_append]; exact hp⟩)
      · exact .inl (hk b o (ghost_ne e hb))
    · by_cases hb : b ∈ tabs.map (·.2)
      · obtain ⟨_, _, ps, hp⟩ := table b o hb e
        exact ⟨_, hp⟩
      · exact ⟨o, hk b o (ghost_ne e hb)⟩
end X17
end JoinPO

namespace X17
open PySem PySem.W PyProof.Rows
section ResetXB
local macro_rules | `(tactic| walk_at "none") => `(tactic| skip)
theorem resetXB : True := by first | walk1 | (w_top off; trivial)
end ResetXB
end X17
section JoinXB
open PySem PySem.W PyProof.Rows PySem.Calls PySem.Spec
set_option Elab.async false
set_option maxRecDepth 100000
set_option linter.unusedSimpArgs false
namespace X17
open PySem.Builtin

section
variable {w : World} {A : Around} {E : Value → Shared → Prop} {s : Shared}
noncomputable def CallBack (Q : Value → Shared → Prop) (E : Value → Shared → Prop) (r : Result) (s' : Shared) : Prop := match r with
  | .ok (.ret v) => Q v s'
  | .ok _ => False
  | .error e => E e s'
theorem call_bi {id : String} {b : Builtin} {args : List Value} {Q : Value → Shared → Prop} (hb : entryFor table id = some b) (hc : checkBuiltinCall id ⟨args, []⟩ = pure ())
    (h : wpAny (model PR w) A.in1 (b ⟨args, []⟩) (fun fin s' => match fin with
      | .done f => CallBack Q E (.ok f) s'
      | .again c' => c'.quiet = true ∧ codeAny (model PR w) A c' (CallBack Q E) s') E s) (hp : plainId id = true := by decide +kernel) :
    wpAny (model PR w) A (PySem.call (.builtin id) args) Q E s := by
  refine wpAny_call (codeAny_mono (codeAny_call_builtin (R := CallBack Q E) hp hb ?_) fun r s' hr => ?_)
  · rw [hc]
    exact wpAny_pure (wpAny_mono h (fun fin s' hf => by cases fin <;> exact hf) fun _ _ x => x)
  · cases r with
    | ok f => cases f <;> first | exact hr | exact hr.elim
    | error e => exact hr
theorem call_bi1 {id : String} {b : Builtin} {args : List Value} {Q : Value → Shared → Prop} (hb : entryFor table id = some b) (hc : checkBuiltinCall id ⟨args, []⟩ = pure ())
    (h : wpAny (model PR w) A.in1 (b ⟨args, []⟩) (fun fin s' => ∃ v, fin = .done (.ret v) ∧ Q v s') E s) (hp : plainId id = true := by decide +kernel) :
    wpAny (model PR w) A (PySem.call (.builtin id) args) Q E s :=
  call_bi hb hc (wpAny_mono h (fun fin s' ⟨v, e, hq⟩ => by subst e; exact hq) fun _ _ x => x) hp
end

inductive BytesAre : List Value → List (Array UInt8) → Prop
  | nil : BytesAre [] []
  | cons (b : Array UInt8) (t : Tok) {vs : List Value} {bs : List (Array UInt8)} : BytesAre vs bs → BytesAre (.bytes b t :: vs) (b :: bs)
theorem BytesAre.length {vs : List Value} {bs : List (Array UInt8)} (h : BytesAre vs bs) : vs.length = bs.length := by
  induction h with
  | nil => rfl
  | cons _ _ _ ih => simp [ih]
theorem BytesAre.snoc {vs : List Value} {bs : List (Array UInt8)} (h : BytesAre vs bs) (b : Array UInt8) (t : Tok) : BytesAre (vs ++ [.bytes b t]) (bs ++ [b]) := by
  induction h with
  | nil => exact .cons _ _ .nil
  | cons _ _ _ ih => exact .cons _ _ ih
theorem BytesAre.get {vs : List Value} {bs : List (Array UInt8)} (h : BytesAre vs bs) {i : Nat} (hi : i < bs.length) : ∃ t, vs[i]? = some (.bytes bs[i] t) := by
  induction h generalizing i with
  | nil => exact absurd hi (Nat.not_lt_zero _)
  | cons b t _ ih =>
    cases i with
    | zero => exact ⟨t, rfl⟩
    | succ i => exact ih (Nat.lt_of_succ_lt_succ hi)

section
variable {M' : Model} {A : Around} {E : Value → Shared → Prop} {s : Shared}
theorem forIn_upto {β : Type} {n : Nat} {b : β} {f : Nat → β → Sem (ForInStep β)} {Q : β → Shared → Prop} (I : Nat → β → Shared → Prop) (h0 : I 0 b s)
    (turn : ∀ i b s, i < n → I i b s → wpAny M' A (f i b) (fun r s' => ∃ b', r = .yield b' ∧ I (i + 1) b' s') E s) (fin : ∀ b s, I n b s → Q b s) :
    wpAny M' A (forIn [0:n] b f) Q E s := by
  rw [Std.Legacy.Range.forIn_eq_forIn_range']
  have hsz : ([0:n] : Std.Legacy.Range).size = n := by simp [Std.Legacy.Range.size]
  rw [hsz]
  show wpAny M' A (forIn (List.range' 0 n 1) b f) Q E s
  refine wpAny_forIn_list f (fun l b s => ∃ i, i ≤ n ∧ l = List.range' i (n - i) 1 ∧ I i b s) Q ?_ ?_ _ _ ⟨0, Nat.zero_le _, rfl, h0⟩
  · rintro x rest b s ⟨i, hi, hl, hI⟩
    cases hn : n - i with
    | zero => rw [hn] at hl; cases hl
    | succ k =>
      rw [hn, List.range'_succ] at hl
      injection hl with h1 h2
      subst h1
      refine wpAny_mono (turn x b s (by omega) hI) (fun r s' h' => ?_) fun _ _ e => e
      obtain ⟨b', rfl, hI'⟩ := h'
      exact ⟨x + 1, by omega, by rw [h2]; congr 1; omega, hI'⟩
  · rintro b s ⟨i, hi, hl, hI⟩
    have : i = n := by
      have := congrArg List.length hl
      rw [List.length_range', List.length_nil] at this
      omega
    subst this
    exact fin b s hI
theorem letGo_ {Q : Unit → Shared → Prop} (h : Q () s) (k : List Value) : ∀ vs : List Value, wpAny M' A (PySem.letGo vs k) Q E s
  | [] => wpAny_pure h
  | _ :: r => by
    unfold PySem.letGo
    exact wpAny_bind (wpAny_holding (wpAny_point (letGo_ h k r)))
theorem joinLetGo_ {Q : Unit → Shared → Prop} {k : List Value} (h : Q () s) : ∀ l : List Value, wpAny M' A (Bytes.joinLetGo (l.map fun v => (v, none)) k) Q E s
  | [] => wpAny_pure h
  | v :: l => by
    rw [List.map_cons]
    unfold Bytes.joinLetGo
    dsimp only
    exact wpAny_bind (letGo_ (joinLetGo_ h l) _ _)
end
end X17
end JoinXB

namespace X17
open PySem PySem.W PyProof.Rows
section ResetXR
local macro_rules | `(tactic| walk_at "none") => `(tactic| skip)
theorem resetXR : True := by first | walk1 | (w_top off; trivial)
end ResetXR
end X17
section JoinXR
open PySem PySem.W PyProof.Rows PySem.Calls PySem.Spec
set_option Elab.async false
set_option maxRecDepth 100000
set_option linter.unusedSimpArgs false
namespace X17
open PySem.Sre (M Op accepts inSet)

noncomputable def RC : Array Nat := #[14, 8, 1, 2, 4294967295, 1, 1, 34, 0, 16, 34, 28, 22, 0, 4294967295, 7, 11, 13, 7, 21, 16, 34, 16, 92, 0, 15, 8, 6, 16, 92, 2, 15, 2, 0, 1, 16, 34, 1]

noncomputable def RF0 (s : Nat) (om : Bool) : Sre.Frame := { wait := .nextStart, pc := 9, pos := s, outermost := om }
noncomputable def RKP : Sre.Kept := { whole := true }
noncomputable def RPF (p : Nat) (om : Bool) (cnt : Int) : Sre.Frame := { wait := .possMore, pc := 11, pos := p, outermost := om, count := cnt, kept := RKP }
noncomputable def RNB (pc p : Nat) : Sre.Frame := { wait := .nextBranch, pc, pos := p, outermost := false, kept := RKP }

/-- outside the loop -/
noncomputable def RO (text : Array Nat) (lim s pc p hd : Nat) (om : Bool) (frs : List Sre.Frame) (wt : Nat) (ans : Option Bool) (seen : Sre.Seen) : M :=
  { code := RC, text, lim, start := s, lastStart := lim, pc, pos := p, handed := hd, outermost := om, marks := #[], frames := frs, weight := wt, answer := ans, seen }
/-- inside the loop -/
noncomputable def RS (text : Array Nat) (lim s pc p hd : Nat) (om : Bool) (frs : List Sre.Frame) (wt : Nat) (ans : Option Bool) (seen : Sre.Seen) : M :=
  { code := RC, text, lim, start := s, lastStart := lim, pc, pos := p, handed := hd, outermost := om, marks := #[], loops := #[{ pc := 0, outer := none }], inner := some 0, frames := frs, weight := wt, answer := ans, seen }
noncomputable def RA (text : Array Nat) (lim s : Nat) (om : Bool) (seen : Sre.Seen) : M := RO text lim s 9 s s om [RF0 s om] 1 none seen
noncomputable def RB (text : Array Nat) (lim s p : Nat) (om : Bool) (cnt : Int) (seen : Sre.Seen) : M := RS text lim s 15 p p false [RPF p om cnt, RF0 s om] 2 none seen

theorem rop {i : Nat} {o : Op} (h : Sre.ops[RC.getD i 0]? = some o) : Sre.ops[RC.getD (i + 0) 0]? = some o := h
theorem op9 : Sre.ops[RC.getD (9 + 0) 0]? = some Op.LITERAL := rfl
theorem op11 : Sre.ops[RC.getD (11 + 0) 0]? = some Op.POSSESSIVE_REPEAT := rfl
theorem op15 : Sre.ops[RC.getD (15 + 0) 0]? = some Op.BRANCH := rfl
theorem op17 : Sre.ops[RC.getD (17 + 0) 0]? = some Op.IN := rfl
theorem op25 : Sre.ops[RC.getD (25 + 0) 0]? = some Op.JUMP := rfl
theorem op28 : Sre.ops[RC.getD (28 + 0) 0]? = some Op.LITERAL := rfl
theorem op30 : Sre.ops[RC.getD (30 + 0) 0]? = some Op.ANY := rfl
theorem op31 : Sre.ops[RC.getD (31 + 0) 0]? = some Op.JUMP := rfl
theorem op34 : Sre.ops[RC.getD (34 + 0) 0]? = some Op.SUCCESS := rfl
theorem op35 : Sre.ops[RC.getD (35 + 0) 0]? = some Op.LITERAL := rfl
theorem op37 : Sre.ops[RC.getD (37 + 0) 0]? = some Op.SUCCESS := rfl
theorem op9' : Sre.ops[RC.getD 9 0]? = some Op.LITERAL := rfl
theorem op17' : Sre.ops[RC.getD 17 0]? = some Op.IN := rfl
theorem op28' : Sre.ops[RC.getD 28 0]? = some Op.LITERAL := rfl
theorem op30' : Sre.ops[RC.getD 30 0]? = some Op.ANY := rfl
theorem op35' : Sre.ops[RC.getD 35 0]? = some Op.LITERAL := rfl
theorem width9 : Sre.itemWidth RC 9 = 2 := rfl
theorem width17 : Sre.itemWidth RC 17 = 8 := rfl
theorem width28 : Sre.itemWidth RC 28 = 2 := rfl
theorem width30 : Sre.itemWidth RC 30 = 1 := rfl
theorem width35 : Sre.itemWidth RC 35 = 2 := rfl
theorem acc9 (c : Nat) (sn : Sre.Seen) : accepts RC 9 c sn = .ok (c == 34, sn) := rfl
theorem acc17 (c : Nat) (sn : Sre.Seen) : accepts RC 17 c sn = inSet RC c 38 19 true sn := rfl
theorem acc28 (c : Nat) (sn : Sre.Seen) : accepts RC 28 c sn = .ok (c == 92, sn) := rfl
theorem acc30 (c : Nat) (sn : Sre.Seen) : accepts RC 30 c sn = .ok (c != 10, sn) := rfl
theorem acc35 (c : Nat) (sn : Sre.Seen) : accepts RC 35 c sn = .ok (c == 34, sn) := rfl
theorem rcsize : RC.size = 38 := rfl

theorem inset_eq (c : Nat) (seen : Sre.Seen) : ∃ sn, inSet RC c 38 19 true seen = .ok (c != 34 && c != 92, sn) := by
  by_cases h1 : c = 34
  · subst h1; exact ⟨_, rfl⟩
  · by_cases h2 : c = 92
    · subst h2; exact ⟨_, rfl⟩
    · refine ⟨(((seen.add 21).add 16).add 16).add 0, ?_⟩
      have e : inSet RC c 38 19 true seen = if c == 34 then .ok (false, (seen.add 21).add 16) else if c == 92 then .ok (false, ((seen.add 21).add 16).add 16) else .ok (true, (((seen.add 21).add 16).add 16).add 0) := by kernel_rfl!
      rw [e]
      simp [h1, h2]

section
variable {text : Array Nat} {lim s : Nat} {om : Bool} {seen : Sre.Seen} {p : Nat} {cnt : Int}
theorem ra_quote (hs : s < lim) (hc : text.getD s 0 = 34) : ∃ sn, (RA text lim s om seen).step = RO text lim s 11 (s + 1) s om [RF0 s om] 1 none sn := by
  have h0 : ¬ s ≥ lim := by omega
  refine ⟨seen.add 16, ?_⟩
  simp only [M.step, RA, RO, M.exec, M.word, op9, acc9, hc, if_neg h0, rcsize, width9]
  simp [RC]
theorem ra_other (hs : s < lim) (hc : text.getD s 0 ≠ 34) : ∃ sn, (RA text lim s om seen).step.step = RA text lim (s + 1) false sn := by
  have h0 : ¬ s ≥ lim := by omega
  have hb : (text.getD s 0 == 34) = false := by simpa using hc
  refine ⟨seen.add 16, ?_⟩
  have e : (RA text lim s om seen).step = RO text lim s 9 s s om [RF0 s om] 1 (some false) (seen.add 16) := by
    simp only [M.step, RA, RO, M.exec, M.word, op9, acc9, hb, if_neg h0, M.say]
    simp [RC]
  rw [e]
  simp only [M.step, RO, RF0, M.resume]
  simp [hs, M.attemptFrom, M.hasFirstSet, RC, Sre.ops, M.attemptAt, M.attempt, M.putBack, RA, RO, RF0]
theorem ra_end (hs : lim ≤ s) : ∃ m, (RA text lim s om seen).step.step.step = m ∧ m.outcome = some .failed := by
  refine ⟨_, rfl, ?_⟩
  have h0 : s ≥ lim := hs
  have e : (RA text lim s om seen).step = RO text lim s 9 s s om [RF0 s om] 1 (some false) (seen.add 16) := by
    simp only [M.step, RA, RO, M.exec, M.word, op9, M.say]
    simp [RC, hs]
  rw [e]
  have e2 : (RO text lim s 9 s s om [RF0 s om] 1 (some false) (seen.add 16)).step = RO text lim s 9 s s om [] 0 (some false) (seen.add 16) := by
    simp only [M.step, RO, RF0, M.resume]
    simp [Nat.not_lt.mpr hs, M.say]
  rw [e2]
  simp [M.step, RO]
/-- into the loop -/
theorem ro_enter : ∃ sn, (RO text lim s 11 p s om [RF0 s om] 1 none seen).step = RB text lim s p om 0 sn := by
  refine ⟨seen.add 28, ?_⟩
  simp only [M.step, RO, M.exec, M.word, op11]
  simp [RC, M.possessive, M.word, M.attempt, M.frame, M.keep, RB, RS, RPF, RKP, Sre.maxRepeat]
theorem rb_1 : ∃ sn, (RB text lim s p om cnt seen).step = RS text lim s 17 p p false [RNB 16 p, RPF p om cnt, RF0 s om] 3 none sn := by
  refine ⟨seen.add 7, ?_⟩
  simp only [M.step, RB, RS, M.exec, M.word, op15]
  simp [RC, M.alternative, M.attempt, M.frame, M.keep, RNB, RKP]
/-- an end of the turn that took the text to q -/
theorem rb_took {q : Nat} {f : Nat} (hq : p < q) (hcnt : 0 ≤ cnt + 1) : ∃ sn, (RS text lim s 34 q p false [RNB f p, RPF p om cnt, RF0 s om] 3 none seen).step.step.step = RB text lim s q om (cnt + 1) sn := by
  refine ⟨seen.add 1, ?_⟩
  have e : (RS text lim s 34 q p false [RNB f p, RPF p om cnt, RF0 s om] 3 none seen).step = RS text lim s 34 q q false [RNB f p, RPF p om cnt, RF0 s om] 3 (some true) (seen.add 1) := by
    simp only [M.step, RS, M.exec, M.word, op34, M.say]
    simp [RC]
  have e2 : (RS text lim s 34 q q false [RNB f p, RPF p om cnt, RF0 s om] 3 (some true) (seen.add 1)).step = RS text lim s f p q false [RPF p om cnt, RF0 s om] 2 (some true) (seen.add 1) := by
    simp only [M.step, RS, RNB, M.resume, M.say, RKP]
    simp
  rw [e, e2]
  have hne : ¬ p = q := by omega
  simp only [M.step, RS, RPF, M.resume, RKP]
  simp [RC, M.possessive, M.word, M.attempt, M.frame, M.keep, RB, RS, RPF, RKP, Sre.maxRepeat, M.putBack, hne, hcnt]
theorem rb_plain (hp : p < lim) (h1 : text.getD p 0 ≠ 34) (h2 : text.getD p 0 ≠ 92) : ∃ sn, (RS text lim s 17 p p false [RNB 16 p, RPF p om cnt, RF0 s om] 3 none seen).step.step = RS text lim s 34 (p + 1) p false [RNB 16 p, RPF p om cnt, RF0 s om] 3 none sn := by
  have h0 : ¬ lim ≤ p := by omega
  obtain ⟨sn, hi⟩ := inset_eq (text.getD p 0) (seen.add (RC.getD (17 + 0) 0))
  have hb : (text.getD p 0 != 34 && text.getD p 0 != 92) = true := by simp only [Bool.and_eq_true, bne_iff_ne]; exact ⟨h1, h2⟩
  rw [hb] at hi
  refine ⟨sn.add 15, ?_⟩
  have e : (RS text lim s 17 p p false [RNB 16 p, RPF p om cnt, RF0 s om] 3 none seen).step = RS text lim s 25 (p + 1) p false [RNB 16 p, RPF p om cnt, RF0 s om] 3 none sn := by
    simp only [M.step, RS, M.exec, M.word, op17, acc17, hi, width17]
    simp [RC, h0]
  rw [e]
  simp only [M.step, RS, M.exec, M.word, op25]
  simp [RC]
/-- the first branch misses -/
theorem rb_miss (hp : p < lim) (h1 : text.getD p 0 = 34 ∨ text.getD p 0 = 92) : ∃ sn, (RS text lim s 17 p p false [RNB 16 p, RPF p om cnt, RF0 s om] 3 none seen).step.step = RS text lim s 28 p p false [RNB 27 p, RPF p om cnt, RF0 s om] 3 none sn := by
  have h0 : ¬ lim ≤ p := by omega
  obtain ⟨sn, hi⟩ := inset_eq (text.getD p 0) (seen.add (RC.getD (17 + 0) 0))
  have hb : (text.getD p 0 != 34 && text.getD p 0 != 92) = false := by rcases h1 with h | h <;> rw [h] <;> rfl
  rw [hb] at hi
  refine ⟨sn, ?_⟩
  have e : (RS text lim s 17 p p false [RNB 16 p, RPF p om cnt, RF0 s om] 3 none seen).step = RS text lim s 17 p p false [RNB 16 p, RPF p om cnt, RF0 s om] 3 (some false) sn := by
    simp only [M.step, RS, M.exec, M.word, op17, acc17, hi, M.say]
    simp [RC, h0]
  rw [e]
  simp only [M.step, RS, RNB, M.resume, RKP]
  simp [RC, M.alternative, M.attempt, M.frame, M.putBack, RNB, RKP]
theorem rb_esc (hp : p + 1 < lim) (h1 : text.getD p 0 = 92) (h2 : text.getD (p + 1) 0 ≠ 10) : ∃ sn, (RS text lim s 28 p p false [RNB 27 p, RPF p om cnt, RF0 s om] 3 none seen).step.step.step = RS text lim s 34 (p + 2) p false [RNB 27 p, RPF p om cnt, RF0 s om] 3 none sn := by
  have h0 : ¬ lim ≤ p := by omega
  have h0' : ¬ lim ≤ p + 1 := by omega
  have hb : (text.getD (p + 1) 0 != 10) = true := by simpa using h2
  refine ⟨((seen.add 16).add 2).add 15, ?_⟩
  have e : (RS text lim s 28 p p false [RNB 27 p, RPF p om cnt, RF0 s om] 3 none seen).step = RS text lim s 30 (p + 1) p false [RNB 27 p, RPF p om cnt, RF0 s om] 3 none (seen.add 16) := by
    simp only [M.step, RS, M.exec, M.word, op28, acc28, h1, width28]
    simp [RC, h0]
  have e2 : (RS text lim s 30 (p + 1) p false [RNB 27 p, RPF p om cnt, RF0 s om] 3 none (seen.add 16)).step = RS text lim s 31 (p + 2) p false [RNB 27 p, RPF p om cnt, RF0 s om] 3 none ((seen.add 16).add 2) := by
    simp only [M.step, RS, M.exec, M.word, op30, acc30, hb, width30]
    simp [RC, h0']
  rw [e, e2]
  simp only [M.step, RS, M.exec, M.word, op31]
  simp [RC]
/-- the loop's end: the closing quote -/
theorem rb_close (hp : p < lim) (h1 : text.getD p 0 = 34) (hcnt : 0 ≤ cnt) : ∃ m, (RS text lim s 28 p p false [RNB 27 p, RPF p om cnt, RF0 s om] 3 none seen).step.step.step.step.step.step.step = m ∧ m.outcome = some .matched ∧ m.start = s ∧ m.handed = p + 1 := by
  have h0 : ¬ lim ≤ p := by omega
  have e : (RS text lim s 28 p p false [RNB 27 p, RPF p om cnt, RF0 s om] 3 none seen).step = RS text lim s 28 p p false [RNB 27 p, RPF p om cnt, RF0 s om] 3 (some false) (seen.add 16) := by
    simp only [M.step, RS, M.exec, M.word, op28, acc28, h1, M.say]
    simp [RC, h0]
  have e2 : (RS text lim s 28 p p false [RNB 27 p, RPF p om cnt, RF0 s om] 3 (some false) (seen.add 16)).step = RS text lim s 27 p p false [RPF p om cnt, RF0 s om] 2 (some false) (seen.add 16) := by
    simp only [M.step, RS, RNB, M.resume, RKP]
    simp [RC, M.alternative, M.attempt, M.frame, M.putBack, M.say]
  have e3 : (RS text lim s 27 p p false [RPF p om cnt, RF0 s om] 2 (some false) (seen.add 16)).step = RO text lim s 35 p p om [RF0 s om] 1 none (seen.add 16) := by
    simp only [M.step, RS, RPF, M.resume, RKP]
    simp [RC, M.possessive, M.word, M.attempt, M.frame, M.keep, Sre.maxRepeat, M.putBack, M.loopAt, RO, hcnt]
  have e4 : (RO text lim s 35 p p om [RF0 s om] 1 none (seen.add 16)).step = RO text lim s 37 (p + 1) p om [RF0 s om] 1 none ((seen.add 16).add 16) := by
    simp only [M.step, RO, M.exec, M.word, op35, acc35, h1, width35]
    simp [RC, h0]
  have e5 : (RO text lim s 37 (p + 1) p om [RF0 s om] 1 none ((seen.add 16).add 16)).step = RO text lim s 37 (p + 1) (p + 1) om [RF0 s om] 1 (some true) (((seen.add 16).add 16).add 1) := by
    simp only [M.step, RO, M.exec, M.word, op37, M.say]
    simp [RC]
  have e6 : (RO text lim s 37 (p + 1) (p + 1) om [RF0 s om] 1 (some true) (((seen.add 16).add 16).add 1)).step = RO text lim s 9 s (p + 1) om [] 0 (some true) (((seen.add 16).add 16).add 1) := by
    simp only [M.step, RO, RF0, M.resume, M.say]
    simp
  refine ⟨_, rfl, ?_⟩
  rw [e, e2, e3, e4, e5, e6]
  simp [M.step, RO]
end

/-- k steps on -/
noncomputable def goN : Nat → M → M
  | 0, m => m
  | k + 1, m => goN k m.step
theorem goN_add (a b : Nat) (m : M) : goN (a + b) m = goN b (goN a m) := by
  induction a generalizing m with
  | zero => rw [Nat.zero_add]; rfl
  | succ a ih => rw [Nat.succ_add]; exact ih _
theorem step_over {m : M} (h : m.outcome.isSome = true) : m.step = m := by
  unfold M.step; rw [if_pos h]
theorem goN_over {m : M} (h : m.outcome.isSome = true) : ∀ k, goN k m = m
  | 0 => rfl
  | k + 1 => by show goN k m.step = m; rw [step_over h]; exact goN_over h k
theorem runFor_go : ∀ (n : Nat) (m : M), M.runFor n m = goN n m
  | 0, _ => rfl
  | n + 1, m => by
    unfold M.runFor
    by_cases h : m.outcome.isSome = true
    · rw [if_pos h, goN_over h]
    · rw [if_neg h]; exact runFor_go n m.step

/-- behind an opening quotation mark: what stands behind the closing one -/
inductive Bd : List Nat → List Nat → Prop
  | close {r : List Nat} : Bd (34 :: r) r
  | esc {c : Nat} {r r' : List Nat} : c ≠ 10 → Bd r r' → Bd (92 :: c :: r) r'
  | chr {c : Nat} {r r' : List Nat} : c ≠ 34 → c ≠ 92 → Bd r r' → Bd (c :: r) r'
theorem Bd.lt {r r' : List Nat} (h : Bd r r') : r'.length < r.length := by
  induction h with
  | close => simp
  | esc _ _ ih => simp only [List.length_cons]; omega
  | chr _ _ _ ih => simp only [List.length_cons]; omega

theorem at_drop {text : Array Nat} {p c : Nat} {r : List Nat} (h : text.toList.drop p = c :: r) : text.getD p 0 = c ∧ p < text.size ∧ text.toList.drop (p + 1) = r := by
  have h1 : text.toList[p]? = some c := by
    rw [← Nat.add_zero p, ← List.getElem?_drop, h]; rfl
  obtain ⟨hp, he⟩ := List.getElem?_eq_some_iff.mp h1
  refine ⟨?_, by simpa using hp, ?_⟩
  · rw [Array.getD_eq_getD_getElem?, ← Array.getElem?_toList, h1]; rfl
  · rw [← List.drop_drop, h]; rfl

section
variable {text : Array Nat} {s : Nat} {om : Bool}
theorem loop_all {r r' : List Nat} (hb : Bd r r') : ∀ {p : Nat} {cnt : Int} {seen : Sre.Seen}, text.toList.drop p = r → 0 ≤ cnt →
    ∃ k m, goN k (RB text text.size s p om cnt seen) = m ∧ k ≤ 10 * r.length ∧ m.outcome = some .matched ∧ m.start = s ∧ m.handed + r'.length = text.size := by
  induction hb with
  | @close r =>
    intro p cnt seen hd hcnt
    obtain ⟨h1, hp, hd'⟩ := at_drop hd
    obtain ⟨s1, e1⟩ := rb_1 (text := text) (lim := text.size) (s := s) (p := p) (om := om) (cnt := cnt) (seen := seen)
    obtain ⟨s2, e2⟩ := rb_miss (lim := text.size) (s := s) (om := om) (cnt := cnt) (seen := s1) hp (.inl h1)
    obtain ⟨m, e3, ho, hs, hh⟩ := rb_close (lim := text.size) (s := s) (om := om) (cnt := cnt) (seen := s2) hp h1 hcnt
    refine ⟨10, m, ?_, by simp only [List.length_cons]; omega, ho, hs, ?_⟩
    · show (RB text text.size s p om cnt seen).step.step.step.step.step.step.step.step.step.step = m
      rw [e1, e2, e3]
    · rw [hh]
      have := congrArg List.length hd'
      rw [List.length_drop, Array.length_toList] at this
      omega
  | @esc c r r' hc _ ih =>
    intro p cnt seen hd hcnt
    obtain ⟨h1, hp, hd'⟩ := at_drop hd
    obtain ⟨h2, hp2, hd2⟩ := at_drop hd'
    obtain ⟨s1, e1⟩ := rb_1 (text := text) (lim := text.size) (s := s) (p := p) (om := om) (cnt := cnt) (seen := seen)
    obtain ⟨s2, e2⟩ := rb_miss (lim := text.size) (s := s) (om := om) (cnt := cnt) (seen := s1) hp (.inr h1)
    obtain ⟨s3, e3⟩ := rb_esc (lim := text.size) (s := s) (om := om) (cnt := cnt) (seen := s2) hp2 h1 (by rw [h2]; exact hc)
    obtain ⟨s4, e4⟩ := rb_took (text := text) (lim := text.size) (s := s) (p := p) (om := om) (cnt := cnt) (seen := s3) (q := p + 2) (f := 27) (by omega) (by omega)
    obtain ⟨k, m, e5, hk, ho, hs, hh⟩ := ih (p := p + 2) (cnt := cnt + 1) (seen := s4) hd2 (by omega)
    refine ⟨9 + k, m, ?_, by simp only [List.length_cons]; omega, ho, hs, hh⟩
    rw [goN_add]
    show goN k ((RB text text.size s p om cnt seen).step.step.step.step.step.step.step.step.step) = m
    rw [e1, e2, e3, e4, e5]
  | @chr c r r' hc1 hc2 _ ih =>
    intro p cnt seen hd hcnt
    obtain ⟨h1, hp, hd'⟩ := at_drop hd
    obtain ⟨s1, e1⟩ := rb_1 (text := text) (lim := text.size) (s := s) (p := p) (om := om) (cnt := cnt) (seen := seen)
    obtain ⟨s2, e2⟩ := rb_plain (lim := text.size) (s := s) (om := om) (cnt := cnt) (seen := s1) hp (by rw [h1]; exact hc1) (by rw [h1]; exact hc2)
    obtain ⟨s4, e4⟩ := rb_took (text := text) (lim := text.size) (s := s) (p := p) (om := om) (cnt := cnt) (seen := s2) (q := p + 1) (f := 16) (by omega) (by omega)
    obtain ⟨k, m, e5, hk, ho, hs, hh⟩ := ih (p := p + 1) (cnt := cnt + 1) (seen := s4) hd' (by omega)
    refine ⟨6 + k, m, ?_, by simp only [List.length_cons]; omega, ho, hs, hh⟩
    rw [goN_add]
    show goN k ((RB text text.size s p om cnt seen).step.step.step.step.step.step) = m
    rw [e1, e2, e4, e5]

/-- the search over signs that are no quotation marks -/
theorem scan : ∀ {a : List Nat} {b : List Nat} {p : Nat} {om : Bool} {seen : Sre.Seen}, (∀ c ∈ a, c ≠ 34) → text.toList.drop p = a ++ b →
    ∃ k sn om', goN k (RA text text.size p om seen) = RA text text.size (p + a.length) om' sn ∧ k ≤ 2 * a.length
  | [], b, p, om, seen, _, _ => ⟨0, seen, om, rfl, Nat.le_refl _⟩
  | c :: a, b, p, om, seen, ha, hd => by
    obtain ⟨h1, hp, hd'⟩ := at_drop (r := a ++ b) hd
    obtain ⟨s1, e1⟩ := ra_other (text := text) (lim := text.size) (s := p) (om := om) (seen := seen) hp (by rw [h1]; exact ha c (.head _))
    obtain ⟨k, sn, om', e2, hk⟩ := scan (p := p + 1) (om := false) (seen := s1) (fun x hx => ha x (.tail _ hx)) hd'
    refine ⟨2 + k, sn, om', ?_, by simp only [List.length_cons]; omega⟩
    rw [goN_add]
    show goN k ((RA text text.size p om seen).step.step) = _
    rw [e1, e2, List.length_cons]
    congr 1; omega
end
end X17
end JoinXR

namespace X17
open PySem PySem.W PyProof.Rows
section ResetXR2
local macro_rules | `(tactic| walk_at "none") => `(tactic| skip)
theorem resetXR2 : True := by first | walk1 | (w_top off; trivial)
end ResetXR2
end X17
section JoinXR2
open PySem PySem.W PyProof.Rows PySem.Calls PySem.Spec
set_option Elab.async false
set_option maxRecDepth 100000
set_option linter.unusedSimpArgs false
namespace X17
open PySem.Sre (M Op accepts inSet)
open PySem.Builtin.Re

noncomputable def RSay (text : Array Nat) (lim p : Nat) : M := { code := RC, text, lim, start := p, pc := 9, pos := p, handed := p, marks := #[], answer := some false, seen := ({} : Sre.Seen).add 14 }
theorem forSearch_eq (text : Array Nat) (p lim : Nat) : Sre.forSearch RC text 0 p lim false =
    if (decide (p > lim) || decide (lim - p < 2)) = true then RSay text lim p else RA text lim p true (({} : Sre.Seen).add 14) := by kernel_rfl!
theorem say_failed (text : Array Nat) (lim p : Nat) : (RSay text lim p).step.outcome = some .failed := by
  simp [M.step, RSay]

section
variable {text : Array Nat} {p : Nat}
theorem found_none (h : ∀ c ∈ text.toList.drop p, c ≠ 34) : ∃ k m, goN k (Sre.forSearch RC text 0 p text.size false) = m ∧ k ≤ 2 * text.size + 5 ∧ m.outcome = some .failed := by
  rw [forSearch_eq]
  by_cases hc : (decide (p > text.size) || decide (text.size - p < 2)) = true
  · rw [if_pos hc]
    exact ⟨1, _, rfl, by omega, say_failed _ _ _⟩
  · rw [if_neg hc]
    simp only [Bool.or_eq_true, decide_eq_true_eq, not_or] at hc
    obtain ⟨k, sn, om', e, hk⟩ := scan (text := text) (a := text.toList.drop p) (b := []) (p := p) (om := true) (seen := ({} : Sre.Seen).add 14) h (by simp)
    rw [List.length_drop, Array.length_toList] at e hk
    obtain ⟨m, e2, ho⟩ := ra_end (text := text) (lim := text.size) (s := p + (text.size - p)) (om := om') (seen := sn) (by omega)
    refine ⟨k + 3, m, ?_, by omega, ho⟩
    rw [goN_add, e]
    exact e2
theorem found_some {a b b' : List Nat} (h : ∀ c ∈ a, c ≠ 34) (hd : text.toList.drop p = a ++ 34 :: b) (hb : Bd b b') :
    ∃ k m, goN k (Sre.forSearch RC text 0 p text.size false) = m ∧ k ≤ 10 * text.size + 5 ∧ m.outcome = some .matched ∧ m.start = p + a.length ∧ m.handed + b'.length = text.size := by
  have hlen := congrArg List.length hd
  rw [List.length_drop, Array.length_toList, List.length_append, List.length_cons] at hlen
  have hb1 := hb.lt
  rw [forSearch_eq]
  have hc : ¬ (decide (p > text.size) || decide (text.size - p < 2)) = true := by
    simp only [Bool.or_eq_true, decide_eq_true_eq, not_or]
    omega
  rw [if_neg hc]
  obtain ⟨k, sn, om', e, hk⟩ := scan (text := text) (p := p) (om := true) (seen := ({} : Sre.Seen).add 14) h hd
  have hd' : text.toList.drop (p + a.length) = 34 :: b := by
    rw [← List.drop_drop, hd, List.drop_left]
  obtain ⟨h1, hp, hd2⟩ := at_drop hd'
  obtain ⟨s1, e1⟩ := ra_quote (text := text) (lim := text.size) (s := p + a.length) (om := om') (seen := sn) hp h1
  obtain ⟨s2, e2⟩ := ro_enter (text := text) (lim := text.size) (s := p + a.length) (p := p + a.length + 1) (om := om') (seen := s1)
  obtain ⟨k2, m, e3, hk2, ho, hs, hh⟩ := loop_all (text := text) (s := p + a.length) (om := om') hb (p := p + a.length + 1) (cnt := 0) (seen := s2) hd2 (by omega)
  refine ⟨k + (2 + k2), m, ?_, by omega, ho, hs, hh⟩
  rw [goN_add, e, goN_add]
  show goN k2 ((RA text text.size (p + a.length) om' sn).step.step) = m
  rw [e1, e2, e3]
end

section
variable {M' : Model} {A : Around} {E : Value → Shared → Prop} {s : Shared}
theorem drive_ {Q : M → Shared → Prop} : ∀ (T : Nat) (k : Nat) (m : M), k ≤ 4 * T → (goN k m).outcome.isSome = true → T ≠ 0 → Q (goN k m) s → wpAny M' A (reDrive T m) Q E s
  | 0, _, _, _, _, h0, _ => absurd rfl h0
  | T + 1, k, m, hk, ho, _, hQ => by
    unfold reDrive
    have e4 : M.runFor reTurnSteps m = goN 4 m := runFor_go 4 m
    dsimp only
    rw [e4]
    by_cases h : (goN 4 m).outcome.isSome = true
    · rw [if_pos h]
      have : goN 4 m = goN k m := by
        rcases Nat.le_total 4 k with hl | hl
        · obtain ⟨j, rfl⟩ := Nat.exists_eq_add_of_le hl
          rw [goN_add, goN_over h]
        · obtain ⟨j, hj⟩ := Nat.exists_eq_add_of_le hl
          rw [hj, goN_add, goN_over ho]
      rw [this]
      exact wpAny_pure hQ
    · rw [if_neg h]
      have hk4 : 4 < k := by
        apply Nat.lt_of_not_le
        intro hl
        obtain ⟨j, hj⟩ := Nat.exists_eq_add_of_le hl
        rw [hj, goN_add, goN_over ho] at h
        exact h ho
      obtain ⟨j, rfl⟩ := Nat.exists_eq_add_of_le (Nat.le_of_lt hk4)
      rw [goN_add] at ho hQ
      refine wpAny_bind (wpAny_rule ?_)
      exact drive_ T j (goN 4 m) (by omega) ho (by omega) hQ

theorem forIn_rules {b : Nat → Bool} {t : Nat → String} {Q : PUnit → Shared → Prop} (h : Q ⟨⟩ s) : ∀ l : List Nat, wpAny M' A (forIn l PUnit.unit (fun i _ => do
    if b i then rule (t i)
    pure (ForInStep.yield PUnit.unit))) Q E s
  | [] => wpAny_pure h
  | i :: l => by
    rw [List.forIn_cons]
    refine wpAny_bind ?_
    dsimp only
    split
    · exact wpAny_bind (wpAny_rule (wpAny_pure (forIn_rules h l)))
    · exact wpAny_pure (forIn_rules h l)

theorem runToEnd_ {Q : Option M → Shared → Prop} {k : Nat} {m : M} (hk : k ≤ 4 * 2 ^ 64) (h : (∃ w, (goN k m).outcome = some w ∧ (w = .matched ∧ Q (some (goN k m)) s ∨ w = .failed ∧ Q none s))) : wpAny M' A (reRunToEnd m) Q E s := by
  obtain ⟨w, ho, h⟩ := h
  unfold reRunToEnd
  refine wpAny_bind (drive_ (2 ^ 64) k m hk (by rw [ho]; rfl) (by decide) ?_)
  refine wpAny_bind ?_
  refine forIn_rules ?_ _
  rcases h with ⟨rfl, hq⟩ | ⟨rfl, hq⟩
  · rw [ho]; exact wpAny_pure hq
  · rw [ho]; exact wpAny_pure hq
end
end X17
end JoinXR2

namespace X17
open PySem PySem.W PyProof.Rows
section ResetXB2
local macro_rules | `(tactic| walk_at "none") => `(tactic| skip)
theorem resetXB2 : True := by first | walk1 | (w_top off; trivial)
end ResetXB2
end X17
section JoinXB2
open PySem PySem.W PyProof.Rows PySem.Calls PySem.Spec
set_option Elab.async false
set_option maxRecDepth 100000
set_option linter.unusedSimpArgs false
namespace X17
open PySem.Builtin

theorem take_bytes (b : Array UInt8) (t : Tok) : Bytes.takeBufferQuiet? "bytes.join" (.bytes b t) 0 = (pure (some (b, none)) : Sem _) := by kernel_rfl!
theorem entry_join : entryFor table "bytes.join" = some Builtin.«bytes.join» := entryFor_of_tree (by kernel_rfl)
theorem check_join (b : Array UInt8) (t : Tok) (l : Value) : checkBuiltinCall "bytes.join" ⟨[.bytes b t, l], []⟩ = pure () := by kernel_rfl!
noncomputable def cat (bs : List (Array UInt8)) : Array UInt8 := bs.foldl (· ++ ·) #[]

theorem joined_nil (bs : List (Array UInt8)) : Bytes.joined #[] bs = cat bs := by
  have key : ∀ (l : List (Array UInt8 × Nat)) (o : Array UInt8), l.foldl (fun out (p : Array UInt8 × Nat) => (if p.2 > 0 then out ++ #[] else out) ++ p.1) o = (l.map (·.1)).foldl (· ++ ·) o := by
    intro l
    induction l with
    | nil => intro o; rfl
    | cons p l ih =>
      intro o
      rw [List.foldl_cons, ih, List.map_cons, List.foldl_cons]
      congr 1
      split <;> simp
  have h := key bs.zipIdx #[]
  rw [List.zipIdx_map_fst] at h
  exact h
theorem cat_size (bs : List (Array UInt8)) : (cat bs).size = (bs.map (·.size)).sum := by
  have key : ∀ (l : List (Array UInt8)) (o : Array UInt8), (l.foldl (· ++ ·) o).size = o.size + (l.map (·.size)).sum := by
    intro l
    induction l with
    | nil => intro o; simp
    | cons p l ih => intro o; rw [List.foldl_cons, ih, Array.size_append, List.map_cons, List.sum_cons]; omega
  have := key bs #[]
  simpa [cat] using this
theorem cat_snoc (bs : List (Array UInt8)) (b : Array UInt8) : cat (bs ++ [b]) = cat bs ++ b := by simp [cat]
section
variable {w : World} {A : Around} {E : Value → Shared → Prop} {s : Shared}
theorem foldl_size (bs : Array (Array UInt8)) : ∀ n : Nat, bs.foldl (fun n b => n + b.size) n = n + (bs.toList.map (·.size)).sum := by
  intro n
  rw [← Array.foldl_toList]
  induction bs.toList generalizing n with
  | nil => simp
  | cons b r ih => rw [List.foldl_cons, ih, List.map_cons, List.sum_cons]; omega

theorem join_ {l : Addr} {o : Obj} {its : Array Value} {ep : Nat} {bs : List (Array UInt8)} {t : Tok} {Q : Value → Shared → Prop} (ho : s.heap.get? l = some o) (hc : o.cls = .type "list") (hd : o.data = .seq its ep)
    (hb : BytesAre its.toList bs) (hne : its.toList ≠ []) (hz : (bs.map (·.size)).sum ≤ sizeLine) (h : ∀ t tk, Q (.bytes (cat bs) t) { s with toks := tk }) :
    wpAny (model PR w) A (PySem.call (.builtin "bytes.join") [.bytes #[] t, .ref l]) Q E s := by
  refine call_bi1 entry_join (check_join _ _ _) ?_
  unfold Builtin.«bytes.join» Bytes.joinM
  refine wpAny_bind (wpAny_of_eq (a := (Value.bytes #[] t, Value.ref l)) (by kernel_rfl!) ?_)
  dsimp only
  have hT : s.TypeIs (.ref l) "list" := ⟨o, ho, hc⟩
  have hsz : its.size = bs.length := by rw [← Array.length_toList]; exact hb.length
  refine wpAny_bind ?_
  unfold Bytes.joinItems
  refine wpAny_bind (wpAny_typeOf hT ?_)
  rw [if_pos (by rfl)]
  refine wpAny_pure (wpAny_bind (wpAny_seqItems ho hd ?_))
  dsimp only
  rw [if_pos (by rfl)]
  obtain ⟨li⟩ := its
  rcases li with _ | ⟨x, _ | ⟨y, r⟩⟩
  · exact absurd rfl hne
  · with_unfolding_all show wpAny _ _ (typeOf x >>= _) _ _ _
    obtain ⟨b, t1, hb', rfl⟩ : ∃ b t1, x = .bytes b t1 ∧ bs = [b] := by
      cases hb with
      | cons b t1 hb => cases hb; exact ⟨b, t1, rfl, rfl⟩
    subst hb'
    refine wpAny_bind (wpAny_of_eq (a := .type "bytes") rfl ?_)
    rw [if_pos (by rfl)]
    refine wpAny_bind (wpAny_rule (wpAny_pure ⟨_, rfl, ?_⟩))
    have e : cat [b] = b := by simp [cat]
    have := h t1 s.toks
    rw [e] at this
    exact this
  all_goals
    with_unfolding_all show wpAny _ _ (forIn _ _ _ >>= _) _ _ _
    refine wpAny_bind (forIn_upto (I := fun i (x : Array (Array UInt8) × List (Value × Option Value)) s' => s' = s ∧ x.1 = (bs.take i).toArray ∧ ∃ vs : List Value, x.2 = vs.map (fun v => (v, none)) ∧ ∀ v ∈ vs, ∃ b t, v = Value.bytes b t) ⟨rfl, rfl, [], rfl, fun _ h => nomatch h⟩ ?_ ?_)
    · rintro i ⟨parts, taken⟩ s' hi ⟨rfl, hp, vs, ht, hv⟩
      dsimp only at hp ht ⊢
      subst hp ht
      refine wpAny_bind (wpAny_seqItems ho hd ?_)
      dsimp only
      obtain ⟨t1, hx⟩ := hb.get (i := i) (by rw [← hsz]; exact hi)
      have hx' : ∀ (a : Array Value), a.toList[i]? = some (Value.bytes (bs[i]'(by rw [← hsz]; exact hi)) t1) → a.getD i .none = .bytes (bs[i]'(by rw [← hsz]; exact hi)) t1 := fun a e => by
        rw [Array.getD_eq_getD_getElem?, ← Array.getElem?_toList, e]; rfl
      rw [hx' _ hx]
      have hany : ((vs.map fun v => (v, (none : Option Value))).any fun x => x.1.onHeap) = false := by
        rw [List.any_map, List.any_eq_false]
        intro v hvm
        obtain ⟨b, t, rfl⟩ := hv v hvm
        exact Bool.false_ne_true
      rw [hany, if_neg (by decide)]
      refine wpAny_bind (wpAny_holding (wpAny_of_eq (take_bytes _ _) ?_))
      dsimp only
      refine wpAny_bind (wpAny_seqItems ho hd ?_)
      dsimp only
      rw [if_neg (by simp)]
      refine wpAny_pure ⟨_, rfl, rfl, ?_, vs ++ [Value.bytes (bs[i]'(by rw [← hsz]; exact hi)) t1], by simp, ?_⟩
      · rw [List.take_add_one, List.getElem?_eq_getElem (by rw [← hsz]; exact hi)]
        simp
      · intro v hvm
        rcases List.mem_append.mp hvm with hvm | hvm
        · exact hv v hvm
        · rw [List.mem_singleton.mp hvm]; exact ⟨_, _, rfl⟩
    · rintro ⟨parts, taken⟩ s' ⟨rfl, hp, vs, ht, hv⟩
      dsimp only at hp ht ⊢
      rw [hsz, List.take_length] at hp
      subst hp ht
      refine wpAny_bind (wpAny_of_eq (a := (#[] : Array UInt8)) rfl ?_)
      have hlen : Bytes.tooLong (bs.toArray.foldl (fun n b => n + b.size) ((#[] : Array UInt8).size * (bs.toArray.size - 1))) = false := by
        rw [foldl_size]
        simp only [List.size_toArray, List.length_nil, Nat.zero_mul, Nat.zero_add]
        exact decide_eq_false (Nat.not_lt.mpr hz)
      rw [hlen, if_neg Bool.false_ne_true]
      rw [show bs.toArray.toList = bs by simp, show ([] : List UInt8).toArray = #[] from rfl, joined_nil]
      refine wpAny_bind (wpAny_mkBytes ?_ (by rw [cat_size]; exact hz))
      refine wpAny_bind (wpAny_holding (wpAny_point (wpAny_bind (joinLetGo_ ?_ _))))
      exact wpAny_pure ⟨_, rfl, h _ _⟩
end
end X17
end JoinXB2

namespace X17
open PySem PySem.W PyProof.Rows
section ResetXR3
local macro_rules | `(tactic| walk_at "none") => `(tactic| skip)
theorem resetXR3 : True := by first | walk1 | (w_top off; trivial)
end ResetXR3
end X17
section JoinXR3
open PySem PySem.W PyProof.Rows PySem.Calls PySem.Spec
set_option Elab.async false
set_option maxRecDepth 100000
namespace X17
open PySem.Builtin PySem.Builtin.Re
open PySem.Sre (M)

theorem text_bytes (d : Array UInt8) (t : Tok) : reTextOf (.bytes d t) = (pure (d.map (·.toNat), 1) : Sem _) := by kernel_rfl!
theorem collect_bytes (d : Array UInt8) (t : Tok) : reNoCollectionInside (.bytes d t) 1 = pure () := by kernel_rfl!
theorem lit_bytes (d : Array UInt8) (t : Tok) : reLiteralCannotBeTurned (.bytes d t) = pure () := by kernel_rfl!
theorem named_sub (a b : Value) : reNamed "re.Pattern.sub" "sub" ["repl", "string", "count"] 2 [a, b] [] = pure [some a, some b, none] := by kernel_rfl!

/-- the pattern, as it lies -/
structure QuoteAt (h : Heap) : Prop where
  pat : ∃ o fs, h.get? 43 = some o ∧ o.data = .fields fs ∧ fs.getD 5 .none = .ref 42 ∧ reRawNat (fs.getD 6 .none) = 1 ∧ reRawNat (fs.getD 2 .none) = 0
  code : ∃ o cs n, h.get? 42 = some o ∧ o.data = .seq cs n ∧ (cs.map reRawOf).map (·.toNat) = RC

noncomputable def qTarget (d : Array UInt8) (t : Tok) : ReTarget := { pattern := .ref 43, string := .bytes d t, code := RC, text := d.map (·.toNat), kind := 1, groups := 0, pos := 0, lim := (d.map (·.toNat)).size }

section
variable {M' : Model} {A : Around} {E : Value → Shared → Prop} {s : Shared}
theorem whole_ {d : Array UInt8} {t : Tok} {Q : ReTarget → Shared → Prop} (hq : QuoteAt s.heap) (h : Q (qTarget d t) s) : wpAny M' A (reWholeTarget (.ref 43) (.bytes d t)) Q E s := by
  obtain ⟨⟨o, fs, ho, hf, h5, h6, h2⟩, oc, cs, nc, hoc, hcs, hrc⟩ := hq
  unfold reWholeTarget
  refine wpAny_bind (wpAny_fieldsOf ho hf ?_)
  rw [text_bytes]
  refine wpAny_bind (wpAny_pure ?_)
  dsimp only
  rw [h6, h2, h5, collect_bytes]
  refine wpAny_bind (wpAny_pure ?_)
  refine wpAny_bind ?_
  unfold reRawItems
  refine wpAny_bind (wpAny_seqItems hoc hcs ?_)
  refine wpAny_pure (wpAny_pure ?_)
  show Q { pattern := .ref 43, string := .bytes d t, code := (cs.map reRawOf).map (·.toNat), text := d.map (·.toNat), kind := 1, groups := 0, pos := 0, lim := (d.map (·.toNat)).size } s
  rw [hrc]
  exact h
end
end X17
end JoinXR3

namespace X17
open PySem PySem.W PyProof.Rows
section ResetXR4
local macro_rules | `(tactic| walk_at "none") => `(tactic| skip)
theorem resetXR4 : True := by first | walk1 | (w_top off; trivial)
end ResetXR4
end X17
section JoinXR4
open PySem PySem.W PyProof.Rows PySem.Calls PySem.Spec
set_option Elab.async false
set_option maxRecDepth 100000
set_option linter.unusedSimpArgs false
namespace X17
open PySem.Builtin PySem.Builtin.Re
open PySem.Sre (M)

/-- the runs of signs outside the quoted parts -/
inductive Cut : List Nat → List (List Nat) → Prop
  | last {r : List Nat} : (∀ c ∈ r, c ≠ 34) → Cut r [r]
  | more {a b b' : List Nat} {cs : List (List Nat)} : (∀ c ∈ a, c ≠ 34) → Bd b b' → Cut b' cs → Cut (a ++ 34 :: b) (a :: cs)
theorem Bd.suffix {b b' : List Nat} (h : Bd b b') : ∃ u, u ++ b' = b := by
  induction h with
  | close => exact ⟨[34], rfl⟩
  | @esc c r r' _ _ ih => obtain ⟨u, hu⟩ := ih; exact ⟨92 :: c :: u, by simp [hu]⟩
  | @chr c r r' _ _ _ ih => obtain ⟨u, hu⟩ := ih; exact ⟨c :: u, by simp [hu]⟩
noncomputable def toB (l : List Nat) : Array UInt8 := (l.map (·.toUInt8)).toArray
theorem toB_append (a b : List Nat) : toB (a ++ b) = toB a ++ toB b := by simp [toB]

structure PL (s0 : Shared) (l : Addr) (bs : List (Array UInt8)) (s : Shared) : Prop where
  it : ∃ its ep, s.heap.get? l = some { cls := .type "list", data := .seq its ep } ∧ BytesAre its.toList bs
  keep : ∀ b o, s0.heap.get? b = some o → s.heap.get? b = some o
  gens : s.gens = s0.gens
  os : s.os = s0.os

theorem QuoteAt.keeps {h h' : Heap} (q : QuoteAt h) (k : ∀ b o, h.get? b = some o → h'.get? b = some o) : QuoteAt h' := by
  obtain ⟨⟨o, fs, ho, hf⟩, oc, cs, nc, hoc, hcs⟩ := q
  exact ⟨⟨o, fs, k _ _ ho, hf⟩, oc, cs, nc, k _ _ hoc, hcs⟩

section
variable {M' : Model} {A : Around} {E : Value → Shared → Prop} {s s0 : Shared} {l : Addr} {bs : List (Array UInt8)}
theorem PL.toks (P : PL s0 l bs s) (t : Nat) : PL s0 l bs { s with toks := t } := ⟨P.it, P.keep, P.gens, P.os⟩
/-- one more piece -/
theorem push_ {b : Array UInt8} {t : Tok} {Q : Unit → Shared → Prop} (P : PL s0 l bs s) (hl : s0.heap.get? l = none) (hz : bs.length ≤ sizeLine) (h : ∀ s', PL s0 l (bs ++ [b]) s' → Q () s') :
    wpAny M' A (updateSeq l (·.push (.bytes b t))) Q E s := by
  obtain ⟨its, ep, ho, hb⟩ := P.it
  have hsz : its.size = bs.length := by rw [← Array.length_toList]; exact hb.length
  refine wpAny_updateSeq ho rfl (h _ ⟨⟨its.push (.bytes b t), ep + 1, ?_, by rw [Array.toList_push]; exact hb.snoc b t⟩, fun c o e => ?_, P.gens, P.os⟩) (by rw [hsz]; exact hz) (by rw [Array.size_push, hsz]; omega)
  · rw [Heap.get?_update_self _ ho rfl]
    simp [Obj.mapSeq]
  · rw [Heap.get?_update_other _ _ (by rintro rfl; rw [hl] at e; cases e)]
    exact P.keep c o e
theorem slice_ {text : Array Nat} {p q : Nat} {a b : List Nat} {Q : Value → Shared → Prop} (hd : text.toList.drop p = a ++ b) (hq : q = p + a.length) (hz : text.size ≤ sizeLine) (h : ∀ t tk, Q (.bytes (toB a) t) { s with toks := tk }) :
    wpAny M' A (reSlice text 1 p q) Q E s := by
  have hlen := congrArg List.length hd
  rw [List.length_drop, Array.length_toList, List.length_append] at hlen
  have e : (text.extract p q).map (·.toUInt8) = toB a := by
    apply Array.ext'
    rw [Array.toList_map, Array.toList_extract, List.extract_eq_take_drop, hd, hq, Nat.add_sub_cancel_left, List.take_left]
    simp [toB]
  show wpAny M' A (mkBytes ((text.extract p q).map (·.toUInt8))) Q E s
  rw [e]
  refine wpAny_mkBytes (h _ _) ?_
  simp only [toB, List.size_toArray, List.length_map]
  omega
end

theorem entry_subloop : entryFor table "re.Pattern.sub.loop" = some Builtin.«re.Pattern.sub.loop» := entryFor_of_tree (by kernel_rfl)
theorem under_subloop (A : Around) (args : Args) : A.under (.builtin "re.Pattern.sub.loop" args) = A.in1 := Around.under_plainId (by decide +kernel) args

noncomputable def subArgs (d : Array UInt8) (td u : Tok) (n p : Int) (l : Addr) : Args :=
  ⟨[.ref 43, .bytes d td, .bytes #[] u, rawInt 0, rawInt 0, rawInt n, rawInt p, rawInt p, .bool false, .ref l, .bool false], []⟩

section
variable {w : World} {A : Around} {s0 : Shared} {l : Addr} {d : Array UInt8} {td u : Tok} {R : Result → Shared → Prop}
theorem sub_fin {s s0 : Shared} {C : Value → Sem PySem.Fin} (hC : ∀ v, C v = ret v) (hl : s0.heap.get? l = none) {bs' : List (Array UInt8)} {out : Array UInt8} (P : PL s0 l bs' s) (hcat : cat bs' = out) (hz : (cat bs').size ≤ sizeLine) (h : ∀ t s', (∃ bs', PL s0 l bs' s') → R (.ok (.ret (.bytes out t))) s') :
    wpAny (model PR w) A.in1 (do
        let joiner ← reSlice (qTarget d td).text (qTarget d td).kind 0 0
        let x ← seqItems? (.ref l)
        if (x.getD #[]).isEmpty = true then do
          let text ← pure joiner
          C text
        else do
          let text ← PySem.call (.builtin (if ((qTarget d td).kind == 0) = true then "str.join" else "bytes.join")) [joiner, .ref l]
          C text) (fun fin s' => match fin with
          | .done f => R (.ok f) s'
          | .again c' => c'.quiet = true ∧ codeAny (model PR w) A c' R s') (fun e s' => R (.error e) s') s := by
  subst hcat
  refine wpAny_bind ?_
  have ej : reSlice (qTarget d td).text (qTarget d td).kind 0 0 = mkBytes #[] := by
    show mkBytes (((d.map (·.toNat)).extract 0 0).map (·.toUInt8)) = _
    rw [Array.extract_empty_of_stop_le_start (Nat.le_refl 0), Array.map_empty]
  rw [ej]
  refine wpAny_mkBytes ?_ (Nat.zero_le _)
  have P' := P.toks (s.toks + 1)
  obtain ⟨its, ep, ho, hb⟩ := P'.it
  refine wpAny_bind (wpAny_seqItems ho rfl ?_)
  by_cases he : its.isEmpty = true
  · rw [if_pos (by simpa using he)]
    refine wpAny_bind (wpAny_pure ?_)
    have hi : its = #[] := by simpa using he
    subst hi
    have : bs' = [] := by cases hb; rfl
    subst this
    rw [hC]
    exact wpAny_pure (h _ _ ⟨_, P'⟩)
  · rw [if_neg (by simpa using he)]
    refine wpAny_bind (join_ ho rfl rfl hb (fun h => he (by simpa using h)) (by rw [← cat_size]; exact hz) fun t tk => ?_)
    rw [hC]
    exact wpAny_pure (h _ _ ⟨_, P'.toks tk⟩)

theorem subloop_ (hq : QuoteAt s0.heap) (hl : s0.heap.get? l = none) (hz : d.size + d.size + 4 ≤ sizeLine) {r : List Nat} {cs : List (List Nat)} (hc : Cut r cs) : ∀ {bs : List (Array UInt8)} {s : Shared} {p : Nat} {n : Int},
    (d.map (·.toNat)).toList.drop p = r → PL s0 l bs s → bs.length + 2 * r.length ≤ 2 * d.size → (cat bs).size + r.length ≤ d.size →
    (∀ t s', (∃ bs', PL s0 l bs' s') → R (.ok (.ret (.bytes (cat bs ++ toB cs.flatten) t))) s') →
    codeAny (model PR w) A (.builtin "re.Pattern.sub.loop" (subArgs d td u n p l)) R s := by
  have hts : (d.map (·.toNat)).size = d.size := Array.size_map
  have hszl : (qTarget d td).text.size ≤ sizeLine := by
    show (d.map (·.toNat)).size ≤ sizeLine
    rw [hts]; omega
  have hslv := sizeLine_eq
  have hz1 : 2 * d.size ≤ sizeLine := by omega
  have hz2 : d.size ≤ sizeLine := by omega
  induction hc with
  | @last r hr =>
    intro bs s p n hd P h1 h2 h
    refine codeAny_builtin entry_subloop ?_
    rw [under_subloop]
    unfold Builtin.«re.Pattern.sub.loop» subArgs rawInt
    refine wpAny_bind (whole_ (hq.keeps P.keep) ?_)
    dsimp only
    rw [if_pos (by rfl), lit_bytes]
    refine wpAny_bind (wpAny_pure ?_)
    rw [if_neg (by simp), Int.toNat_natCast]
    unfold reNextFound
    obtain ⟨k, m, hk, hkb, ho⟩ := found_none (text := d.map (·.toNat)) (p := p) (by rw [hd]; exact hr)
    rw [hts] at hkb
    refine wpAny_bind (runToEnd_ (k := k) (by omega) ⟨_, (congrArg M.outcome hk).trans ho, .inr ⟨rfl, ?_⟩⟩)
    dsimp only
    have hlen := congrArg List.length hd
    rw [List.length_drop, Array.length_toList, hts] at hlen
    rw [List.flatten_cons, List.flatten_nil, List.append_nil] at h
    by_cases hp : p < (qTarget d td).lim
    · rw [if_pos hp]
      have hp' : p < d.size := by rw [← hts]; exact hp
      refine wpAny_bind (slice_ (a := r) (b := []) (by rw [List.append_nil]; exact hd) (by show (d.map (·.toNat)).size = _; rw [hts]; omega) hszl fun t tk => ?_)
      refine wpAny_bind (push_ (P.toks tk) hl (Nat.le_trans (Nat.le_trans (Nat.le_add_right _ _) h1) hz1) fun s' P' => ?_)
      refine sub_fin (w := w) (A := A) (R := R) (d := d) (td := td) (C := (fun text => if false = true then (do let x ← holding [text] (do let y ← mkInt n; newTuple [text, y]); ret x) else ret text)) ?_ hl P' (cat_snoc _ _) ?_ h
      · intro v; exact if_neg Bool.false_ne_true
      rw [cat_snoc, Array.size_append]
      simp only [toB, List.size_toArray, List.length_map]
      omega
    · rw [if_neg hp]
      have hp' : ¬ p < d.size := by rw [← hts]; exact hp
      have hr0 : r = [] := List.eq_nil_of_length_eq_zero (by omega)
      subst hr0
      refine sub_fin (w := w) (A := A) (R := R) (d := d) (td := td) (C := (fun text => if false = true then (do let x ← holding [text] (do let y ← mkInt n; newTuple [text, y]); ret x) else ret text)) ?_ hl P ?_ (by omega) h
      · intro v; exact if_neg Bool.false_ne_true
      simp [toB]
  | @more a b b' cs ha hb hc ih =>
    intro bs s p n hd P h1 h2 h
    have hlen := congrArg List.length hd
    rw [List.length_drop, Array.length_toList, hts, List.length_append, List.length_cons] at hlen
    rw [List.length_append, List.length_cons] at h1 h2
    have hbl := hb.lt
    have hb9 : bs.length + 1 ≤ sizeLine := Nat.le_trans (Nat.le_trans (Nat.add_le_add_left (by omega) _) h1) hz1
    refine codeAny_builtin entry_subloop ?_
    rw [under_subloop]
    unfold Builtin.«re.Pattern.sub.loop» subArgs rawInt
    refine wpAny_bind (whole_ (hq.keeps P.keep) ?_)
    dsimp only
    rw [if_pos (by rfl), lit_bytes]
    refine wpAny_bind (wpAny_pure ?_)
    rw [if_neg (by simp), Int.toNat_natCast]
    unfold reNextFound
    obtain ⟨k, m, hk, hkb, ho, hms, hmh⟩ := found_some (text := d.map (·.toNat)) (p := p) ha hd hb
    rw [hts] at hkb hmh
    refine wpAny_bind (runToEnd_ (k := k) (by omega) ⟨_, (congrArg M.outcome hk).trans ho, .inl ⟨rfl, ?_⟩⟩)
    have hk' : goN k (Sre.forSearch (qTarget d td).code (qTarget d td).text (qTarget d td).groups p (qTarget d td).lim false) = m := hk
    rw [hk']
    dsimp only
    have hdh : (d.map (·.toNat)).toList.drop m.handed = b' := by
      have hb2 := hb.suffix
      obtain ⟨u, hu⟩ := hb2
      have e1 : (d.map (·.toNat)).toList.drop (p + a.length + 1 + u.length) = b' := by
        rw [← List.drop_drop, ← List.drop_drop, ← List.drop_drop, hd, List.drop_left, List.drop_succ_cons, List.drop_zero, ← hu, List.drop_left]
      rw [← e1]
      congr 1
      have := congrArg List.length hu
      rw [List.length_append] at this
      omega
    have next : ∀ bs' s', PL s0 l bs' s' → bs'.length ≤ bs.length + 1 → cat bs' = cat bs ++ toB a → wpAny (model PR w) A.in1 (do
        if (Value.bytes #[] u != Value.none) = true then do
          updateSeq l fun x => x.push (Value.bytes #[] u)
          again (Code.builtin "re.Pattern.sub.loop" { pos := [Value.ref 43, Value.bytes d td, Value.bytes #[] u, .int 0 0, .int 0 0, .int (n + 1) 0, .int m.handed 0, .int m.handed 0, .bool (m.handed == m.start), .ref l, .bool false] })
        else again (Code.builtin "re.Pattern.sub.loop" { pos := [Value.ref 43, Value.bytes d td, Value.bytes #[] u, .int 0 0, .int 0 0, .int (n + 1) 0, .int m.handed 0, .int m.handed 0, .bool (m.handed == m.start), .ref l, .bool false] })) (fun fin s' => match fin with
          | .done f => R (.ok f) s'
          | .again c' => c'.quiet = true ∧ codeAny (model PR w) A c' R s') (fun e s' => R (.error e) s') s' := by
      intro bs' s' P' hl' hcat
      rw [if_pos (by rfl)]
      refine wpAny_bind (push_ P' hl (Nat.le_trans hl' hb9) fun s'' P'' => ?_)
      refine wpAny_pure ⟨plainId_quiet (by decide +kernel) _, ?_⟩
      have hms' : (m.handed == m.start) = false := by
        rw [beq_eq_false_iff_ne]; omega
      rw [hms']
      have hcat2 : cat (bs' ++ [#[]]) = cat bs ++ toB a := by rw [cat_snoc, hcat]; simp
      refine ih hdh P'' (by rw [List.length_append, List.length_singleton]; omega) (by rw [hcat2, Array.size_append]; simp only [toB, List.size_toArray, List.length_map]; omega) fun t s3 hs3 => ?_
      rw [hcat2]
      rw [List.flatten_cons, toB_append, ← Array.append_assoc] at h
      exact h t s3 hs3
    by_cases hp : p < m.start
    · rw [if_pos hp]
      refine wpAny_bind (slice_ (a := a) (b := 34 :: b) hd hms hszl fun t tk => ?_)
      refine wpAny_bind (push_ (P.toks tk) hl (Nat.le_trans (Nat.le_succ _) hb9) fun s' P' => ?_)
      rw [if_pos (by rfl)]
      refine wpAny_bind (wpAny_pure ?_)
      exact next _ _ P' (by simp) (cat_snoc _ _)
    · rw [if_neg hp]
      have ha0 : a = [] := List.eq_nil_of_length_eq_zero (by omega)
      subst ha0
      rw [if_pos (by rfl)]
      refine wpAny_bind (wpAny_pure ?_)
      exact next _ _ P (Nat.le_succ _) (by simp [toB])
end
end X17
end JoinXR4

namespace X17
open PySem PySem.W PyProof.Rows
section ResetXR5
local macro_rules | `(tactic| walk_at "none") => `(tactic| skip)
theorem resetXR5 : True := by first | walk1 | (w_top off; trivial)
end ResetXR5
end X17
section JoinXR5
open PySem PySem.W PyProof.Rows PySem.Calls PySem.Spec
set_option Elab.async false
set_option maxRecDepth 100000
set_option linter.unusedSimpArgs false
namespace X17
open PySem.Builtin PySem.Builtin.Re

section
variable {w : World} {A : Around} {E : Value → Shared → Prop} {s : Shared}
theorem call_slot {T : String} {name : Str} {id : String} {b : Builtin} {self : Value} {rest : List Value} {Q : Value → Shared → Prop} (sl : Slot T name id) (hT : s.TypeIs self T) (hb : entryFor table id = some b)
    (h : wpAny (model PR w) A.in1 (b ⟨self :: rest, []⟩) (fun fin s' => match fin with
      | .done f => CallBack Q E (.ok f) s'
      | .again c' => c'.quiet = true ∧ codeAny (model PR w) A c' (CallBack Q E) s') E s) (ha : argsOk id ⟨self :: rest, []⟩ := by unfold argsOk; kernel_rfl!) :
    wpAny (model PR w) A (PySem.call (.builtin id) (self :: rest)) Q E s := by
  refine wpAny_call (codeAny_mono (codeAny_call_builtin (R := CallBack Q E) sl.plain hb (sl.check _ _ _ _ _ _ _ _ hT ha (wpAny_mono h (fun fin s' hf => by cases fin <;> exact hf) fun _ _ x => x))) fun r s' hr => ?_)
  cases r with
  | ok f => cases f <;> first | exact hr | exact hr.elim
  | error e => exact hr

theorem slot_sub : Slot "re.Pattern" "sub" "re.Pattern.sub" :=
  .of (owner := "re.Pattern") (n := "sub") (by rw [typeLookup_type, builtinLookup_eq_fast]; kernel_rfl) (by decide +kernel) (by decide +kernel) (by decide +kernel)
    (by first | exact .inl (by decide +kernel) | exact .inr (by decide +kernel)) (by rw [isSubtype_type]; kernel_rfl)
theorem plainAttrs_pattern : PlainAttrs "re.Pattern" := ⟨⟨"object.__getattribute__", by rw [typeLookup_type, builtinLookup_eq_fast]; kernel_rfl, by decide +kernel⟩, by rw [typeLookup_type, builtinLookup_eq_fast]; kernel_rfl⟩
theorem type_sub : typeOf (.builtin "re.Pattern.sub") = pure (.type "method_descriptor") := by kernel_rfl!
theorem entry_sub : entryFor table "re.Pattern.sub" = some Builtin.«re.Pattern.sub» := entryFor_of_tree (by kernel_rfl)
theorem noCall_bytes (b : Array UInt8) (t : Tok) : specialOf (.bytes b t) (Str.ofString "__call__") = pure none := by kernel_rfl!
theorem asStr_bytes (b : Array UInt8) (t : Tok) : asStr? (.bytes b t) = pure none := by kernel_rfl!
theorem buf_bytes (b : Array UInt8) (t : Tok) : Bytes.bufferQuiet? "re.Pattern.sub" (.bytes b t) = (pure (some b) : Sem _) := by kernel_rfl!

theorem sub_ {d : Array UInt8} {td u : Tok} {cs : List (List Nat)} {Q : Value → Shared → Prop} (hq : QuoteAt s.heap) (hT : s.TypeIs (.ref 43) "re.Pattern") (hc : Cut (d.map (·.toNat)).toList cs) (hz : d.size + d.size + 4 ≤ sizeLine)
    (h : ∀ t s', (∀ b o, s.heap.get? b = some o → s'.heap.get? b = some o) → s'.gens = s.gens → s'.os = s.os → Q (.bytes (toB cs.flatten) t) s') :
    wpAny (model PR w) A (PySem.call (.builtin "re.Pattern.sub") [.ref 43, .bytes #[] u, .bytes d td]) Q E s := by
  refine call_slot slot_sub hT entry_sub ?_
  unfold Builtin.«re.Pattern.sub» reSubstitute
  dsimp only
  rw [named_sub]
  refine wpAny_bind (wpAny_pure ?_)
  dsimp only
  refine wpAny_bind (wpAny_pure ?_)
  rw [noCall_bytes]
  refine wpAny_bind (wpAny_pure ?_)
  rw [if_neg (by simp), asStr_bytes]
  refine wpAny_bind (wpAny_pure ?_)
  dsimp only
  refine wpAny_bind (wpAny_of_eq (buf_bytes #[] u) ?_)
  dsimp only
  refine wpAny_bind (wpAny_pure ?_)
  rw [if_neg (by simp), if_pos (by simp)]
  refine wpAny_bind (wpAny_pure ?_)
  refine wpAny_bind (wpAny_holding (whole_ hq ?_))
  rw [if_neg (by simp)]
  refine wpAny_bind (wpAny_newList ?_ (by simp))
  refine wpAny_pure ⟨Code.quiet_builtin _ (by decide +kernel), ?_⟩
  have hfresh : s.heap.get? s.heap.objs.size = none := by
    cases e : s.heap.get? s.heap.objs.size with
    | none => rfl
    | some o => exact absurd (Heap.lt_size e) (Nat.lt_irrefl _)
  have hlen : (d.map (·.toNat)).toList.length = d.size := by simp
  refine subloop_ (s0 := s) (p := 0) (n := 0) (bs := []) hq hfresh hz hc (by simp) ⟨⟨#[], 0, Heap.get?_push_size _ rfl, .nil⟩, fun b o e => Heap.get?_push_of_some _ e, rfl, rfl⟩ (by rw [hlen]; simp) (by rw [hlen]; simp [cat]) ?_
  rintro t s' ⟨bs', P⟩
  have := h t s' P.keep P.gens P.os
  simpa [cat, CallBack] using this
end
end X17
end JoinXR5

namespace X17
open PySem PySem.W PyProof.Rows
section ResetXC
local macro_rules | `(tactic| walk_at "none") => `(tactic| skip)
theorem resetXC : True := by first | walk1 | (w_top off; trivial)
end ResetXC
end X17
section JoinXC
open PySem PySem.W PyProof.Rows PySem.Spec PySem.Calls
set_option Elab.async false
set_option maxRecDepth 100000
set_option maxHeartbeats 0
namespace X17
open PySem.Builtin
theorem extract_one (b : Array UInt8) (c : UInt8) (i : Nat) (hi : i < b.size) : (b.extract i (i + (#[c] : Array UInt8).size) == #[c]) = (b[i] == c) := by
  have e : b.extract i (i + (#[c] : Array UInt8).size) = #[b[i]] := by
    apply Array.ext
    · simp; omega
    · intro j h1 h2
      have : j = 0 := by simp at h2; omega
      subst this
      simp
  rw [e]
  by_cases h : b[i] = c
  · rw [h]; simp
  · rw [beq_false_of_ne h]
    apply beq_false_of_ne
    intro q
    apply h
    simpa using q
theorem occ_count (b : Array UInt8) (c : UInt8) : (Bytes.occurrences b #[c] 0 b.size).length = b.toList.count c := by
  have key : ∀ k, k ≤ b.size → ∀ st : List Nat × Nat, st = ((List.range k).map (· + 0)).foldl (fun (acc : List Nat × Nat) (i : Nat) => if i ≥ acc.2 && b.extract i (i + (#[c] : Array UInt8).size) == #[c] then (i :: acc.1, i + (#[c] : Array UInt8).size) else acc) ([], 0) → st.2 ≤ k ∧ st.1.length = (b.toList.take k).count c := by
    intro k
    induction k with
    | zero => intro _ st e; subst e; simp
    | succ k ih =>
      intro hk st e
      rw [List.range_succ, List.map_append, List.foldl_append] at e
      obtain ⟨h1, h2⟩ := ih (by omega) _ rfl
      generalize hst : ((List.range k).map (· + 0)).foldl (fun (acc : List Nat × Nat) (i : Nat) => if i ≥ acc.2 && b.extract i (i + (#[c] : Array UInt8).size) == #[c] then (i :: acc.1, i + (#[c] : Array UInt8).size) else acc) ([], 0) = st0 at *
      have hk' : k < b.size := hk
      have htk : (b.toList.take (k + 1)).count c = (b.toList.take k).count c + if b[k] == c then 1 else 0 := by
        rw [List.take_add_one, List.count_append]
        congr 1
        rw [List.getElem?_eq_getElem (by simpa using hk')]
        simp only [Option.toList, Array.getElem_toList]
        rw [List.count_singleton]
      rw [htk]
      simp only [List.map_cons, List.map_nil, List.foldl_cons, List.foldl_nil, Nat.add_zero] at e
      rw [extract_one b c k hk', show decide (k ≥ st0.2) = true from decide_eq_true h1, Bool.true_and] at e
      by_cases hb : (b[k] == c) = true
      · rw [if_pos hb] at e
        subst e
        rw [if_pos hb]
        exact ⟨by simp, by simp [h2]⟩
      · rw [if_neg hb] at e
        subst e
        rw [if_neg hb]
        exact ⟨by omega, by omega⟩
  unfold Bytes.occurrences
  dsimp only
  rw [List.length_reverse]
  have h := (key b.size (Nat.le_refl _) _ rfl).2
  rw [List.take_of_length_le (by simp)] at h
  rw [← h]
  simp
theorem count_args (b : Array UInt8) (t : Tok) (c : UInt8) (t' : Tok) : Bytes.searchArgs .bytes "count" ⟨[.bytes b t, .bytes #[c] t'], []⟩ = (pure (b, #[c], if ((Bytes.window b.size none none).2 - (Bytes.window b.size none none).1 < ((#[c] : Array UInt8).size : Int)) then none else some ((Bytes.window b.size none none).1.toNat, (Bytes.window b.size none none).2.toNat)) : Sem _) := by kernel_rfl!
theorem slot_count : Slot "bytes" "count" "bytes.count" := .of (owner := "bytes") (n := "count") (by rw [typeLookup_type, builtinLookup_eq_fast]; kernel_rfl) (by decide +kernel) (by decide +kernel) (by decide +kernel)
    (by first | exact .inl (by decide +kernel) | exact .inr (by decide +kernel)) (by rw [isSubtype_type]; kernel_rfl)
theorem type_count : typeOf (.builtin "bytes.count") = pure (.type "method_descriptor") := by kernel_rfl!
theorem entry_count : entryFor table "bytes.count" = some Builtin.«bytes.count» := entryFor_of_tree (by kernel_rfl)
section
variable {w : World} {s : Shared} {A : Around} {E : Value → Shared → Prop} {b : Array UInt8} {t t' : Tok} {c : UInt8}
theorem count_ {Q : Value → Shared → Prop} (h : Q (.int (b.toList.count c) s.toks) { s with toks := s.toks + 1 }) : wpAny (model PR w) A (PySem.call (.builtin "bytes.count") [.bytes b t, .bytes #[c] t']) Q E s := by
  refine call_bi1 entry_count (by kernel_rfl!) ?_
  unfold Builtin.«bytes.count» Bytes.countM
  refine wpAny_bind (wpAny_of_eq (count_args b t c t') ?_)
  dsimp only
  have e1 : (Bytes.window b.size none none).1 = 0 := rfl
  have e2 : (Bytes.window b.size none none).2 = b.size := by
    show min (b.size : Int) (if (b.size : Int) < 0 then _ else (b.size : Int)) = _
    rw [if_neg (by omega)]; omega
  rw [e1, e2]
  by_cases hb : b.size = 0
  · have : b = #[] := Array.eq_empty_of_size_eq_zero hb
    subst this
    rw [if_pos (by simp)]
    exact wpAny_bind (wpAny_mkInt (wpAny_pure ⟨_, rfl, by simpa using h⟩))
  · rw [if_neg (by simp; omega)]
    dsimp only
    rw [if_neg (by simp)]
    refine wpAny_bind (wpAny_mkInt (wpAny_pure ⟨_, rfl, ?_⟩))
    have := occ_count b c
    rw [show ((0 : Int).toNat) = 0 from rfl, show (((b.size : Nat) : Int).toNat) = b.size from by simp, this]
    exact h
theorem count_getm {pl : Sem Bool} {Q : Value × List Value → Shared → Prop} (h : Q (.builtin "bytes.count", [.bytes b t]) s) : wpAny (model PR w) A (getMethod (.bytes b t) "count" pl) Q E s :=
  getMethod_builtin (T := "bytes") (show typeOf _ = _ by kernel_rfl!) PySem.W.FB.plainAttrs_bytes slot_count type_count (fun a e => by cases e) h
end
end X17
end JoinXC

namespace X17
open PySem PySem.W PyProof.Rows
section ResetMain
local macro_rules | `(tactic| walk_at "none") => `(tactic| skip)
theorem resetMain : True := by first | walk1 | (w_top off; trivial)
end ResetMain
end X17
section JoinMain
open PySem PySem.W PyProof.Rows PySem.Spec PySem.Calls
set_option maxRecDepth 100000
set_option maxHeartbeats 0
namespace X17
open PySem.Builtin
local macro_rules | `(tactic| lcg_off) => do let z ← closeZ; `(tactic| ((repeat (first | with_reducible assumption | refine Nat.lt_trans ?_ (by with_reducible assumption))); with_reducible $z:tactic))
local macro_rules | `(tactic| omega) => `(tactic| first
  | ((with_reducible refine Nat.lt_of_lt_of_le ?_ (Nat.le_refl _)); lcg_off)
  | ((with_reducible refine Nat.ne_of_lt ?_); lcg_off)
  | ((with_reducible refine Nat.ne_of_gt ?_); lcg_off)
  | with_reducible exact X17.zb rfl | with_reducible exact X17.zb' rfl | with_reducible exact X17.zle (by assumption) rfl | with_reducible exact X17.zlt (by assumption) rfl | with_reducible exact X17.zlt' (by assumption) rfl
  | omega (config := {}))
theorem fillMain (P : Params) : PySem.Challenge.rw_xg0017_01 = PySem.Challenge.rw_xg0017_01 ∧ hd.heap_39 P = hd.heap_39 P := by k_fill; exact ⟨rfl, rfl⟩
local macro_rules | `(tactic| k_room) => `(tactic| ((try simp only [depth_under_make, depth_under_kw, depth_in1, depth_deeper]); (try dsimp only); omega))
local macro_rules | `(tactic| walk_at "eval Name") => `(tactic| (k_here; (with_reducible rename Fr _ _ _ _ => kF); k_dflt (refine' nameX_L kF ?k1 ?_; (case k1 => first | exact rfl | assumption); k_whole)))
local macro_rules | `(tactic| walk_at "eval Name") => `(tactic| (k_here; k_dflt (refine' nameX_C ?N ?c ?m ?d ?_; (case N => k_asm); (case c => exact rfl); (case m => k_mem); (case d => assumption); k_whole)))
local macro_rules | `(tactic| walk_at "eval Name") => `(tactic| (k_here; (with_reducible rename Fr _ _ _ _ => kF); k_dflt (refine' nameX_K kF ?k1 ?k2 ?k3 ?_ ; (case k1 | k2 => k_asm); (case k3 => k_is); k_whole)))
local macro_rules | `(tactic| walk_at "eval Name") => `(tactic| (k_here; (with_reducible rename Fr _ _ _ _ => kF); k_dflt (refine' nameX_B kF ?k1 ?k2 ?k3 ?k4 ?k5 ?_ ; (case k1 | k2 => k_asm); (case k3 => k_is); (case k4 => boot_by_name); (case k5 => decide); k_whole)))
theorem inst_accMain {h₀ h : Heap} {L x dx : Addr} {news : List (Addr × Obj)} {od : Obj} {its : List Value} {n : Nat} (N : News h₀ L h news) (h1 : (x, ({ cls := .ref 131, dict := some dx, data := .seq its.toArray n } : Obj)) ∈ news) (h2 : (dx, od) ∈ news) :
    InstAt h x { cls := .ref 131, dict := some dx, data := .seq its.toArray n } 131 (some od) := ⟨(N _ h1).1, rfl, rfl, (N _ h2).1⟩
local macro_rules | `(tactic| k_inst) => `(tactic| (refine' inst_accMain ?N ?h1 ?h2; (case N => k_asm); (case h1 | h2 => k_mem)))
local macro_rules | `(tactic| k_units) => `(tactic| ((try simp only [Around.in1, Around.deeper, Around.under]); omega))
local macro_rules | `(tactic| krn_off) => `(tactic| with_reducible first | assumption | exact And.left (by assumption) | exact And.left (And.right (by assumption)) | exact And.left (And.right (And.right (by assumption))) | exact And.left (And.right (And.right (And.right (by assumption)))) | exact And.left (And.right (And.right (And.right (And.right (by assumption))))) | exact And.left (And.right (And.right (And.right (And.right (And.right (by assumption)))))))
local macro_rules | `(tactic| k_ne) => `(tactic| (refine neN ?_; (try dsimp only); first | exact Nat.ne_of_lt (by krn_off) | exact Nat.ne_of_gt (by krn_off) | omega))
local macro_rules | `(tactic| k_lt $h:ident) => `(tactic| (replace $h := allLt_of $h; dsimp only [AllLt] at $h:ident; try simp only [and_true] at $h:ident))

section ResetQA
local macro_rules | `(tactic| walk_at "none") => `(tactic| skip)
theorem resetQA : True := by first | walk1 | (w_top off; trivial)
end ResetQA
section JoinQA
noncomputable abbrev accO (dx : Addr) (its : List Value) (n : Nat) : Obj := { cls := .ref 131, dict := some dx, data := .seq its.toArray n }
theorem inst_acc {h₀ h : Heap} {L x dx : Addr} {news : List (Addr × Obj)} {od : Obj} {its : List Value} {n : Nat} (N : News h₀ L h news) (h1 : (x, accO dx its n) ∈ news) (h2 : (dx, od) ∈ news) :
    InstAt h x (accO dx its n) 131 (some od) := ⟨(N _ h1).1, rfl, rfl, (N _ h2).1⟩
section
variable {w : World} {A : Around} {E : Value → Shared → Prop} {s : Shared} {K : Frag} {x C : Addr} {ox : Obj} {od : Option Obj} {name : Str} {prog : Program}
theorem method_any {f : Value} {ga t : String} {pl : Sem Bool} {Q : Value × List Value → Shared → Prop} (X : K.In s.heap) (I : InstAt s.heap x ox C od) (hga : findIn K (.ref C) "__getattribute__" = some (some (.builtin ga))) (hcan : (Manifest.canonical ga != "object.__getattribute__") = false) (hk : findIn K (.ref C) "__getattr__" = some none)
    (hf : findIn K (.ref C) name = some (some f)) (ht : typeIn K f = some (.type t)) (ht3 : t = "function" ∨ t = "method_descriptor") (hs : shadowIn od name = some false) (h : Q (f, [.ref x]) s) :
    wpAny (model prog w) A (getMethod (.ref x) name pl) Q E s := by
  unfold getMethod specialOf
  refine wpAny_bind (wpAny_bind (I.type.here ((looks_findIn X hga).here ?_)))
  dsimp only
  rw [hcan, if_neg (by decide)]
  refine wpAny_bind (wpAny_bind (I.type.here ((looks_findIn X hk).here ?_)))
  refine wpAny_bind (wpAny_bind (I.type.here ((looks_findIn X hf).here (wpAny_bind ((looks_typeIn X ht).here ?_)))))
  rw [if_neg (by rcases ht3 with rfl | rfl <;> decide +kernel)]
  refine wpAny_bind (wpAny_loadPart I.at_ ?_)
  have hd := I.dict
  cases e : ox.dict with
  | none => exact wpAny_bind (wpAny_rule (wpAny_pure h))
  | some dx =>
    cases od with
    | none => rw [e] at hd; exact hd.elim
    | some o =>
      rw [e] at hd
      obtain ⟨r, a, b⟩ := Option.map_eq_some_iff.mp hs
      refine wpAny_bind (wpAny_bind (wpAny_loadPart hd ?_))
      rw [nsLook_of a]
      refine wpAny_pure ?_
      rw [b]
      exact wpAny_bind (wpAny_rule (wpAny_pure h))

theorem call_acc {id : String} (n : String) {b : Builtin} {rest : List Value} {Q : Value → Shared → Prop} (X : K.In s.heap) (I : InstAt s.heap x ox C od) (hsub : subIn K (.ref C) (.type "list") = some true) (hb : entryFor table id = some b)
    (h : wpAny (model PR w) A.in1 (b ⟨.ref x :: rest, []⟩) (fun fin s' => match fin with
      | .done f => CallBack Q E (.ok f) s'
      | .again c' => c'.quiet = true ∧ codeAny (model PR w) A c' (CallBack Q E) s') E s)
    (hsplit : splitId id = some ("list", n) := by decide +kernel)
    (hkind : (Manifest.find? "list").bind (·.attrs.lookup n) = some .slot ∨ (Manifest.find? "list").bind (·.attrs.lookup n) = some .method := by first | exact .inl (by decide +kernel) | exact .inr (by decide +kernel))
    (ha : argsOk id ⟨.ref x :: rest, []⟩ := by unfold argsOk; kernel_rfl!) (hp : plainId id = true := by decide +kernel) :
    wpAny (model PR w) A (PySem.call (.builtin id) (.ref x :: rest)) Q E s := by
  have hk : builtinKind id = (Manifest.find? "list").bind (·.attrs.lookup n) := by simp only [builtinKind, hsplit]
  refine wpAny_call (codeAny_mono (codeAny_call_builtin (R := CallBack Q E) hp hb ?_) fun r s' hr => ?_)
  · have hi : Looks (model PR w) s.heap (isInstance (.ref x) (.type "list")) true := by
      unfold isInstance
      exact (I.type).andThen (looks_subIn X hsub)
    rcases hkind with hkk | hkk <;>
    · simp only [checkBuiltinCall, hk, hkk, hsplit]
      refine wpAny_bind (hi.here ?_)
      simp only [Bool.not_true, Bool.false_eq_true, if_false]
      cases hsig : Manifest.signature? id with
      | none => exact wpAny_pure (wpAny_mono h (fun fin s' hf => by cases fin <;> exact hf) (fun _ _ x => x))
      | some sig =>
        simp only [argsOk, hsig] at ha
        have h2 : Bind.checkArgs id sig ⟨.ref x :: rest, []⟩ = pure () := ha
        show wpAny _ _ (Bind.checkArgs id sig ⟨.ref x :: rest, []⟩) _ _ _
        rw [h2]; exact wpAny_pure (wpAny_mono h (fun fin s' hf => by cases fin <;> exact hf) (fun _ _ x => x))
  · cases r with
    | ok f => cases f <;> first | exact hr | exact hr.elim
    | error e => exact hr
end

section
variable {w : World} {s : Shared} {g : Heap} {A : Around} {L : Addr} {m : Str → Option Value} {Q : Value → Shared → Prop} {E : Value → Shared → Prop} {x dx : Addr} {its : List Value} {n : Nat} {led led' : List (Addr × Obj)} {od : Obj}
theorem acc_sub {P : Params} : subIn (hd.heap_39 P) (.ref 131) (.type "list") = some true := by kernel_rfl!
theorem acc_ga {P : Params} : findIn (hd.heap_39 P) (.ref 131) "__getattribute__" = some (some (.builtin "list.__getattribute__")) := by kernel_rfl!
theorem acc_gattr {P : Params} : findIn (hd.heap_39 P) (.ref 131) "__getattr__" = some none := by kernel_rfl!
theorem mapSeq_acc (f : Array Value → Array Value) : ∃ n', Obj.mapSeq f (accO dx its n) = accO dx (f its.toArray).toList n' := by
  refine ⟨if (f its.toArray).size == its.toArray.size then n else n + 1, ?_⟩
  simp only [Obj.mapSeq, accO, Array.toArray_toList]
end
section
variable {w : World} {s : Shared} {g : Heap} {A : Around} {L : Addr} {m : Str → Option Value} {Q : Value → Shared → Prop} {E : Value → Shared → Prop} {x dx : Addr} {its : List Value} {n : Nat} {led led' : List (Addr × Obj)} {od : Obj}
/-- a list update of the queue -/
theorem acc_upd (F : Fr g L s.heap m) (N : News g L s.heap led) {gl : Obj → List (Addr × Obj)} (U : UpdF x (accO dx its n) led gl) {f : Array Value → Array Value} {r : List Value} (e : (f its.toArray).toList = r) (hz0 : its.length ≤ sizeLine) (hz : (f its.toArray).size ≤ sizeLine + 1) {Q : Unit → Shared → Prop}
   (h : ∀ h' n', Fr g L h' m → News g L h' (gl (accO dx r n')) → Q () { s with heap := h' }) : wpAny (model PR w) A (updateSeq x f) Q E s := by
  obtain ⟨pre, post, rfl, hg, a, b⟩ := U.split
  have z := N (x, accO dx its n) (List.mem_append.mpr (.inr (.head _)))
  subst e
  obtain ⟨n', hn⟩ := mapSeq_acc (dx := dx) (its := its) (n := n) f
  refine wpAny_updateSeq (hz := hz0) z.1 rfl ?_
  obtain ⟨F', N'⟩ := news_upd (o' := accO dx (f its.toArray).toList n') F N a b (f := Obj.mapSeq f) hn (by rfl)
  exact h _ n' F' (by rw [hg]; exact N')
theorem acc_append (X₀ : (hd.heap_39 w.params).In g) (F : Fr g L s.heap m) (N : News g L s.heap led) (hdx : (dx, od) ∈ led) {v : Value} {gl : Obj → List (Addr × Obj)} (U : UpdF x (accO dx its n) led gl) (hz : its.length ≤ sizeLine)
   (h : ∀ h' n', Fr g L h' m → News g L h' (gl (accO dx (its ++ [v]) n')) → Q .none { s with heap := h' }) :
   wpAny (model PR w) A (PySem.call (.builtin "list.append") [.ref x, v]) Q E s := by
  have hx : (x, accO dx its n) ∈ led := by obtain ⟨pre, post, rfl, hg, a, b⟩ := U.split; exact List.mem_append.mpr (.inr (.head _))
  refine call_acc (X₀.keeps F.keep) (inst_acc N hx hdx) acc_sub PySem.F.entry_list_append (n := "append") ?_
  show wpAny _ _ (updateSeq x (·.push v) >>= fun _ => ret .none) _ _ s
  refine wpAny_bind ?_
  exact acc_upd F N U (by simp) hz (by simpa using hz) fun h' n' F' N' => wpAny_pure (h h' n' F' N')
end
end JoinQA

section ResetQS
local macro_rules | `(tactic| walk_at "none") => `(tactic| skip)
theorem resetQS : True := by first | walk1 | (w_top off; trivial)
end ResetQS
section JoinQS
theorem md_slot : Slot "method_descriptor" "__get__" "method_descriptor.__get__" := .of (owner := "method_descriptor") (n := "__get__") (by rw [typeLookup_type, builtinLookup_eq_fast]; kernel_rfl) (by decide +kernel) (by decide +kernel) (by decide +kernel)
    (by first | exact .inl (by decide +kernel) | exact .inr (by decide +kernel)) (by rw [isSubtype_type]; kernel_rfl)
theorem wd_slot : Slot "wrapper_descriptor" "__get__" "wrapper_descriptor.__get__" := .of (owner := "wrapper_descriptor") (n := "__get__") (by rw [typeLookup_type, builtinLookup_eq_fast]; kernel_rfl) (by decide +kernel) (by decide +kernel) (by decide +kernel)
    (by first | exact .inl (by decide +kernel) | exact .inr (by decide +kernel)) (by rw [isSubtype_type]; kernel_rfl)
theorem md_entry : entryFor table "method_descriptor.__get__" = some Builtin.«method_descriptor.__get__» := entryFor_of_tree (by kernel_rfl)
theorem wd_entry : entryFor table "wrapper_descriptor.__get__" = some Builtin.«wrapper_descriptor.__get__» := entryFor_of_tree (by kernel_rfl)
theorem md_args (a b c : Value) : argsOk "method_descriptor.__get__" ⟨[a, b, c], []⟩ := by unfold argsOk; kernel_rfl
theorem wd_args (a b c : Value) : argsOk "wrapper_descriptor.__get__" ⟨[a, b, c], []⟩ := by unfold argsOk; kernel_rfl
noncomputable abbrev boundO (kind id : String) (x : Addr) : Obj := { cls := .type kind, data := .fields #[.builtin id, .ref x] }
theorem tp_len : typeOf (.builtin "list.__len__") = pure (.type "wrapper_descriptor") := by show builtinType _ = _; rw [builtinType_eq_fast]; kernel_rfl
theorem tp_init : typeOf (.builtin "list.__init__") = pure (.type "wrapper_descriptor") := by show builtinType _ = _; rw [builtinType_eq_fast]; kernel_rfl
theorem tp_pop : typeOf (.builtin "list.pop") = pure (.type "method_descriptor") := by show builtinType _ = _; rw [builtinType_eq_fast]; kernel_rfl
section
variable {prog : Program} {w : World} {A : Around} {E : Value → Shared → Prop} {h : Heap} {g : Array GenState} {d : Drawn} {t : Nat} {os : OsState}
theorem get_md {C x : Addr} {Q : PySem.Fin → Shared → Prop} (hi : Looks (model prog w) h (isInstance (.ref x) (.type "list")) true)
   (hq : Q (.done (.ret (.ref h.objs.size))) ⟨h.push (boundO "builtin_function_or_method" "list.pop" x), g, d, t, os⟩) :
   wpAny (model prog w) A (Builtin.«method_descriptor.__get__» ⟨[.builtin "list.pop", .ref x, .ref C], []⟩) Q E ⟨h, g, d, t, os⟩ := by
  unfold Builtin.«method_descriptor.__get__»
  refine wpAny_bind (wpAny_of_eq (a := (.builtin "list.pop", some (.ref x), some (.ref C))) (by kernel_rfl!) ?_)
  dsimp only
  rw [if_neg (by decide +kernel)]
  with_unfolding_all refine wpAny_bind (wpAny_bind (wpAny_of_eq (a := (("pop" : Str), Value.type "list")) (by kernel_rfl!) (wpAny_bind (hi.here ?_))))
  rw [if_neg (by decide)]
  with_unfolding_all exact wpAny_pure (wpAny_bind (wpAny_newObj_type (wpAny_pure hq)))
theorem get_wd {C x : Addr} {id : String} {n : Str} {Q : PySem.Fin → Shared → Prop} (hid : (id = "list.__len__" ∧ n = "__len__") ∨ (id = "list.__init__" ∧ n = "__init__")) (hi : Looks (model prog w) h (isInstance (.ref x) (.type "list")) true)
   (hq : Q (.done (.ret (.ref h.objs.size))) ⟨h.push (boundO "method-wrapper" id x), g, d, t, os⟩) :
   wpAny (model prog w) A (Builtin.«wrapper_descriptor.__get__» ⟨[.builtin id, .ref x, .ref C], []⟩) Q E ⟨h, g, d, t, os⟩ := by
  unfold Builtin.«wrapper_descriptor.__get__»
  refine wpAny_bind (wpAny_of_eq (a := (.builtin id, some (.ref x), some (.ref C))) (by kernel_rfl!) ?_)
  dsimp only
  rcases hid with ⟨rfl, rfl⟩ | ⟨rfl, rfl⟩
  · with_unfolding_all refine wpAny_bind (wpAny_bind (wpAny_of_eq (a := (("__len__" : Str), Value.type "list")) (by kernel_rfl!) (wpAny_bind (hi.here ?_))))
    rw [if_neg (by decide)]
    with_unfolding_all exact wpAny_pure (wpAny_bind (wpAny_newObj_type (wpAny_pure hq)))
  · with_unfolding_all refine wpAny_bind (wpAny_bind (wpAny_of_eq (a := (("__init__" : Str), Value.type "list")) (by kernel_rfl!) (wpAny_bind (hi.here ?_))))
    rw [if_neg (by decide)]
    with_unfolding_all exact wpAny_pure (wpAny_bind (wpAny_newObj_type (wpAny_pure hq)))
end
section
variable {prog : Program} {w : World} {A : Around} {E : Value → Shared → Prop} {h : Heap} {g : Array GenState} {d : Drawn} {t : Nat} {os : OsState}
theorem super_ga_any {so D x C : Addr} {id ty getid : String} {B : Builtin} {o : Obj} {l₀ l : List Value} {K : Frag} {name : Str} {tk : Tok} {Q : PySem.Fin → Shared → Prop}
    (sl : Slot ty "__get__" getid) (hb : entryFor table getid = some B) (harg : argsOk getid ⟨[.builtin id, .ref x, .ref C], []⟩) (hty : typeOf (.builtin id) = pure (.type ty))
    (hB : ∀ (A' : Around) (Q' : PySem.Fin → Shared → Prop) (E' : Value → Shared → Prop), Q' (.done (.ret (.ref h.objs.size))) ⟨h.push o, g, d, t, os⟩ → wpAny (model prog w) A' (B ⟨[.builtin id, .ref x, .ref C], []⟩) Q' E' ⟨h, g, d, t, os⟩)
    (hso : h.get? so = some { cls := .type "super", dict := none, data := .fields #[.ref D, .ref x, .ref C], slots := #[] }) (hno : Looks (model prog w) h (opaqueClassAbove (.ref C)) none)
    (hC : Looks (model prog w) h (mroOf (.ref C)) l₀) (hl : (l₀.dropWhile (· != .ref D)).drop 1 = l) (X : K.In h)
    (hf : alongIn K name l = some (some (.builtin id))) (hxC : x ≠ C) (hn : (name == ("__class__" : Str)) = false)
    (hq : Q (.done (.ret (.ref h.objs.size))) ⟨h.push o, g, d, t, os⟩) :
    wpAny (model prog w) A (Builtin.«super.__getattribute__» ⟨[.ref so, .str name tk], []⟩) Q E ⟨h, g, d, t, os⟩ := by
  have hlk := sl.lookup
  have hne : (Value.ref x == Value.ref C) = false := by simp [hxC]
  have hTf : (⟨h, g, d, t, os⟩ : Shared).TypeIs (.builtin id) ty := hty
  have hdt : ({ cls := .type "super", dict := none, data := .fields #[.ref D, .ref x, .ref C], slots := #[] } : Obj).data = .fields #[.ref D, .ref x, .ref C] := rfl
  have f0 : (#[.ref D, .ref x, .ref C] : Array Value)[0]? = some (.ref D) := rfl
  have f1 : (#[.ref D, .ref x, .ref C] : Array Value)[1]? = some (.ref x) := rfl
  have f2 : (#[.ref D, .ref x, .ref C] : Array Value)[2]? = some (.ref C) := rfl
  unfold Builtin.«super.__getattribute__»
  repeat (first
    | (with_reducible refine wpAny_field hso hdt f0 ?_) | (with_reducible refine wpAny_field hso hdt f1 ?_) | (with_reducible refine wpAny_field hso hdt f2 ?_)
    | (with_reducible refine ks_wpAny_notOpaque hno ?_)
    | (with_reducible refine Looks.at hC ?_; rw [hl])
    | (refine ks_forIn_along X (fun _ _ => rfl) rfl ?_ hf)
    | (with_reducible refine wpAny_typeOf hTf ?_)
    | (with_reducible refine wpAny_call_entry sl hTf hb ?_ harg)
    | (with_reducible refine ⟨_, rfl, ?_⟩)
    | (simp only [hn, hne, Bool.or_false, Bool.false_eq_true, if_false])
    | wp_step
    | dsimp only)
  refine hB _ _ _ ⟨_, rfl, ?_⟩
  exact wpAny_bind (wpAny_pure (wpAny_pure (wpAny_pure hq)))

theorem super_getm {so D x C : Addr} {id ty getid : String} {B : Builtin} {o : Obj} {l₀ l : List Value} {K : Frag} {name : Str} {pl : Sem Bool} {Q : Value × List Value → Shared → Prop}
    (sl : Slot ty "__get__" getid) (hb : entryFor table getid = some B) (harg : argsOk getid ⟨[.builtin id, .ref x, .ref C], []⟩) (hty : typeOf (.builtin id) = pure (.type ty))
    (hB : ∀ (t : Nat) (A' : Around) (Q' : PySem.Fin → Shared → Prop) (E' : Value → Shared → Prop), Q' (.done (.ret (.ref h.objs.size))) ⟨h.push o, g, d, t, os⟩ → wpAny (model prog w) A' (B ⟨[.builtin id, .ref x, .ref C], []⟩) Q' E' ⟨h, g, d, t, os⟩)
    (hso : h.get? so = some { cls := .type "super", dict := none, data := .fields #[.ref D, .ref x, .ref C], slots := #[] }) (hno : Looks (model prog w) h (opaqueClassAbove (.ref C)) none)
    (hC : Looks (model prog w) h (mroOf (.ref C)) l₀) (hl : (l₀.dropWhile (· != .ref D)).drop 1 = l) (X : K.In h)
    (hf : alongIn K name l = some (some (.builtin id))) (hxC : x ≠ C) (hn : (name == ("__class__" : Str)) = false)
    (hq : Q (.ref h.objs.size, []) ⟨h.push o, g, d, t + 1, os⟩) :
    wpAny (model prog w) A (getMethod (.ref so) name pl) Q E ⟨h, g, d, t, os⟩ := by
  have hlk := F.ks_slot_super_ga.lookup
  have hcan := F.ks_canon_super_ga
  have hT : ∀ t', (⟨h, g, d, t', os⟩ : Shared).TypeIs (.ref so) "super" := fun _ => ⟨_, hso, rfl⟩
  unfold getMethod
  refine wpAny_bind (wpAny_specialOf (hT _) hlk ?_)
  show wpAny _ _ (if (Manifest.canonical "super.__getattribute__" != "object.__getattribute__") = true then _ else _) _ _ _
  rw [if_pos hcan]
  unfold getAttr getAttrBy
  refine wpAny_bind (wpAny_bind (wpAny_mkText (wpAny_holding (wpAny_bind (wpAny_typeOf (hT _) (wpAny_bind (wpAny_of_eq hlk ?_)))))))
  show wpAny _ _ (getAttrByItsOwn (.ref so) (.str name t) (.type "super") (.builtin "super.__getattribute__") true false) _ _ _
  unfold getAttrByItsOwn hookBefore callGetattribute boundAndCalled
  refine wpAny_bind (wpAny_of_eq (show (if onTheHeap (.type "super") then typeLookup (.type "super") "__getattr__" else pure none) = pure none from rfl) ?_)
  refine wpAny_bind (wpAny_attempt (wpAny_holding ?_))
  show wpAny _ _ (bindSpecial (.builtin "super.__getattribute__") (.ref so) >>= _) _ _ _
  refine wpAny_bind (wpAny_of_eq (F.ks_slot_super_ga.bind _) ?_)
  refine wpAny_mono (Q := fun v s' => v = .ref h.objs.size ∧ s' = ⟨h.push o, g, d, t + 1, os⟩) (E := fun _ _ => False)
    (wpAny_call_entry F.ks_slot_super_ga (hT _) F.ks_entry_super_ga (super_ga_any sl hb harg hty (hB _) hso hno hC hl X hf hxC hn ⟨_, rfl, rfl, rfl⟩) (F.ks_gaArgs_super _ _)) (fun v s' hv => ?_) fun _ _ z => z.elim
  obtain ⟨rfl, rfl⟩ := hv
  exact wpAny_pure (wpAny_pure hq)
end

section
variable {w : World} {A : Around} {s : Shared} {g : Heap} {L : Addr} {m : Str → Option Value} {E : Value → Shared → Prop} {x dx so : Addr} {its : List Value} {n : Nat} {led : List (Addr × Obj)} {od : Obj}
theorem acc_looks (X : (hd.heap_39 w.params).In s.heap) {ox : Obj} {od : Option Obj} (I : InstAt s.heap x ox 131 od) : Looks (model PR w) s.heap (isInstance (.ref x) (.type "list")) true := by
  unfold isInstance
  exact (I.type).andThen (looks_subIn X acc_sub)
theorem super_bi {id ty getid kind : String} {B : Builtin} {name : Str} {pl : Sem Bool} {Q : Value × List Value → Shared → Prop} (X₀ : (hd.heap_39 w.params).In g) (F : Fr g L s.heap m) (N : News g L s.heap led) (hso : (so, ks_superObj 131 x 131) ∈ led) (hx : (x, accO dx its n) ∈ led) (hdx : (dx, od) ∈ led)
    (sl : Slot ty "__get__" getid) (hb : entryFor table getid = some B) (harg : argsOk getid ⟨[.builtin id, .ref x, .ref 131], []⟩) (hty : typeOf (.builtin id) = pure (.type ty))
    (hB : Looks (model PR w) s.heap (isInstance (.ref x) (.type "list")) true → ∀ (t : Nat) (A' : Around) (Q' : PySem.Fin → Shared → Prop) (E' : Value → Shared → Prop), Q' (.done (.ret (.ref s.heap.objs.size))) ⟨s.heap.push (boundO kind id x), s.gens, s.drawn, t, s.os⟩ → wpAny (model PR w) A' (B ⟨[.builtin id, .ref x, .ref 131], []⟩) Q' E' ⟨s.heap, s.gens, s.drawn, t, s.os⟩)
    (hm : ks_superIn (hd.heap_39 w.params) 131 131 name = some (some (.builtin id))) (hn : (name == ("__class__" : Str)) = false)
    (h : ∀ q h', Fr g L h' m → News g L h' ((q, boundO kind id x) :: led) → (∀ p ∈ led, p.1 < q) → Q (.ref q, []) { s with heap := h', toks := s.toks + 1 }) : wpAny (model PR w) A (getMethod (.ref so) name pl) Q E s := by
  have X : (hd.heap_39 w.params).In s.heap := X₀.keeps F.keep
  have I := inst_acc N hx hdx
  have hi := acc_looks X I
  obtain ⟨hh, gs, d, t, os⟩ := s
  cases hc : clsIn (hd.heap_39 w.params) 131 with
  | none => unfold ks_superIn at hm; rw [hc] at hm; cases hm
  | some cd =>
    unfold ks_superIn at hm
    rw [hc] at hm
    refine super_getm sl hb harg hty (hB hi) (N _ hso).1 (looks_opaque X (by kernel_rfl!)) (l₀ := cd.mro) ?_ rfl X hm (ks_ne X I hc) hn ?_
    · exact fun A Q E s k q => wpAny_bind ((looks_clsIn X hc) A _ E s k (wpAny_pure q))
    · obtain ⟨F', N', l'⟩ := ks_newsPush (s := ⟨hh, gs, d, t, os⟩) (o := boundO kind id x) F N rfl (Heap.get?_push_at rfl rfl) (fun b o e => Heap.get?_push_of_some _ e)
      exact h _ _ F' N' l'
end
end JoinQS

section ResetQT
local macro_rules | `(tactic| walk_at "none") => `(tactic| skip)
theorem resetQT : True := by first | walk1 | (w_top off; trivial)
end ResetQT
section JoinQT
section
variable {M : Model} {A : Around} {E : Value → Shared → Prop} {s : Shared} {env : Env} {pos : Pos} {first : List Value} {Q : Value → Shared → Prop}
theorem keeps_B {kind id : String} {x q : Addr} (hkind : kind = "builtin_function_or_method" ∨ kind = "method-wrapper") (h : Heap) (X : h.get? q = some (boundO kind id x)) : ∃ k, (k = Keeper.frame ∨ k = Keeper.machine ∨ k = Keeper.boundFrame) ∧ Looks M h (keeperOf (.ref q)) k := by
  refine ⟨.machine, .inr (.inl rfl), (Looks.ld (part := none) X).andThen ?_⟩
  rcases hkind with rfl | rfl <;> exact .now
theorem callWith_B0 {kind id : String} {x q : Addr} (hkind : kind = "builtin_function_or_method" ∨ kind = "method-wrapper") (X : s.heap.get? q = some (boundO kind id x)) (h : wpAny M A (PySem.call (.ref q) (first ++ [])) Q E s) : wpAny M A (callWith pos (.ref q) first (backTo pos (starEach [] env)) []) Q E s :=
  callWith_of (P := fun h => h.get? q = some (boundO kind id x)) rfl (keeps_B hkind) (evalArgs_nil3 ⟨X, h⟩)
end
section
variable {w : World} {A : Around} {s : Shared} {E : Value → Shared → Prop} {x q : Addr}
theorem call_bound {kind id : String} {b : Builtin} {Q : Value → Shared → Prop} (hkind : kind = "builtin_function_or_method" ∨ kind = "method-wrapper") (X : s.heap.get? q = some (boundO kind id x))
    (hb : entryFor table id = some b) (hc : ∀ (A' : Around) (Q' : Unit → Shared → Prop) (E' : Value → Shared → Prop), Q' () s → wpAny (model PR w) A' (checkBoundCall id ⟨[.ref x], []⟩) Q' E' s) (hq : (Code.builtin id ⟨[.ref x], []⟩).quiet = true)
    (h : ∀ A' : Around, wpAny (model PR w) A' (b ⟨[.ref x], []⟩) (fun fin s' => ∃ v, fin = .done (.ret v) ∧ Q v s') E s) : wpAny (model PR w) A (PySem.call (.ref q) []) Q E s := by
  refine wpAny_call (codeAny_of_tree ?_)
  show wpAny _ A.in1 (callAny (.ref q) ⟨[], []⟩) _ _ _
  unfold callAny
  refine wpAny_bind (wpAny_load X ?_)
  rcases hkind with rfl | rfl
  all_goals
    show wpAny _ _ (checkBoundCall id ⟨[.ref x], []⟩ >>= fun _ => _) _ _ _
    refine wpAny_bind (hc _ _ _ ?_)
    refine wpAny_pure ⟨hq, ?_⟩
    refine codeAny_builtin hb ?_
    refine wpAny_mono (h _) (fun fin s' hf => ?_) fun _ _ z => z
    obtain ⟨v, rfl, hv⟩ := hf
    exact hv
theorem cb_len (x : Addr) : checkBoundCall "list.__len__" ⟨[.ref x], []⟩ = pure () := by kernel_rfl!
theorem cb_init (x : Addr) : checkBoundCall "list.__init__" ⟨[.ref x], []⟩ = pure () := by kernel_rfl!
theorem cb_pop {x : Addr} {K : Frag} {ox : Obj} {od : Option Obj} {cd : ClassData} (X : K.In s.heap) (I : InstAt s.heap x ox 131 od) (h1 : subIn K (.ref 131) (.type "module") = some false) (h2 : clsIn K 131 = some cd) (hqn : cd.qualname = Str.ofString "_Accumulator") (h3 : typeIn K (.ref 131) = some (.type "type"))
   {Q' : Unit → Shared → Prop} {E' : Value → Shared → Prop} (hq : Q' () s) : wpAny (model PR w) A (checkBoundCall "list.pop" ⟨[.ref x], []⟩) Q' E' s := by
  have hi : Looks (model PR w) s.heap (isInstance (.ref x) (.type "module")) false := by
    unfold isInstance
    exact (I.type).andThen (looks_subIn X h1)
  have hno := I.no
  have hnc : ∀ c, ox.data ≠ .cls c := fun c e => by
    unfold notCls at hno
    rw [e] at hno
    exact Bool.noConfusion hno
  obtain ⟨hh, g, d, t, os⟩ := s
  unfold checkBoundCall
  rw [show Manifest.signature? "list.pop" = some ⟨.positional, "list.pop", "pop", .self, [⟨"index", .posOnly, false⟩]⟩ from by kernel_rfl]
  rw [show builtinKind "list.pop" = some .method from by kernel_rfl]
  dsimp only
  rw [if_neg (by decide)]
  refine wpAny_bind (hi.here ?_)
  rw [show (Manifest.varargsMethods.contains "list.pop" || false) = false from by kernel_rfl, if_neg (by decide)]
  refine wpAny_bind (ks_wpAny_isType_inst I.at_ hnc ?_)
  rw [if_neg (by decide)]
  refine wpAny_bind (I.type.here ?_)
  dsimp only
  obtain ⟨oD, e1, e2⟩ : ∃ oD, hh.get? 131 = some oD ∧ oD.data = .cls cd := by
    unfold clsIn at h2
    split at h2
    · rename_i c d cd' sl ho
      cases h2
      exact ⟨_, X _ _ ho, rfl⟩
    · cases h2
  unfold classData
  refine wpAny_bind (wpAny_bind (wpAny_load e1 ?_))
  rw [e2]
  refine wpAny_pure (wpAny_bind ((looks_typeIn X h3).here ?_))
  rw [if_pos (by rfl), hqn]
  exact wpAny_of_eq (a := ()) (by kernel_rfl!) hq
end
end JoinQT

section ResetQU
local macro_rules | `(tactic| walk_at "none") => `(tactic| skip)
theorem resetQU : True := by first | walk1 | (w_top off; trivial)
end ResetQU
section JoinQU
section
variable {w : World} {s : Shared} {g : Heap} {A : Around} {L : Addr} {m : Str → Option Value} {Q : Value → Shared → Prop} {E : Value → Shared → Prop} {x dx q so : Addr} {its : List Value} {n : Nat} {led : List (Addr × Obj)} {od : Obj}
theorem acc_len (F : Fr g L s.heap m) (N : News g L s.heap led) (hq : (q, boundO "method-wrapper" "list.__len__" x) ∈ led) (hx : (x, accO dx its n) ∈ led)
   (h : Q (.int its.length s.toks) { s with toks := s.toks + 1 }) : wpAny (model PR w) A (PySem.call (.ref q) []) Q E s := by
  refine call_bound (.inr rfl) (N _ hq).1 PySem.F.entry_list_len (fun A' Q' E' hQ => wpAny_of_eq (a := ()) (cb_len x) hQ) (Code.quiet_builtin _ (by decide +kernel)) fun A' => ?_
  show wpAny _ _ (seqSize x >>= fun k => retInt k) _ _ s
  unfold seqSize
  refine wpAny_bind (wpAny_bind (wpAny_loadPart (N _ hx).1 ?_))
  have e : (accO dx its n).data = .seq its.toArray n := rfl
  dsimp only
  refine wpAny_pure ?_
  rw [List.size_toArray]
  exact wpAny_bind (wpAny_mkInt (wpAny_pure ⟨_, rfl, h⟩))
theorem acc_pop1 (X₀ : (hd.heap_39 w.params).In g) (F : Fr g L s.heap m) (N : News g L s.heap led) (hq : (q, boundO "builtin_function_or_method" "list.pop" x) ∈ led) (hdx : (dx, od) ∈ led) {v : Value} {gl : Obj → List (Addr × Obj)} (U : UpdF x (accO dx (its ++ [v]) n) led gl) (hz : its.length + 1 < 1000)
   (h : ∀ h' n', Fr g L h' m → News g L h' (gl (accO dx its n')) → Q v { s with heap := h' }) : wpAny (model PR w) A (PySem.call (.ref q) []) Q E s := by
  have hx : (x, accO dx (its ++ [v]) n) ∈ led := by obtain ⟨pre, post, rfl, hg, a, b⟩ := U.split; exact List.mem_append.mpr (.inr (.head _))
  have I := inst_acc N hx hdx
  obtain ⟨cd, h2, hqn⟩ : ∃ cd, clsIn (hd.heap_39 w.params) 131 = some cd ∧ cd.qualname = Str.ofString "_Accumulator" := by
    have e : (clsIn (hd.heap_39 w.params) 131).map (·.qualname) = some (Str.ofString "_Accumulator") := by kernel_rfl!
    cases hc : clsIn (hd.heap_39 w.params) 131 with
    | none => rw [hc] at e; cases e
    | some cd => rw [hc] at e; exact ⟨cd, rfl, Option.some.inj e⟩
  refine call_bound (.inl rfl) (N _ hq).1 PySem.F.entry_list_pop (fun A' Q' E' hQ => cb_pop (X₀.keeps F.keep) I (by kernel_rfl!) h2 hqn (by kernel_rfl!) hQ) (Code.quiet_builtin _ (by decide +kernel)) fun A' => ?_
  unfold Builtin.«list.pop»
  refine wpAny_bind (wpAny_of_eq (a := (Value.ref x, [])) (by kernel_rfl!) ?_)
  dsimp only
  refine wpAny_bind (wpAny_pure ?_)
  rw [if_neg (by decide)]
  unfold PySem.Builtin.List.listItems
  refine wpAny_bind (wpAny_bind (wpAny_seqItems (N _ hx).1 rfl (wpAny_pure ?_)))
  have hne : ((its ++ [v]).toArray).isEmpty = false := by simp
  rw [hne, if_neg (by decide)]
  have hi : seqIndex? (-1) ((its ++ [v]).toArray).size = some its.length := by
    simp only [List.size_toArray, List.length_append, List.length_cons, List.length_nil]
    unfold seqIndex?
    simp only [show ((-1 : Int) < 0) from by decide, if_true]
    rw [if_pos (by simp; omega)]
    congr 1
    simp; omega
  rw [hi]
  have hget : ((its ++ [v]).toArray)[its.length]? = some v := by simp
  simp only [Option.bind_some, hget, Option.map_some]
  refine wpAny_bind ?_
  show wpAny _ _ (updateSeq x _) _ _ _
  have er : (((its ++ [v]).toArray).eraseIdxIfInBounds its.length) = its.toArray := by
    rw [Array.eraseIdxIfInBounds]
    simp [List.eraseIdx_append_of_length_le]
  refine acc_upd F N U (r := its) ?_ ?_ ?_ fun h' n' F' N' => wpAny_pure ⟨_, rfl, h h' n' F' N'⟩
  · rw [er]
  · simp; have := sizeLine_eq; omega
  · rw [er]; have := sizeLine_eq; simp; omega
theorem acc_init (F : Fr g L s.heap m) (N : News g L s.heap led) (hq : (q, boundO "method-wrapper" "list.__init__" x) ∈ led) {gl : Obj → List (Addr × Obj)} (U : UpdF x (accO dx [] n) led gl)
   (h : ∀ h' n', Fr g L h' m → News g L h' (gl (accO dx [] n')) → Q .none { s with heap := h' }) : wpAny (model PR w) A (PySem.call (.ref q) []) Q E s := by
  have hx : (x, accO dx [] n) ∈ led := by obtain ⟨pre, post, rfl, hg, a, b⟩ := U.split; exact List.mem_append.mpr (.inr (.head _))
  refine call_bound (.inr rfl) (N _ hq).1 PySem.F.entry_list_init (fun A' Q' E' hQ => wpAny_of_eq (a := ()) (cb_init x) hQ) (Code.quiet_builtin _ (by decide +kernel)) fun A' => ?_
  show wpAny _ _ (PySem.Builtin.List.listItems (.ref x) >>= fun old => updateSeq x (fun _ => #[]) >>= fun _ => letGo old.toList.reverse >>= fun _ => ret .none) _ _ s
  unfold PySem.Builtin.List.listItems
  refine wpAny_bind (wpAny_bind (wpAny_seqItems (N _ hx).1 rfl (wpAny_pure (wpAny_bind ?_))))
  refine acc_upd F N U (r := []) rfl (by simp) (by simp) fun h' n' F' N' => wpAny_bind ?_
  exact wpAny_pure (wpAny_pure ⟨_, rfl, h h' n' F' N'⟩)
end

/-- a frame of ours, its caller's frames given as they are -/
noncomputable abbrev AG (hn : Option Value) (d : Nat) (outer : List Env) (gs : Option (List Code)) (u : Nat) (cn : Str) (nm : List (Str × NameKind)) (b1 b2 : Bool) (mo : List (Str × Const)) (L a : Addr) (cd : Value) (cl : List (Str × Addr)) : Around :=
  Around.deeper ⟨hn, d, some outer, gs, u⟩ (envX cn { kind := .function, names := nm, isGenerator := b1, isCoroutine := b2, more := mo } L a cd cl)
structure Gx (w : World) (g base : Heap) (A₀ : Around) (outer : List Env) (d u : Nat) : Prop where
  X : (hd.heap_39 w.params).In g
  B : Below A₀ base outer g
  T : ∃ p loose mean mg mb, Top p loose mean mg mb g
  d : d + 20 < recursionLimit
  u : u + 4000 < cLine
theorem acc_canon : (Manifest.canonical "list.__getattribute__" != "object.__getattribute__") = false := by decide +kernel
noncomputable abbrev accD (h0 : Int) (t0 : Tok) (v : Value) : Obj := dictOf [⟨h0, .str (Str.ofString "_initial_size") t0, v⟩] 1
noncomputable def NSub (l l' : List (Addr × Obj)) : Prop := ∀ p ∈ l, p ∈ l'
theorem NSub.nil {l' : List (Addr × Obj)} : NSub [] l' := fun _ h => nomatch h
theorem NSub.cons {p : Addr × Obj} {l l' : List (Addr × Obj)} (h : p ∈ l') (S : NSub l l') : NSub (p :: l) l' := fun q hq => by
  rcases List.mem_cons.mp hq with rfl | hq
  · exact h
  · exact S q hq
theorem NSub.refl (l : List (Addr × Obj)) : NSub l l := fun _ h => h
theorem NSub.drop {p : Addr × Obj} {l l' : List (Addr × Obj)} (S : NSub l l') : NSub l (p :: l') := fun q hq => List.mem_cons_of_mem _ (S q hq)
theorem NSub.keep {p : Addr × Obj} {l l' : List (Addr × Obj)} (S : NSub l l') : NSub (p :: l) (p :: l') := NSub.cons (.head _) (NSub.drop S)
theorem NSub.keep2 {p q : Addr × Obj} {l l' : List (Addr × Obj)} (S : NSub l l') : NSub (p :: l) (q :: p :: l') := NSub.drop (NSub.keep S)
theorem nsub {g h : Heap} {L : Addr} {l l' : List (Addr × Obj)} (N : News g L h l') (S : NSub l l') : News g L h l := fun p hp => N p (S p hp)
theorem allLt {d : Addr} {l : List (Addr × Obj)} (h : AllLt d l) : ∀ p ∈ l, p.1 < d := by
  induction l with
  | nil => intro p hp; cases hp
  | cons q l ih =>
    intro p hp
    rcases List.mem_cons.mp hp with rfl | hp
    · exact h.1
    · exact ih h.2 p hp
end JoinQU

section ResetQV
local macro_rules | `(tactic| walk_at "none") => `(tactic| skip)
theorem resetQV : True := by first | walk1 | (w_top off; trivial)
end ResetQV
section JoinQV
section
variable {w : World} {A : Around} {E : Value → Shared → Prop} {s : Shared} {K : Frag} {x C : Addr} {ox : Obj} {od : Option Obj} {name : Str}
theorem seqKey_acc {k : Value} {Q : Value → Shared → Prop} (X : K.In s.heap) (I : InstAt s.heap x ox C od) (hd : subIn K (.ref C) (.type "collections.deque") = some false) (h : Q k s) :
    wpAny (model PR w) A (sequenceKey (.ref x) k name) Q E s := by
  unfold sequenceKey
  refine wpAny_bind (I.type.here ?_)
  dsimp only
  unfold seqItemTypes
  simp only [List.anyM]
  refine wpAny_bind (wpAny_bind ((looks_subIn X hd).here ?_))
  exact wpAny_pure (wpAny_pure h)
theorem callSp_acc {id : String} {args : List Value} {Q : Option Value → Shared → Prop} (X : K.In s.heap) (I : InstAt s.heap x ox C od) (hf : findIn K (.ref C) name = some (some (.builtin id))) (sl : Slot "list" name id)
    (h : wpAny (model PR w) A (PySem.call (.builtin id) (.ref x :: args)) (fun v s' => Q (some v) s') E s) :
    wpAny (model PR w) A (callSpecial? (.ref x) name args) Q E s := by
  unfold callSpecial? specialOf
  refine wpAny_bind (wpAny_bind (I.type.here ((looks_findIn X hf).here ?_)))
  refine wpAny_holding ?_
  refine wpAny_bind (wpAny_of_eq (sl.bind _) ?_)
  exact wpAny_bind (wpAny_mono h (fun v s' hv => wpAny_pure hv) fun _ _ z => z)
theorem setItem_acc {i v : Value} {Q : Unit → Shared → Prop} (X : K.In s.heap) (I : InstAt s.heap x ox C od) (hd : subIn K (.ref C) (.type "collections.deque") = some false) (hf : findIn K (.ref C) "__setitem__" = some (some (.builtin "list.__setitem__")))
    (h : wpAny (model PR w) A (PySem.call (.builtin "list.__setitem__") [.ref x, i, v]) (fun _ s' => Q () s') E s) : wpAny (model PR w) A (setItem (.ref x) i v) Q E s := by
  unfold setItem
  refine wpAny_holding (wpAny_bind (seqKey_acc X I hd ?_))
  refine wpAny_bind (callSp_acc X I hf PySem.F.slot_list_setitem (wpAny_mono h (fun _ _ z => wpAny_pure z) fun _ _ z => z))
theorem getItem_acc {i : Value} {Q : Value → Shared → Prop} (X : K.In s.heap) (I : InstAt s.heap x ox C od) (hd : subIn K (.ref C) (.type "collections.deque") = some false) (hf : findIn K (.ref C) "__getitem__" = some (some (.builtin "list.__getitem__")))
    (h : wpAny (model PR w) A (PySem.call (.builtin "list.__getitem__") [.ref x, i]) Q E s) : wpAny (model PR w) A (getItem (.ref x) i) Q E s := by
  unfold getItem
  refine wpAny_holding (wpAny_bind (seqKey_acc X I hd ?_))
  refine wpAny_bind (callSp_acc X I hf PySem.F.slot_list_getitem (wpAny_mono h (fun _ _ z => wpAny_pure z) fun _ _ z => z))
end
section
variable {w : World} {s : Shared} {g : Heap} {A : Around} {L : Addr} {m : Str → Option Value} {Q : Value → Shared → Prop} {E : Value → Shared → Prop} {x dx sl ql : Addr} {its vs : List Value} {n nq : Nat} {led : List (Addr × Obj)} {od : Obj} {vl vu : Value} {lo hi : Option Int}
theorem acc_deque {P : Params} : subIn (hd.heap_39 P) (.ref 131) (.type "collections.deque") = some false := by kernel_rfl!
theorem acc_getitem {P : Params} : findIn (hd.heap_39 P) (.ref 131) "__getitem__" = some (some (.builtin "list.__getitem__")) := by kernel_rfl!
theorem acc_setitem {P : Params} : findIn (hd.heap_39 P) (.ref 131) "__setitem__" = some (some (.builtin "list.__setitem__")) := by kernel_rfl!
theorem parts_ {os : Obj} {Q : Value × Value × Value → Shared → Prop} (hos : s.heap.get? sl = some os) (hds : os.data = .fields #[vl, vu, .none]) (pl : IsPart vl lo) (pu : IsPart vu hi) (h : Q (rawPart lo, rawPart hi, rawPart none) s) :
    wpAny (model PR w) A (PySem.Builtin.List.listSliceParts (.ref sl)) Q E s := by
  rw [listSliceParts_eq]
  refine wpAny_bind (wpAny_field hos hds (x := .none) rfl (wpAny_bind (wpAny_listPart .none ?_)))
  rw [if_neg (by decide)]
  refine wpAny_bind (wpAny_field hos hds (x := vl) rfl (wpAny_bind (wpAny_listPart pl ?_)))
  exact wpAny_bind (wpAny_field hos hds (x := vu) rfl (wpAny_bind (wpAny_listPart pu (wpAny_pure h))))
theorem acc_slice (X : (hd.heap_39 w.params).In s.heap) (hx : s.heap.get? x = some (accO dx its n)) (hdx : s.heap.get? dx = some od) (hs : s.heap.IsSliceOf sl vl vu .none) (pl : IsPart vl lo) (pu : IsPart vu hi) (hz : its.length ≤ sizeLine)
    (h : Q (.ref s.heap.objs.size) { s with heap := s.heap.push { cls := .type "list", data := .seq (slicePick its.toArray lo hi none) } }) : wpAny (model PR w) A (getItem (.ref x) (.ref sl)) Q E s := by
  have I : InstAt s.heap x (accO dx its n) 131 (some od) := ⟨hx, rfl, rfl, hdx⟩
  obtain ⟨os, hos, hcs, hds⟩ := id hs
  have hTs : s.TypeIs (.ref sl) "slice" := ⟨os, hos, hcs⟩
  refine getItem_acc X I acc_deque acc_getitem ?_
  refine call_acc (n := "__getitem__") X I acc_sub PySem.F.entry_list_getitem ?_
  show wpAny _ _ (PySem.Builtin.List.listSubscript? (.ref sl) >>= _) _ _ s
  refine wpAny_bind ?_
  unfold PySem.Builtin.List.listSubscript?
  refine wpAny_bind (wpAny_specialOf hTs slice_no_index ?_)
  simp only [Option.isNone_none, if_true]
  refine wpAny_pure ?_
  show wpAny _ _ (typeOf (.ref sl) >>= _) _ _ s
  refine wpAny_bind (wpAny_typeOf hTs ?_)
  rw [if_neg (by decide)]
  refine wpAny_bind (parts_ hos hds pl pu ?_)
  dsimp only
  unfold PySem.Builtin.List.listItems
  refine wpAny_bind (wpAny_bind (wpAny_seqItems hx rfl (wpAny_pure ?_)))
  refine wpAny_bind (wpAny_of_eq (sliceIndices_raw lo hi none its.toArray.size (by simp)) ?_)
  exact wpAny_bind (wpAny_newObj_type (wpAny_pure h) (Nat.le_trans (slicePick_size_le its.toArray lo hi none) (by simpa using hz)))
theorem letGo_all {M : Model} {Q : Unit → Shared → Prop} {vs : List Value} (h : Q () s) : wpAny M A (letGo vs) Q E s := letGo_ h _ vs
theorem acc_setslice (X₀ : (hd.heap_39 w.params).In g) (F : Fr g L s.heap m) (N : News g L s.heap led) (hdx : (dx, od) ∈ led) (hs : s.heap.IsSliceOf sl vl vu .none) (pl : IsPart vl lo) (pu : IsPart vu hi) (hq : (ql, listOf vs.toArray nq) ∈ led)
    {gl : Obj → List (Addr × Obj)} (U : UpdF x (accO dx its n) led gl) {r : List Value} (hz : its.length < 1000) (hz2 : vs.length < 1000) (hxq : x ≠ ql)
    (hr : (its.toArray.extract 0 (sliceBounds lo hi none its.toArray.size).1.toNat ++ vs.toArray ++ its.toArray.extract (max (sliceBounds lo hi none its.toArray.size).1 (sliceBounds lo hi none its.toArray.size).2.1).toNat its.toArray.size).toList = r) {Q : Unit → Shared → Prop}
    (h : ∀ h' n', Fr g L h' m → News g L h' (gl (accO dx r n')) → Q () { s with heap := h' }) : wpAny (model PR w) A (setItem (.ref x) (.ref sl) (.ref ql)) Q E s := by
  have hx : (x, accO dx its n) ∈ led := by obtain ⟨pre, post, rfl, hg, a, b⟩ := U.split; exact List.mem_append.mpr (.inr (.head _))
  have I := inst_acc N hx hdx
  have X := X₀.keeps F.keep
  obtain ⟨os, hos, hcs, hds⟩ := id hs
  have hTs : s.TypeIs (.ref sl) "slice" := ⟨os, hos, hcs⟩
  have hTq : s.TypeIs (.ref ql) "list" := ⟨_, (N _ hq).1, rfl⟩
  refine setItem_acc X I acc_deque acc_setitem ?_
  refine call_acc (n := "__setitem__") X I acc_sub PySem.F.entry_list_setitem ?_
  show wpAny _ _ (PySem.Builtin.List.listSubscript? (.ref sl) >>= _) _ _ s
  refine wpAny_bind ?_
  unfold PySem.Builtin.List.listSubscript?
  refine wpAny_bind (wpAny_specialOf hTs slice_no_index ?_)
  simp only [Option.isNone_none, if_true]
  refine wpAny_pure ?_
  show wpAny _ _ (typeOf (.ref sl) >>= _) _ _ s
  refine wpAny_bind (wpAny_typeOf hTs ?_)
  rw [if_neg (by decide)]
  refine wpAny_bind (parts_ hos hds pl pu ?_)
  dsimp only
  have hsame : PySem.Builtin.List.listSameRef (.ref x) (.ref ql) = false := by simp [PySem.Builtin.List.listSameRef, hxq]
  rw [hsame, if_neg (by decide)]
  unfold PySem.Builtin.List.listAllItems
  refine wpAny_bind (wpAny_bind (wpAny_typeOf hTq ?_))
  rw [if_pos (by rfl)]
  unfold PySem.Builtin.List.listItems
  refine wpAny_bind (wpAny_seqItems (N _ hq).1 rfl (wpAny_pure ?_))
  refine wpAny_bind (wpAny_bind (wpAny_seqItems (N _ hx).1 rfl (wpAny_pure ?_)))
  refine wpAny_bind (wpAny_of_eq (sliceIndices_raw lo hi none its.toArray.size (by simp)) ?_)
  dsimp only
  have hst : ((sliceBounds lo hi none its.toArray.size).2.2 == 1) = true := rfl
  have hlong : PySem.Builtin.List.listTooLong (its.toArray.size + vs.toArray.size) = false := by
    unfold PySem.Builtin.List.listTooLong
    have := sizeLine_eq
    simp only [List.size_toArray, decide_eq_false_iff_not]
    omega
  rw [if_pos hst, hlong, if_neg (by decide)]
  refine wpAny_bind (m := PySem.Builtin.List.listUpdate _ _) ?_
  show wpAny _ _ (updateSeq x _) _ _ _
  have hsz : ∀ a b : Nat, (its.toArray.extract 0 a ++ vs.toArray ++ its.toArray.extract b its.toArray.size).size ≤ sizeLine + 1 := fun a b => by
    have := sizeLine_eq
    simp only [Array.size_append, Array.size_extract, List.size_toArray]
    refine Nat.le_trans (Nat.add_le_add (Nat.add_le_add_right (Nat.le_trans (Nat.sub_le _ _) (Nat.min_le_right _ _)) _) (Nat.le_trans (Nat.sub_le _ _) (Nat.min_le_left _ _))) ?_
    omega
  refine acc_upd F N U (r := r) hr (by have := sizeLine_eq; omega) (hsz _ _) fun h' n' F' N' => wpAny_bind (letGo_all (wpAny_pure (h h' n' F' N')))
noncomputable abbrev sliceO (vl vu : Value) : Obj := { cls := .type "slice", data := .fields #[vl, vu, .none] }
theorem acc_tail {value slice : Expr} (X₀ : (hd.heap_39 w.params).In g) (F : Fr g L s.heap m) (N : News g L s.heap led) (hx : (x, accO dx its n) ∈ led) (hdx : (dx, od) ∈ led) (pl : IsPart vl lo) (pu : IsPart vu hi) (hz : its.length < 1000) {r : List Value}
    (hr : (slicePick its.toArray lo hi none).toList = r)
    (h : ∀ h' q, Fr g L h' m → News g L h' ((q, listOf r.toArray 0) :: led) → (∀ p ∈ led, p.1 < q) → Q (.ref q) { s with heap := h' })
    (hs : subscripted slice false (.ref x) (.ref s.heap.objs.size) = operate [.ref s.heap.objs.size, .ref x] (getItem (.ref x) (.ref s.heap.objs.size)) := by with_unfolding_all rfl)
    (ht : ∀ r, letTemporaryGo value (.ref x) r = pure () := by intro _; with_unfolding_all rfl) :
    wpAny (model PR w) A (subscriptTail value slice (.ref x) (.ref s.heap.objs.size)) Q E { s with heap := s.heap.push (sliceO vl vu) } := by
  have F1 := F.push (sliceO vl vu)
  have N1 : News g L (s.heap.push (sliceO vl vu)) led := N.grown fun _ _ e => Heap.get?_push_of_some _ e
  have X := X₀.keeps F1.keep
  have I := inst_acc N1 hx hdx
  unfold subscriptTail
  refine wpAny_bind ?_
  rw [getitemInPython_of_ne (by intro e; cases e)]
  unfold specialOf
  refine wpAny_bind (wpAny_bind (I.type.here ((looks_findIn X acc_getitem).here ?_)))
  have e1 : r = (slicePick its.toArray lo hi none).toList := hr.symm
  have fin : wpAny (model PR w) A (subscripted slice false (.ref x) (.ref s.heap.objs.size)) (fun r s₃ => wpAny (model PR w) A (letTemporaryGo value (.ref x) r >>= fun _ => pure r) Q E s₃) E { s with heap := s.heap.push (sliceO vl vu) } := by
    rw [hs]
    refine wpAny_operating (wpAny_mono (Q := Q) (E := E) ?_ (fun r s₃ h₃ => wpAny_bind (wpAny_of_eq (ht r) (wpAny_pure h₃))) fun _ _ x => x)
    refine acc_slice X (N1 _ hx).1 (N1 _ hdx).1 (Heap.IsSliceOf.new ..) pl pu (by have := sizeLine_eq; omega) ?_
    have N2 := News.push F1 N1 { cls := .type "list", data := .seq (slicePick its.toArray lo hi none) }
    refine h _ _ (F1.push _) ?_ fun p hp => ?_
    · rw [e1]; simpa using N2
    · exact Heap.lt_size (N1 p hp).1
  first
    | exact wpAny_pure (wpAny_bind fin)
    | exact wpAny_bind (wpAny_pure (wpAny_bind fin))
    | exact wpAny_bind fin
theorem acc_setK (X₀ : (hd.heap_39 w.params).In g) (F : Fr g L s.heap m) (N : News g L s.heap led) (hdx : (dx, od) ∈ led) (pl : IsPart vl lo) (pu : IsPart vu hi) (hq : (ql, listOf vs.toArray nq) ∈ led)
    {gl : Obj → List (Addr × Obj)} (U : UpdF x (accO dx its n) led gl) {r : List Value} (hz : its.length < 1000) (hz2 : vs.length < 1000)
    (hr : (its.toArray.extract 0 (sliceBounds lo hi none its.toArray.size).1.toNat ++ vs.toArray ++ its.toArray.extract (max (sliceBounds lo hi none its.toArray.size).1 (sliceBounds lo hi none its.toArray.size).2.1).toNat its.toArray.size).toList = r) {Q : Unit → Shared → Prop}
    (h : ∀ h' n', Fr g L h' m → News g L h' (gl (accO dx r n')) → Q () { s with heap := h' }) : wpAny (model PR w) A (setItem (.ref x) (.ref s.heap.objs.size) (.ref ql)) Q E { s with heap := s.heap.push (sliceO vl vu) } := by
  have hx : (x, accO dx its n) ∈ led := by obtain ⟨pre, post, rfl, hg, a, b⟩ := U.split; exact List.mem_append.mpr (.inr (.head _))
  refine acc_setslice (s := { s with heap := s.heap.push (sliceO vl vu) }) X₀ (F.push _) (N.grown fun _ _ e => Heap.get?_push_of_some _ e) hdx (Heap.IsSliceOf.new ..) pl pu hq U hz hz2 ?_ hr h
  rintro rfl
  have e := (N _ hx).1
  have e2 := (N _ hq).1
  rw [e] at e2
  cases e2
end
theorem pick2 (its : List Value) : (slicePick its.toArray (some 2) none none).toList = its.drop 2 := by
  by_cases h : 2 ≤ its.length
  · have := slicePick_from its.toArray 2 (by simpa using h)
    rw [show ((2 : Nat) : Int) = 2 from rfl] at this
    rw [this]
  · have hsz := slicePick_size_le its.toArray (some 2) none none
    have e : sliceBounds (some 2) none none its.toArray.size = ((its.length : Int), (its.length : Int), 1) := by
      simp only [sliceBounds, Option.getD_none, List.size_toArray]
      have h1 : ¬ ((2 : Int) < 0) := by decide
      have h2 : ((1 : Int) > 0) := by decide
      simp only [h1, h2, if_true, if_false]
      congr 1
      omega
    unfold slicePick
    rw [e]
    rw [List.drop_eq_nil_of_le (by omega)]
    have : sliceRange (its.length : Int) its.length 1 = [] := by
      have := sliceRange_one its.length its.length
      simpa using this
    simp [this]
theorem set2 (its : List Value) : (its.toArray.extract 0 (sliceBounds (some 2) none none its.toArray.size).1.toNat ++ (#[] : Array Value).toList.toArray ++ its.toArray.extract (max (sliceBounds (some 2) none none its.toArray.size).1 (sliceBounds (some 2) none none its.toArray.size).2.1).toNat its.toArray.size).toList = its.take 2 := by
  have e : sliceBounds (some 2) none none its.toArray.size = (max 0 (min 2 (its.length : Int)), (its.length : Int), 1) := by
    simp only [sliceBounds, Option.getD_none, List.size_toArray]
    have h1 : ¬ ((2 : Int) < 0) := by decide
    have h2 : ((1 : Int) > 0) := by decide
    simp only [h1, h2, if_true, if_false]
  rw [e]
  have e1 : (max (max 0 (min 2 (its.length : Int))) (its.length : Int)).toNat = its.length := by rw [Int.max_eq_right (Int.max_le.mpr ⟨Int.natCast_nonneg _, Int.min_le_right _ _⟩), Int.toNat_natCast]
  have e2 : (max 0 (min 2 (its.length : Int))).toNat = min 2 its.length := by
    rw [Int.max_eq_right (Int.le_min.mpr ⟨by decide, Int.natCast_nonneg _⟩)]
    rcases Nat.le_total 2 its.length with h | h
    · rw [Int.min_eq_left (show (2 : Int) ≤ its.length from Int.ofNat_le.mpr h), Nat.min_eq_left h]; rfl
    · rw [Int.min_eq_right (show (its.length : Int) ≤ 2 from Int.ofNat_le.mpr h), Nat.min_eq_right h, Int.toNat_natCast]
  simp only [e1, e2]
  simp
theorem setall (its vs : List Value) : (its.toArray.extract 0 (sliceBounds none none none its.toArray.size).1.toNat ++ vs.toArray ++ its.toArray.extract (max (sliceBounds none none none its.toArray.size).1 (sliceBounds none none none its.toArray.size).2.1).toNat its.toArray.size).toList = vs := by
  have e : sliceBounds none none none its.toArray.size = (0, (its.length : Int), 1) := by
    simp only [sliceBounds, Option.getD_none, List.size_toArray]
    have h2 : ((1 : Int) > 0) := by decide
    simp only [h2, if_true]
  rw [e]
  simp
end JoinQV

section ResetQW
local macro_rules | `(tactic| walk_at "none") => `(tactic| skip)
theorem resetQW : True := by first | walk1 | (w_top off; trivial)
end ResetQW
section JoinQW
open PySem.Builtin Builtin.ObjectAttr
section
variable {w : World} {A : Around} {E : Value → Shared → Prop} {s : Shared} {g : Heap} {L : Addr} {m : Str → Option Value} {x dx : Addr} {its : List Value} {n nd nd' : Nat} {led led' : List (Addr × Obj)} {es es' : List DictEntry} {name : Str} {v : Value}
theorem acc_mro {P : Params} : (clsIn (hd.heap_39 P) 131).map (fun cd => (cd.mro, cd.hasDict)) = some ([.ref 131, .type "list", .type "object"], true) := by kernel_rfl!
theorem acc_refuse (self : Value) : refuseLoop self "__setattr__" [.ref 131, .type "list", .type "object"] = pure () := by
  rw [refuseLoop_ref]
  kernel_rfl!
theorem acc_object {P : Params} : mroIn (hd.heap_39 P) 131 (.type "object") = some true := by kernel_rfl!
theorem acc_setA {P : Params} : findIn (hd.heap_39 P) (.ref 131) "__setattr__" = some (some (.builtin "object.__setattr__")) := by kernel_rfl!
theorem acc_set {Q : Unit → Shared → Prop} (X₀ : (hd.heap_39 w.params).In g) (F : Fr g L s.heap m) (N : News g L s.heap led) (hx : (x, accO dx its n) ∈ led)
    (ha : findIn (hd.heap_39 w.params) (.ref 131) name = some none) (hl : (getL name es).isSome = true)
    (e : (putL name (PyData.keyHash w.params name) (.str name (s.toks + 1)) v es, putN name es nd) = (es', nd')) (U : Upd dx (dictOf es nd) (dictOf es' nd') led led') (hz : es'.length ≤ 1000)
    (h : ∀ h', Fr g L h' m → News g L h' led' → Q () { s with heap := h', toks := s.toks + 2 }) : wpAny (model PR w) A (setAttr (.ref x) name v) Q E s := by
  have hdx : (dx, dictOf es nd) ∈ led := by obtain ⟨pre, post, rfl, _⟩ := U.split; exact List.mem_append.mpr (.inr (.head _))
  obtain ⟨pre, post, rfl, rfl, h1, h2⟩ := U.split
  obtain ⟨e1, e2⟩ := Prod.mk.inj e
  have X := X₀.keeps F.keep
  have I := inst_acc N hx hdx
  refine set_plain X I acc_setA ?_
  have X' : (hd.heap_39 w.params).In ({ s with toks := s.toks + 1 } : Shared).heap := X
  have I' : InstAt ({ s with toks := s.toks + 1 } : Shared).heap x (accO dx its n) 131 (some (dictOf es nd)) := I
  have F' : Fr g L ({ s with toks := s.toks + 1 } : Shared).heap m := F
  have N' : News g L ({ s with toks := s.toks + 1 } : Shared).heap (pre ++ (dx, dictOf es nd) :: post) := N
  have e' : Obj.putName name (PyData.keyHash w.params name) (.str name ({ s with toks := s.toks + 1 } : Shared).toks) v (dictOf es nd) = dictOf es' nd' := by rw [putName_dict, e1, e2]
  have h' : ∀ h', Fr g L h' m → News g L h' (pre ++ (dx, dictOf es' nd') :: post) → Q () { ({ s with toks := s.toks + 1 } : Shared) with heap := h', toks := ({ s with toks := s.toks + 1 } : Shared).toks + 1 } := h
  clear X I F N e h
  generalize ({ s with toks := s.toks + 1 } : Shared) = s at *
  have SF := PySem.F.store_object
  cases hc : clsIn (hd.heap_39 w.params) 131 with
  | none => have := acc_mro (P := w.params); rw [hc] at this; cases this
  | some cd =>
    have hm0 := acc_mro (P := w.params)
    rw [hc] at hm0
    obtain ⟨hmro, hdict⟩ := Prod.mk.inj (Option.some.inj hm0)
    have sub : Looks (model PR w) s.heap (isInstance (.ref x) (.type "object")) true := I'.type.andThen (looks_mroIn X' acc_object)
    refine codeAny_call_builtin SF.slot.plain SF.entry (@check_slot (model PR w) _ _ s "object.__setattr__" "object" "__setattr__" (.ref x) [.str name _, v] [] _ SF.kind SF.split sub (SF.args (.ref x) (.str name _) v) ?_)
    have hm : Looks (model PR w) s.heap (mroOf (.ref 131)) cd.mro := (looks_clsIn X' hc).andThen .now
    have L3 : Looks (model PR w) s.heap (storeTaker? none) none := .now
    rw [osa_eq, refuse_eq]
    refine wpAny_bind (wpAny_bind (I'.type.here (wpAny_bind (hm.here ?_))))
    rw [hmro, acc_refuse]
    refine wpAny_pure (wpAny_bind (I'.type.here (wpAny_bind ((looks_findIn X' ha).here (wpAny_bind (L3.here ?_))))))
    obtain ⟨U1, U2⟩ := news_upd (f := Obj.putName name (PyData.keyHash w.params name) (.str name s.toks) v) F' N' h1 h2 e' (by rfl)
    have D := (N' (dx, dictOf es nd) hdx).1
    have D' := (U2 (dx, dictOf es' nd') (by simp)).1
    refine wpAny_bind (wpAny_pure (wpAny_bind (wpAny_bind (wpAny_loadPart I'.at_ (wpAny_bind ((looks_clsIn X' hc).here ?_))))))
    rw [hdict]
    refine wpAny_pure (a := some dx) (wpAny_bind (wpAny_pure (wpAny_bind ?_)))
    unfold nsSet
    refine wpAny_bind (wpAny_bind (wpAny_askSetting (wpAny_pure (wpAny_bind (wpAny_mkText (wpAny_bind (wpAny_loadPart D ?_)))))))
    dsimp only
    have c : (!es.toArray.any (·.key.isStr name) && es.toArray.any (·.refKey)) = false := by
      rw [← Array.any_toList, ← Array.any_toList]
      unfold getL at hl
      split at hl
      · rename_i en he
        rw [List.any_eq_true.mpr ⟨en, List.mem_of_find?_eq_some he, List.find?_some he⟩]; rfl
      · split at hl
        · cases hl
        · rename_i z; rw [Bool.not_eq_true] at z; rw [z, Bool.and_false]
    rw [aRefKeyMayBeTheName_at, c]
    refine wpAny_updatePart D ?_
    refine wpAny_bind (wpAny_lookBehind D' (pastItsLine_dict (by rw [List.size_toArray, sizeLine_eq]; omega)) ?_)
    exact wpAny_pure (h' _ U1 U2)
end
end JoinQW

section ResetQN
local macro_rules | `(tactic| walk_at "none") => `(tactic| skip)
theorem resetQN : True := by first | walk1 | (w_top off; trivial)
end ResetQN
section JoinQN
theorem ln_kind : builtinKind "list.__new__" = some .builtinFn := by decide +kernel
theorem ln_split : splitId "list.__new__" = some ("list", "__new__") := by decide +kernel
structure MakesA (M : Model) (h : Heap) : Prop where
  obj : ∃ oc od cd sl, h.get? 131 = some ⟨oc, od, .cls cd, sl⟩ ∧ cd.abstract = false ∧ cd.hasDel = false ∧ cd.mro.isEmpty = false ∧ cd.hasDict = true
  made : Looks M h (Bind.madeBy (.ref 131)) (some "list.__new__")
  base : Looks M h (Bind.staticBase (.ref 131)) (.ref 131)
  self : Looks M h (isSubtype (.ref 131) (.ref 131)) true
  lst : Looks M h (isSubtype (.ref 131) (.type "list")) true
  call : Looks M h (specialOf (.ref 131) "__call__") (some (.builtin "type.__call__"))
  typ : Looks M h (isInstance (.ref 131) (.type "type")) true
theorem makesA {P : Params} {M : Model} {h : Heap} (X : (hd.heap_39 P).In h) : MakesA M h := by
  have e : ((hd.heap_39 P).lookup 131).map (fun o => match o with | ⟨_, _, .cls cd, sl⟩ => some (cd.abstract, cd.hasDel, cd.mro, cd.hasDict, (sl.toList[4]?).join) | _ => none) = some (some (false, false, [.ref 131, .type "list", .type "object"], true, some (.builtin "list.__new__"))) := by kernel_rfl!
  cases ho : (hd.heap_39 P).lookup 131 with
  | none => rw [ho] at e; cases e
  | some o =>
    rw [ho] at e
    have e := Option.some.inj e
    obtain ⟨oc, od, dt, sl⟩ := o
    dsimp only at e
    split at e
    · rename_i oc1 od1 cd sl1 q
      cases q
      have e := Option.some.inj e
      simp only [Prod.mk.injEq] at e
      obtain ⟨e1, e2, e3, e4, e5⟩ := e
      have hc : clsIn (hd.heap_39 P) 131 = some cd := by unfold clsIn; rw [ho]
      have hm : Looks M h (mroOf (.ref 131)) cd.mro := (looks_clsIn X hc).andThen .now
      have made : Looks M h (Bind.madeBy (.ref 131)) (some "list.__new__") := by
        intro A Q E s k q
        unfold Bind.madeBy
        refine wpAny_bind (hm A _ E s k ?_)
        rw [e3, List.forIn_cons]
        refine wpAny_bind (wpAny_bind (wpAny_bind (wpAny_bind (wpAny_loadPart (k _ _ (X _ _ ho)) (wpAny_pure ?_)))))
        dsimp only
        rw [← Array.getElem?_toList, e5]
        exact wpAny_pure (wpAny_pure (wpAny_pure q))
      refine ⟨⟨oc, od, cd, sl, X _ _ ho, e1, e2, by rw [e3]; rfl, e4⟩, made, ?_, looks_mroIn X (by kernel_rfl!), looks_mroIn X (by kernel_rfl!), looks_specialIn X (by kernel_rfl!), looks_instIn X (by kernel_rfl!)⟩
      intro A Q E s k q
      unfold Bind.staticBase
      refine wpAny_bind (hm A _ E s k ?_)
      rw [e3, List.forIn_cons]
      exact wpAny_bind (wpAny_bind (wpAny_bind (made A _ E s k (wpAny_pure (wpAny_pure (wpAny_pure q))))))
    · cases e
section
variable {w : World} {A : Around} {R : Result → Shared → Prop} {h : Heap} {g : Array GenState} {d : Drawn} {t : Nat} {os : OsState}
theorem new_list (Y : MakesA (model PR w) h)
    (hq : R (.ok (.ret (.ref (h.objs.size + 1)))) ⟨(h.push emptyDict).push (accO h.objs.size [] 0), g, d, t, os⟩) :
    codeAny (model PR w) A (.call (.builtin "list.__new__") ⟨[.ref 131], []⟩) R ⟨h, g, d, t, os⟩ := by
  obtain ⟨⟨oc, od, cd, sl, hC, e1, e2, e4, e5⟩, made, base, self, lst, call, typ⟩ := Y
  have hisT : Looks (model PR w) h (isType (.ref 131)) true := fun A Q E s k q => by
    obtain ⟨hh, g, d, t, os⟩ := s
    exact ks_wpAny_isType_cls (k _ _ hC) rfl q
  refine codeAny_call_builtin_code (Code.quiet_builtin _ (by decide +kernel)) ?_
  simp only [checkBuiltinCall, ln_kind, ln_split]
  have here : Looks (model PR w) h (Bind.madeHere "list.__new__" (.ref 131)) () := base.andThen (made.andThen (Looks.of_pure (by simp only [Option.map_some, bne_self_eq_false, Bool.false_eq_true, if_false])))
  repeat (first | simp only [beq_self_eq_true, if_true, bne_self_eq_false, Bool.false_eq_true, if_false, Bool.not_true] | lk)
  refine codeAny_builtin_stack PySem.F.entry_list_new rfl fun p st => ?_
  dsimp only
  have hs := owner_list_new
  rw [hs]
  have hC' := Heap.get?_push_of_some (accO h.objs.size [] 0) (Heap.get?_push_of_some emptyDict hC)
  repeat (first | simp only [Bool.not_true, Bool.false_eq_true, if_false] | lk)
  rw [e2, if_neg (by decide)]
  refine wpAny_pure (wpAny_pure ?_)
  rw [Heap.size_push]
  exact hq
theorem make_acc (Y : MakesA (model PR w) h) (hi : Looks (model PR w) h (typeLookup (.ref 131) "__init__") (some (.ref 68)))
    (hb : ∀ self, Looks (model PR w) h (bindSpecial (.ref 68) self) (.ref 68, [self]))
    (hq : codeAny (model PR w) (A.under (.builtin "type.__call__" ⟨[.ref 131], []⟩)) (.call (.ref 68) ⟨[.ref (h.objs.size + 1)], []⟩) (InitBack (h.objs.size + 1) R) ⟨(h.push emptyDict).push (accO h.objs.size [] 0), g, d, t, os⟩) :
    codeAny (model PR w) A (.call (.ref 131) ⟨[], []⟩) R ⟨h, g, d, t, os⟩ := by
  have Y' := Y
  obtain ⟨⟨oc, od, cd, sl, hC, e1, e2, e4, e5⟩, made, base, self, lst, call, typ⟩ := Y
  refine codeAny_of_tree ?_
  show wpAny _ _ (callAny (.ref 131) _) _ _ _
  refine wpAny_bind (wpAny_load hC ?_)
  show wpAny _ _ (callAny.viaDunder (.ref 131) _) _ _ _
  unfold callAny.viaDunder
  refine wpAny_bind (call.at ?_)
  dsimp only
  rw [tc_bind]
  refine wpAny_bind (wpAny_pure (wpAny_bind (wpAny_pure ?_)))
  refine wpAny_pure (a := Fin.again (.call (.builtin "type.__call__") ⟨[.ref 131], []⟩)) (And.intro rfl ?_)
  refine codeAny_call_builtin_at (Code.quiet_builtin _ (by decide +kernel)) entry_typeCall (check_slot tc_kind tc_split typ (tc_args _ _ _) ?_)
  unfold Builtin.«type.__call__»
  have hm : Looks (model PR w) h (mroOf (.ref 131)) cd.mro := ((Looks.ld (part := none) hC).andThen .now).andThen .now
  repeat (first | simp only [e4, Bool.false_eq_true, if_false] | with_reducible refine wpAny_call ?_ | lk)
  refine new_list Y' ?_
  have k : ∀ b o, h.get? b = some o → ((h.push emptyDict).push (accO h.objs.size [] 0)).get? b = some o := fun b o e => Heap.get?_push_of_some _ (Heap.get?_push_of_some _ e)
  have hx : ((h.push emptyDict).push (accO h.objs.size [] 0)).get? (h.objs.size + 1) = some (accO h.objs.size [] 0) := by heap_get
  have t1 : Looks (model PR w) ((h.push emptyDict).push (accO h.objs.size [] 0)) (typeOf (.ref (h.objs.size + 1))) (.ref 131) := (Looks.ld hx).andThen .now
  have s1 := self.keeps k
  have i1 := hi.keeps k
  have b1 := (hb (.ref (h.objs.size + 1))).keeps k
  unfold isInstance callSpecial? specialOf
  repeat (first | with_reducible refine wpAny_call ?_ | lk)
  refine codeAny_mono hq fun r s' z => ?_
  rcases r with e | (v | _ | _ | _) <;> first | exact z | exact z.elim | skip
  obtain ⟨rfl, z⟩ := z
  exact wpAny_pure (wpAny_pure z)
end
section
variable {w : World} {A : Around} {s : Shared} {g : Heap} {L : Addr} {m : Str → Option Value} {led : List (Addr × Obj)} {Q : Value → Shared → Prop} {E : Value → Shared → Prop}
theorem call_acc0 (X₀ : (hd.heap_39 w.params).In g) (F : Fr g L s.heap m) (N : News g L s.heap led)
    (h : ∀ x dx h', Fr g L h' m → News g L h' ((x, accO dx [] 0) :: (dx, dictOf [] 0) :: led) → (∀ p ∈ led, p.1 < dx) → dx < x →
      codeAny (model PR w) (A.under (.builtin "type.__call__" ⟨[.ref 131], []⟩)) (.call (.ref 68) ⟨[.ref x], []⟩) (InitBack x fun r s' => match r with | .ok (.ret v) => Q v s' | .ok _ => False | .error e => E e s') { s with heap := h' }) :
    wpAny (model PR w) A (PySem.call (.ref 131) []) Q E s := by
  have X := X₀.keeps F.keep
  obtain ⟨hh, g, d, t, os⟩ := s
  refine wpAny_call (make_acc (makesA X) (looks_findIn X (by kernel_rfl!)) (fun self => bind_fn X self (by kernel_rfl!)) (h _ hh.objs.size _ ((F.push _).push _) ?_ (fun p hp => Heap.lt_size (N p hp).1) (Nat.lt_succ_self _)))
  have := (N.push F emptyDict).push (F.push _) (accO hh.objs.size [] 0)
  rwa [Heap.size_push] at this
end
end JoinQN

local macro_rules | `(tactic| walk_at "getMethod ref") => do let g ← guardM "__len__"; let as ← args "a a a e e e wd_slot wd_entry"; let l ← lineT (← `(super_bi $as* (wd_args _ _ _) tp_len (fun hi t A' Q' E' hq => get_wd (.inl ⟨rfl, rfl⟩) hi hq) (by kernel_rfl) (by decide) ?_)) "q' h' F' N' l1" "l"; `(tactic| (k_here; $g; k_dflt $l))
local macro_rules | `(tactic| walk_at "getMethod ref") => do let g ← guardM "__init__"; let as ← args "a a a e e e wd_slot wd_entry"; let l ← lineT (← `(super_bi $as* (wd_args _ _ _) tp_init (fun hi t A' Q' E' hq => get_wd (.inr ⟨rfl, rfl⟩) hi hq) (by kernel_rfl) (by decide) ?_)) "q' h' F' N' l1" "l"; `(tactic| (k_here; $g; k_dflt $l))
local macro_rules | `(tactic| walk_at "getMethod ref") => do let g ← guardM "pop"; let as ← args "a a a e e e md_slot md_entry"; let l ← lineT (← `(super_bi $as* (md_args _ _ _) tp_pop (fun hi t A' Q' E' hq => get_md hi hq) (by kernel_rfl) (by decide) ?_)) "q' h' F' N' l1" "l"; `(tactic| (k_here; $g; k_dflt $l))
local macro_rules | `(tactic| walk_at "callWith ref") => `(tactic| (k_here; k_dflt (refine' callWith_B0 ?k ?X ?_; (case X => exact News.get (by k_asm) (by k_mem)); (case k => first | exact .inl rfl | exact .inr rfl); k_whole; try dsimp only [List.nil_append, List.cons_append])))
local macro_rules | `(tactic| walk_at "call ref") => do return fiS [← line0 `X17.acc_len "a a e e _" "" "", ← line0 `X17.acc_init "a a e u _" "h' n' F' N'" "nw", ← lineN `X17.acc_pop1 "a a a e ?d ?U ?z _" [("U", "u"), ("d", "e"), ("z", "o")] "h' n' F' N'" "nw"]
local macro_rules | `(tactic| k_all) => `(tactic| assumption)
local macro_rules | `(tactic| walk_at "getMethod ref") => line0 `X17.method_any "K I acc_ga acc_canon acc_gattr i i 1 r _" "" "W"
local macro_rules | `(tactic| walk_at "call builtin:list.append") => lineN `X17.acc_append "a a a ?d ?U ?z _" [("U", "u"), ("d", "e"), ("z", "S")] "h' n' F' N'" "Wnw"
local macro_rules | `(tactic| lge_lay) => `(tactic| (refine nsub (by k_asm) ?_; first | ((repeat (first | exact NSub.nil | exact NSub.refl _ | refine NSub.keep ?_ | refine NSub.keep2 ?_ | refine NSub.cons (by k_mem) ?_ | refine NSub.drop ?_)); done) | repeat' (first | exact NSub.nil | refine NSub.cons (by k_mem) ?_ | exact NSub.refl _ | refine NSub.drop ?_)))
local macro_rules | `(tactic| walk_at "wpAt") => `(tactic| (ks_step "eval Call"; k_dflt (refine ks_wpAt_MethodCall ?_)))
local macro_rules | `(tactic| walk_at "wpAt") => `(tactic| ((try dsimp only); ks_step "execs cons"; k_dflt (refine ks_wpAt_execs_cons ?_)))
local macro_rules | `(tactic| walk_at "wpAt") => `(tactic| ((try dsimp only); ks_step "exec Return"; k_dflt (refine ks_wpAt_Return_some ?_)))
local macro_rules | `(tactic| walk_at "wpAt") => `(tactic| ((try dsimp only); ks_step "exec Expr"; k_dflt (refine ks_wpAt_Expr_any ?_)))
local macro_rules | `(tactic| walk_at "subscriptTail") => line0 `X17.acc_tail "a a a e e N N o R _" "h' q' F' N' l1" "lw"
local macro_rules | `(tactic| walk_at "setItem") => lineN `X17.acc_setK "a a a ?d ?l ?u ?q ?U ?z ?z2 R _" [("U", "u"), ("d", "e"), ("q", "e"), ("l", "N"), ("u", "N"), ("z", "o"), ("z2", "O")] "h' n' F' N'" "nw"
local macro_rules | `(tactic| walk_at "setAttr ref") => lineN `X17.acc_set "a a a e i ?k6 ?k7 ?k8 ?k9 _" [("k8", "p"), ("k6", "r"), ("k7", "P"), ("k9", "b")] "h' F' N'" "Ww"
local macro_rules | `(tactic| ks_enter) => coreN `PySem.W.ks_code_super "?k1 ?k2 ?k3 ?k4 ?k5 ?kA ?kF ?kK ?k6 ?k7 ?k8 ?k9 ?kB _ ?c1 ?c2 ?c3 ?c4" [("kA", "r"), ("kF", "r"), ("kK", "r"), ("k1", "a"), ("k2", "a"), ("k3", "a"), ("k4", "a"), ("k5", "a"), ("k6", "i"), ("k7", "i"), ("k8", "m"), ("k9", "B"), ("kB", "l"), ("c1", "d"), ("c2", "r"), ("c3", "r"), ("c4", "r")] "g' L' h' FG' F' N' B' X' T' l1" "ldB"
local macro_rules | `(tactic| lge_open0) => `(tactic| repeat' (first | (k_unfold; (try dsimp only)) | ((fail_if_success (with_reducible show wpAny _ _ (exec (Stmt.For _ _ _ _ _) _) _ _ _)); walk1) | (dsimp only; (fail_if_success (with_reducible show wpAny _ _ (exec (Stmt.For _ _ _ _ _) _) _ _ _)); walk1)))
local macro_rules | `(tactic| walk_at "call builtin:list.append") => do lineA (← `(tactic| (with_reducible show wpAny _ _ (call (Value.builtin _) [Value.ref _, _]) _ _ _))) `PySem.W.append_K "a a p _ S" "h' F' N'" "Ww"
local macro_rules | `(tactic| walk_at "assign Tuple") => lineN `X17.unpack_K "?hh ?F ?N ?t ?n ?st _" [("F", "a"), ("N", "a"), ("t", "e"), ("n", "r"), ("st", "r"), ("hh", "f")] "h' F' N'" "w"
local macro_rules | `(tactic| walk_at "loadName") => `(tactic| (k_here; (with_reducible rename Fr _ _ _ _ => kF); k_dflt (refine' ldn kF ?k1 ?_; (case k1 => first | exact rfl | assumption))))

section ResetQB
local macro_rules | `(tactic| walk_at "none") => `(tactic| skip)
theorem resetQB : True := by first | walk1 | (w_top off; trivial)
end ResetQB
section JoinQB
noncomputable abbrev tupO (l : List Value) : Obj := { cls := .type "tuple", data := .seq l.toArray }
section
variable {w : World} {s : Shared} {g base : Heap} {A₀ : Around} {hn : Option Value} {d u : Nat} {outer : List Env} {gs : Option (List Code)} {cn : Str} {nm : List (Str × NameKind)} {b1 b2 : Bool} {mo : List (Str × Const)} {L a : Addr} {cd : Value} {cl : List (Str × Addr)}
  {m : Str → Option Value} {Q : Value → Shared → Prop} {E : Value → Shared → Prop} {x dx : Addr} {its : List Value} {n nd : Nat} {es : List DictEntry} {v : Value} {h0 : Int} {t0 : Tok} {a1 a2 : Value} {rest : List (Addr × Obj)}
theorem push1 (gx : Gx w g base A₀ outer d u) (F : Fr g L s.heap m) (N : News g L s.heap ((x, accO dx its n) :: (dx, accD h0 t0 v) :: rest)) (hr1 : ∀ p ∈ rest, p.1 ≠ x) (hne : @LT.lt Nat _ dx x) (hz : its.length < 1000)
   (H : ∀ h' n' tk' q, Fr g L h' m → News g L h' ((x, accO dx (its ++ [.ref q]) n') :: (dx, accD h0 t0 v) :: (q, tupO [a1, a2]) :: rest) → (∀ p ∈ rest, p.1 < q) → dx < q → x < q → Q .none { s with heap := h', toks := tk' }) :
   wpAny (model PR w) (AG hn d outer gs u cn nm b1 b2 mo L a cd cl) (PySem.call (.ref 75) [.ref x, a1, a2]) Q E s := by
  obtain ⟨X₀, B, ⟨_, _, _, _, _, T⟩, hd, hu⟩ := gx
  k_steps
  rename_i l1 _ _ _ _ _ _ _ _
  exact H _ _ _ _ (by assumption) (by lge_lay) (allLt (by simp only [AllLt] at *; first | exact l1.2.2)) l1.2.1 l1.1

theorem pcount1 (gx : Gx w g base A₀ outer d u) (F : Fr g L s.heap m) (N : News g L s.heap ((x, accO dx its n) :: (dx, accD h0 t0 v) :: rest))
   (H : ∀ h' tk tk', Fr g L h' m → News g L h' ((x, accO dx its n) :: (dx, accD h0 t0 v) :: rest) → Q (.int its.length tk) { s with heap := h', toks := tk' }) :
   wpAny (model PR w) (AG hn d outer gs u cn nm b1 b2 mo L a cd cl) (PySem.call (.ref 128) [.ref x]) Q E s := by
  obtain ⟨X₀, B, ⟨_, _, _, _, _, T⟩, hd, hu⟩ := gx
  k_steps
  exact H _ _ _ (by assumption) (by lge_lay)
theorem pop1 (gx : Gx w g base A₀ outer d u) (F : Fr g L s.heap m) (N : News g L s.heap ((x, accO dx (its ++ [a1]) n) :: (dx, accD h0 t0 v) :: rest)) (hr1 : ∀ p ∈ rest, p.1 ≠ x) (hne : @LT.lt Nat _ dx x) (hz : its.length < 900)
   (H : ∀ h' n' tk', Fr g L h' m → News g L h' ((x, accO dx its n') :: (dx, accD h0 t0 v) :: rest) → Q a1 { s with heap := h', toks := tk' }) :
   wpAny (model PR w) (AG hn d outer gs u cn nm b1 b2 mo L a cd cl) (PySem.call (.ref 91) [.ref x]) Q E s := by
  obtain ⟨X₀, B, ⟨_, _, _, _, _, T⟩, hd, hu⟩ := gx
  k_steps
  all_goals first
    | exact H _ _ _ (by assumption) (by lge_lay)
    | (exfalso; have h9 : ((its ++ [a1]).length : Int) = 0 := by assumption
       simp at h9; omega)
theorem popfrom1 (gx : Gx w g base A₀ outer d u) (F : Fr g L s.heap m) (N : News g L s.heap ((x, accO dx its n) :: (dx, accD h0 t0 v) :: rest)) (hr1 : ∀ p ∈ rest, p.1 ≠ x) (hne : @LT.lt Nat _ dx x) (hz : its.length < 900) {t}
   (H : ∀ h' n' tk' q nq, Fr g L h' m → News g L h' ((x, accO dx (its.take 2) n') :: (q, listOf (its.drop 2).toArray nq) :: (dx, accD h0 t0 v) :: rest) → Q (.ref q) { s with heap := h', toks := tk' }) :
   wpAny (model PR w) (AG hn d outer gs u cn nm b1 b2 mo L a cd cl) (PySem.call (.ref 83) [.ref x, .int 2 t]) Q E s := by
  obtain ⟨X₀, B, ⟨_, _, _, _, _, T⟩, hd, hu⟩ := gx
  k_steps
  rename News _ _ _ _ => N8
  have e1 := pick2 its
  have e2 := set2 its
  rw [e1] at N8
  have e3 : (its.toArray.extract 0 (sliceBounds (some 2) none none its.toArray.size).1.toNat ++ (#[] : Array Value) ++ its.toArray.extract (max (sliceBounds (some 2) none none its.toArray.size).1 (sliceBounds (some 2) none none its.toArray.size).2.1).toNat its.toArray.size).toList = its.take 2 := e2
  rw [e3] at N8
  exact H _ _ _ _ _ (by assumption) (by lge_lay)
theorem reset1 (gx : Gx w g base A₀ outer d u) (F : Fr g L s.heap m) {ql nl} {vs : List Value} (N : News g L s.heap ((x, accO dx its n) :: (dx, accD h0 t0 v) :: (ql, listOf vs.toArray nl) :: rest)) (hr1 : ∀ p ∈ rest, p.1 ≠ x) (hne : @LT.lt Nat _ dx x) (hz : its.length < 900) (hz2 : vs.length < 900) (hqx : @Ne Nat ql x) (hr2 : ∀ p ∈ rest, p.1 ≠ dx) (hqd : @Ne Nat ql dx)
   (H : ∀ h' n' tk' v', Fr g L h' m → News g L h' ((x, accO dx vs n') :: (dx, accD h0 t0 v') :: (ql, listOf vs.toArray nl) :: rest) → Q .none { s with heap := h', toks := tk' }) :
   wpAny (model PR w) (AG hn d outer gs u cn nm b1 b2 mo L a cd cl) (PySem.call (.ref 113) [.ref x, .ref ql]) Q E s := by
  obtain ⟨X₀, B, ⟨_, _, _, _, _, T⟩, hd, hu⟩ := gx
  k_steps
  rename News _ _ _ _ => N8
  rw [setall] at N8
  exact H _ _ _ _ (by assumption) (by lge_lay)
end
end JoinQB

section ResetXP
local macro_rules | `(tactic| walk_at "none") => `(tactic| skip)
theorem resetXP : True := by first | walk1 | (w_top off; trivial)
end ResetXP
section JoinXP
section
variable {w : World} {s : Shared} {g : Heap} {A : Around} {L : Addr} {m : Str → Option Value} {E : Value → Shared → Prop} {led : List (Addr × Obj)}
theorem frGrow {h h' : Heap} (F : Fr g L h m) (k : ∀ b o, h.get? b = some o → h'.get? b = some o) : Fr g L h' m := by
  obtain ⟨oL, es, ep, hL, r⟩ := F.ns
  exact ⟨⟨oL, es, ep, k _ _ hL, r⟩, fun b o e => k b o (F.keep b o e), F.above⟩
theorem quoteAt {P : Params} {h : Heap} (X : (hd.heap_39 P).In h) : QuoteAt h := by
  have e1 : ((hd.heap_39 P).lookup 43).map (fun o => match o.data with | .fields fs => some (fs.getD 5 .none, Re.reRawNat (fs.getD 6 .none), Re.reRawNat (fs.getD 2 .none)) | _ => none) = some (some (.ref 42, 1, 0)) := by kernel_rfl!
  have e2 : ((hd.heap_39 P).lookup 42).map (fun o => match o.data with | .seq cs _ => some ((cs.map Re.reRawOf).map (·.toNat)) | _ => none) = some (some RC) := by kernel_rfl!
  cases h1 : (hd.heap_39 P).lookup 43 with
  | none => rw [h1] at e1; cases e1
  | some o =>
    cases h2 : (hd.heap_39 P).lookup 42 with
    | none => rw [h2] at e2; cases e2
    | some oc =>
      rw [h1] at e1
      rw [h2] at e2
      have e1 := Option.some.inj e1
      have e2 := Option.some.inj e2
      refine ⟨⟨o, ?_⟩, ⟨oc, ?_⟩⟩
      · dsimp only at e1
        split at e1
        · rename_i fs hf
          have e := Option.some.inj e1
          exact ⟨fs, X _ _ h1, hf, congrArg Prod.fst e, congrArg (fun x => x.2.1) e, congrArg (fun x => x.2.2) e⟩
        · cases e1
      · dsimp only at e2
        split at e2
        · rename_i cs n hf
          exact ⟨cs, n, X _ _ h2, hf, Option.some.inj e2⟩
        · cases e2
theorem quoteType {P : Params} (X : (hd.heap_39 P).In s.heap) : s.TypeIs (.ref 43) "re.Pattern" := by
  have e : ((hd.heap_39 P).lookup 43).map (·.cls) = some (.type "re.Pattern") := by kernel_rfl!
  cases hc : (hd.heap_39 P).lookup 43 with
  | none => rw [hc] at e; cases e
  | some o => rw [hc] at e; exact ⟨o, X _ _ hc, Option.some.inj e⟩
theorem sub_getm {pl : Sem Bool} {Q : Value × List Value → Shared → Prop} (X₀ : (hd.heap_39 w.params).In g) (F : Fr g L s.heap m) (h : Q (.builtin "re.Pattern.sub", [.ref 43]) s) : wpAny (model PR w) A (getMethod (.ref 43) "sub" pl) Q E s :=
  getMethod_builtin (quoteType (X₀.keeps F.keep)) plainAttrs_pattern slot_sub type_sub (fun a e => by
    cases e
    have X := X₀.keeps F.keep
    have e : ((hd.heap_39 w.params).lookup 43).map (·.dict) = some none := by kernel_rfl!
    cases hc : (hd.heap_39 w.params).lookup 43 with
    | none => rw [hc] at e; cases e
    | some o => rw [hc] at e; exact ⟨o, X _ _ hc, Option.some.inj e⟩) h
theorem sub_K {d : Array UInt8} {td u : Tok} {cs : List (List Nat)} {Q : Value → Shared → Prop} (X₀ : (hd.heap_39 w.params).In g) (F : Fr g L s.heap m) (N : News g L s.heap led) (hc : Cut (d.map (·.toNat)).toList cs) (hz : d.size ≤ 1000)
    (h : ∀ t s', Fr g L s'.heap m → News g L s'.heap led → s'.gens = s.gens → s'.os = s.os → Q (.bytes (toB cs.flatten) t) s') :
    wpAny (model PR w) A (PySem.call (.builtin "re.Pattern.sub") [.ref 43, .bytes #[] u, .bytes d td]) Q E s := by
  have X := X₀.keeps F.keep
  refine sub_ (quoteAt X) (quoteType X) hc (by have := sizeLine_eq; omega) fun t s' k hg ho => ?_
  exact h t s' (frGrow F k) (N.grown k) hg ho
end
local macro_rules | `(tactic| walk_at "getMethod ref") => do let b ← bys; `(tactic| (k_here; (with_reducible show wpAny _ _ (getMethod (Value.ref 43) (PySem.Str.ofString "sub") _) _ _ _); k_dflt (refine sub_getm $(b.a) $(b.a) ?_)))
local macro_rules | `(tactic| walk_at "call builtin:re.Pattern.sub") => line0 `X17.sub_K "a a a s s _" "t' s' F' N' g' o'" "Ww"
local macro_rules | `(tactic| walk_at "getMethod bytes") => `(tactic| (k_here; (with_reducible show wpAny _ _ (getMethod (Value.bytes _ _) (PySem.Str.ofString "count") _) _ _ _); k_dflt (refine count_getm ?_)))
local macro_rules | `(tactic| walk_at "call builtin:bytes.count") => `(tactic| (k_here; k_dflt (refine count_ ?_)))
section
variable {w : World} {s : Shared} {g base : Heap} {A₀ : Around} {hn : Option Value} {d u : Nat} {outer : List Env} {gs : Option (List Code)} {cn : Str} {nm : List (Str × NameKind)} {b1 b2 : Bool} {mo : List (Str × Const)} {L a : Addr} {cd : Value} {cl : List (Str × Addr)}
  {m : Str → Option Value} {Q : Value → Shared → Prop} {E : Value → Shared → Prop} {rest : List (Addr × Obj)} {b : Array UInt8} {td tk : Tok} {k : Int} {cs : List (List Nat)}
theorem pd1 (gx : Gx w g base A₀ outer d u) (F : Fr g L s.heap m) (N : News g L s.heap rest) (hc : Cut (b.map (·.toNat)).toList cs) (hz : b.size ≤ 1000)
   (H : ∀ s' tk', Fr g L s'.heap m → News g L s'.heap rest → s'.gens = s.gens → s'.os = s.os → Q (.int (k + (toB cs.flatten).toList.count 40 - (toB cs.flatten).toList.count 41) tk') s') :
   wpAny (model PR w) (AG hn d outer gs u cn nm b1 b2 mo L a cd cl) (PySem.call (.ref 51) [.bytes b td, .int k tk]) Q E s := by
  obtain ⟨X₀, B, ⟨_, _, _, _, _, T⟩, hd, hu⟩ := gx
  k_steps
  exact H _ _ (by assumption) (by lge_lay) (by assumption) (by assumption)
theorem pd0 (gx : Gx w g base A₀ outer d u) (F : Fr g L s.heap m) (N : News g L s.heap rest) (hc : Cut (b.map (·.toNat)).toList cs) (hz : b.size ≤ 1000)
   (H : ∀ s' tk', Fr g L s'.heap m → News g L s'.heap rest → s'.gens = s.gens → s'.os = s.os → Q (.int (0 + (toB cs.flatten).toList.count 40 - (toB cs.flatten).toList.count 41) tk') s') :
   wpAny (model PR w) (AG hn d outer gs u cn nm b1 b2 mo L a cd cl) (PySem.call (.ref 51) [.bytes b td]) Q E s := by
  obtain ⟨X₀, B, ⟨_, _, _, _, _, T⟩, hd, hu⟩ := gx
  k_steps
  exact H _ _ (by assumption) (by lge_lay) (by assumption) (by assumption)
end
end JoinXP

section ResetQM
local macro_rules | `(tactic| walk_at "none") => `(tactic| skip)
local macro_rules | `(tactic| walk_at "none") => `(tactic| skip)
theorem resetQM : True := by first | walk1 | (w_top off; trivial)
end ResetQM
section JoinQM
theorem ltNe {led : List (Addr × Obj)} {dx x : Addr} (l1 : ∀ p ∈ led, p.1 < dx) (l2 : dx < x) : ∀ p ∈ led, p.1 ≠ x := fun p hp => Nat.ne_of_lt (Nat.lt_trans (l1 p hp) l2)
local macro_rules | `(tactic| walk_at "call ref") => do let g ← `(tactic| (with_reducible show wpAny _ _ (PySem.call (Value.ref 131) _ _) _ _ _)); let l ← lineA g `X17.call_acc0 "a a a _" "" ""; return paS ([l.raw] ++ (← insS "x' d' h' F' N' l1 l2") ++ (← tails "Hl2wE"))
section
variable {w : World} {s : Shared} {g base : Heap} {A₀ : Around} {hn : Option Value} {d u : Nat} {outer : List Env} {gs : Option (List Code)} {cn : Str} {nm : List (Str × NameKind)} {b1 b2 : Bool} {mo : List (Str × Const)} {L a : Addr} {cd : Value} {cl : List (Str × Addr)}
  {m : Str → Option Value} {Q : Value → Shared → Prop} {E : Value → Shared → Prop} {rest : List (Addr × Obj)}
theorem acc_new (gx : Gx w g base A₀ outer d u) (F : Fr g L s.heap m) (N : News g L s.heap rest)
   (H : ∀ h' n' tk' x dx h0 t0 v, Fr g L h' m → News g L h' ((x, accO dx [] n') :: (dx, accD h0 t0 v) :: rest) → (∀ p ∈ rest, p.1 < dx) → @LT.lt Nat _ dx x → Q (.ref x) { s with heap := h', toks := tk' }) :
   wpAny (model PR w) (AG hn d outer gs u cn nm b1 b2 mo L a cd cl) (PySem.call (.ref 131) []) Q E s := by
  obtain ⟨X₀, B, ⟨_, _, _, _, _, T⟩, hd, hu⟩ := gx
  k_steps
  exact H _ _ _ _ _ _ _ _ (by assumption) (by lge_lay) (by assumption) (by assumption)
end
end JoinQM

section ResetQG
local macro_rules | `(tactic| walk_at "none") => `(tactic| skip)
theorem resetQG : True := by first | walk1 | (w_top off; trivial)
end ResetQG
section JoinQG
/-- a sequence, whatever its class -/
noncomputable def Sq (h : Heap) (a : Addr) (items : Array Value) : Prop := ∃ o, h.get? a = some o ∧ ∃ n, o.data = .seq items n
theorem Sq.at' {h h' : Heap} {a : Addr} {items : Array Value} (x : Sq h a items) (k : ∀ o, h.get? a = some o → h'.get? a = some o) : Sq h' a items := let ⟨o, ho, r⟩ := x; ⟨o, k o ho, r⟩
section
variable {prog : Program} {w : World} {A : Around} {E : Value → Shared → Prop} {s : Shared}
theorem next_item {it l : Addr} {i : Nat} {items} {x : Value} {Q : Option Value → Shared → Prop} (hit : s.heap.IsListIter it l i)
    (hl : Sq s.heap l items) (hx : items[i]? = some x)
    (hQ : ∀ h', h'.IsListIter it l (i + 1) → Heap.SameBut it s.heap h' → Q (some x) { s with heap := h' }) :
    wpAny (model prog w) A (pyNext (.ref it)) Q E s := by
  obtain ⟨o, ho, hc, hd⟩ := id hit
  obtain ⟨ol, hol, nl, hdl⟩ := hl
  unfold pyNext
  refine wpAny_bind (wpAny_attempt (wpAny_callSpecial?_slot (name := Str.ofString "__next__") hit.typeIs slot_listiter_next
    (wpAny_call_entry slot_listiter_next hit.typeIs entry_listiter_next ?_ (args_listiter_next _))))
  show wpAny _ _ (field (.ref it) 0 >>= _) _ _ s
  refine wpAny_bind (wpAny_field ho hd (x := .ref l) rfl ?_)
  show wpAny _ _ (if (Value.ref l == Value.none) = true then _ else _) _ _ s
  rw [if_neg (show ¬ ((Value.ref l == Value.none) = true) from Bool.false_ne_true)]
  show wpAny _ _ (field (.ref it) 1 >>= _) _ _ s
  refine wpAny_bind (wpAny_field ho hd (x := .int i 0) rfl ?_)
  show wpAny _ _ (seqItems? (.ref l) >>= _) _ _ s
  refine wpAny_bind (wpAny_seqItems hol hdl ?_)
  simp only [Int.toNat_natCast, hx]
  refine wpAny_bind (wpAny_setField ho hd (by simp) (wpAny_pure ⟨x, rfl, wpAny_pure (hQ _ ?_ (Heap.SameBut.update ..))⟩))
  exact ⟨_, Heap.get?_update_self _ ho (Obj.isFreed_of_fields (Obj.data_mapFields hd _)), (Obj.cls_mapFields ..).trans hc, by
    rw [Obj.data_mapFields hd]; simp [rawInt]⟩
theorem next_end {it l : Addr} {i : Nat} {items} {Q : Option Value → Shared → Prop} (hh : A.handled = none)
    (hit : s.heap.IsListIter it l i) (hl : Sq s.heap l items) (hx : items[i]? = none)
    (hQ : ∀ h', Heap.ExtBut it s.heap h' → Q none { s with heap := h' }) : wpAny (model prog w) A (pyNext (.ref it)) Q E s := by
  obtain ⟨o, ho, hc, hd⟩ := id hit
  obtain ⟨ol, hol, nl, hdl⟩ := hl
  unfold pyNext
  refine wpAny_bind (wpAny_attempt (wpAny_callSpecial?_slot (name := Str.ofString "__next__") hit.typeIs slot_listiter_next
    (wpAny_call_entry slot_listiter_next hit.typeIs entry_listiter_next ?_ (args_listiter_next _))))
  show wpAny _ _ (field (.ref it) 0 >>= _) _ _ s
  refine wpAny_bind (wpAny_field ho hd (x := .ref l) rfl ?_)
  show wpAny _ _ (if (Value.ref l == Value.none) = true then _ else _) _ _ s
  rw [if_neg (show ¬ ((Value.ref l == Value.none) = true) from Bool.false_ne_true)]
  show wpAny _ _ (field (.ref it) 1 >>= _) _ _ s
  refine wpAny_bind (wpAny_field ho hd (x := .int i 0) rfl ?_)
  show wpAny _ _ (seqItems? (.ref l) >>= _) _ _ s
  refine wpAny_bind (wpAny_seqItems hol hdl ?_)
  simp only [Int.toNat_natCast, hx]
  refine wpAny_bind (wpAny_rule (wpAny_bind (wpAny_setField ho hd (by simp) ?_)))
  show wpAny _ _ (newExc (.type "StopIteration") [] >>= _) _ _ _
  refine wpAny_bind ?_
  simp only [newExc, newTuple]
  refine wpAny_bind (wpAny_newObj_type ?_ (by size_fits))
  refine wpAny_bind (m := firstArgMember _ _) (wpAny_of_eq (a := Value.none) (by first | rfl | (simp only [firstArgMember]; rfl)) ?_)
  refine wpAny_newObj_type ?_ (by size_fits)
  simp only [raiseNew]
  refine wpAny_bind (wpAny_handled ?_)
  rw [show A.in1.handled = none from hh]
  refine wpAny_bind (wpAny_pure (wpAny_throw ?_))
  refine wpAny_bind (wpAny_isInstance (T := "StopIteration") (b := true) ⟨_, Heap.get?_push_size _ rfl, rfl⟩ isSubtype_stop ?_)
  exact wpAny_pure (hQ _ (((Heap.SameBut.update ..).extBut.push _).push _))
end
theorem walksAcc {prog : Program} {w : World} {A : Around} (hh : A.handled = none) (I ax : Addr) (hne : ax ≠ I) (items : Array Value) (Ts : Nat → Addr) (vals : Nat → Array Value)
    (hit : ∀ j, j < items.size → items[j]? = some (.ref (Ts j))) (hTI : ∀ j, j < items.size → Ts j ≠ I) :
    WalksU prog w A I (I :: ax :: (List.range items.size).map Ts) [I] items.size (fun j v => j < items.size ∧ v = vals j)
      (fun j h => h.IsListIter I ax j ∧ Sq h ax items ∧ ∀ k, k < items.size → h.IsTuple (Ts k) (vals k))
      (fun j T h => (j < items.size ∧ T = Ts j) ∧ h.IsListIter I ax (j + 1) ∧ Sq h ax items ∧ ∀ k, k < items.size → h.IsTuple (Ts k) (vals k)) where
  sub := fun b hb => by simp at hb; simp [hb]
  frame := fun _ _ _ st hk => ⟨st.1.at fun o e => hk I (by simp) o e, st.2.1.at' fun o e => hk ax (by simp) o e,
    fun k hk' => (st.2.2 k hk').at fun o e => hk (Ts k) (List.mem_cons_of_mem _ (List.mem_cons_of_mem _ (List.mem_map.mpr ⟨k, List.mem_range.mpr hk', rfl⟩))) o e⟩
  item := fun i s Q E hi st hQ => by
    refine next_item st.1 st.2.1 (x := .ref (Ts i)) (hit i hi) fun h' hit' hs' => ?_
    have tup : ∀ k, k < items.size → h'.IsTuple (Ts k) (vals k) := fun k hk' => (st.2.2 k hk').extBut hs'.extBut (hTI k hk')
    exact hQ (Ts i) (vals i) h' s.toks ⟨hi, rfl⟩ (tup i hi) ⟨⟨hi, rfl⟩, hit', st.2.1.at' fun o e => hs'.extBut _ o hne e, tup⟩ fun b o hb e => hs'.extBut b o (fun h => hb (by simp [h])) e
  go := fun _ _ _ _ _ s Q _ hm hQ => wpAny_letOwnedTupleGo_listiter hm.2.1 (hQ s.heap hm.2 fun _ _ _ e => e)
  apart := fun j T _ hm hmem => by
    rcases List.mem_cons.mp hmem with e | e
    · exact hTI j hm.1.1 (hm.1.2 ▸ e)
    · cases e
  done := fun s Q E st hQ => next_end hh st.1 st.2.1 (by simp) fun h' he' => hQ h' s.toks fun b o hb e => he' b o (fun h => hb (by simp [h])) e
  self := fun _ _ _ _ st hQ => wpAny_pyIter_listiter st.1 hQ
theorem acc_iterF {P : Params} : findIn (hd.heap_39 P) (.ref 131) "__iter__" = some (some (.builtin "list.__iter__")) := by kernel_rfl!
section
variable {w : World} {s : Shared} {g : Heap} {A : Around} {L : Addr} {m : Str → Option Value} {Q : Value → Shared → Prop} {E : Value → Shared → Prop} {x dx : Addr} {its : List Value} {n : Nat} {od : Obj}
theorem acc_iter (X : (hd.heap_39 w.params).In s.heap) (hx : s.heap.get? x = some (accO dx its n)) (hdx : s.heap.get? dx = some od)
    (hQ : Q (.ref s.heap.objs.size) { s with heap := s.heap.push { cls := .type "list_iterator", data := .fields #[.ref x, .int 0 0] } }) : wpAny (model PR w) A (pyIter (.ref x)) Q E s := by
  have I : InstAt s.heap x (accO dx its n) 131 (some od) := ⟨hx, rfl, rfl, hdx⟩
  unfold pyIter specialOf
  refine wpAny_bind (wpAny_bind (I.type.here ((looks_findIn X acc_iterF).here ?_)))
  dsimp only
  refine wpAny_bind ?_
  simp only [callSpecialIfBoundUnlessNone?, bindSpecialIfBound?]
  refine wpAny_holding (wpAny_bind (wpAny_bind (wpAny_bind (I.type.here ((looks_findIn X acc_iterF).here ?_)))))
  simp only [PySem.F.slot_list_iter.bind]
  refine wpAny_bind (wpAny_askSetting (wpAny_ite ?_))
  have hc : wpAny (model PR w) A (PySem.call (.builtin "list.__iter__") [.ref x]) (fun it s' => it = .ref s.heap.objs.size ∧ s' = { s with heap := s.heap.push { cls := .type "list_iterator", data := .fields #[.ref x, .int 0 0] } }) E s := by
    refine call_acc (n := "__iter__") X I acc_sub PySem.F.entry_list_iter ?_
    show wpAny _ _ (do ret (← newFields "list_iterator" [.ref x, rawInt 0])) _ _ s
    exact wpAny_bind (wpAny_newObj_type (wpAny_pure ⟨rfl, rfl⟩))
  have fin : ∀ {Q' : Option Value → Shared → Prop}, Q' (some (.ref s.heap.objs.size)) { s with heap := s.heap.push { cls := .type "list_iterator", data := .fields #[.ref x, .int 0 0] } } →
      wpAny (model PR w) A (PySem.call (.builtin "list.__iter__") [.ref x] >>= fun v => pure (some v)) Q' E s := fun hq' =>
    wpAny_bind (wpAny_mono hc (fun v s' h' => by obtain ⟨rfl, rfl⟩ := h'; exact wpAny_pure hq') fun _ _ h' => h')
  have tail : wpAny (model PR w) A (typeOf (.ref s.heap.objs.size) >>= fun t => typeLookup t "__next__") (fun r s' => ∃ v, r = some v ∧ s' = { s with heap := s.heap.push { cls := .type "list_iterator", data := .fields #[.ref x, .int 0 0] } }) E { s with heap := s.heap.push { cls := .type "list_iterator", data := .fields #[.ref x, .int 0 0] } } :=
    wpAny_specialOf (T := "list_iterator") ⟨_, Heap.get?_push_size _ rfl, rfl⟩ slot_listiter_next.lookup ⟨_, rfl, rfl⟩
  have fin2 : wpAny (model PR w) A (PySem.call (.builtin "list.__iter__") [.ref x] >>= fun v => pure (some v)) (fun r s' => wpAny (model PR w) A (match r with
      | some it => do
        match ← (do typeLookup (← typeOf it) "__next__") with
        | none => do
          rule "iter.non-iterator"
          raiseError "TypeError" s!"iter() returned non-iterator of type '{← PySem.typeNameOf it}'"
        | some _ => pure it
      | none => do
        match ← bindSpecialIfBound? (.ref x) "__getitem__" with
        | none => do
          rule "iter.not-iterable"
          raiseError "TypeError" s!"'{← PySem.typeNameOf (.ref x)}' object is not iterable"
        | some _ => do
          rule "iter.getitem-fallback"
          newFields "iterator" [.ref x, ← mkInt 0]) Q E s') E s := fin (wpAny_bind (wpAny_mono tail (fun r s' h' => by obtain ⟨v, rfl, rfl⟩ := h'; exact wpAny_pure hQ) fun _ _ z => z))
  have e0 : (Value.builtin "list.__iter__" == Value.none) = false := rfl
  split
  · refine wpAny_bind (wpAny_pure (wpAny_pure ?_))
    dsimp only
    rw [e0, if_neg (by decide)]
    exact fin2
  · refine wpAny_tryCatch (wpAny_bind (wpAny_pure (wpAny_pure ?_)))
    dsimp only
    rw [e0, if_neg (by decide)]
    exact fin2
end
end JoinQG

section ResetQH
local macro_rules | `(tactic| walk_at "none") => `(tactic| skip)
theorem resetQH : True := by first | walk1 | (w_top off; trivial)
end ResetQH
section JoinQH
section
variable {M : Model} {A : Around} {E : Value → Shared → Prop} {s : Shared} {K : Frag} {h₀ : Heap} {C : Addr} {m mg mb : Str → Option Value} {cl : List (Str × Addr)} {p : Program} {loose : List Str}
  {x : Str} {pos : Pos} {v code : Value} {Q : Value → Shared → Prop} {scope : Scope} {env : Env}
theorem genName_K (F : Fr h₀ C s.heap m) (X : K.In h₀) (T : TopRead p loose mg mb h₀) (e : nsIn K mainGlobals x = some (some v)) (h : Q v s)
    (hg : env.globals = mainGlobals := by rfl) (hk : scope.kind = .function := by rfl) (hx : (genEnv scope cl C code builtinsNs env).kindOf x = some .globalImplicit := by rfl) (hd : (x == ("__debug__" : Str)) = false := by decide) :
    wpAny M A (eval (.Name x pos) (genEnv scope cl C code builtinsNs env)) Q E s :=
  Name_function_global hk hx (loadGlobal_global (env := genEnv scope cl C code builtinsNs env) (show s.heap.Ns env.globals mg from hg ▸ (T.g.keeps F.keep)) (mg_of X T.g e) h) hd
end
local macro_rules | `(tactic| walk_at "eval Name") => `(tactic| (k_here; (with_reducible rename Fr _ _ _ _ => kF); k_dflt (refine' ldVarG kF ?k1 ?_; (case k1 => first | exact rfl | assumption); k_whole)))
local macro_rules | `(tactic| walk_at "eval Name") => do let b ← bys; `(tactic| (k_here; (with_reducible rename Fr _ _ _ _ => kF); k_dflt (refine genName_K kF $(b.a) $(b.a) $(b.i) ?_ ; k_whole)))
noncomputable def strBody (P : Params) : List Stmt := match (hd.heap_39 P).lookup 105 with
  | some ⟨_, _, .func fd, _⟩ => (match fd.body with | .stmts b => b | _ => [])
  | _ => []
noncomputable def strGen (P : Params) : Expr := match strBody P with
  | [.Return (some (.Call _ [e] _ _)) _] => e
  | _ => default
noncomputable def strElt (P : Params) : Expr := match strGen P with | .GeneratorExp e _ _ _ => e | _ => default
noncomputable def strScope (P : Params) : Scope := match strGen P with | .GeneratorExp _ _ sc _ => sc | _ => default
section
variable {w : World} {t : Shared} {g : Heap} {A : Around} {C : Addr} {m : Str → Option Value} {Q : Value → Shared → Prop} {E : Value → Shared → Prop} {env : Env} {code : Value} {a b : Str} {ta tb : Tok}
theorem elt1 (X₀ : (hd.heap_39 w.params).In g) {p loose mean mg mb} (T : Top p loose mean mg mb g) (F : Fr g C t.heap m) (N : News g C t.heap []) (ha : m (Str.ofString "fws") = some (.str a ta)) (hb : m (Str.ofString "part") = some (.str b tb)) (hz : a.length + b.length ≤ 1000)
   {cn : Str} {nm : List (Str × NameKind)} {b1 b2 : Bool} {mo : List (Str × Const)} {L fa : Addr} {cd : Value} {cl : List (Str × Addr)}
   (H : ∀ t' h' k, (∀ b o, t.heap.get? b = some o → h'.get? b = some o) → Q (.str (Txt.join "" [a, b]) t') { t with heap := h', toks := k }) :
   wpAny (model PR w) A (eval (strElt w.params) (genEnv (strScope w.params) [] C code builtinsNs (envX cn { kind := .function, names := nm, isGenerator := b1, isCoroutine := b2, more := mo } L fa cd cl))) Q E t := by
  have N2 := N
  conv => arg 3; arg 1; whnf
  conv in (occs := *) strScope _ => all_goals whnf
  iterate 11 walk1
  refine wpAny_newTuple ?_ (by simp [sizeLine_eq])
  walk1
  refine join_tuple (items := #[.str a ta, .str b tb]) (ys := [a, b]) ⟨_, Heap.get?_push_size _ rfl, rfl, 0, rfl⟩ (.cons _ _ (.cons _ _ .nil)) (by rw [show (Str.ofString "").length = 0 from by decide]; simp; omega) fun t' k => ?_
  exact H _ _ _ fun b o e => Heap.get?_push_of_some _ e
end
section
variable {M : Model} {A : Around} {s : Shared} {E : Value → Shared → Prop} {env : Env} {pos : Pos} {qualname : Str} {scope : Scope} {c P : Addr} {ps : Array Value}
theorem gcode {Q : Value → Shared → Prop} (hc : env.code = .ref c) (C : CodeHd s.heap c P) (hP : s.heap.get? P = some (tabObj ps)) (ht : TriplesOk ps.toList)
   (hQ : ∀ code h' tk ps', Heap.ExtBut P s.heap h' → s.heap.objs.size ≤ h'.objs.size → h'.get? P = some (tabObj ps') → TriplesOk ps'.toList → Q code { s with heap := h', toks := tk }) :
   wpAny M A (genexprCode env pos qualname scope) Q E s := by
  have hok := C.code hP ht
  cases hnf : codeAmong pos ps.toList with
  | some cv => exact wpAny_genexprCode_hit hc hok hnf (hQ cv s.heap s.toks ps (Heap.ExtBut.refl _ _) (Nat.le_refl _) hP ht)
  | none =>
    refine wpAny_genexprCodeX hc hok (C.tab hP) hnf fun c' h' tk hx hge hlt hok' hrec htb _ => ?_
    obtain ⟨o, vs, file, tf, flags, tg, inF, text, tt, op, ho, hd, h11, h2, h7, h9, h10, hop, hpd, htr, hne⟩ := hok'
    exact hQ _ _ _ _ hx (Nat.le_trans hge (Nat.le_of_lt hlt)) htb.2 htr
end
section
variable {w : World} {s : Shared} {g : Heap} {A : Around} {L fa : Addr} {m : Str → Option Value} {Q : Value → Shared → Prop} {E : Value → Shared → Prop} {x dx : Addr} {its : List Value} {n : Nat} {od : Obj} {led : List (Addr × Obj)} {gl : Obj → List (Addr × Obj)} {tab : Array Value}
  {cn : Str} {nm : List (Str × NameKind)} {b1 b2 : Bool} {mo : List (Str × Const)} {p : Program} {loose : List Str} {mean : ExcName → Option Value} {mg mb : Str → Option Value} {sp : Str} {cs : Nat → Str}
theorem genexp_acc (X₀ : (hd.heap_39 w.params).In g) (T : Top p loose mean mg mb g) (C2 : CodeHd g 104 100) (F : Fr g L s.heap m) (N : News g L s.heap led) (G : AllBare s.gens) (hh : A.handled = none) (hroom : A.depth < recursionLimit)
   (hself : m (Str.ofString "self") = some (.ref x)) (hkself : (envX cn { kind := .function, names := nm, isGenerator := b1, isCoroutine := b2, more := mo } L fa (.ref 104) []).kindOf "self" = some .local)
   (hx : (x, accO dx its n) ∈ led) (hdx : (dx, od) ∈ led) (U : UpdF 100 (tabObj tab) led gl) (ht : TriplesOk tab.toList) (hlt : ∀ p ∈ led, p.1 < L)
   (hits : ∀ i, i < its.length → ∃ q t1 t2, its[i]? = some (.ref q) ∧ (q, tupO [.str sp t1, .str (cs i) t2]) ∈ led) (hcs : ∀ i, i < its.length → sp.length + (cs i).length ≤ 1000) (hz : its.length ≤ 900)
   (H : ∀ a s₅ tab', Fr g L s₅.heap m → News g L s₅.heap (gl (tabObj tab')) → TriplesOk tab'.toList → AllBare s₅.gens → s₅.os = s.os →
      Gen PR w A L a (List.range its.length).length (fun j y => ∃ i, (List.range its.length)[j]? = some i ∧ ∃ u, y = .str (Txt.join "" [sp, cs i]) u) s₅ → Q (.ref a) s₅) :
   wpAny (model PR w) A (eval (strGen w.params) (envX cn { kind := .function, names := nm, isGenerator := b1, isCoroutine := b2, more := mo } L fa (.ref 104) [])) Q E s := by
  obtain ⟨own, rest, rfl, hgr, h1, h2⟩ := U.split
  have hm := N (100, tabObj tab) (List.mem_append_right _ (.head _))
  have hnx := N _ hx
  have hnd := N _ hdx
  have eg : strGen w.params = strGen w.params := rfl
  conv at eg => rhs; whnf
  rw [eg]
  refine wpAny_GeneratorExp_walksQT (cl := []) hh (by rfl) (by rfl) (by decide) (by decide) (by decide) (by decide) (by decide) (by rfl) hroom ?_ (by intro _; with_unfolding_all rfl)
  refine nameX_L F hself ?_ (hx := hkself)
  have X := X₀.keeps F.keep
  refine acc_iter X hnx.1 hnd.1 ?_
  have hLs : L < s.heap.objs.size := F.ns.lt
  have hlim : ∀ h' : Heap, (∀ b o, g.get? b = some o → h'.get? b = some o) → h'.NoLimit := fun h' k => T.nolimit.keeps k
  refine ⟨hlim _ fun b o e => Heap.get?_push_of_some _ (F.keep b o e), ?_⟩
  refine gcode (c := 104) (P := 100) (ps := tab) rfl (C2.keeps fun b o e => Heap.get?_push_of_some _ (F.keep b o e)) (Heap.get?_push_of_some _ hm.1) ht fun code h₃ tk₃ tab' hx₃ hsz₃ htab' ht' => ?_
  have hI100 : s.heap.objs.size ≠ 100 := fun q => by have := Heap.lt_size hm.1; rw [q] at this; exact Nat.lt_irrefl _ this
  have k₃ : ∀ b o, b ≠ 100 → s.heap.get? b = some o → h₃.get? b = some o := fun b o hb e => hx₃ b o hb (Heap.get?_push_of_some _ e)
  have kg₃ : ∀ b o, g.get? b = some o → h₃.get? b = some o := fun b o e => k₃ b o (fun q => by rw [q, hm.2.2] at e; cases e) (F.keep b o e)
  obtain ⟨bm, ob, q1, q2, q3, q4, q5, q6⟩ := T.bmain
  refine wpAny_builtinsFor (T.g.keeps kg₃) q1 q2 (kg₃ _ _ q3) q4 q5 q6 ?_
  have D : ∀ i, ∃ y : Addr × Tok × Tok, i < its.length → its[i]? = some (.ref y.1) ∧ (y.1, tupO [.str sp y.2.1, .str (cs i) y.2.2]) ∈ own ++ (100, tabObj tab) :: rest := fun i => by
    by_cases h : i < its.length
    · obtain ⟨q, t1, t2, e⟩ := hits i h
      exact ⟨(q, t1, t2), fun _ => e⟩
    · exact ⟨(0, 0, 0), fun h' => absurd h' h⟩
  obtain ⟨Y, hY⟩ := Classical.axiomOfChoice D
  have hszI : (s.heap.push ({ cls := .type "list_iterator", data := .fields #[.ref x, .int 0 0] } : Obj)).objs.size = s.heap.objs.size + 1 := Heap.size_push _ _
  have hI₃ : s.heap.objs.size < h₃.objs.size := by
    have : (s.heap.push ({ cls := .type "list_iterator", data := .fields #[.ref x, .int 0 0] } : Obj)).objs.size ≤ h₃.objs.size := hsz₃
    rw [hszI] at this; exact this
  have hnone : ∀ b, L ≤ b → g.get? b = none := fun b hb => Heap.get?_none_of_le (Nat.le_trans F.above hb)
  have hp : passing (fun _ => true) its.toArray.size 0 = List.range its.length := by simp [passing]
  have ltL : ∀ q ∈ own ++ (100, tabObj tab) :: rest, q.1 < s.heap.objs.size := fun q hq => Heap.lt_size (N q hq).1
  have n100 : ∀ q ∈ own ++ (100, tabObj tab) :: rest, q.1 = 100 → q.2 = tabObj tab := fun q hq e => by
    have a1 := (N q hq).1
    rw [e, hm.1] at a1
    exact (Option.some.inj a1).symm
  have kl₃ : ∀ q ∈ own ++ (100, tabObj tab) :: rest, q.2 ≠ tabObj tab → h₃.get? q.1 = some q.2 := fun q hq e => k₃ _ _ (fun z => e (n100 q hq z)) (N q hq).1
  refine ⟨s.heap.objs.size, s.heap.objs.size :: x :: (List.range its.toArray.size).map (fun i => (Y i).1), [s.heap.objs.size], its.toArray.size, _, _, _, fun _ => true, fun i y => ∃ u, y = .str (Txt.join "" [sp, cs i]) u, rfl,
    fun A' hA' => walksAcc hA' s.heap.objs.size x (Nat.ne_of_lt (ltL _ hx)) its.toArray (fun i => (Y i).1) (fun i => #[.str sp (Y i).2.1, .str (cs i) (Y i).2.2]) (fun j hj => by simpa using (hY j (by simpa using hj)).1) (fun j hj => Nat.ne_of_lt (ltL _ (hY j (by simpa using hj)).2)),
    fun i vals hv => ⟨_, _, hv.2⟩, ⟨⟨_, hx₃ _ _ hI100 (Heap.get?_push_size _ rfl), rfl, rfl⟩, ⟨_, kl₃ _ hx (by intro q; cases q), _, rfl⟩, fun k hk => ⟨_, kl₃ _ (hY k (by simpa using hk)).2 (by intro q; cases q), rfl, _, rfl⟩⟩, ?_, hlim _ kg₃, ?_, ?_, ?_⟩
  · intro b hb
    rcases List.mem_cons.mp hb with rfl | hb
    · exact hI₃
    · rcases List.mem_cons.mp hb with rfl | hb
      · exact Nat.lt_trans (ltL _ hx) hI₃
      · obtain ⟨j, hj, rfl⟩ := List.mem_map.mp hb
        exact Nat.lt_trans (ltL _ (hY j (by simpa using hj)).2) hI₃
  · intro hb
    obtain ⟨_, hn, _⟩ := T.nolimit
    have h1 := hn.lt
    have h2 : s.heap.objs.size = cStatics := (List.mem_singleton.mp hb).symm
    have h3 := Nat.lt_of_lt_of_le h1 F.above
    rw [h2] at hLs
    exact Nat.lt_irrefl _ (Nat.lt_trans h3 hLs)
  · intro href hhref
    have inB : ∀ (t : Shared) m₂, t.heap.Ns h₃.objs.size m₂ → (∀ b ∈ List.range h₃.objs.size, b ∉ [s.heap.objs.size] → ∀ o, href.get? b = some o → t.heap.get? b = some o) → Fr g h₃.objs.size t.heap m₂ := fun t m₂ hn hk =>
      ⟨hn, fun b o e => hk b (List.mem_range.mpr (Heap.lt_size (kg₃ b o e))) (fun q => by
        have := List.mem_singleton.mp q
        have e2 := Heap.lt_size e
        rw [this] at e2
        exact Nat.lt_irrefl _ (Nat.lt_trans (Nat.lt_of_lt_of_le e2 F.above) hLs)) o (hhref b o (kg₃ b o e)), Nat.le_trans F.above (Nat.le_of_lt (Nat.lt_trans hLs hI₃))⟩
    refine ⟨fun A' E' i va vb s₂ m₂ hA' hP hn hma hmb hk => wpAny_pure ⟨rfl, s₂.heap, s₂.toks, rfl, fun _ _ e => e⟩, fun A' E' i va vb s₂ m₂ hA' hP hpz hn hma hmb hk => ?_⟩
    obtain ⟨hi, hP⟩ := hP
    have hi' : i < its.length := by simpa using hi
    have e1 : va = .str sp (Y i).2.1 ∧ vb = .str (cs i) (Y i).2.2 := by simpa using congrArg Array.toList hP
    obtain ⟨rfl, rfl⟩ := e1
    exact elt1 X₀ T (inB s₂ m₂ hn hk) (fun _ h => nomatch h) hma hmb (hcs i hi') fun t' h' k hk' => ⟨⟨_, rfl⟩, h', k, rfl, hk'⟩
  · intro a h₅ tk gs hgb hag hsz₅ hk₅ W hat
    rw [hp] at W
    have k5 : ∀ b o, b ≠ 100 → s.heap.get? b = some o → h₅.get? b = some o := fun b o hb e => hk₅ _ _ (k₃ b o hb e)
    obtain ⟨oL, es, ep, hL, r⟩ := F.ns
    have hL100 : L ≠ 100 := Ne.symm hm.2.1
    have F5 : Fr g L h₅ m := ⟨⟨oL, es, ep, k5 _ _ hL100 hL, r⟩, fun b o e => hk₅ _ _ (kg₃ b o e), F.above⟩
    have N5 : News g L h₅ (gl (tabObj tab')) := fun q hq => by
      rw [hgr] at hq
      rcases List.mem_append.mp hq with hq | hq
      · have := N q (List.mem_append_left _ hq)
        exact ⟨k5 _ _ (h1 q hq) this.1, this.2⟩
      · rcases List.mem_cons.mp hq with rfl | hq
        · exact ⟨hk₅ _ _ htab', hm.2⟩
        · have := N q (List.mem_append_right _ (.tail _ hq))
          exact ⟨k5 _ _ (h2 q hq) this.1, this.2⟩
    refine H a _ tab' F5 N5 ht' (G.push hgb) rfl ⟨_, _, _, _, W, hat, (fun i s' st => st.1.typeIs), List.mem_cons_self, ?_, ?_⟩
    · intro b hb
      show b < h₅.objs.size
      rw [hsz₅]
      rcases List.mem_cons.mp hb with rfl | hb
      · exact Nat.lt_succ_self _
      · rcases List.mem_cons.mp hb with rfl | hb
        · exact Nat.lt_succ_of_lt hag
        · exact Nat.lt_succ_of_lt (Nat.lt_trans (List.mem_range.mp hb) hag)
    · intro b hb
      rcases List.mem_cons.mp hb with rfl | hb
      · exact Nat.lt_trans hLs hI₃
      · rw [List.mem_singleton.mp hb]; exact hLs
end
end JoinQH

section ResetQR
local macro_rules | `(tactic| walk_at "none") => `(tactic| skip)
local macro_rules | `(tactic| walk_at "none") => `(tactic| skip)
theorem resetQR : True := by first | walk1 | (w_top off; trivial)
end ResetQR
section JoinQR
section
variable {w : World} {s : Shared} {g : Heap} {A : Around} {L a : Addr} {m : Str → Option Value} {Q : Value → Shared → Prop} {E : Value → Shared → Prop} {led : List (Addr × Obj)} {sp : Str} {cs : Nat → Str} {n : Nat} {t : Tok}
theorem join_acc (F : Fr g L s.heap m) (N : News g L s.heap led) (hlt : ∀ p ∈ led, p.1 < L) (G : AllBare s.gens)
   (X : Gen PR w A L a (List.range n).length (fun j y => ∃ i, (List.range n)[j]? = some i ∧ ∃ u, y = .str (Txt.join "" [sp, cs i]) u) s)
   (hok : (((List.range n).map fun i => Txt.join "" [sp, cs i]).map (·.length)).sum ≤ 100000) (hz : n ≤ 900)
   (h : ∀ s' t', Fr g L s'.heap m → News g L s'.heap led → AllBare s'.gens → s'.os = s.os → Q (.str (Txt.join "" ((List.range n).map fun i => Txt.join "" [sp, cs i])) t') s') :
   wpAny (model PR w) A (PySem.call (.builtin "str.join") [.str "" t, .ref a]) Q E s := by
  have e : (List.range (List.range n).length).map (fun i => Txt.join "" [sp, cs i]) = (List.range n).map fun i => Txt.join "" [sp, cs i] := by rw [List.length_range]
  refine join_rowsK F G X (Nat.le_refl _) (fun i => Txt.join "" [sp, cs i]) (fun j v hv => ?_) ?_ (fun s' t' F' G' o' k => ?_) (by rw [List.length_range]; have := sizeLine_eq; omega)
  · obtain ⟨i, hi, u, rfl⟩ := hv
    have : i = j := by
      obtain ⟨h1, h2⟩ := List.getElem?_eq_some_iff.mp hi
      rw [List.getElem_range] at h2
      exact h2.symm
    subst this
    exact ⟨u, rfl⟩
  · rw [e]
    refine joinOk_of ?_
    rw [show (Str.ofString "").length = 0 from by decide, Nat.mul_zero, Nat.add_zero]
    omega
  · rw [e]
    exact h s' t' F' (fun p hp => ⟨k _ _ (Nat.le_of_lt (hlt p hp)) (N p hp).1, (N p hp).2⟩) G' o'
end
section
variable {prog : Program} {w : World} {A A₀ : Around} {E : Value → Shared → Prop} {s : Shared} {K : Frag} {C L : Addr} {h₀ base : Heap} {m mg mb : Str → Option Value} {news : List (Addr × Obj)} {p : Program} {loose : List Str} {mean : ExcName → Option Value} {Q : Value → Shared → Prop}
theorem code_defL {env : Env} {outer : List Env} {R : Result → Shared → Prop} {name qual : Str} {params : Arguments} {body : List Stmt} {scope : Scope} {dV kV doc pm cdv ct oc : Value} {an od : Option Addr} {osl : Array (Option Value)} {f : Addr} {args : Args} {binds : List (Str × Value)}
    (B : Below A₀ base outer h₀) (F : Fr h₀ L s.heap m) (X₀ : K.In h₀) (N : News h₀ L s.heap news) (T : Top p loose mean mg mb h₀) (hA : A.frames = some (env :: outer)) (hf : env.frame = some L) (hke : env.scope.kind = .function)
    (ho : K.lookup f = some ⟨oc, od, .func (fnOf name qual params body scope dV kV doc pm an cdv ct), osl⟩) (hcd : codeIn K cdv qual = true) (hroom : A.depth < recursionLimit)
    (hbind : BindsTo s (fnOf name qual params body scope dV kV doc pm an cdv ct) args binds) (hloc : ∀ y ∈ binds, scope.names.lookup y.1 = some .local)
    (h : ∀ g L' h₁, Fr h₀ L g m → Fr g L' h₁ (fun y => binds.reverse.lookup y) → News g L' h₁ news → Below A base (env :: outer) g → K.In g → Top p loose mean mg mb g → (∀ p ∈ news, p.1 < L') →
      wpAny (model prog w) (A.deeper (envOf qual scope L' f cdv)) (execs body (envOf qual scope L' f cdv))
        (fun fl s' => LeaveK h₀ L m g R (match fl with | .ret v => v | _ => .none) s')
        (fun e s' => wpAny (model prog w) (A.deeper (envOf qual scope L' f cdv)) (leaving (envOf qual scope L' f cdv) e) (fun _ s'' => R (.error e) s'') (fun e' s'' => R (.error e') s'') s')
        { s with heap := h₁, toks := s.toks + binds.length })
    (hco : scope.isCoroutine = false) (hgen : scope.isGenerator = false) (hk : scope.kind = .function)
    (hcell : ∀ x ∈ scope.names, x.2 ≠ .cell) : codeAny (model prog w) A (.call (.ref f) args) R s :=
  callX_plain (cl := []) B F N T.nolimit hA hf hke ((X₀.keeps F.keep) _ _ ho) rfl (codeRec_of (X₀.keeps F.keep) hcd) hroom hbind hloc (fun g L' h₁ FG F' N' B' st l => h g L' h₁ FG F' N' B' (X₀.keeps st) (T.keeps st) l) hcell hco hgen hk
end
local macro_rules | `(tactic| walk_at "eval GeneratorExp") => lineN `X17.genexp_acc "a a C a a s s m r r e e u s ?lt ?its ?cs ?z _" [("its", "s"), ("cs", "s"), ("z", "s"), ("lt", "s")] "a' s' tab' F' N' t' G' o' X'" "n"
section
variable {w : World} {s : Shared} {g base : Heap} {A₀ : Around} {hn : Option Value} {d u : Nat} {outer : List Env} {gs : Option (List Code)} {cn : Str} {nm : List (Str × NameKind)} {b1 b2 : Bool} {mo : List (Str × Const)} {L a : Addr} {cd : Value} {cl : List (Str × Addr)}
  {m : Str → Option Value} {Q : Value → Shared → Prop} {E : Value → Shared → Prop} {x dx : Addr} {its : List Value} {n nd : Nat} {v : Value} {h0 : Int} {t0 : Tok} {a1 a2 : Value} {rest : List (Addr × Obj)} {tab : Array Value} {sp : Str} {cs : Nat → Str}
theorem str1 (gx : Gx w g base A₀ outer d u) (C2 : CodeHd base 104 100) (F : Fr g L s.heap m) (N : News g L s.heap ((x, accO dx its n) :: (dx, accD h0 t0 v) :: (100, tabObj tab) :: rest)) (G : AllBare s.gens) (hh : (none : Option Value) = none) (ht : TriplesOk tab.toList) (hr100 : ∀ p ∈ rest, p.1 ≠ 100) (hx100 : @Ne Nat x 100) (hd100 : @Ne Nat dx 100)
   (hits : ∀ i, i < its.length → ∃ q t1 t2, its[i]? = some (.ref q) ∧ (q, tupO [.str sp t1, .str (cs i) t2]) ∈ ((x, accO dx its n) :: (dx, accD h0 t0 v) :: (100, tabObj tab) :: rest)) (hcs : ∀ i, i < its.length → sp.length + (cs i).length ≤ 1000) (hz : its.length ≤ 900)
   (hok : (((List.range its.length).map fun i => Txt.join "" [sp, cs i]).map (·.length)).sum ≤ 100000)
   (H : ∀ s' t' tab', Fr g L s'.heap m → News g L s'.heap ((x, accO dx its n) :: (dx, accD h0 t0 v) :: (100, tabObj tab') :: rest) → TriplesOk tab'.toList → AllBare s'.gens → s'.os = s.os → Q (.str (Txt.join "" ((List.range its.length).map fun i => Txt.join "" [sp, cs i])) t') s') :
   wpAny (model PR w) (AG none d outer gs u cn nm b1 b2 mo L a cd cl) (PySem.call (.type "str") [.ref x]) Q E s := by
  obtain ⟨X₀, B, ⟨_, _, _, _, _, T⟩, hd, hu⟩ := gx
  walk1
  refine wpAny_call ?_
  refine' code_defL ?k1 ?k2 ?k3 ?k4 ?k5 ?kA ?kF ?kK ?k6 ?k7 ?k8 ?k9 ?kB ?_ ?c2 ?c3 ?c4 ?c5
  case kA => exact rfl
  case kF => exact rfl
  case kK => exact rfl
  case k1 => k_asm
  case k2 => k_asm
  case k3 => k_asm
  case k4 => k_asm
  case k5 => k_asm
  case k6 => k_is
  case k7 => k_is
  case k8 => k_room
  case k9 => exact BindsTo.of_eq rfl
  case c5 => decide
  case kB => exact locs rfl
  case c2 => exact rfl
  case c3 => exact rfl
  case c4 => exact rfl
  intro g' L' h' FG' F' N' B' X' T' l1
  dsimp only
  k_fold
  iterate 8 walk1
  have U : UpdF 100 (tabObj tab) ((x, accO dx its n) :: (dx, accD h0 t0 v) :: (100, tabObj tab) :: rest) (fun o => (x, accO dx its n) :: (dx, accD h0 t0 v) :: (100, o) :: rest) := .tail hx100 (.tail hd100 (.head hr100))
  refine genexp_acc (dx := dx) (n := n) (tab := tab) (sp := sp) (cs := cs) X' T' (C2.keeps B'.stays) (by assumption) N' G rfl ?hr ?s ?k (by k_mem) (by k_mem) U ht l1 hits hcs hz ?_
  case hr => k_room
  case s => exact rfl
  case k => exact rfl
  intro a' s₅ tab' F5 N5 t5 G5 o5 X5
  k_steps
  have l2 : ∀ p ∈ ((x, accO dx its n) :: (dx, accD h0 t0 v) :: (100, tabObj tab') :: rest), p.1 < L' := by
    intro p hp
    rcases List.mem_cons.mp hp with rfl | hp
    · exact l1 (x, accO dx its n) (.head _)
    · rcases List.mem_cons.mp hp with rfl | hp
      · exact l1 (dx, accD h0 t0 v) (.tail _ (.head _))
      · rcases List.mem_cons.mp hp with rfl | hp
        · exact l1 (100, tabObj tab) (.tail _ (.tail _ (.head _)))
        · exact l1 p (.tail _ (.tail _ (.tail _ hp)))
  refine join_acc F5 N5 l2 G5 X5 hok hz fun s' t' F6 N6 G6 o6 => ?_
  k_steps
  exact H _ _ _ (by assumption) (by assumption) t5 G6 (o6.trans o5)
end
end JoinQR

section ResetQX
local macro_rules | `(tactic| walk_at "none") => `(tactic| skip)
theorem resetQX : True := by first | walk1 | (w_top off; trivial)
end ResetQX
section JoinQX
section
variable {w : World} {s : Shared} {g base : Heap} {A₀ : Around} {hn : Option Value} {d u : Nat} {outer : List Env} {gs : Option (List Code)} {cn : Str} {nm : List (Str × NameKind)} {b1 b2 : Bool} {mo : List (Str × Const)} {L a : Addr} {cd : Value} {cl : List (Str × Addr)}
  {m : Str → Option Value} {Q : Value → Shared → Prop} {E : Value → Shared → Prop} {q : Addr} {a1 a2 a3 : Value} {rest : List (Addr × Obj)} {t : Tok}
theorem safe1 (gx : Gx w g base A₀ outer d u) (F : Fr g L s.heap m) (N : News g L s.heap ((q, tupO [a1, a2, a3]) :: rest))
   (H : ∀ h' tk', Fr g L h' m → News g L h' ((q, tupO [a1, a2, a3]) :: rest) → Q a3 { s with heap := h', toks := tk' }) :
   wpAny (model PR w) (AG none d outer gs u cn nm b1 b2 mo L a cd cl) (PySem.call (.ref 171) [.ref q, .str "caller" t, .ref 142]) Q E s := by
  obtain ⟨X₀, B, ⟨_, _, _, _, _, T⟩, hd, hu⟩ := gx
  k_steps
  exact H _ _ (by assumption) (by lge_lay)
end
end JoinQX

section ResetQL
local macro_rules | `(tactic| walk_at "none") => `(tactic| skip)
theorem resetQL : True := by first | walk1 | (w_top off; trivial)
end ResetQL
section JoinQL
section
variable {w : World} {A : Around} {E : Value → Shared → Prop} {s : Shared} {env : Env}
/-- a for loop whose body never leaves it -/
theorem loop_go {target : Expr} {it : Value} {body : List Stmt} {R : Result → Shared → Prop} {n : Nat} (J : Nat → Shared → Prop) (h0 : J 0 s)
    (step : ∀ k s' (E' : Value → Shared → Prop), k < n → J k s' → wpAny (model PR w) A (pyNext it) (fun r s₃ => ∃ v, r = some v ∧ wpAny (model PR w) A (letOwnedTupleGo target it v) (fun _ s₄ => wpAny (model PR w) A (assign target env v) (fun _ s₅ => wpAny (model PR w) A (execs body env) (fun f s₆ => f = .next ∧ J (k + 1) s₆) E' s₅) E' s₄) E' s₃) E' s')
    (fin : ∀ s' (E' : Value → Shared → Prop), J n s' → wpAny (model PR w) A (pyNext it) (fun r s₃ => r = none ∧ R (.ok .next) s₃) E' s') :
    codeAny (model PR w) A (.forLoop target it body [] env) R s := by
  refine codeAny_forLoop_any (fun k s' => ∃ i, i ≤ n ∧ k = n - i ∧ J i s') ?_ n ⟨0, Nat.zero_le _, rfl, h0⟩
  rintro k s' ⟨i, hi, rfl, hJ⟩
  by_cases hlt : i < n
  · refine wpAny_mono (step i s' _ hlt hJ) (fun r s₃ h => ?_) fun _ _ e => e
    obtain ⟨v, rfl, h⟩ := h
    refine wpAny_mono h (fun _ s₄ h => wpAny_mono h (fun _ s₅ h => wpAny_mono h (fun f s₆ h => ?_) fun _ _ e => e) fun _ _ e => e) fun _ _ e => e
    obtain ⟨rfl, h⟩ := h
    exact ⟨n - (i + 1), by omega, i + 1, hlt, rfl, h⟩
  · have : i = n := by omega
    subst this
    refine wpAny_mono (fin s' _ hJ) (fun r s₃ h => ?_) fun _ _ e => e
    obtain ⟨rfl, h⟩ := h
    exact wpAny_execs_nil h
theorem for_go {target iter : Expr} {body : List Stmt} {pos : Pos} {Q : Flow → Shared → Prop} {n : Nat} (J : Value → Nat → Shared → Prop)
    (h : wpAny (model PR w) A (eval iter env) (fun x s₁ => wpAny (model PR w) A (pyIter x) (fun it s₂ => J it 0 s₂) E s₁) E s)
    (step : ∀ it k s' (E' : Value → Shared → Prop), k < n → J it k s' → wpAny (model PR w) A (pyNext it) (fun r s₃ => ∃ v, r = some v ∧ wpAny (model PR w) A (letOwnedTupleGo target it v) (fun _ s₄ => wpAny (model PR w) A (assign target env v) (fun _ s₅ => wpAny (model PR w) A (execs body env) (fun f s₆ => f = .next ∧ J it (k + 1) s₆) E' s₅) E' s₄) E' s₃) E' s')
    (fin : ∀ it s' (E' : Value → Shared → Prop), J it n s' → wpAny (model PR w) A (pyNext it) (fun r s₃ => r = none ∧ Q .next s₃) E' s')
    (hs : ∀ x, foldedSetIterable iter env x = pure x := by intro _; rfl) :
    wpAny (model PR w) A (exec (.For target iter body [] pos) env) Q E s := by
  refine wpAny_For (wpAny_mono h (fun xv s₁ h₁ => wpAny_mono h₁ (fun it s₂ h₂ => ?_) fun _ _ e => e) fun _ _ e => e) hs
  exact loop_go (R := fun r s' => match r with | .ok f => Q f s' | .error e => cameBackBy (model PR w) A env E e s') (J it) h₂ (fun k s' E' a b => step it k s' E' a b) fun s' E' a => fin it s' E' a
end
/-- a list iterator -/
noncomputable abbrev itO (l : Addr) (k : Nat) : Obj := { cls := .type "list_iterator", data := .fields #[.ref l, .int k 0] }
section
variable {w : World} {A : Around} {E : Value → Shared → Prop} {s : Shared} {g : Heap} {L I l : Addr} {m : Str → Option Value} {led : List (Addr × Obj)} {gl : Obj → List (Addr × Obj)} {its : Array Value} {o : Obj} {k : Nat}
theorem next_K {v : Value} {Q : Option Value → Shared → Prop} (F : Fr g L s.heap m) (N : News g L s.heap led) (U : UpdF I (itO l k) led gl) (hl : (l, o) ∈ led) (ho : ∃ n, o.data = .seq its n) (hx : its[k]? = some v)
    (h : ∀ h', Fr g L h' m → News g L h' (gl (itO l (k + 1))) → Q (some v) { s with heap := h' }) : wpAny (model PR w) A (pyNext (.ref I)) Q E s := by
  obtain ⟨pre, post, rfl, hg, a, b⟩ := U.split
  have z := N (I, itO l k) (List.mem_append.mpr (.inr (.head _)))
  have hit : s.heap.IsListIter I l k := ⟨_, z.1, rfl, rfl⟩
  unfold pyNext
  refine wpAny_bind (wpAny_attempt (wpAny_callSpecial?_slot (name := Str.ofString "__next__") hit.typeIs slot_listiter_next
    (wpAny_call_entry slot_listiter_next hit.typeIs entry_listiter_next ?_ (args_listiter_next _))))
  show wpAny _ _ (field (.ref I) 0 >>= _) _ _ s
  refine wpAny_bind (wpAny_field z.1 rfl (x := .ref l) rfl ?_)
  show wpAny _ _ (if (Value.ref l == Value.none) = true then _ else _) _ _ s
  rw [if_neg (show ¬ ((Value.ref l == Value.none) = true) from Bool.false_ne_true)]
  show wpAny _ _ (field (.ref I) 1 >>= _) _ _ s
  refine wpAny_bind (wpAny_field z.1 rfl (x := .int k 0) rfl ?_)
  show wpAny _ _ (seqItems? (.ref l) >>= _) _ _ s
  obtain ⟨n, hd⟩ := ho
  refine wpAny_bind (wpAny_seqItems (N _ hl).1 hd ?_)
  simp only [Int.toNat_natCast, hx]
  obtain ⟨F', N'⟩ := news_upd (o' := itO l (k + 1)) F N a b (f := Obj.mapFields (fun vs => vs.setIfInBounds 1 (rawInt (k + 1)))) (by simp [Obj.mapFields, rawInt]) (by rfl)
  refine wpAny_bind (wpAny_setField z.1 rfl (by simp) (wpAny_pure ⟨v, rfl, wpAny_pure ?_⟩))
  exact h _ F' (by rw [hg]; exact N')
theorem end_K {Q : Option Value → Shared → Prop} (hh : A.handled = none) (F : Fr g L s.heap m) (N : News g L s.heap ((I, itO l k) :: led)) (hI : ∀ p ∈ led, p.1 ≠ I) (hl : (l, o) ∈ led) (ho : ∃ n, o.data = .seq its n) (hx : its[k]? = none)
    (h : ∀ h', Fr g L h' m → News g L h' led → Q none { s with heap := h' }) : wpAny (model PR w) A (pyNext (.ref I)) Q E s := by
  have z := N (I, itO l k) (.head _)
  have hit : s.heap.IsListIter I l k := ⟨_, z.1, rfl, rfl⟩
  refine next_end hh hit ⟨o, (N _ (.tail _ hl)).1, ho⟩ hx fun h' he => h h' ⟨F.ns.extBut he (Ne.symm z.2.1), fun b o' e => he b o' (fun q => by rw [q, z.2.2] at e; cases e) (F.keep b o' e), F.above⟩ fun p hp => ?_
  have y := N p (.tail _ hp)
  exact ⟨he _ _ (hI p hp) y.1, y.2⟩
end
/-- a range and its iterator -/
noncomputable abbrev rgO (b : Int) (t u v : Tok) : Obj := { cls := .type "range", data := .fields #[.int 0 t, .int b u, .int 1 v] }
noncomputable abbrev riO (x left : Int) : Obj := { cls := .type "range_iterator", data := .fields #[rawInt x, rawInt left, rawInt 1] }
section
variable {w : World} {A : Around} {E : Value → Shared → Prop} {s : Shared} {g : Heap} {L I r : Addr} {m : Str → Option Value} {led : List (Addr × Obj)} {gl : Obj → List (Addr × Obj)} {x left : Int}
theorem rnext_K {Q : Option Value → Shared → Prop} (F : Fr g L s.heap m) (N : News g L s.heap led) (U : UpdF I (riO x left) led gl) (hl : 0 < left)
    (h : ∀ h', Fr g L h' m → News g L h' (gl (riO (x + 1) (left - 1))) → Q (some (.int x s.toks)) { s with heap := h', toks := s.toks + 1 }) : wpAny (model PR w) A (pyNext (.ref I)) Q E s := by
  obtain ⟨pre, post, rfl, hg, a, b⟩ := U.split
  have z := N (I, riO x left) (List.mem_append.mpr (.inr (.head _)))
  refine wpAny_pyNext_range_item z.1 hl fun h' hit' hs => ?_
  have k := hs.extBut
  refine h h' ⟨F.ns.extBut k (Ne.symm z.2.1), fun b' o e => k b' o (fun q => by rw [q, z.2.2] at e; cases e) (F.keep b' o e), F.above⟩ ?_
  rw [hg]
  intro p hp
  rcases List.mem_append.mp hp with hp | hp
  · have y := N p (List.mem_append_left _ hp)
    exact ⟨k _ _ (a p hp) y.1, y.2⟩
  · rcases List.mem_cons.mp hp with rfl | hp
    · exact ⟨hit', z.2⟩
    · have y := N p (List.mem_append_right _ (.tail _ hp))
      exact ⟨k _ _ (b p hp) y.1, y.2⟩
theorem rend_K {Q : Option Value → Shared → Prop} (hh : A.handled = none) (F : Fr g L s.heap m) (N : News g L s.heap ((I, riO x left) :: led)) (hI : ∀ p ∈ led, p.1 ≠ I) (hl : left ≤ 0)
    (h : ∀ h', Fr g L h' m → News g L h' led → Q none { s with heap := h' }) : wpAny (model PR w) A (pyNext (.ref I)) Q E s := by
  have z := N (I, riO x left) (.head _)
  refine wpAny_pyNext_range_end hh z.1 hl fun h' he => h h' ⟨F.ns.extBut he (Ne.symm z.2.1), fun b o' e => he b o' (fun q => by rw [q, z.2.2] at e; cases e) (F.keep b o' e), F.above⟩ fun p hp => ?_
  have y := N p (.tail _ hp)
  exact ⟨he _ _ (hI p hp) y.1, y.2⟩
theorem riter_K {n : Nat} {t u v : Tok} {Q : Value → Shared → Prop} (F : Fr g L s.heap m) (N : News g L s.heap led) (hr : s.heap.get? r = some (rgO n t u v)) (hn : n ≤ 1000)
    (h : ∀ I h', Fr g L h' m → News g L h' ((I, riO 0 n) :: led) → (∀ p ∈ led, p.1 < I) → Q (.ref I) { s with heap := h' }) : wpAny (model PR w) A (pyIter (.ref r)) Q E s := by
  have e : Range.rangeSize 0 (n : Int) 1 = (n : Int) := by rw [rangeSize_nat]; omega
  refine wpAny_pyIter_range hr ?_ ?_
  · have f : ∀ i : Int, 0 ≤ i → i ≤ 2000 → Range.rangeFitsLong i = true := fun i h1 h2 => by
      unfold Range.rangeFitsLong
      simp only [Bool.and_eq_true, decide_eq_true_eq]
      omega
    unfold Range.small
    rw [e, f 0 (by decide) (by decide), f n (by omega) (by omega), f 1 (by decide) (by decide)]
    simp only [Bool.and_self, Bool.true_and, Bool.or_eq_true]
    right
    rw [if_pos (by decide)]
    exact f _ (by omega) (by omega)
  · rw [e]
    exact h _ _ (F.push _) (News.push F N _) fun p hp => Heap.lt_size (N p hp).1
end
section
variable {w : World} {A : Around} {E : Value → Shared → Prop} {s : Shared} {g : Heap} {L l : Addr} {m : Str → Option Value} {led : List (Addr × Obj)} {its : Array Value}
theorem liter_K {Q : Value → Shared → Prop} (F : Fr g L s.heap m) (N : News g L s.heap led) (hl : s.heap.IsList l its)
    (h : ∀ I h', Fr g L h' m → News g L h' ((I, itO l 0) :: led) → (∀ p ∈ led, p.1 < I) → l < I → Q (.ref I) { s with heap := h' }) : wpAny (model PR w) A (pyIter (.ref l)) Q E s := by
  obtain ⟨o, ho, r⟩ := id hl
  exact wpAny_pyIter_list hl (h _ _ (F.push _) (News.push F N _) (fun p hp => Heap.lt_size (N p hp).1) (Heap.lt_size ho))
end
section
variable {w : World} {A : Around} {E : Value → Shared → Prop} {s : Shared} {g : Heap} {L t : Addr} {m : Str → Option Value} {led : List (Addr × Obj)} {items : Array Value} {env : Env} {n : Nat}
theorem unpack_K {elts : List Expr} {x1} {pos : Pos} {Q : Unit → Shared → Prop} (hh : A.handled = none) (F : Fr g L s.heap m) (N : News g L s.heap led) (ht : (t, ({ cls := .type "tuple", data := .seq items n } : Obj)) ∈ led)
    (hn : (assignEach elts env).length = items.size) (hstar : (assignEach elts env).findIdx? (·.1) = none)
    (h : ∀ h', Fr g L h' m → News g L h' led → wpAny (model PR w) A (assignInOrder ((assignEach elts env).map (·.2)) items.toList) Q E { s with heap := h' }) :
    wpAny (model PR w) A (assign (.Tuple elts x1 pos) env (.ref t)) Q E s := by
  refine PySem.wpAny_assign_Tuple hh ⟨_, (N _ ht).1, rfl, n, rfl⟩ hn hstar fun h' he => ?_
  have k : ∀ b o, s.heap.get? b = some o → h'.get? b = some o := fun b o e => he b o (Nat.ne_of_lt (Heap.lt_size e)) e
  obtain ⟨oL, es, ep, hL, r⟩ := F.ns
  exact h h' ⟨⟨oL, es, ep, k _ _ hL, r⟩, fun b o e => k b o (F.keep b o e), F.above⟩ (N.grown k)
end
end JoinQL

section ResetQD
local macro_rules | `(tactic| walk_at "none") => `(tactic| skip)
theorem resetQD : True := by first | walk1 | (w_top off; trivial)
end ResetQD
section JoinQD
/-- an iterator over a dict's items -/
noncomputable abbrev iiO (d : Addr) (i n ep : Nat) (ok ov : Value) : Obj := { cls := .type "dict_itemiterator", dict := none, data := .fields #[.none, .bool false, .ref d, .int i 0, .int n 0, .int ep 0, ok, ov], slots := #[] }
noncomputable abbrev SK (w : World) := strKind PR w
noncomputable def DE (w : World) (o : Obj) (kvs : List (Str × Value)) (ep : Nat) : Prop :=
  ∃ es, o.ExactDict ∧ o.data = .dict es ep ∧ KeysOf (SK w) es ∧ Pairs (SK w) es.toList kvs ∧ (kvs.map (·.1)).Nodup
theorem DE.of {w : World} {o : Obj} {kvs : List (Str × Value)} (h : Obj.IsDictOf (SK w) o kvs) : ∃ ep, DE w o kvs ep := by
  obtain ⟨es, ep, r⟩ := h
  exact ⟨ep, es, r⟩
section
variable {w : World} {A : Around} {E : Value → Shared → Prop} {s : Shared} {g : Heap} {L I d : Addr} {m : Str → Option Value} {led : List (Addr × Obj)} {gl : Obj → List (Addr × Obj)} {o : Obj} {kvs : List (Str × Value)} {ep i : Nat} {ok ov : Value} {c : List (Str × Int)}
theorem DE.at (N : News g L s.heap led) (hd : (d, o) ∈ led) (h : DE w o kvs ep) : s.heap.DictAt (SK w) d kvs ep := by
  obtain ⟨es, r⟩ := h
  exact ⟨o, es, (N _ hd).1, r⟩
theorem inext_K {elts : List Expr} {x1} {pos : Pos} {key : Str} {v : Int} {R : Value → Shared → Prop} (F : Fr g L s.heap m) (N : News g L s.heap led) (U : UpdF I (iiO d i kvs.length ep ok ov) led gl) (hd : (d, o) ∈ led) (hde : DE w o kvs ep)
    (hf : PyProof.V.FlatPairs PyData.str kvs (kdpD c)) (hx : c[i]? = some (key, v))
    (h : ∀ T t u h' ok' ov', Fr g L h' m → News g L h' ((T, { cls := .type "tuple", data := .seq #[.str key t, .int v u] }) :: gl (iiO d (i + 1) kvs.length ep ok' ov')) → (∀ p ∈ led, p.1 < T) → R (.ref T) { s with heap := h' }) :
    wpAny (model PR w) A (pyNext (.ref I)) (fun r s₃ => ∃ v, r = some v ∧ wpAny (model PR w) A (letOwnedTupleGo (.Tuple elts x1 pos) (.ref I) v) (fun _ s₄ => R v s₄) E s₃) E s := by
  obtain ⟨pre, post, rfl, hg, a, b⟩ := U.split
  have z := N (I, iiO d i kvs.length ep ok ov) (List.mem_append.mpr (.inr (.head _)))
  have hl : i < kvs.length := by
    have e := hf.length
    rw [kdpD_length] at e
    rw [← e]
    exact (List.getElem?_eq_some_iff.mp hx).1
  obtain ⟨⟨k, x⟩, hk⟩ : ∃ p, kvs[i]? = some p := ⟨_, List.getElem?_eq_getElem hl⟩
  obtain ⟨dv, hdv, hfl⟩ := hf.at hk
  have e2 : (kdpD c)[i]? = some (PyData.str key, PyData.int v) := by unfold kdpD; rw [List.getElem?_map, hx]; rfl
  rw [e2] at hdv
  have e3 := Option.some.inj hdv
  have e4 : key = k := by have := congrArg Prod.fst e3; exact PyData.str.inj this
  have e5 : PyData.int v = dv := congrArg Prod.snd e3
  subst e4
  subst e5
  obtain ⟨u, rfl⟩ := PyProof.V.Flat.int_inv hfl
  refine wpAny_pyNext_items_item (knd := SK w) z.1 (hde.at N hd) hk fun kv h1 hkey ho hT hsz hkeep => ?_
  obtain ⟨t, rfl⟩ := Value.isStrOf_shape hkey
  refine ⟨_, rfl, wpAny_letOwnedTupleGo_items ho fun h2 hi hs => ?_⟩
  have kp : ∀ b o, b ≠ I → s.heap.get? b = some o → h2.get? b = some o := fun b o hb e => hs.extBut b o hb (hkeep b o hb e)
  have hI := Heap.lt_size z.1
  refine h _ t u h2 (.str key t) (.int v u) ⟨F.ns.at' fun o e => kp _ o (Ne.symm z.2.1) e, fun b o e => kp b o (fun q => by rw [q, z.2.2] at e; cases e) (F.keep b o e), F.above⟩ ?_ fun p hp => Heap.lt_size (N p hp).1
  refine List.forall_mem_cons.mpr ⟨⟨hs.extBut _ _ (Nat.ne_of_gt hI) hT, Nat.ne_of_gt F.ns.lt, next_is_new F⟩, ?_⟩
  rw [hg]
  intro p hp
  rcases List.mem_append.mp hp with hp | hp
  · have y := N p (List.mem_append_left _ hp)
    exact ⟨kp _ _ (a p hp) y.1, y.2⟩
  · rcases List.mem_cons.mp hp with rfl | hp
    · exact ⟨hi, z.2⟩
    · have y := N p (List.mem_append_right _ (.tail _ hp))
      exact ⟨kp _ _ (b p hp) y.1, y.2⟩
theorem iend_K {Q : Option Value → Shared → Prop} (hh : A.handled = none) (F : Fr g L s.heap m) (N : News g L s.heap ((I, iiO d i kvs.length ep ok ov) :: led)) (hI : ∀ p ∈ led, p.1 ≠ I) (hd : (d, o) ∈ led) (hde : DE w o kvs ep) (hx : kvs.length ≤ i)
    (h : ∀ h', Fr g L h' m → News g L h' led → Q none { s with heap := h' }) : wpAny (model PR w) A (pyNext (.ref I)) Q E s := by
  have z := N (I, iiO d i kvs.length ep ok ov) (.head _)
  refine wpAny_pyNext_items_end (knd := SK w) hh z.1 (hde.at N (.tail _ hd)) (List.getElem?_eq_none hx) fun h' he => h h' ⟨F.ns.extBut he (Ne.symm z.2.1), fun b o' e => he b o' (fun q => by rw [q, z.2.2] at e; cases e) (F.keep b o' e), F.above⟩ fun p hp => ?_
  have y := N p (.tail _ hp)
  exact ⟨he _ _ (hI p hp) y.1, y.2⟩
theorem iiter_K {vw : Addr} {Q : Value → Shared → Prop} (F : Fr g L s.heap m) (N : News g L s.heap led) (hv : ∃ o, s.heap.get? vw = some o ∧ o.cls = .type "dict_items" ∧ o.data = .fields #[.ref d]) (hd : (d, o) ∈ led) (hde : DE w o kvs ep)
    (h : ∀ I h', Fr g L h' m → News g L h' ((I, iiO d 0 kvs.length ep .none .none) :: led) → (∀ p ∈ led, p.1 < I) → Q (.ref I) { s with heap := h' }) : wpAny (model PR w) A (pyIter (.ref vw)) Q E s :=
  wpAny_pyIter_items (knd := SK w) hv (hde.at N hd) (h _ _ (F.push _) (News.push F N _) fun p hp => Heap.lt_size (N p hp).1)
end
end JoinQD

section ResetQP
local macro_rules | `(tactic| walk_at "none") => `(tactic| skip)
theorem resetQP : True := by first | walk1 | (w_top off; trivial)
end ResetQP
section JoinQP
noncomputable def parAt (lv : List Int) : Nat → List (Int × Int) × List Int
  | 0 => ([], [])
  | k + 1 => (kdfPut (parAt lv k).1 (lv.getD k 0) k, (parAt lv k).2 ++ [kdfLook (parAt lv k).1 (lv.getD k 0 - 1) (-1)])
noncomputable def parentsOf (lv : List Int) : List Int := (parAt lv lv.length).2
theorem parAt_len (lv : List Int) : ∀ k, (parAt lv k).1.length ≤ k ∧ (parAt lv k).2.length = k
  | 0 => ⟨Nat.le_refl _, rfl⟩
  | k + 1 => ⟨Nat.le_trans (kdfPut_len _ _ _) (Nat.succ_le_succ (parAt_len lv k).1), by
      show ((parAt lv k).2 ++ [_]).length = k + 1
      rw [List.length_append, (parAt_len lv k).2]; rfl⟩
inductive ParJ (w : World) (g9 : Heap) (L9 ql : Addr) (rest : List (Addr × Obj)) (vl : List Value) (nl : Nat) (levels : List Int) (pA dA : Addr) (s : Shared) (it : Value) (k : Nat) (s' : Shared) : Prop
  | mk (I : _) (m' : _) (us : _) (nn : _) (o' : _) (kvs : _) : (it = .ref I) → (Fr g9 L9 s'.heap m') → (m' (Str.ofString "levels") = some (.ref ql)) → (m' (Str.ofString "last") = some (.ref dA)) → (m' (Str.ofString "parents") = some (.ref pA)) → (News g9 L9 s'.heap ((pA, listOf (List.toArray us) nn) :: (dA, o') :: (I, riO k ((levels.length : Int) - k)) :: (ql, listOf vl.toArray nl) :: rest)) → (IntsAre us (parAt levels k).2) → (Obj.IsDictOf (intKind PR w) o' kvs) → (PyProof.V.FlatPairs PyData.int kvs (kdfD (parAt levels k).1)) → (@LT.lt Nat _ pA I) → (@LT.lt Nat _ dA I) → (@LT.lt Nat _ ql I) → ((∀ p ∈ rest, p.1 < I)) → (s'.gens = s.gens) → (s'.os = s.os) → ParJ w g9 L9 ql rest vl nl levels pA dA s it k s'
section
variable {w : World} {s : Shared} {g base : Heap} {A₀ : Around} {hn : Option Value} {d u : Nat} {outer : List Env} {gs : Option (List Code)} {cn : Str} {nm : List (Str × NameKind)} {b1 b2 : Bool} {mo : List (Str × Const)} {L a : Addr} {cd : Value} {cl : List (Str × Addr)}
  {m : Str → Option Value} {Q : Value → Shared → Prop} {E : Value → Shared → Prop} {ql : Addr} {vl : List Value} {levels : List Int} {nl : Nat} {rest : List (Addr × Obj)} {t : Tok}
theorem parents1 (gx : Gx w g base A₀ outer d u) (F : Fr g L s.heap m) (N : News g L s.heap ((ql, listOf vl.toArray nl) :: rest)) (hI : IntsAre vl levels) (hlen : levels.length ≤ 7)
   (H : ∀ s' q us nq, Fr g L s'.heap m → News g L s'.heap ((q, listOf us.toArray nq) :: (ql, listOf vl.toArray nl) :: rest) → IntsAre us (parentsOf levels) → @LT.lt Nat _ ql q → (∀ p ∈ rest, p.1 < q) → s'.gens = s.gens → s'.os = s.os → Q (.ref q) s') :
   wpAny (model PR w) (AG none d outer gs u cn nm b1 b2 mo L a cd cl) (PySem.call (.ref 183) [.ref ql]) Q E s := by
  obtain ⟨X₀, B, ⟨_, _, _, _, _, T⟩, hd, hu⟩ := gx
  lge_open0
  rename_i g9 L9 h9 FG9 B9 X9 T9 tk0 dA h1 oD lo hs fs hi fi la h2 pA h3 lb h4 F9 N9
  refine for_go (n := levels.length) (ParJ w g9 L9 ql rest vl nl levels pA dA s) ?_ ?_ ?_
  · k_steps
    rename_i hrg F8 N8 k8
    refine riter_K (n := levels.length) F8 N8 hrg (by omega) ?_
    intro I h' F7 N7 l7
    refine ⟨I, _, [], 0, oD, [], rfl, F7, rfl, rfl, rfl, nsub N7 ?_, .nil, hi, fi, l7 _ (.head _), l7 _ (.tail _ (.head _)), l7 _ (.tail _ (.tail _ (.head _))), (fun p hp => l7 p (.tail _ (.tail _ (.tail _ hp)))), rfl, rfl⟩
    refine NSub.cons (by k_mem) (NSub.cons (by k_mem) (NSub.cons ?_ (NSub.cons (by k_mem) (NSub.drop (NSub.drop (NSub.drop (NSub.drop (NSub.refl _))))))))
    simp
  · rintro it k s' E' hk ⟨I, m', us, nn, o', kvs, rfl, F8, e1, e2, e3, N8, hus, hdo, hfp, lI1, lI2, lI3, lI4, hg8, ho8⟩
    generalize hB : ParJ w g9 L9 ql rest vl nl levels pA dA s (.ref I) (k + 1) = B
    have hlv : levels.length = vl.length := hI.length.symm
    have hrI : ∀ p ∈ rest, p.1 ≠ I := fun p hp => Nat.ne_of_lt (lI4 p hp)
    refine rnext_K F8 N8 (.tail (Nat.ne_of_lt lI1) (.tail (Nat.ne_of_lt lI2) (.head (List.forall_mem_cons.mpr ⟨Nat.ne_of_lt lI3, hrI⟩)))) (by omega) ?_
    intro h' F9 N9
    have hul : us.length = k := by rw [hus.length, (parAt_len levels k).2]
    have hcl := (parAt_len levels k).1
    refine ⟨_, rfl, wpAny_pure ?_⟩
    refine wpAny_assign_Name ?_
    (try dsimp only at N9)
    clear F8 N8
    walk1
    k_steps
    rename_i h3 oD3 kvs3 F3 N3 hd3 hf3
    rw [show ((levels.length : Int) - k - 1) = (levels.length : Int) - ((k + 1 : Nat) : Int) from by omega, show ((k : Int) + 1) = ((k + 1 : Nat) : Int) from by omega, List.push_toArray, Int.toNat_natCast] at N3
    rw [Int.toNat_natCast] at hf3
    subst hB
    exact ⟨I, _, _, nn + 1, oD3, kvs3, rfl, F3, e1, e2, e3, N3, hus.append (.cons _ _ .nil), hd3, hf3, lI1, lI2, lI3, lI4, hg8, ho8⟩
  · rintro it s' E' ⟨I, m', us, nn, o', kvs, rfl, F8, e1, e2, e3, N8, hus, hdo, hfp, lI1, lI2, lI3, lI4, hg8, ho8⟩
    have hrI : ∀ p ∈ rest, p.1 ≠ I := fun p hp => Nat.ne_of_lt (lI4 p hp)
    have N7 : News g9 L9 s'.heap ((I, riO levels.length ((levels.length : Int) - levels.length)) :: (pA, listOf (List.toArray us) nn) :: (dA, o') :: (ql, listOf vl.toArray nl) :: rest) :=
      nsub N8 (NSub.cons (by k_mem) (NSub.cons (by k_mem) (NSub.cons (by k_mem) (NSub.cons (by k_mem) (NSub.drop (NSub.drop (NSub.drop (NSub.drop (NSub.refl _)))))))))
    refine rend_K rfl F8 N7 (List.forall_mem_cons.mpr ⟨Nat.ne_of_lt lI1, List.forall_mem_cons.mpr ⟨Nat.ne_of_lt lI2, List.forall_mem_cons.mpr ⟨Nat.ne_of_lt lI3, hrI⟩⟩⟩) (by omega) ?_
    intro h' F6 N6
    refine ⟨rfl, ?_⟩
    clear N7 N8 F8
    dsimp only
    k_steps
    exact H _ pA us nn (by assumption) (by lge_lay) hus lb.2.1 (allLt lb.2.2) hg8 ho8
end
end JoinQP

section ResetQE
local macro_rules | `(tactic| walk_at "none") => `(tactic| skip)
theorem resetQE : True := by first | walk1 | (w_top off; trivial)
end ResetQE
section JoinQE
noncomputable abbrev Tab := List (Str × Int)
noncomputable def cpAt (c : Tab) : Nat → Tab
  | 0 => []
  | k + 1 => kdpPut (cpAt c k) (c.getD k ("", 0)).1 (c.getD k ("", 0)).2
noncomputable def mgStep (c : Tab) (p : Str × Int) : Tab := if kdpHas c p.1 then kdpPut c p.1 (kdpLook c p.1 0 + p.2) else kdpPut c p.1 p.2
noncomputable def mgAt (b c : Tab) : Nat → Tab
  | 0 => b
  | k + 1 => mgStep (mgAt b c k) (c.getD k ("", 0))
noncomputable def merge (c1 c2 : Tab) : Tab := mgAt (cpAt c1 c1.length) c2 c2.length
theorem cpAt_len (c : Tab) : ∀ k, (cpAt c k).length ≤ k
  | 0 => Nat.le_refl _
  | k + 1 => Nat.le_trans (kdpPut_len _ _ _) (Nat.succ_le_succ (cpAt_len c k))
theorem mgStep_len (c : Tab) (p : Str × Int) : (mgStep c p).length ≤ c.length + 1 := by
  unfold mgStep
  split <;> exact kdpPut_len _ _ _
theorem mgAt_len (b c : Tab) : ∀ k, (mgAt b c k).length ≤ b.length + k
  | 0 => Nat.le_refl _
  | k + 1 => Nat.le_trans (mgStep_len _ _) (Nat.succ_le_succ (mgAt_len b c k))
inductive AddJ (w : World) (g9 : Heap) (L9 qA tA sA : Addr) (rest : List (Addr × Obj)) (o1 o2 : Obj) (xd : Addr) (kvs : List (Str × Value)) (ep : Nat) (f : Nat → Tab) (s : Shared) (it : Value) (k : Nat) (s' : Shared) : Prop
  | mk (I : _) (m' : _) (oq : _) (kq : _) (ok : _) (ov : _) : (it = .ref I) → (Fr g9 L9 s'.heap m') → (m' (Str.ofString "target") = some (.ref tA)) → (m' (Str.ofString "source") = some (.ref sA)) → (m' (Str.ofString "new_callers") = some (.ref qA)) → (News g9 L9 s'.heap ((qA, oq) :: (I, iiO xd k kvs.length ep ok ov) :: (tA, o1) :: (sA, o2) :: rest)) → (Obj.IsDictOf (strKind PR w) oq kq) → (PyProof.V.FlatPairs PyData.str kq (kdpD (f k))) → (@LT.lt Nat _ qA I) → (@LT.lt Nat _ tA qA) → (@LT.lt Nat _ sA qA) → ((∀ p ∈ rest, p.1 < qA)) → (s'.gens = s.gens) → (s'.os = s.os) → AddJ w g9 L9 qA tA sA rest o1 o2 xd kvs ep f s it k s'
section
variable {w : World} {s : Shared} {g base : Heap} {A₀ : Around} {hn : Option Value} {d u : Nat} {outer : List Env} {gs : Option (List Code)} {cn : Str} {nm : List (Str × NameKind)} {b1 b2 : Bool} {mo : List (Str × Const)} {L a : Addr} {cd : Value} {cl : List (Str × Addr)}
  {m : Str → Option Value} {Q : Value → Shared → Prop} {E : Value → Shared → Prop} {tA sA : Addr} {o1 o2 : Obj} {k1 k2 : List (Str × Value)} {c1 c2 : Tab} {rest : List (Addr × Obj)} {t : Tok}
theorem addcallers1 (gx : Gx w g base A₀ outer d u) (F : Fr g L s.heap m) (N : News g L s.heap ((tA, o1) :: (sA, o2) :: rest)) (hd1 : Obj.IsDictOf (strKind PR w) o1 k1) (hf1 : PyProof.V.FlatPairs PyData.str k1 (kdpD c1)) (hl1 : c1.length ≤ 9)
   (hd2 : Obj.IsDictOf (strKind PR w) o2 k2) (hf2 : PyProof.V.FlatPairs PyData.str k2 (kdpD c2)) (hl2 : c2.length ≤ 9) (lo1 : (tA == sysModules) = false) (lo2 : (sA == sysModules) = false)
   (H : ∀ s' q o' kvs', Fr g L s'.heap m → News g L s'.heap ((q, o') :: (tA, o1) :: (sA, o2) :: rest) → Obj.IsDictOf (strKind PR w) o' kvs' → PyProof.V.FlatPairs PyData.str kvs' (kdpD (merge c1 c2)) → (q == sysModules) = false → @LT.lt Nat _ tA q → @LT.lt Nat _ sA q → (∀ p ∈ rest, p.1 < q) → s'.gens = s.gens → s'.os = s.os → Q (.ref q) s') :
   wpAny (model PR w) (AG none d outer gs u cn nm b1 b2 mo L a cd cl) (PySem.call (.ref 156) [.ref tA, .ref sA]) Q E s := by
  obtain ⟨X₀, B, ⟨_, _, _, _, _, T⟩, hd, hu⟩ := gx
  obtain ⟨e1, hde1⟩ := DE.of hd1
  obtain ⟨e2, hde2⟩ := DE.of hd2
  lge_open0
  rename_i g9 L9 h9 FG9 B9 X9 T9 qA h1 oD lo hs fs hi fi la h2 F9 N9
  clear hi fi
  refine for_go (n := c1.length) (AddJ w g9 L9 qA tA sA rest o1 o2 tA k1 e1 (cpAt c1) s) ?_ ?_ ?_
  · k_steps
    rename_i vA h3 F3 N3 l3
    refine iiter_K (o := o1) F3 N3 ⟨_, (N3 _ (.head _)).1, rfl, rfl⟩ (.tail _ (.tail _ (.head _))) hde1 ?_
    intro I h4 F4 N4 l4
    exact ⟨I, _, oD, [], _, _, rfl, F4, rfl, rfl, rfl, by lge_lay, hs, fs, l4 (qA, _) (by k_mem), la.1, la.2.1, allLt la.2.2, rfl, rfl⟩
  · rintro it k s' E' hk ⟨I, m', oq, kq, ok, ov, rfl, F8, x1, x2, x3, N8, hdq, hfq, lI1, lI2, lI3, lI4, hg8, ho8⟩
    generalize hB : AddJ w g9 L9 qA tA sA rest o1 o2 tA k1 e1 (cpAt c1) s (.ref I) (k + 1) = B
    have hrI : ∀ p ∈ rest, p.1 ≠ I := fun p hp => Nat.ne_of_lt (Nat.lt_trans (lI4 p hp) lI1)
    have hrq : ∀ p ∈ rest, p.1 ≠ qA := fun p hp => Nat.ne_of_lt (lI4 p hp)
    have hcl := cpAt_len c1 k
    obtain ⟨⟨key, v⟩, hx⟩ : ∃ p, c1[k]? = some p := ⟨_, List.getElem?_eq_getElem hk⟩
    have hgd : c1.getD k ("", 0) = (key, v) := by rw [List.getD_eq_getElem?_getD, hx]; rfl
    refine inext_K (o := o1) F8 N8 (.tail (Nat.ne_of_lt lI1) (.head (List.forall_mem_cons.mpr ⟨Nat.ne_of_lt (Nat.lt_trans lI2 lI1), List.forall_mem_cons.mpr ⟨Nat.ne_of_lt (Nat.lt_trans lI3 lI1), hrI⟩⟩))) (.tail _ (.tail _ (.head _))) hde1 hf1 hx ?_
    intro T t u h' ok' ov' F9 N9 lT
    try dsimp only at N9
    clear F8 N8
    (try k_lt lT)
    k_steps
    rename_i h3 o3 k3 F3 N3 d3 f3
    have hst : cpAt c1 (k + 1) = kdpPut (cpAt c1 k) key v := by rw [cpAt, hgd]
    subst hB
    exact ⟨I, _, o3, k3, _, _, rfl, F3, x1, x2, x3, by lge_lay, d3, by rw [hst]; exact f3, lI1, lI2, lI3, lI4, hg8, ho8⟩
  · rintro it s' E' ⟨I, m', oq, kq, ok, ov, rfl, F8, x1, x2, x3, N8, hdq, hfq, lI1, lI2, lI3, lI4, hg8, ho8⟩
    have hrI : ∀ p ∈ rest, p.1 ≠ I := fun p hp => Nat.ne_of_lt (Nat.lt_trans (lI4 p hp) lI1)
    have hrq : ∀ p ∈ rest, p.1 ≠ qA := fun p hp => Nat.ne_of_lt (lI4 p hp)
    have hcl := cpAt_len c1 c1.length
    have hkl : k1.length = c1.length := by have e := hf1.length; rw [kdpD_length] at e; exact e.symm
    have N7 : News g9 L9 s'.heap ((I, iiO tA c1.length k1.length e1 ok ov) :: (qA, oq) :: (tA, o1) :: (sA, o2) :: rest) := by lge_lay
    refine iend_K (o := o1) rfl F8 N7 (List.forall_mem_cons.mpr ⟨Nat.ne_of_lt lI1, List.forall_mem_cons.mpr ⟨Nat.ne_of_lt (Nat.lt_trans lI2 lI1), List.forall_mem_cons.mpr ⟨Nat.ne_of_lt (Nat.lt_trans lI3 lI1), hrI⟩⟩⟩) (.tail _ (.head _)) hde1 (by omega) ?_
    intro h6 F6 N6
    refine ⟨rfl, ?_⟩
    clear N7 N8 F8
    dsimp only
    have laq : tA < qA ∧ sA < qA ∧ AllLt qA rest := ⟨lI2, lI3, allLt_of lI4⟩
    lge_open0
    refine for_go (n := c2.length) (AddJ w g9 L9 qA tA sA rest o1 o2 sA k2 e2 (mgAt (cpAt c1 c1.length) c2) s) ?_ ?_ ?_
    · k_steps
      rename_i vA h3 F3 N3 l3
      refine iiter_K (o := o2) F3 N3 ⟨_, (N3 _ (.head _)).1, rfl, rfl⟩ (.tail _ (.tail _ (.tail _ (.head _)))) hde2 ?_
      intro I h4 F4 N4 l4
      exact ⟨I, _, oq, kq, _, _, rfl, F4, x1, x2, x3, by lge_lay, hdq, hfq, l4 (qA, _) (by k_mem), lI2, lI3, lI4, hg8, ho8⟩
    · rintro it k s' E' hk ⟨I, m', oq, kq, ok, ov, rfl, F8, x1, x2, x3, N8, hdq, hfq, lI1, lI2, lI3, lI4, hg8, ho8⟩
      generalize hB : AddJ w g9 L9 qA tA sA rest o1 o2 sA k2 e2 (mgAt (cpAt c1 c1.length) c2) s (.ref I) (k + 1) = B
      have hrI : ∀ p ∈ rest, p.1 ≠ I := fun p hp => Nat.ne_of_lt (Nat.lt_trans (lI4 p hp) lI1)
      have hrq : ∀ p ∈ rest, p.1 ≠ qA := fun p hp => Nat.ne_of_lt (lI4 p hp)
      have hcl' := mgAt_len (cpAt c1 c1.length) c2 k
      obtain ⟨⟨key, v⟩, hx⟩ : ∃ p, c2[k]? = some p := ⟨_, List.getElem?_eq_getElem hk⟩
      have hgd : c2.getD k ("", 0) = (key, v) := by rw [List.getD_eq_getElem?_getD, hx]; rfl
      refine inext_K (o := o2) F8 N8 (.tail (Nat.ne_of_lt lI1) (.head (List.forall_mem_cons.mpr ⟨Nat.ne_of_lt (Nat.lt_trans lI2 lI1), List.forall_mem_cons.mpr ⟨Nat.ne_of_lt (Nat.lt_trans lI3 lI1), hrI⟩⟩))) (.tail _ (.tail _ (.tail _ (.head _)))) hde2 hf2 hx ?_
      intro T t u h' ok' ov' F9 N9 lT
      try dsimp only at N9
      clear F8 N8
      (try k_lt lT)
      have hst : mgAt (cpAt c1 c1.length) c2 (k + 1) = mgStep (mgAt (cpAt c1 c1.length) c2 k) (key, v) := by rw [← hgd]; rfl
      generalize hcg : mgAt (cpAt c1 c1.length) c2 k = c at *
      cases hhas : kdpHas c key
      · k_steps
        rename_i h3 o3 k3 F3 N3 d3 f3
        have hm : mgStep c (key, v) = kdpPut c key v := by unfold mgStep; rw [hhas]; rfl
        subst hB
        exact ⟨I, _, o3, k3, _, _, rfl, F3, x1, x2, x3, by lge_lay, d3, by rw [hst, hm]; exact f3, lI1, lI2, lI3, lI4, hg8, ho8⟩
      · k_steps
        rename_i h3 o3 k3 F3 N3 d3 f3
        have hm : mgStep c (key, v) = kdpPut c key (kdpLook c key 0 + v) := by unfold mgStep; rw [hhas]; rfl
        subst hB
        exact ⟨I, _, o3, k3, _, _, rfl, F3, x1, x2, x3, by lge_lay, d3, by rw [hst, hm]; exact f3, lI1, lI2, lI3, lI4, hg8, ho8⟩
    · rintro it s' E' ⟨I, m', oq, kq, ok, ov, rfl, F8, x1, x2, x3, N8, hdq, hfq, lI1, lI2, lI3, lI4, hg8, ho8⟩
      have hrI : ∀ p ∈ rest, p.1 ≠ I := fun p hp => Nat.ne_of_lt (Nat.lt_trans (lI4 p hp) lI1)
      have hkl2 : k2.length = c2.length := by have e := hf2.length; rw [kdpD_length] at e; exact e.symm
      have N7 : News g9 L9 s'.heap ((I, iiO sA c2.length k2.length e2 ok ov) :: (qA, oq) :: (tA, o1) :: (sA, o2) :: rest) := by lge_lay
      refine iend_K (o := o2) rfl F8 N7 (List.forall_mem_cons.mpr ⟨Nat.ne_of_lt lI1, List.forall_mem_cons.mpr ⟨Nat.ne_of_lt (Nat.lt_trans lI2 lI1), List.forall_mem_cons.mpr ⟨Nat.ne_of_lt (Nat.lt_trans lI3 lI1), hrI⟩⟩⟩) (.tail _ (.tail _ (.head _))) hde2 (by omega) ?_
      intro h6 F6 N6
      refine ⟨rfl, ?_⟩
      clear N7 N8 F8
      dsimp only
      k_steps
      exact H _ qA oq kq (by assumption) (by lge_lay) hdq hfq lo lI2 lI3 lI4 hg8 ho8
end
end JoinQE

section ResetQI
local macro_rules | `(tactic| walk_at "none") => `(tactic| skip)
local macro_rules | `(tactic| walk_at "none") => `(tactic| skip)
theorem resetQI : True := by first | walk1 | (w_top off; trivial)
end ResetQI
section JoinQI
noncomputable abbrev tup5 (a b c d : Int) (t1 t2 t3 t4 : Tok) (q : Addr) : Obj := { cls := .type "tuple", data := .seq #[.int a t1, .int b t2, .int c t3, .int d t4, .ref q] }
local macro_rules | `(tactic| walk_at "call ref") => do let as ← args "a y a a s a a s s s _"; `(tactic| (k_here; k_dflt (refine addcallers1 (by exact ⟨by k_in, by k_asm, ⟨_, _, _, _, _, by k_asm⟩, by omega, by omega⟩) $as*)))
section
variable {w : World} {s : Shared} {g base : Heap} {A₀ : Around} {hn : Option Value} {d u : Nat} {outer : List Env} {gs : Option (List Code)} {cn : Str} {nm : List (Str × NameKind)} {b1 b2 : Bool} {mo : List (Str × Const)} {L a : Addr} {cd : Value} {cl : List (Str × Addr)}
  {m : Str → Option Value} {Q : Value → Shared → Prop} {E : Value → Shared → Prop} {T1 T2 tA sA : Addr} {o1 o2 : Obj} {k1 k2 : List (Str × Value)} {c1 c2 : Tab} {rest : List (Addr × Obj)} {x1 x2 x3 x4 y1 y2 y3 y4 : Int} {t1 t2 t3 t4 u1 u2 u3 u4 : Tok}
theorem addstats1 (gx : Gx w g base A₀ outer d u) (hd9 : d + 30 < recursionLimit) (hu9 : u + 9000 < cLine) (F : Fr g L s.heap m) (N : News g L s.heap ((T1, tup5 x1 x2 x3 x4 t1 t2 t3 t4 tA) :: (T2, tup5 y1 y2 y3 y4 u1 u2 u3 u4 sA) :: (tA, o1) :: (sA, o2) :: rest))
   (hd1 : Obj.IsDictOf (strKind PR w) o1 k1) (hf1 : PyProof.V.FlatPairs PyData.str k1 (kdpD c1)) (hl1 : c1.length ≤ 9)
   (hd2 : Obj.IsDictOf (strKind PR w) o2 k2) (hf2 : PyProof.V.FlatPairs PyData.str k2 (kdpD c2)) (hl2 : c2.length ≤ 9) (lo1 : (tA == sysModules) = false) (lo2 : (sA == sysModules) = false)
   (H : ∀ s' Tq q o' kvs' v1 v2 v3 v4, Fr g L s'.heap m → News g L s'.heap ((Tq, tup5 (y1 + x1) (y2 + x2) (y3 + x3) (y4 + x4) v1 v2 v3 v4 q) :: (q, o') :: (T1, tup5 x1 x2 x3 x4 t1 t2 t3 t4 tA) :: (T2, tup5 y1 y2 y3 y4 u1 u2 u3 u4 sA) :: (tA, o1) :: (sA, o2) :: rest) →
      Obj.IsDictOf (strKind PR w) o' kvs' → PyProof.V.FlatPairs PyData.str kvs' (kdpD (merge c1 c2)) → (q == sysModules) = false → @LT.lt Nat _ q Tq → @LT.lt Nat _ T1 q → @LT.lt Nat _ T2 q → @LT.lt Nat _ tA q → @LT.lt Nat _ sA q → (∀ p ∈ rest, p.1 < q) → s'.gens = s.gens → s'.os = s.os → Q (.ref Tq) s') :
   wpAny (model PR w) (AG none d outer gs u cn nm b1 b2 mo L a cd cl) (PySem.call (.ref 149) [.ref T1, .ref T2]) Q E s := by
  obtain ⟨X₀, B, ⟨_, _, _, _, _, T⟩, hd, hu⟩ := gx
  repeat' (first | (k_unfold; (try dsimp only)) | ((fail_if_success (with_reducible show wpAny _ _ (PySem.call (Value.ref 156) _) _ _ _)); walk1) | (dsimp only; (fail_if_success (with_reducible show wpAny _ _ (PySem.call (Value.ref 156) _) _ _ _)); walk1))
  with_unfolding_all (refine' addcallers1 (o1 := o1) (o2 := o2) (rest := (T1, tup5 x1 x2 x3 x4 t1 t2 t3 t4 tA) :: (T2, tup5 y1 y2 y3 y4 u1 u2 u3 u4 sA) :: rest) ?gx ?F ?N ?d1 ?f1 ?z1 ?d2 ?f2 ?z2 ?l1 ?l2 ?_)
  case F => k_asm
  case d1 => k_asm
  case f1 => k_asm
  case d2 => k_asm
  case f2 => k_asm
  case N => lge_lay
  case z1 => assumption
  case z2 => assumption
  case l1 => assumption
  case l2 => assumption
  case gx => exact ⟨by k_in, by k_asm, ⟨_, _, _, _, _, by k_asm⟩, by (try simp only [Around.deeper]); (try dsimp only); omega, by (try simp only [Around.deeper]); (try dsimp only); omega⟩
  intro s5 q5 o5 k5 F5 N5 D5 X5 z5 a5 b5 c5 g5 e5
  obtain ⟨h5, ge5, dr5, tk5, os5⟩ := s5
  dsimp only at F5 N5 g5 e5
  k_steps
  rename_i D9 h9 F9 N9 l9 kF kN Tc kX
  exact H _ D9 q5 o5 k5 _ _ _ _ kF (by lge_lay) D5 X5 z5 l9.1 (c5 _ (.head _)) (c5 _ (.tail _ (.head _))) a5 b5 (fun p hp => c5 p (.tail _ (.tail _ hp))) g5 e5
end
end JoinQI

section ResetQF
local macro_rules | `(tactic| walk_at "none") => `(tactic| skip)
theorem resetQF : True := by first | walk1 | (w_top off; trivial)
end ResetQF
section JoinQF
structure FS where
  levels : List Int
  level : Int
  piece : Array UInt8
  pieces : List (Array UInt8)
noncomputable def pick4 (k : Int) (a b c d : Array UInt8) : Array UInt8 := if k = 0 then a else if k = 1 then b else if k = 2 then c else d
noncomputable def label (k : Int) (c : Array UInt8) : Array UInt8 := pick4 k c (#[34] ++ c ++ #[34]) (#[34, 40] ++ c ++ #[34]) (#[34] ++ c ++ #[92, 34, 41, 34])
noncomputable def shutB (n : Int) : Array UInt8 := (List.replicate n.toNat [(41 : UInt8)]).flatten.toArray
noncomputable def FS.step (f : FS) (x : Int) : FS :=
  { levels := f.levels ++ [f.level + (1 - x.fmod (f.level + 2))], level := f.level + (1 - x.fmod (f.level + 2)),
    piece := #[40] ++ label ((x.fdiv (f.level + 2)).fmod 4) (byteArr [97 + (f.levels.length : Int)]),
    pieces := f.pieces ++ [f.piece ++ shutB (x.fmod (f.level + 2))] }
noncomputable def FS.start : FS := ⟨[], -1, #[], []⟩
noncomputable def nums (script : List Int) : List Int := [2] ++ (script.take 4).map (fun a => a.fmod 1000000) ++ [6, 14]
noncomputable def FSat (ns : List Int) : Nat → FS
  | 0 => FS.start
  | k + 1 => (FSat ns k).step (ns.getD k 0)
noncomputable def levelsOf (script : List Int) : List Int := (FSat (nums script) (nums script).length).levels
noncomputable def piecesOf (script : List Int) : List (Array UInt8) :=
  (FSat (nums script) (nums script).length).pieces ++ [(FSat (nums script) (nums script).length).piece ++ shutB ((FSat (nums script) (nums script).length).level + 1)]
theorem nums_len (script : List Int) : (nums script).length ≤ 7 ∧ 3 ≤ (nums script).length := by
  simp only [nums, List.length_append, List.length_map, List.length_take, List.length_cons, List.length_nil]
  omega
theorem nums_in (script : List Int) : ∀ x ∈ nums script, 0 ≤ x ∧ x ≤ 1000000 := by
  intro x hx
  simp only [nums, List.mem_append, List.mem_map, List.mem_cons, List.not_mem_nil, or_false] at hx
  rcases hx with (rfl | ⟨a, _, rfl⟩) | rfl | rfl
  · decide
  · have h1 := Int.fmod_nonneg_of_pos a (b := 1000000) (by decide)
    have h2 := Int.fmod_lt_of_pos a (b := 1000000) (by decide)
    omega
  · decide
  · decide
theorem nums_at (script : List Int) (k : Nat) : 0 ≤ (nums script).getD k 0 ∧ (nums script).getD k 0 ≤ 1000000 := by
  rw [List.getD_eq_getElem?_getD]
  cases h : (nums script)[k]? with
  | none => decide
  | some x => exact nums_in script x (List.mem_of_getElem? h)
theorem label_size (k : Int) (c : Array UInt8) (h : c.size = 1) : (label k c).size ≤ 6 := by
  unfold label pick4
  repeat' split
  all_goals (simp [h])
theorem FSat_ok (script : List Int) : ∀ k, (FSat (nums script) k).levels.length = k ∧ (FSat (nums script) k).pieces.length = k ∧ -1 ≤ (FSat (nums script) k).level ∧ (FSat (nums script) k).level < (k : Int) ∧ (FSat (nums script) k).piece.size ≤ 8
  | 0 => ⟨rfl, rfl, Int.le_refl _, (by decide : (-1 : Int) < 0), Nat.zero_le _⟩
  | k + 1 => by
    obtain ⟨a, b, c, d, e⟩ := FSat_ok script k
    have h0 := nums_at script k
    have h1 := Int.fmod_nonneg_of_pos ((nums script).getD k 0) (b := (FSat (nums script) k).level + 2) (by omega)
    have h2 := Int.fmod_lt_of_pos ((nums script).getD k 0) (b := (FSat (nums script) k).level + 2) (by omega)
    have hl := label_size ((((nums script).getD k 0).fdiv ((FSat (nums script) k).level + 2)).fmod 4) (byteArr [97 + ((FSat (nums script) k).levels.length : Int)]) (byteArr_size _)
    refine ⟨?_, ?_, ?_, ?_, ?_⟩
    · simp [FSat, FS.step, a]
    · simp [FSat, FS.step, b]
    · show -1 ≤ (FSat (nums script) k).level + (1 - _); omega
    · show (FSat (nums script) k).level + (1 - _) < _; omega
    · show (#[40] ++ _ : Array UInt8).size ≤ 8
      rw [Array.size_append]
      exact Nat.le_trans (Nat.add_le_add_left hl 1) (by decide)
inductive ForJ (g9 : Heap) (L9 lA pA : Addr) (rest : List (Addr × Obj)) (script : List Int) (s : Shared) (it : Value) (k : Nat) (s' : Shared) : Prop
  | mk (I : _) (m' : _) (us : _) (ps : _) (nn : _) (n5 : _) (tl : _) (tp : _) (nA : _) (nv : _) (nn0 : _) : (it = .ref I) → (Fr g9 L9 s'.heap m') → (m' (Str.ofString "levels") = some (.ref lA)) → (m' (Str.ofString "pieces") = some (.ref pA)) → (m' (Str.ofString "level") = some (.int (FSat (nums script) k).level tl)) → (m' (Str.ofString "piece") = some (.bytes (FSat (nums script) k).piece tp)) → (News g9 L9 s'.heap ((pA, listOf (List.toArray ps) n5) :: (lA, listOf (List.toArray us) nn) :: (I, itO nA k) :: (nA, listOf (List.toArray nv) nn0) :: rest)) → (IntsAre us (FSat (nums script) k).levels) → (BytesAre ps (FSat (nums script) k).pieces) → (IntsAre nv (nums script)) → (@LT.lt Nat _ pA I) → (@LT.lt Nat _ lA I) → (@LT.lt Nat _ nA I) → (@LT.lt Nat _ lA pA) → (@LT.lt Nat _ pA nA) → ((∀ p ∈ rest, p.1 < lA)) → (s'.gens = s.gens) → (s'.os = s.os) → ForJ g9 L9 lA pA rest script s it k s'
section
variable {w : World} {A : Around} {E : Value → Shared → Prop} {s : Shared} {g : Heap} {L : Addr} {m : Str → Option Value} {led : List (Addr × Obj)} {a b : Int} {t u : Tok}
theorem divmod_L {Q : Value → Shared → Prop} (F : Fr g L s.heap m) (N : News g L s.heap led) (hb : b ≠ 0) (hp : Builtin.divisionGoesByPylong a b = false)
    (h : ∀ D h', Fr g L h' m → News g L h' ((D, { cls := .type "tuple", data := .seq #[.int (a.fdiv b) s.toks, .int (a.fmod b) (s.toks + 1)] }) :: led) → (∀ p ∈ led, p.1 < D) →
      Q (.ref D) { s with toks := s.toks + 1 + 1, heap := h' }) :
    wpAny (model PR w) A (call (.builtin "divmod") [.int a t, .int b u]) Q E s :=
  divmod_int hb (h _ _ (F.push _) (N.push F _) fun p hp => Heap.lt_size (N p hp).1) (.inl hp)
theorem sub4 {value slice : PySem.Expr} {l : Addr} {a0 a1 a2 a3 : Array UInt8} {t0 t1 t2 t3 u : Tok} {n : Nat} {k : Int} {Q : Value → Shared → Prop} (N : News g L s.heap led) (hm : (l, listOf #[.bytes a0 t0, .bytes a1 t1, .bytes a2 t2, .bytes a3 t3] n) ∈ led)
    (h0 : 0 ≤ k) (h1 : k < 4) (h : ∀ t, Q (.bytes (pick4 k a0 a1 a2 a3) t) s)
    (hs : subscripted slice false (.ref l) (.int k u) = operate [.ref l, .int k u] (getItem (.ref l) (.int k u)) := by with_unfolding_all rfl) :
    wpAny (model PR w) A (subscriptTail value slice (.ref l) (.int k u)) Q E s := by
  have hl : s.heap.IsList l #[.bytes a0 t0, .bytes a1 t1, .bytes a2 t2, .bytes a3 t3] := N.isList hm
  have hk : k = 0 ∨ k = 1 ∨ k = 2 ∨ k = 3 := by omega
  refine tail_any hl.typeIs slot_list_getitem.lookup ?_ hs
  rcases hk with rfl | rfl | rfl | rfl
  · exact wpAny_getItem_list hl h0 (by decide) rfl (h t0)
  · exact wpAny_getItem_list hl h0 (by decide) rfl (h t1)
  · exact wpAny_getItem_list hl h0 (by decide) rfl (h t2)
  · exact wpAny_getItem_list hl h0 (by decide) rfl (h t3)
end
local macro_rules | `(tactic| walk_at "subscriptTail") => do let b ← bys; `(tactic| (k_here; k_dflt (refine sub4 (a0 := _) $(b.a) $(b.e) (by exact Int.fmod_nonneg_of_pos _ (by decide)) (by exact Int.fmod_lt_of_pos _ (by decide)) ?_)))
local macro_rules | `(tactic| walk_at "binaryOp Add bytes bytes") => `(tactic| (k_here; (with_reducible show wpAny _ _ (binaryOp Operator.Add (Value.bytes _ _) (Value.bytes (pick4 _ _ _ _ _) _)) _ _ _); refine KBy.add_bytes ?_ ?_; (focus (refine Nat.le_trans (Nat.add_le_add_left (label_size _ _ (byteArr_size _)) _) ?_; exact Nat.le_of_ble_eq_true rfl)); intro _ _))
local macro_rules | `(tactic| walk_at "call type:bytes") => do let b ← bys; `(tactic| (k_here; (with_reducible show wpAny _ _ (call (Value.type "bytes") [Value.ref _]) _ _ _); k_dflt (refine KBa.make_K (vs := [_]) (ns := [_]) $(b.a) $(b.a) (by first | assumption | rfl) (by kba_isList) (by exact .cons _ _ .nil) (by (intro n hn; rw [List.mem_singleton] at hn; subst hn; constructor <;> omega)) (by exact Nat.le_add_left 1 _) ?_); intro _ _ _ F' N' kbaIn))
local macro_rules | `(tactic| walk_at "binaryOp Add bytes bytes") => `(tactic| (k_here; (with_reducible show wpAny _ _ (binaryOp Operator.Add (Value.bytes _ _) (Value.bytes _ _)) _ _ _); refine KBy.add_bytes ?_ ?_; (focus (try simp [byteArr_size]); (first | done | omega)); intro _ _))
local macro_rules | `(tactic| walk_at "call builtin:divmod") => do let i ← ins "D' h' F' N' l1"; let b ← bys; `(tactic| (k_here; (with_reducible show wpAny _ _ (call (Value.builtin _) [Value.int _ _, Value.int _ _]) _ _ _); k_dflt (refine divmod_L $(b.a) $(b.a) $(b.o) (by exact PyProof.noPylong_small (by omega)) ?_); $i; (try k_lt l1); (try k_sweep)))
section
variable {w : World} {s : Shared} {g base : Heap} {A₀ : Around} {hn : Option Value} {d u : Nat} {outer : List Env} {gs : Option (List Code)} {cn : Str} {nm : List (Str × NameKind)} {b1 b2 : Bool} {mo : List (Str × Const)} {L a : Addr} {cd : Value} {cl : List (Str × Addr)}
  {m : Str → Option Value} {Q : Value → Shared → Prop} {E : Value → Shared → Prop} {ql : Addr} {vl : List Value} {script : List Int} {nl : Nat} {rest : List (Addr × Obj)} {t : Tok}
theorem forest1 (gx : Gx w g base A₀ outer d u) (F : Fr g L s.heap m) (N : News g L s.heap rest) (hl : base.IsList ql vl.toArray) (hI : IntsAre vl script) (hlen : script.length ≤ 63)
   (H : ∀ s' tA lA pA us ps nn n5, Fr g L s'.heap m → News g L s'.heap ((tA, { cls := .type "tuple", data := .seq #[.ref lA, .ref pA] }) :: (pA, listOf (List.toArray ps) n5) :: (lA, listOf (List.toArray us) nn) :: rest) →
     IntsAre us (levelsOf script) → BytesAre ps (piecesOf script) → (∀ p ∈ rest, p.1 < lA) → @LT.lt Nat _ lA pA → @LT.lt Nat _ pA tA → s'.gens = s.gens → s'.os = s.os → Q (.ref tA) s') :
   wpAny (model PR w) (AG none d outer gs u cn nm b1 b2 mo L a cd cl) (PySem.call (.ref 176) [.ref ql]) Q E s := by
  obtain ⟨X₀, B, ⟨_, _, _, _, _, T⟩, hd, hu⟩ := gx
  lge_open0
  rename_i g9 L9 h9 FG9 B9 X9 T9 tk0 lA h1 ll1 h2 tk1 pA h3 ll2 h4 h5 h6 F9 N9
  refine for_go (n := (nums script).length) (ForJ g9 L9 lA pA rest script s) ?_ ?_ ?_
  · k_steps
    k_made
    simp only [filter_tt] at *
    have htk4 : (script.take 4).length ≤ 4 := by rw [List.length_take]; omega
    k_steps
    rename_i D' nv h' Fx Nx hI' lx
    refine liter_K Fx Nx (by kba_isList) ?_
    intro I h7 F7 N7 l7 l8
    exact ⟨I, _, [], [], 0, 0, _, _, D', nv, 0, rfl, F7, rfl, rfl, rfl, rfl, by lge_lay, .nil, .nil, hI', l7 (pA, _) (by k_mem), l7 (lA, _) (by k_mem), l8, ll2.1, by omega, ll1, rfl, rfl⟩
  · rintro it i s' E' hk ⟨I, m', us, ps, nn, n5, tl, tp, nA, nv, nn0, rfl, F8, e1, e2, e3, e4, N8, hus, hps, hnv, lI1, lI2, lI3, l4, l5, l6, hg8, ho8⟩
    generalize hB : ForJ g9 L9 lA pA rest script s (.ref I) (i + 1) = B
    obtain ⟨f1, f2, f3, f4, f5⟩ := FSat_ok script i
    obtain ⟨x0, x1⟩ := nums_at script i
    have hn7 := (nums_len script).1
    have hrP : ∀ p ∈ rest, p.1 ≠ pA := fun p hp => Nat.ne_of_lt (Nat.lt_trans (l6 p hp) l4)
    have hrL : ∀ p ∈ rest, p.1 ≠ lA := fun p hp => Nat.ne_of_lt (l6 p hp)
    have hrI : ∀ p ∈ rest, p.1 ≠ I := fun p hp => Nat.ne_of_lt (Nat.lt_trans (l6 p hp) lI2)
    obtain ⟨tx, hx⟩ : ∃ t, (List.toArray nv)[i]? = some (.int ((nums script).getD i 0) t) := by
      have hlt : i < nv.length := by rw [hnv.length]; exact hk
      obtain ⟨n, t, e, hn⟩ := IntsAre.at hnv i nv[i] (List.getElem?_eq_getElem hlt)
      exact ⟨t, by rw [List.getElem?_toArray, List.getElem?_eq_getElem hlt, e, List.getD_eq_getElem?_getD, hn]; rfl⟩
    refine next_K F8 N8 (.tail (Nat.ne_of_lt lI1) (.tail (Nat.ne_of_lt lI2) (.head (List.forall_mem_cons.mpr ⟨Nat.ne_of_lt lI3, hrI⟩)))) (.tail _ (.tail _ (.tail _ (.head _)))) ⟨_, rfl⟩ hx ?_
    intro h' F9 N9
    have hul : us.length = i := by rw [hus.length, f1]
    have hpl : ps.length = i := by rw [hps.length, f2]
    generalize hfx : (nums script).getD i 0 = x at *
    generalize hff : FSat (nums script) i = f at *
    have hs0 : 0 ≤ x.fmod (f.level + 2) := Int.fmod_nonneg_of_pos _ (by omega)
    have hs1 : x.fmod (f.level + 2) < f.level + 2 := Int.fmod_lt_of_pos _ (by omega)
    refine ⟨_, rfl, wpAny_pure ?_⟩
    refine wpAny_assign_Name ?_
    (try dsimp only at N9)
    clear F8 N8
    walk1
    k_steps
    rename_i h3 F3 N3
    rw [List.push_toArray, List.push_toArray] at N3
    have hst : FSat (nums script) (i + 1) = f.step x := by rw [← hff, ← hfx]; rfl
    subst hB
    exact ⟨I, _, _, _, nn + 1, n5 + 1, _, _, nA, nv, nn0, rfl, F3, e1, e2, by rw [hst]; rfl, by rw [hst]; rfl, by lge_lay, by rw [hst]; exact hus.append (.cons _ _ .nil), by rw [hst]; exact hps.snoc _ _, hnv, lI1, lI2, lI3, l4, l5, l6, hg8, ho8⟩
  · rintro it s' E' ⟨I, m', us, ps, nn, n5, tl, tp, nA, nv, nn0, rfl, F8, e1, e2, e3, e4, N8, hus, hps, hnv, lI1, lI2, lI3, l4, l5, l6, hg8, ho8⟩
    obtain ⟨f1, f2, f3, f4, f5⟩ := FSat_ok script (nums script).length
    have hn7 := (nums_len script).1
    have hrP : ∀ p ∈ rest, p.1 ≠ pA := fun p hp => Nat.ne_of_lt (Nat.lt_trans (l6 p hp) l4)
    have hrL : ∀ p ∈ rest, p.1 ≠ lA := fun p hp => Nat.ne_of_lt (l6 p hp)
    have hrI : ∀ p ∈ rest, p.1 ≠ I := fun p hp => Nat.ne_of_lt (Nat.lt_trans (l6 p hp) lI2)
    have N7 : News g9 L9 s'.heap ((I, itO nA (nums script).length) :: (pA, listOf (List.toArray ps) n5) :: (lA, listOf (List.toArray us) nn) :: (nA, listOf (List.toArray nv) nn0) :: rest) := by lge_lay
    refine end_K rfl F8 N7 (List.forall_mem_cons.mpr ⟨Nat.ne_of_lt lI1, List.forall_mem_cons.mpr ⟨Nat.ne_of_lt lI2, List.forall_mem_cons.mpr ⟨Nat.ne_of_lt lI3, hrI⟩⟩⟩) (.tail _ (.tail _ (.head _))) ⟨_, rfl⟩ (by simp [hnv.length]) ?_
    intro h' F6 N6
    refine ⟨rfl, ?_⟩
    clear N7 N8 F8
    dsimp only
    have hul : us.length = (nums script).length := by rw [hus.length, f1]
    have hpl : ps.length = (nums script).length := by rw [hps.length, f2]
    generalize hff : FSat (nums script) (nums script).length = f at *
    k_steps
    rename_i h9 F9' N9' ll9 kF kN Tc' kX
    rw [List.push_toArray] at kN
    have hlv : levelsOf script = f.levels := by rw [← hff]; rfl
    have hpc : piecesOf script = f.pieces ++ [f.piece ++ shutB (f.level + 1)] := by rw [← hff]; rfl
    exact H _ _ lA pA us _ nn (n5 + 1) kF (by lge_lay) (by rw [hlv]; exact hus) (by rw [hpc]; exact hps.snoc _ _) l6 l4 ll9.1 hg8 ho8
end
end JoinQF

section ResetQJ
local macro_rules | `(tactic| walk_at "none") => `(tactic| skip)
theorem resetQJ : True := by first | walk1 | (w_top off; trivial)
end ResetQJ
section JoinQJ
noncomputable def IsVI (o : Obj) (d : Addr) (i n ep : Nat) : Prop := o.cls = .type "dict_valueiterator" ∧ o.data = .fields #[.ref d, .int i 0, .int n 0, .int ep 0]
noncomputable def cntAt (c : Tab) : Nat → Int
  | 0 => 0
  | k + 1 => cntAt c k + (c.getD k ("", 0)).2
inductive CntJ (w : World) (g9 : Heap) (L9 tA : Addr) (rest : List (Addr × Obj)) (o1 : Obj) (kvs : List (Str × Value)) (ep : Nat) (c : Tab) (s : Shared) (it : Value) (k : Nat) (s' : Shared) : Prop
  | mk (I : _) (m' : _) (oi : _) (tn : _) : (it = .ref I) → (Fr g9 L9 s'.heap m') → (m' (Str.ofString "nc") = some (.int (cntAt c k) tn)) → (News g9 L9 s'.heap ((I, oi) :: (tA, o1) :: rest)) → (IsVI oi tA k kvs.length ep) → (@LT.lt Nat _ tA I) → ((∀ p ∈ rest, p.1 < I)) → (s'.gens = s.gens) → (s'.os = s.os) → CntJ w g9 L9 tA rest o1 kvs ep c s it k s'
section
variable {w : World} {A : Around} {E : Value → Shared → Prop} {s : Shared} {g : Heap} {L I d : Addr} {m : Str → Option Value} {led : List (Addr × Obj)} {o oi : Obj} {kvs : List (Str × Value)} {ep i : Nat} {c : Tab}
theorem vnext_K {x : Str} {pos : Pos} {key : Str} {v : Int} {R : Value → Shared → Prop} (F : Fr g L s.heap m) (N : News g L s.heap ((I, oi) :: led)) (hI : ∀ p ∈ led, p.1 ≠ I) (hoi : IsVI oi d i kvs.length ep) (hd : (d, o) ∈ led) (hde : DE w o kvs ep)
    (hf : PyProof.V.FlatPairs PyData.str kvs (kdpD c)) (hx : c[i]? = some (key, v))
    (h : ∀ u h' oi', Fr g L h' m → News g L h' ((I, oi') :: led) → IsVI oi' d (i + 1) kvs.length ep → R (.int v u) { s with heap := h' }) :
    wpAny (model PR w) A (pyNext (.ref I)) (fun r s₃ => ∃ v, r = some v ∧ wpAny (model PR w) A (letOwnedTupleGo (.Name x pos) (.ref I) v) (fun _ s₄ => R v s₄) E s₃) E s := by
  have z := N (I, oi) (.head _)
  have hl : i < kvs.length := by
    have e := hf.length
    rw [kdpD_length] at e
    rw [← e]
    exact (List.getElem?_eq_some_iff.mp hx).1
  obtain ⟨⟨k, y⟩, hk⟩ : ∃ p, kvs[i]? = some p := ⟨_, List.getElem?_eq_getElem hl⟩
  obtain ⟨dv, hdv, hfl⟩ := hf.at hk
  have e2 : (kdpD c)[i]? = some (PyData.str key, PyData.int v) := by unfold kdpD; rw [List.getElem?_map, hx]; rfl
  rw [e2] at hdv
  have e5 : PyData.int v = dv := congrArg Prod.snd (Option.some.inj hdv)
  subst e5
  obtain ⟨u, rfl⟩ := PyProof.V.Flat.int_inv hfl
  refine wpAny_pyNext_values_item (knd := SK w) ⟨oi, z.1, hoi.1, hoi.2⟩ (hde.at N (.tail _ hd)) hk fun h1 hit hs => ?_
  obtain ⟨oi', ho', hc', hd'⟩ := id hit
  have kp : ∀ b o, b ≠ I → s.heap.get? b = some o → h1.get? b = some o := fun b o hb e => hs.extBut b o hb e
  refine ⟨_, rfl, letGo_valiter hit (h u h1 oi' ⟨F.ns.at' fun o e => kp _ o (Ne.symm z.2.1) e, fun b o e => kp b o (fun q => by rw [q, z.2.2] at e; cases e) (F.keep b o e), F.above⟩ ?_ ⟨hc', hd'⟩)⟩
  refine List.forall_mem_cons.mpr ⟨⟨ho', z.2⟩, fun p hp => ?_⟩
  have y := N p (.tail _ hp)
  exact ⟨kp _ _ (hI p hp) y.1, y.2⟩
theorem vend_K {Q : Option Value → Shared → Prop} (hh : A.handled = none) (F : Fr g L s.heap m) (N : News g L s.heap ((I, oi) :: led)) (hI : ∀ p ∈ led, p.1 ≠ I) (hoi : IsVI oi d i kvs.length ep) (hd : (d, o) ∈ led) (hde : DE w o kvs ep) (hx : kvs.length ≤ i)
    (h : ∀ h', Fr g L h' m → News g L h' led → Q none { s with heap := h' }) : wpAny (model PR w) A (pyNext (.ref I)) Q E s := by
  have z := N (I, oi) (.head _)
  refine wpAny_pyNext_values_end (knd := SK w) hh ⟨oi, z.1, hoi.1, hoi.2⟩ (hde.at N (.tail _ hd)) (List.getElem?_eq_none hx) fun h' he => h h' ⟨F.ns.extBut he (Ne.symm z.2.1), fun b o' e => he b o' (fun q => by rw [q, z.2.2] at e; cases e) (F.keep b o' e), F.above⟩ fun p hp => ?_
  have y := N p (.tail _ hp)
  exact ⟨he _ _ (hI p hp) y.1, y.2⟩
theorem viter_K {vw : Addr} {Q : Value → Shared → Prop} (F : Fr g L s.heap m) (N : News g L s.heap led) (hv : s.heap.IsValuesView vw d) (hd : (d, o) ∈ led) (hde : DE w o kvs ep)
    (h : ∀ I oi h', Fr g L h' m → News g L h' ((I, oi) :: led) → IsVI oi d 0 kvs.length ep → (∀ p ∈ led, p.1 < I) → Q (.ref I) { s with heap := h' }) : wpAny (model PR w) A (pyIter (.ref vw)) Q E s :=
  wpAny_pyIter_values (knd := SK w) hv (hde.at N hd) (h _ _ _ (F.push _) (News.push F N _) ⟨rfl, rfl⟩ fun p hp => Heap.lt_size (N p hp).1)
end
section
variable {w : World} {s : Shared} {g base : Heap} {A₀ : Around} {hn : Option Value} {d u : Nat} {outer : List Env} {gs : Option (List Code)} {cn : Str} {nm : List (Str × NameKind)} {b1 b2 : Bool} {mo : List (Str × Const)} {L a : Addr} {cd : Value} {cl : List (Str × Addr)}
  {m : Str → Option Value} {Q : Value → Shared → Prop} {E : Value → Shared → Prop} {tA : Addr} {o1 : Obj} {k1 : List (Str × Value)} {c1 : Tab} {rest : List (Addr × Obj)}
theorem count1 (gx : Gx w g base A₀ outer d u) (F : Fr g L s.heap m) (N : News g L s.heap ((tA, o1) :: rest)) (hd1 : Obj.IsDictOf (strKind PR w) o1 k1) (hf1 : PyProof.V.FlatPairs PyData.str k1 (kdpD c1)) (hl1 : c1.length ≤ 9) (lo1 : (tA == sysModules) = false)
   (H : ∀ s' tk', Fr g L s'.heap m → News g L s'.heap ((tA, o1) :: rest) → s'.gens = s.gens → s'.os = s.os → Q (.int (cntAt c1 c1.length) tk') s') :
   wpAny (model PR w) (AG none d outer gs u cn nm b1 b2 mo L a cd cl) (PySem.call (.ref 163) [.ref tA]) Q E s := by
  obtain ⟨X₀, B, ⟨_, _, _, _, _, T⟩, hd, hu⟩ := gx
  obtain ⟨e1, hde1⟩ := DE.of hd1
  lge_open0
  rename_i g9 L9 h9 FG9 B9 X9 T9 h1 F9 N9
  refine for_go (n := c1.length) (CntJ w g9 L9 tA rest o1 k1 e1 c1 s) ?_ ?_ ?_
  · k_steps
    rename_i vA h3 F3 N3 l3
    refine viter_K (o := o1) F3 N3 ⟨_, (N3 _ (.head _)).1, rfl, rfl⟩ (.tail _ (.head _)) hde1 ?_
    intro I oi h4 F4 N4 hoi l4
    exact ⟨I, _, oi, _, rfl, F4, rfl, by lge_lay, hoi, l4 (tA, o1) (by k_mem), (fun p hp => l4 p (.tail _ (.tail _ hp))), rfl, rfl⟩
  · rintro it k s' E' hk ⟨I, m', oi, tn, rfl, F8, x1, N8, hoi, lI1, lI2, hg8, ho8⟩
    generalize hB : CntJ w g9 L9 tA rest o1 k1 e1 c1 s (.ref I) (k + 1) = B
    obtain ⟨⟨key, v⟩, hx⟩ : ∃ p, c1[k]? = some p := ⟨_, List.getElem?_eq_getElem hk⟩
    have hgd : c1.getD k ("", 0) = (key, v) := by rw [List.getD_eq_getElem?_getD, hx]; rfl
    refine vnext_K (o := o1) F8 N8 (List.forall_mem_cons.mpr ⟨Nat.ne_of_lt lI1, fun p hp => Nat.ne_of_lt (lI2 p hp)⟩) hoi (.head _) hde1 hf1 hx ?_
    intro u h' oi' F9 N9 hoi'
    clear F8 N8
    refine wpAny_assign_Name ?_
    k_steps
    rename_i h3 F3 N3
    have hst : cntAt c1 (k + 1) = cntAt c1 k + v := by rw [cntAt, hgd]
    subst hB
    exact ⟨I, _, oi', _, rfl, F3, by rw [hst]; rfl, by lge_lay, hoi', lI1, lI2, hg8, ho8⟩
  · rintro it s' E' ⟨I, m', oi, tn, rfl, F8, x1, N8, hoi, lI1, lI2, hg8, ho8⟩
    have hkl : k1.length = c1.length := by have e := hf1.length; rw [kdpD_length] at e; exact e.symm
    refine vend_K (o := o1) rfl F8 N8 (List.forall_mem_cons.mpr ⟨Nat.ne_of_lt lI1, fun p hp => Nat.ne_of_lt (lI2 p hp)⟩) hoi (.head _) hde1 (by omega) ?_
    intro h6 F6 N6
    refine ⟨rfl, ?_⟩
    clear N8 F8
    dsimp only
    k_steps
    exact H _ _ (by assumption) (by lge_lay) hg8 ho8
end
end JoinQJ

section ResetXN
local macro_rules | `(tactic| walk_at "none") => `(tactic| skip)
theorem resetXN : True := by first | walk1 | (w_top off; trivial)
end ResetXN
section JoinXN
theorem fnm_lk : typeLookup (.type "function") "__name__" = pure (some (.builtin "function.__name__")) := by rw [typeLookup_type, builtinLookup_eq_fast]; kernel_rfl
theorem fnm_type : typeOf (.builtin "function.__name__") = pure (.type "getset_descriptor") := by kernel_rfl
theorem fnm_entry : entryFor table "function.__name__" = some Builtin.«function.__name__» := entryFor_of_tree (by kernel_rfl)
theorem fnm_owner : (".".intercalate ("function.__name__".cutAt '.').dropLast) = "function" := by
  have e0 : "function.__name__".cutAt '.' = ["function", "__name__"] := by first | rfl | decide +kernel
  rw [e0]; decide +kernel
theorem fnm_sub : isSubtype (.type "function") (.type (".".intercalate ("function.__name__".cutAt '.').dropLast)) = pure true := by
  rw [fnm_owner, isSubtype_type]; kernel_rfl
theorem fnm_slot : Slot "function" "__getattribute__" "object.__getattribute__" :=
  .of (owner := "object") (n := "__getattribute__") (by rw [typeLookup_type, builtinLookup_eq_fast]; kernel_rfl) (by decide +kernel) (by decide +kernel) (by decide +kernel)
    (by first | exact .inl (by decide +kernel) | exact .inr (by decide +kernel)) (by rw [isSubtype_type]; kernel_rfl)
theorem fnm_ga : entryFor table "object.__getattribute__" = some Builtin.«object.__getattribute__» := entryFor_of_tree (by kernel_rfl)
theorem fnm_args (a b : Value) : argsOk "object.__getattribute__" ⟨[a, b], []⟩ := by unfold argsOk; kernel_rfl
section
variable {prog : Program} {w : World} {A : Around} {E : Value → Shared → Prop} {h : Heap} {g : Array GenState} {d : Drawn} {t : Nat} {os : OsState} {a : Addr} {o : Obj} {fd : FuncData}
theorem fnm_get {R : Result → Shared → Prop} (hx : h.get? a = some o) (hc : o.cls = .type "function") (hd : o.data = .func fd) (hz : fd.name.length ≤ sizeLine) (hq : R (.ok (.ret (.str fd.name t))) ⟨h, g, d, t + 1, os⟩) :
    codeAny (model prog w) A (.call (.builtin "getset_descriptor.__get__") ⟨[.builtin "function.__name__", .ref a, .type "function"], []⟩) R ⟨h, g, d, t, os⟩ := by
  have hT : (⟨h, g, d, t, os⟩ : Shared).TypeIs (.ref a) "function" := ⟨_, hx, hc⟩
  have hT5 : (⟨h, g, d, t, os⟩ : Shared).TypeIs (.builtin "function.__name__") "getset_descriptor" := fnm_type
  have f8 := fnm_sub
  refine codeAny_call_builtin F.slot_gs_get.plain F.entry_gs_get (F.slot_gs_get.check _ _ _ _ _ _ _ _ hT5 (F.args_gs_get _ _ _) ?_)
  repeat (any_goals (first | assumption | wp_step))
  refine ⟨Code.quiet_builtin _ (by decide +kernel), codeAny_builtin fnm_entry ?_⟩
  unfold Builtin.«function.__name__» funcData
  dsimp only [List.headD]
  refine wpAny_bind (wpAny_bind (wpAny_load hx ?_))
  rw [hd]
  refine wpAny_pure ?_
  unfold retStr
  exact wpAny_bind (wpAny_mkStr (wpAny_pure hq) hz)
theorem fnm_body {tk : Tok} {Q : Fin → Shared → Prop} (hx : h.get? a = some o) (hc : o.cls = .type "function") (hd : o.data = .func fd) (hz : fd.name.length ≤ sizeLine) (hq : Q (.done (.ret (.str fd.name t))) ⟨h, g, d, t + 1, os⟩) :
    wpAny (model prog w) A (Builtin.«object.__getattribute__» ⟨[.ref a, .str "__name__" tk], []⟩) Q E ⟨h, g, d, t, os⟩ := by
  have hT : (⟨h, g, d, t, os⟩ : Shared).TypeIs (.ref a) "function" := ⟨_, hx, hc⟩
  have hT5 : (⟨h, g, d, t, os⟩ : Shared).TypeIs (.builtin "function.__name__") "getset_descriptor" := fnm_type
  have f4 := fnm_lk
  have f5 := fnm_type
  have f6 := F.slot_gs_get.lookup
  have f7 := F.slot_gs_set.lookup
  repeat (any_goals (first | assumption | wp_step))
  refine fnm_get hx hc hd hz ?_
  repeat (any_goals (first | assumption | wp_step))
theorem fnm_call {tk : Tok} {R : Result → Shared → Prop} (hx : h.get? a = some o) (hc : o.cls = .type "function") (hd : o.data = .func fd) (hz : fd.name.length ≤ sizeLine) (hq : R (.ok (.ret (.str fd.name t))) ⟨h, g, d, t + 1, os⟩) :
    codeAny (model prog w) A (.call (.builtin "object.__getattribute__") ⟨[.ref a, .str "__name__" tk], []⟩) R ⟨h, g, d, t, os⟩ :=
  codeAny_call_builtin fnm_slot.plain fnm_ga (fnm_slot.check _ _ _ _ _ _ _ _ (show (⟨h, g, d, t, os⟩ : Shared).TypeIs (.ref a) "function" from ⟨_, hx, hc⟩) (fnm_args _ _) (fnm_body hx hc hd hz hq))
theorem fnm_by {tk : Tok} {b1 b2 : Bool} {Q : Value → Shared → Prop} (hx : h.get? a = some o) (hc : o.cls = .type "function") (hd : o.data = .func fd) (hz : fd.name.length ≤ sizeLine) (hq : Q (.str fd.name t) ⟨h, g, d, t + 1, os⟩) :
    wpAny (model prog w) A (getAttrBy (.ref a) (.str "__name__" tk) b1 b2) Q E ⟨h, g, d, t, os⟩ := by
  have hT : (⟨h, g, d, t, os⟩ : Shared).TypeIs (.ref a) "function" := ⟨_, hx, hc⟩
  have f2 := fnm_slot.lookup
  have f3 := fnm_slot.bind (.ref a)
  repeat (any_goals (first | assumption | wp_step))
  rw [if_neg (by simp [onTheHeap])]
  unfold boundAndCalled
  repeat (any_goals (first | assumption | wp_step))
  refine fnm_call hx hc hd hz ?_
  repeat (any_goals (first | assumption | wp_step))
end
section
variable {prog : Program} {w : World} {A : Around} {E : Value → Shared → Prop} {s : Shared} {a : Addr} {o : Obj} {fd : FuncData}
theorem fnm_attr {x : Bool} {Q : Value → Shared → Prop} (hx : s.heap.get? a = some o) (hc : o.cls = .type "function") (hd : o.data = .func fd) (hz : fd.name.length ≤ sizeLine) (hq : ∀ t t', Q (.str fd.name t) { s with toks := t' }) :
    wpAny (model prog w) A (getAttr (.ref a) "__name__" x) Q E s := by
  obtain ⟨h, g, d, t, os⟩ := s
  unfold getAttr
  repeat (any_goals (first | assumption | with_reducible apply fnm_by hx hc hd hz | exact hq _ _ | wp_step))
end
theorem name142 {P : Params} {h : Heap} (X : (hd.heap_39 P).In h) : ∃ o fd, h.get? 142 = some o ∧ o.cls = .type "function" ∧ o.data = .func fd ∧ fd.name = Str.ofString "func_get_function_name" := by
  have e : ((hd.heap_39 P).lookup 142).map (fun o => match o with | ⟨.type c, _, .func fd, _⟩ => some (c, fd.name) | _ => none) = some (some ("function", Str.ofString "func_get_function_name")) := by kernel_rfl!
  cases ho : (hd.heap_39 P).lookup 142 with
  | none => rw [ho] at e; cases e
  | some o =>
    rw [ho] at e
    have e7 := Option.some.inj e
    clear e
    obtain ⟨oc, od, dt, sl⟩ := o
    dsimp only at e7
    split at e7
    · rename_i c od fd sl q
      cases q
      have e9 : (c, fd.name) = ("function", Str.ofString "func_get_function_name") := Option.some.inj e7
      have e1 : c = "function" := congrArg Prod.fst e9
      have e2 : fd.name = Str.ofString "func_get_function_name" := congrArg Prod.snd e9
      subst e1
      exact ⟨_, fd, X _ _ ho, rfl, rfl, e2⟩
    · cases e7
section
variable {w : World} {A : Around} {E : Value → Shared → Prop} {s : Shared} {h₀ : Heap} {L : Addr} {m : Str → Option Value}
theorem fnm_142 {x : Bool} {Q : Value → Shared → Prop} (F : Fr h₀ L s.heap m) (X : (hd.heap_39 w.params).In h₀) (hq : ∀ t t', Q (.str "func_get_function_name" t) { s with toks := t' }) :
    wpAny (model PR w) A (getAttr (.ref 142) "__name__" x) Q E s := by
  obtain ⟨o, fd, h1, h2, h3, h4⟩ := name142 (X.keeps F.keep)
  refine fnm_attr h1 h2 h3 (by rw [h4]; decide +kernel) ?_
  rw [h4]
  exact hq
end
end JoinXN

section ResetQY
local macro_rules | `(tactic| walk_at "none") => `(tactic| skip)
theorem resetQY : True := by first | walk1 | (w_top off; trivial)
end ResetQY
section JoinQY
section
variable {prog : Program} {w : World} {A A₀ : Around} {E : Value → Shared → Prop} {s : Shared} {base h₀ : Heap} {L : Addr} {m mg mb : Str → Option Value} {news : List (Addr × Obj)} {K : Frag} {p : Program} {loose : List Str} {mean : ExcName → Option Value}
/-- an index behind the end of the empty tuple -/
theorem tup0_out {value slice : PySem.Expr} {t : Addr} {n : Nat} {u : Tok} {Q : Value → Shared → Prop} (hA : A.handled = none) (F : Fr h₀ L s.heap m) (N : News h₀ L s.heap news) (hm : (t, ({ cls := .type "tuple", data := .seq #[] n } : Obj)) ∈ news)
    (hE : ∀ h' tk e, Heap.NewExc s.heap h' e "IndexError" → E (.ref e) { s with heap := h', toks := tk })
    (hs : subscripted slice false (.ref t) (.int 2 u) = operate [.ref t, .int 2 u] (getItem (.ref t) (.int 2 u)) := by with_unfolding_all rfl) :
    wpAny (model prog w) A (subscriptTail value slice (.ref t) (.int 2 u)) Q E s := by
  have ht : IsTup s.heap t #[] := ⟨_, (N _ hm).1, rfl, n, rfl⟩
  refine tail_any ht.typeIs PyProof.Rows.slot_tuple_getitem.lookup ?_ hs
  unfold getItem
  try with_reducible refine wpAny_holding ?_
  first | refine wpAny_bind (wpAny_pure ?_) | skip
  refine wpAny_bind (wpAny_sequenceKey ht.typeIs (by decide) ?_)
  refine wpAny_bind (wpAny_callSpecial?_slot (name := Str.ofString "__getitem__") ht.typeIs PyProof.Rows.slot_tuple_getitem
    (wpAny_call_entry PyProof.Rows.slot_tuple_getitem ht.typeIs PyProof.Rows.entry_tuple_getitem ?_ (PyProof.Rows.args_tuple_getitem _ _)))
  show wpAny _ _ (Builtin.Tuple.tupleItemsOf (.ref t) >>= _) _ _ s
  refine wpAny_bind (tupleItemsOf_ ht ?_)
  refine wpAny_bind (wpAny_typeOf (typeIs_int s 2 u) ?_)
  rw [if_neg (by decide)]
  refine wpAny_bind (wpAny_specialOf (T := "int") (typeIs_int s 2 u) int_index ?_)
  rw [if_neg (by simp)]
  refine wpAny_bind (wpAny_of_eq (a := 2) rfl ?_)
  rw [if_neg (by decide)]
  rw [show ((seqIndex? 2 (#[] : Array Value).size).bind fun i => (#[] : Array Value)[i]?) = none from by decide]
  first
    | exact wpAny_bind (wpAny_rule (by exact_raiseError plainExc_IndexError hA hE))
    | exact wpAny_bind (wpAny_rule (wpAny_bind (by exact_raiseError plainExc_IndexError hA hE)))
    | exact wpAny_bind (wpAny_bind (wpAny_rule (by exact_raiseError plainExc_IndexError hA hE)))
    | exact wpAny_rule (by exact_raiseError plainExc_IndexError hA hE)
end
section
variable {prog : Program} {w : World} {A A₀ : Around} {s : Shared} {base h₀ : Heap} {L : Addr} {m mg mb : Str → Option Value} {env : Env} {news : List (Addr × Obj)} {K : Frag} {p : Program} {loose : List Str} {mean : ExcName → Option Value}
  {R : Result → Shared → Prop} {name qual : Str} {params : Arguments} {body : List Stmt} {scope : Scope} {dV kV doc pm cdv ct oc : Value} {an od : Option Addr} {osl : Array (Option Value)} {f : Addr} {args : Args} {binds : List (Str × Value)}
/-- a call from a frame that stands on the caller alone (its env may have cells): the callee may catch -/
theorem code_defT (B : Below A₀ base [] h₀) (F : Fr h₀ L s.heap m) (X₀ : K.In h₀) (N : News h₀ L s.heap news) (T : Top p loose mean mg mb h₀) (hA : A.frames = some [env]) (hf : env.frame = some L) (hke : env.scope.kind = .function)
    (ho : K.lookup f = some ⟨oc, od, .func (fnOf name qual params body scope dV kV doc pm an cdv ct), osl⟩) (hcd : codeIn K cdv qual = true) (hroom : A.depth < recursionLimit)
    (hbind : BindsTo s (fnOf name qual params body scope dV kV doc pm an cdv ct) args binds) (hloc : ∀ y ∈ binds, scope.names.lookup y.1 = some .local)
    (h : ∀ g L' h₁, Fr g L' h₁ (fun y => binds.reverse.lookup y) → News g L' h₁ news → Below A base [env] g → K.In g → Top p loose mean mg mb g → KtsDicts ([env].filterMap (·.frame)) g →
      wpAny (model prog w) (A.deeper (envOf qual scope L' f cdv)) (execs body (envOf qual scope L' f cdv))
        (fun fl s' => LeaveS0 ([env].filterMap (·.frame)) h₀ L m g R (match fl with | .ret v => v | _ => .none) s')
        (fun e s' => wpAny (model prog w) (A.deeper (envOf qual scope L' f cdv)) (leaving (envOf qual scope L' f cdv) e) (fun _ s'' => R (.error e) s'') (fun e' s'' => R (.error e') s'') s')
        { s with heap := h₁, toks := s.toks + binds.length })
    (hco : scope.isCoroutine = false) (hgen : scope.isGenerator = false) (hk : scope.kind = .function)
    (hcell : ∀ x ∈ scope.names, x.2 ≠ .cell) : codeAny (model prog w) A (.call (.ref f) args) R s := by
  have X := X₀.keeps F.keep
  obtain ⟨FG, BG, st, _⟩ := groundX (R := fun _ _ => True) B F N hA hf hke
  have efs : [env].filterMap (·.frame) = [L] := by simp [hf]
  have hLg : ∃ oL es ep, (hideAll s.heap (news.map (·.1))).get? L = some oL ∧ oL.data = .dict es ep ∧ ∀ (sl : Array (Option Value)) h', h'.get? L = some { oL with slots := sl } → Heap.Ns h' L m := by
    obtain ⟨oL, es, ep, hL, hd, r⟩ := FG.ns
    exact ⟨oL, es, ep, hL, hd, fun sl h' e => ⟨_, es, ep, e, hd, r⟩⟩
  obtain ⟨oL, es, ep, hL, hd, hN⟩ := hLg
  refine codeAny_call_def (fd := fnOf name qual params body scope dV kV doc pm an cdv ct) (body := body) (binds := binds) hroom (X _ _ ho) rfl (T.nolimit.keeps F.keep) (codeRec_of X hcd) rfl hbind hcell hloc (fun h₁ hns hk₁ => ?_) hco hgen hk
  refine wpAny_mono (h _ s.heap.objs.size h₁ ⟨hns, fun b o e => hk₁ b o (of_hideAll _ e), Nat.le_of_eq (hideAll_size _ _)⟩
    (fun p hp => ⟨hk₁ _ _ (N p hp).1, Nat.ne_of_lt (Heap.lt_size (N p hp).1), hideAll_none _ (List.mem_map_of_mem hp)⟩) BG (X₀.keeps st) (T.keeps st) (fun b hb => ?_)) (fun fl s' hl => ?_) fun _ _ y => y
  · rw [efs, List.mem_singleton] at hb
    subst hb
    exact ⟨oL, es, ep, hL, hd⟩
  · obtain ⟨g', L', m', news', T', F', N', k⟩ := hl
    have nL₀ : h₀.get? L = none := kts_self F
    obtain ⟨sl, hs⟩ := T'.up hL
    refine k ⟨hN sl _ (F'.keep _ _ hs), fun b o e => F'.keep b o (T'.other b o (st b o e) (fun q => ?_)), F.above⟩ fun p hp => ⟨(N' p hp).1, fun q => ?_, ?_⟩
    · rw [efs, List.mem_singleton] at q
      rw [q, nL₀] at e
      cases e
    · have := (N' p hp).2.2
      rw [q, hs] at this
      cases this
    · cases q : h₀.get? p.1 with
      | none => rfl
      | some o =>
        obtain ⟨sl', hs'⟩ := T'.up (st _ _ q)
        have := (N' p hp).2.2
        rw [hs'] at this
        cases this
end
local macro_rules | `(tactic| walk_at "subscriptTail") => do let i ← ins "h' tk' e' hx'"; `(tactic| (k_here; (with_reducible show wpAny _ _ (subscriptTail _ _ (Value.ref _) (Value.int 2 _)) _ _ _); refine tup0_out (by first | assumption | exact rfl) (by k_asm) (by k_asm) (by k_mem) ?_; $i; (try dsimp only)))
local macro_rules | `(tactic| walk_at "getAttr") => `(tactic| (k_here; (with_reducible show wpAny _ _ (getAttr (Value.ref 142) (PySem.Str.ofString "__name__") _) _ _ _); refine fnm_142 (by k_asm) (by k_asm) ?_; intro _ _; (try dsimp only)))
section
variable {w : World} {s : Shared} {g : Heap} {A₀ : Around} {hn : Option Value} {d u : Nat} {outer : List Env} {gs : Option (List Code)} {cn : Str} {nm : List (Str × NameKind)} {b1 b2 : Bool} {mo : List (Str × Const)} {L a : Addr} {cd : Value} {cl : List (Str × Addr)}
  {m : Str → Option Value} {Q : Value → Shared → Prop} {E : Value → Shared → Prop} {q : Addr} {a1 a2 a3 : Value} {rest : List (Addr × Obj)} {t : Tok}
theorem safe0 (gx : Gx w g g A₀ [] d u) (F : Fr g L s.heap m) (N : News g L s.heap ((q, tupO []) :: rest))
   (H : ∀ s' tk', Fr g L s'.heap m → News g L s'.heap ((q, tupO []) :: rest) → s'.gens = s.gens → s'.os = s.os → Q (.str "<caller func_get_function_name() failed>" tk') s') :
   wpAny (model PR w) (AG none d [] gs u cn nm b1 b2 mo L a cd cl) (PySem.call (.ref 171) [.ref q, .str "caller" t, .ref 142]) Q E s := by
  obtain ⟨X₀, B, ⟨_, _, _, _, _, T⟩, hd, hu⟩ := gx
  refine wpAny_call ?_
  refine' code_defT ?k1 ?k2 ?k3 ?k4 ?k5 ?kA ?kF ?kK ?k6 ?k7 ?k8 ?k9 ?kB ?_ ?c2 ?c3 ?c4 ?c5
  case kA => exact rfl
  case kF => exact rfl
  case kK => exact rfl
  case k1 => k_asm
  case k2 => k_asm
  case k3 => k_asm
  case k4 => k_asm
  case k5 => k_asm
  case k6 => k_is
  case k7 => k_is
  case k8 => k_room
  case k9 => first | exact binds_K (by k_in) rfl (by k_is) rfl rfl rfl | exact BindsTo.of_eq rfl
  case c5 => decide
  case kB => exact locs rfl
  case c2 => exact rfl
  case c3 => exact rfl
  case c4 => exact rfl
  intro g' L' h' F' N' B' X' T' D'
  (try dsimp only); (try k_lift B'); (try k_fold)
  k_steps
  have e9 : (((((Str.empty ++ Str.ofString "<") ++ Str.ofString "caller") ++ Str.ofString " ") ++ Str.ofString "func_get_function_name") ++ Str.ofString "() failed>" : Str) = Str.ofString "<caller func_get_function_name() failed>" := by decide +kernel
  rw [e9]
  exact H _ _ (by assumption) (by assumption) rfl rfl
end
end JoinQY

section ResetBC
local macro_rules | `(tactic| walk_at "none") => `(tactic| skip)
theorem resetBC : True := by first | walk1 | (w_top off; trivial)
end ResetBC
section JoinBC
theorem small_nat {n : Nat} (hn : n ≤ 1000) : Builtin.Range.small 0 (n : Int) 1 = true := by
  have f : ∀ i : Int, 0 ≤ i → i ≤ 2000 → Range.rangeFitsLong i = true := fun i h1 h2 => by
    unfold Range.rangeFitsLong
    simp only [Bool.and_eq_true, decide_eq_true_eq]
    omega
  have e : Range.rangeSize 0 (n : Int) 1 = (n : Int) := by rw [rangeSize_nat]; omega
  unfold Range.small
  rw [e, f 0 (by decide) (by decide), f n (by omega) (by omega), f 1 (by decide) (by decide)]
  simp only [Bool.and_self, Bool.true_and, Bool.or_eq_true]
  right
  rw [if_pos (by decide)]
  exact f _ (by omega) (by omega)
theorem rangeSize_nat' (n : Nat) : Range.rangeSize 0 (n : Int) 1 = (n : Int) := by rw [rangeSize_nat]; omega
/-- the places of a range that a test takes -/
noncomputable def pick (n : Nat) (p : Nat → Bool) : List Int := ((List.range n).filter p).map Int.ofNat
theorem filter_cast {p : Nat → Bool} : ∀ l : List Nat, ((l.map fun i : Nat => (0 : Int) + (i : Nat) * 1).filter fun a => p a.toNat) = (l.filter p).map Int.ofNat
  | [] => rfl
  | x :: l => by
    have e : (0 : Int) + (x : Nat) * 1 = Int.ofNat x := by show _ = (x : Int); omega
    rw [List.map_cons, e, List.filter_cons, List.filter_cons, filter_cast l]
    show (if p x = true then _ else _) = _
    split <;> rfl
theorem pick_ints {n : Nat} {p : Nat → Bool} {ys : List Value} (h : CarriedAll ys (((rangeInts 0 1 n).filter fun a => p a.toNat).map PyData.int)) : IntsAre ys (pick n p) := by
  unfold rangeInts at h
  rw [filter_cast] at h
  have := CarriedAll.intsOf (f := fun a : Int => a) h
  rwa [List.map_id'] at this
theorem mem_rangeInts {a : Int} {n : Nat} (h : a ∈ rangeInts 0 1 n) : ∃ k : Nat, k < n ∧ a = k := by
  unfold rangeInts at h
  obtain ⟨k, hk, rfl⟩ := List.mem_map.mp h
  exact ⟨k, List.mem_range.mp hk, by omega⟩
section
variable {w : World} {A : Around} {E : Value → Shared → Prop} {s : Shared} {g : Heap} {L : Addr} {m : Str → Option Value} {env : Env} {x y : Str} {ct iter : Expr} {scope : Scope} {cl : List (Str × Addr)} {px px2 py pos spos : Pos}
/-- what a comprehension's test must do -/
noncomputable def TestOk (w : World) (A : Around) (env : Env) (g : Heap) (L : Addr) (m : Str → Option Value) (scope : Scope) (cl : List (Str × Addr)) (ct : Expr) (x : Str) (n : Nat) (p : Nat → Bool) (led : List (Addr × Obj)) : Prop :=
  ∀ C (k : Nat) t s₂ m₂ (E' : Value → Shared → Prop), k < n → Fr g L s₂.heap m → News g L s₂.heap led → InElt s₂.heap s₂.heap → s₂.heap.Ns (compEnvC scope cl C env).locals m₂ → m₂ x = some (.int k t) →
    wpAny (model PR w) A (isTrue ct (compEnvC scope cl C env) (eval ct (compEnvC scope cl C env))) (fun ok s₃ => ok = p k ∧ Keeps s₂ s₃) E' s₂
theorem comp_A {Q : Flow → Shared → Prop} (p : Nat → Bool)
    (h : wpAny (model PR w) A (eval iter env) (fun xv s₁ => ∃ led r n t1 t2 t3, xv = .ref r ∧ (r, rgO (n : Nat) t1 t2 t3) ∈ led ∧ n ≤ 1000 ∧ Fr g L s₁.heap m ∧ News g L s₁.heap led ∧ TestOk w A env g L m scope cl ct x n p led ∧
      (∀ D ys h' tk e, Fr g L h' (fun z => if z = y then some (.ref D) else m z) → News g L h' ((D, listOf ys.toArray e) :: led) → (∀ q ∈ led, q.1 ≠ D) → IntsAre ys (pick n p) → Q .next { s₁ with heap := h', toks := tk })) E s)
    (hsw : swapsWith (.ListComp (.Name x px2) [⟨.Name x px, iter, [ct], 0⟩] scope pos) (some (.Name y py)) spos.line env = pure true) (hL : env.locals = L)
    (hh : A.handled = none) (hclos : closureFor scope env = pure cl) (hcell : ∀ z ∈ scope.names, z.2 ≠ .cell) (hkind : scope.kind = .function)
    (hnames : ∀ z ∈ scope.names, z.2 = .local → scope.names.lookup z.1 = some .local) (hx : scope.names.lookup x = some .local)
    (hy : env.kindOf y = some .local) (hp : (env.scope.kind == .class || (env.scope.kind == .module && env.locals != env.globals)) = false)
    (hloc : ∀ C, (compEnvC scope cl C env).scope.kind = .function ∧ (compEnvC scope cl C env).kindOf x = some .local) (hdb : (x == ("__debug__" : Str)) = false)
    (hs : ∀ x, foldedSetIterable iter env x = pure x) :
    wpAny (model PR w) A (exec (.Assign [.Name y py] (.ListComp (.Name x px2) [⟨.Name x px, iter, [ct], 0⟩] scope pos) spos) env) Q E s := by
  refine Assign_ListComp_DCr (h₀ := g) (L := L) (m := m) (pz := fun k => p k.toNat) (d := PyData.int) (cl := cl) hsw hL hh hclos hcell hkind hnames hx hy hp (wpAny_mono h (fun xv s₁ h₁ => ?_) fun _ _ e => e) hs
  obtain ⟨led, r, n, t1, t2, t3, rfl, hr, hn, F, N, ht, hfin⟩ := h₁
  refine ⟨led, r, 0, n, 1, t1, t2, t3, n, rfl, (N _ hr).1, small_nat hn, rangeSize_nat' n, by have := sizeLine_eq; omega, F, N, ?_, ?_, ?_⟩
  · intro C a v s₂ m₂ E' hC ha hv hns hm hk
    obtain ⟨k, hkn, rfl⟩ := mem_rangeInts ha
    obtain ⟨t, rfl⟩ := hv
    refine wpAny_tests_one ?_
    exact ht C k t s₂ m₂ E' hkn (F.keeps hk) (N.grown hk) (InElt.start _) hns hm
  · intro C a v s₂ m₂ E' hC ha hv hpz hns hm hk
    obtain ⟨t, rfl⟩ := hv
    refine wpAny_Name (wpAny_loadName_local (hloc C).1 (hloc C).2 hns hm ?_) hdb
    exact ⟨.int _ _, _, _, rfl, InElt.start _⟩
  · intro D ys h' tk F' N' hD hl hpl hc
    obtain ⟨⟨e, he⟩, hne⟩ := hpl
    refine hfin D ys h' tk e F' (List.forall_mem_cons.mpr ⟨⟨he, fun q => ?_, hD⟩, N'⟩) hne (pick_ints hc)
    subst q
    obtain ⟨o, es, ep, ho, hd, _⟩ := F'.ns
    rw [he] at ho
    cases ho
    cases hd
theorem comp_E {Q : Value → Shared → Prop} (p : Nat → Bool)
    (h : wpAny (model PR w) A (eval iter env) (fun xv s₁ => ∃ led r n t1 t2 t3, xv = .ref r ∧ (r, rgO (n : Nat) t1 t2 t3) ∈ led ∧ n ≤ 1000 ∧ Fr g L s₁.heap m ∧ News g L s₁.heap led ∧ TestOk w A env g L m scope cl ct x n p led ∧
      (∀ D ys h' tk e, Fr g L h' m → News g L h' ((D, listOf ys.toArray e) :: led) → (∀ q ∈ led, q.1 ≠ D) → IntsAre ys (pick n p) → Q (.ref D) { s₁ with heap := h', toks := tk })) E s)
    (hh : A.handled = none) (hclos : closureFor scope env = pure cl) (hcell : ∀ z ∈ scope.names, z.2 ≠ .cell) (hkind : scope.kind = .function)
    (hnames : ∀ z ∈ scope.names, z.2 = .local → scope.names.lookup z.1 = some .local) (hx : scope.names.lookup x = some .local)
    (hloc : ∀ C, (compEnvC scope cl C env).scope.kind = .function ∧ (compEnvC scope cl C env).kindOf x = some .local) (hdb : (x == ("__debug__" : Str)) = false)
    (hs : ∀ x, foldedSetIterable iter env x = pure x) :
    wpAny (model PR w) A (eval (.ListComp (.Name x px2) [⟨.Name x px, iter, [ct], 0⟩] scope pos) env) Q E s := by
  refine ListComp_DCr (h₀ := g) (L := L) (m := m) (pz := fun k => p k.toNat) (d := PyData.int) (cl := cl) hh hclos hcell hkind hnames hx (wpAny_mono h (fun xv s₁ h₁ => ?_) fun _ _ e => e) hs
  obtain ⟨led, r, n, t1, t2, t3, rfl, hr, hn, F, N, ht, hfin⟩ := h₁
  refine ⟨led, r, 0, n, 1, t1, t2, t3, n, rfl, (N _ hr).1, small_nat hn, rangeSize_nat' n, by have := sizeLine_eq; omega, F, N, ?_, ?_, ?_⟩
  · intro C a v s₂ m₂ E' hC ha hv hns hm hk
    obtain ⟨k, hkn, rfl⟩ := mem_rangeInts ha
    obtain ⟨t, rfl⟩ := hv
    refine wpAny_tests_one ?_
    exact ht C k t s₂ m₂ E' hkn (F.keeps hk) (N.grown hk) (InElt.start _) hns hm
  · intro C a v s₂ m₂ E' hC ha hv hpz hns hm hk
    obtain ⟨t, rfl⟩ := hv
    refine wpAny_Name (wpAny_loadName_local (hloc C).1 (hloc C).2 hns hm ?_) hdb
    exact ⟨.int _ _, _, _, rfl, InElt.start _⟩
  · intro D ys h' tk F' N' hD hl hpl hc
    obtain ⟨⟨e, he⟩, hne⟩ := hpl
    refine hfin D ys h' tk e F' (List.forall_mem_cons.mpr ⟨⟨he, fun q => ?_, hD⟩, N'⟩) hne (pick_ints hc)
    subst q
    obtain ⟨o, es, ep, ho, hd, _⟩ := F'.ns
    rw [he] at ho
    cases ho
    cases hd
end
end JoinBC

section ResetBD
local macro_rules | `(tactic| walk_at "none") => `(tactic| skip)
theorem resetBD : True := by first | walk1 | (w_top off; trivial)
end ResetBD
section JoinBD
theorem Cx.gx {w : World} {g : Heap} {L : Addr} (cx : Cx w g L) : Gx w g g callerA [] callerA.depth callerA.units := ⟨cx.X, cx.B, cx.T, by decide, by decide⟩
theorem range_L {w : World} {A : Around} {E : Value → Shared → Prop} {s : Shared} {g : Heap} {L : Addr} {m : Str → Option Value} {led : List (Addr × Obj)} {n : Int} {t : Tok} {Q : Value → Shared → Prop} (F : Fr g L s.heap m) (N : News g L s.heap led)
    (h : ∀ r h' tk t1 t2 t3, Fr g L h' m → News g L h' ((r, rgO n t1 t2 t3) :: led) → (∀ p ∈ led, p.1 < r) → Q (.ref r) { s with heap := h', toks := tk }) : wpAny (model PR w) A (PySem.call (.type "range") [.int n t]) Q E s :=
  PySem.call_range_1 (h _ _ _ _ _ _ (F.push _) (News.push F N _) fun p hp => Heap.lt_size (N p hp).1)
theorem nadd {g h : Heap} {L : Addr} {p : Addr × Obj} {led : List (Addr × Obj)} (N : News g L h led) (hp : p ∈ led) : News g L h (p :: led) := List.forall_mem_cons.mpr ⟨N p hp, N⟩
theorem ncut {g h : Heap} {L : Addr} {p : Addr × Obj} {led : List (Addr × Obj)} (N : News g L h (p :: led)) : News g L h led := fun q hq => N q (.tail _ hq)
section
variable {w : World} {s : Shared} {g base : Heap} {A₀ : Around} {hn : Option Value} {d u : Nat} {outer : List Env} {gs : Option (List Code)} {cn : Str} {nm : List (Str × NameKind)} {b1 b2 : Bool} {mo : List (Str × Const)} {L a : Addr} {cd : Value} {cl : List (Str × Addr)}
  {m : Str → Option Value} {Q : Value → Shared → Prop} {E : Value → Shared → Prop} {x dx : Addr} {its : List Value} {n nd : Nat} {v : Value} {h0 : Int} {t0 : Tok} {a1 a2 a3 : Value} {led : List (Addr × Obj)} {gl : Obj → List (Addr × Obj)}
theorem pcountF (gx : Gx w g base A₀ outer d u) (F : Fr g L s.heap m) (N : News g L s.heap led) (hx : (x, accO dx its n) ∈ led) (hd : (dx, accD h0 t0 v) ∈ led)
   (H : ∀ h' tk tk', Fr g L h' m → News g L h' led → Q (.int its.length tk) { s with heap := h', toks := tk' }) :
   wpAny (model PR w) (AG hn d outer gs u cn nm b1 b2 mo L a cd cl) (PySem.call (.ref 128) [.ref x]) Q E s :=
  pcount1 gx F (nadd (nadd N hd) (.tail _ hx)) fun h' tk tk' F' N' => H h' tk tk' F' (ncut (ncut N'))
theorem pushF (gx : Gx w g base A₀ outer d u) (F : Fr g L s.heap m) (N : News g L s.heap led) (U : UpdF x (accO dx its n) led gl) (hd : (dx, accD h0 t0 v) ∈ led) (hne : @LT.lt Nat _ dx x) (hz : its.length < 1000)
   (H : ∀ h' n' tk' q, Fr g L h' m → News g L h' ((q, tupO [a1, a2]) :: gl (accO dx (its ++ [.ref q]) n')) → (∀ p ∈ led, p.1 < q) → Q .none { s with heap := h', toks := tk' }) :
   wpAny (model PR w) (AG hn d outer gs u cn nm b1 b2 mo L a cd cl) (PySem.call (.ref 75) [.ref x, a1, a2]) Q E s := by
  obtain ⟨pre, post, rfl, hg, x1, x2⟩ := U.split
  have hr : ∀ p ∈ pre ++ post, p.1 ≠ x := fun p hp => (List.mem_append.mp hp).elim (x1 p) (x2 p)
  have hd' : (dx, accD h0 t0 v) ∈ pre ++ post := by
    rcases List.mem_append.mp hd with hd | hd
    · exact List.mem_append_left _ hd
    · rcases List.mem_cons.mp hd with e | hd
      · exact absurd (congrArg Prod.fst e) (Nat.ne_of_lt hne)
      · exact List.mem_append_right _ hd
  have N1 : News g L s.heap ((x, accO dx its n) :: (dx, accD h0 t0 v) :: (pre ++ post)) := by
    refine List.forall_mem_cons.mpr ⟨N _ (List.mem_append_right _ (.head _)), List.forall_mem_cons.mpr ⟨N _ hd, fun p hp => N p ?_⟩⟩
    exact (List.mem_append.mp hp).elim (List.mem_append_left _) fun h => List.mem_append_right _ (.tail _ h)
  refine push1 gx F N1 hr hne hz fun h' n' tk' q F' N' l1 l2 l3 => H h' n' tk' q F' ?_ ?_
  · rw [hg]
    refine List.forall_mem_cons.mpr ⟨N' _ (.tail _ (.tail _ (.head _))), fun p hp => ?_⟩
    rcases List.mem_append.mp hp with hp | hp
    · exact N' p (.tail _ (.tail _ (.tail _ (List.mem_append_left _ hp))))
    · rcases List.mem_cons.mp hp with rfl | hp
      · exact N' _ (.head _)
      · exact N' p (.tail _ (.tail _ (.tail _ (List.mem_append_right _ hp))))
  · intro p hp
    rcases List.mem_append.mp hp with hp | hp
    · exact l1 p (List.mem_append_left _ hp)
    · rcases List.mem_cons.mp hp with rfl | hp
      · exact l3
      · exact l1 p (List.mem_append_right _ hp)
theorem safeF (gx : Gx w g base A₀ outer d u) (F : Fr g L s.heap m) (N : News g L s.heap led) {q : Addr} {t : Tok} (hq : (q, tupO [a1, a2, a3]) ∈ led)
   (H : ∀ h' tk', Fr g L h' m → News g L h' led → Q a3 { s with heap := h', toks := tk' }) :
   wpAny (model PR w) (AG none d outer gs u cn nm b1 b2 mo L a cd cl) (PySem.call (.ref 171) [.ref q, .str "caller" t, .ref 142]) Q E s :=
  safe1 gx F (nadd N hq) fun h' tk' F' N' => H h' tk' F' (ncut N')
theorem safe0F (gx : Gx w g g A₀ [] d u) (F : Fr g L s.heap m) (N : News g L s.heap led) {q : Addr} {t : Tok} (hq : (q, tupO []) ∈ led)
   (H : ∀ s' tk', Fr g L s'.heap m → News g L s'.heap led → s'.gens = s.gens → s'.os = s.os → Q (.str "<caller func_get_function_name() failed>" tk') s') :
   wpAny (model PR w) (AG none d [] gs u cn nm b1 b2 mo L a cd cl) (PySem.call (.ref 171) [.ref q, .str "caller" t, .ref 142]) Q E s :=
  safe0 gx F (nadd N hq) fun s' tk' F' N' => H s' tk' F' (ncut N')
theorem parentsF (gx : Gx w g base A₀ outer d u) (F : Fr g L s.heap m) (N : News g L s.heap led) {ql : Addr} {vl : List Value} {nl : Nat} {levels : List Int} (hq : (ql, listOf vl.toArray nl) ∈ led) (hI : IntsAre vl levels) (hlen : levels.length ≤ 7)
   (H : ∀ s' q us nq, Fr g L s'.heap m → News g L s'.heap ((q, listOf us.toArray nq) :: led) → IntsAre us (parentsOf levels) → (∀ p ∈ led, p.1 < q) → s'.gens = s.gens → s'.os = s.os → Q (.ref q) s') :
   wpAny (model PR w) (AG none d outer gs u cn nm b1 b2 mo L a cd cl) (PySem.call (.ref 183) [.ref ql]) Q E s :=
  parents1 gx F (nadd N hq) hI hlen fun s' q us nq F' N' hI' _ l1 => H s' q us nq F' (List.forall_mem_cons.mpr ⟨N' _ (.head _), ncut (ncut N')⟩) hI' l1
theorem countF (gx : Gx w g base A₀ outer d u) (F : Fr g L s.heap m) (N : News g L s.heap led) {tA : Addr} {o1 : Obj} {k1 : List (Str × Value)} {c1 : Tab} (ht : (tA, o1) ∈ led) (hd1 : Obj.IsDictOf (strKind PR w) o1 k1) (hf1 : PyProof.V.FlatPairs PyData.str k1 (kdpD c1)) (hl1 : c1.length ≤ 9) (lo1 : (tA == sysModules) = false)
   (H : ∀ s' tk', Fr g L s'.heap m → News g L s'.heap led → s'.gens = s.gens → s'.os = s.os → Q (.int (cntAt c1 c1.length) tk') s') :
   wpAny (model PR w) (AG none d outer gs u cn nm b1 b2 mo L a cd cl) (PySem.call (.ref 163) [.ref tA]) Q E s :=
  count1 gx F (nadd N ht) hd1 hf1 hl1 lo1 fun s' tk' F' N' => H s' tk' F' (ncut N')
theorem addstatsF (gx : Gx w g base A₀ outer d u) (hd9 : d + 30 < recursionLimit) (hu9 : u + 9000 < cLine) (F : Fr g L s.heap m) (N : News g L s.heap led) {T1 T2 tA sA : Addr} {o1 o2 : Obj} {k1 k2 : List (Str × Value)} {c1 c2 : Tab} {x1 x2 x3 x4 y1 y2 y3 y4 : Int} {t1 t2 t3 t4 u1 u2 u3 u4 : Tok}
   (hT1 : (T1, tup5 x1 x2 x3 x4 t1 t2 t3 t4 tA) ∈ led) (hT2 : (T2, tup5 y1 y2 y3 y4 u1 u2 u3 u4 sA) ∈ led) (ht : (tA, o1) ∈ led) (hs : (sA, o2) ∈ led)
   (hd1 : Obj.IsDictOf (strKind PR w) o1 k1) (hf1 : PyProof.V.FlatPairs PyData.str k1 (kdpD c1)) (hl1 : c1.length ≤ 9)
   (hd2 : Obj.IsDictOf (strKind PR w) o2 k2) (hf2 : PyProof.V.FlatPairs PyData.str k2 (kdpD c2)) (hl2 : c2.length ≤ 9) (lo1 : (tA == sysModules) = false) (lo2 : (sA == sysModules) = false)
   (H : ∀ s' Tq q o' kvs' v1 v2 v3 v4, Fr g L s'.heap m → News g L s'.heap ((Tq, tup5 (y1 + x1) (y2 + x2) (y3 + x3) (y4 + x4) v1 v2 v3 v4 q) :: (q, o') :: led) →
      Obj.IsDictOf (strKind PR w) o' kvs' → PyProof.V.FlatPairs PyData.str kvs' (kdpD (merge c1 c2)) → (q == sysModules) = false → @LT.lt Nat _ q Tq → (∀ p ∈ led, p.1 < q) → s'.gens = s.gens → s'.os = s.os → Q (.ref Tq) s') :
   wpAny (model PR w) (AG none d outer gs u cn nm b1 b2 mo L a cd cl) (PySem.call (.ref 149) [.ref T1, .ref T2]) Q E s :=
  addstats1 gx hd9 hu9 F (nadd (nadd (nadd (nadd N hs) (.tail _ ht)) (.tail _ (.tail _ hT2))) (.tail _ (.tail _ (.tail _ hT1)))) hd1 hf1 hl1 hd2 hf2 hl2 lo1 lo2
    fun s' Tq q o' kvs' v1 v2 v3 v4 F' N' D' f' lo' l1 _ _ _ _ l2 => H s' Tq q o' kvs' v1 v2 v3 v4 F' (List.forall_mem_cons.mpr ⟨N' _ (.head _), List.forall_mem_cons.mpr ⟨N' _ (.tail _ (.head _)), ncut (ncut (ncut (ncut (ncut (ncut N')))))⟩⟩) D' f' lo' l1 l2
end
end JoinBD

section ResetBE
local macro_rules | `(tactic| walk_at "none") => `(tactic| skip)
theorem resetBE : True := by first | walk1 | (w_top off; trivial)
end ResetBE
section JoinBE
section
variable {M : Model} {A : Around} {E : Value → Shared → Prop} {s : Shared} {h₀ : Heap} {L a : Addr} {m : Str → Option Value} {cn : Str} {cs : Scope} {ccd : Value} {cl : List (Str × Addr)}
  {x : Str} {v : Value} {Q : Value → Shared → Prop} {news : List (Addr × Obj)} {c : Addr} {o : Obj}
theorem ldnX (F : Fr h₀ L s.heap m) (hv : m x = some v) (h : Q v s) (hk : cs.kind = .function := by rfl) (hx : (envX cn cs L a ccd cl).kindOf x = some .local := by rfl) :
    wpAny M A (loadName (envX cn cs L a ccd cl) x) Q E s := wpAny_loadName_local hk hx F.ns hv h
theorem ldnXC (N : News h₀ L s.heap news) (hc : cl.lookup x = some c) (hm : (c, o) ∈ news) (hd : o.data = .cell (some v)) (h : Q v s)
    (hk : cs.kind = .function := by rfl) (hx : (envX cn cs L a ccd cl).kindOf x = some .cell := by rfl) : wpAny M A (loadName (envX cn cs L a ccd cl) x) Q E s := wpAny_loadName_cell hk hx hc ⟨o, N.get hm, hd⟩ h
end
section
variable {w : World} {A : Around} {E : Value → Shared → Prop} {s : Shared} {g : Heap} {L D b : Addr} {m : Str → Option Value} {led : List (Addr × Obj)} {gl : Obj → List (Addr × Obj)} {its its2 : Array Value} {n n2 : Nat} {Q : Value → Shared → Prop}
theorem iadd_slot : seqSlot? (.type "list") (dunderI "add") = pure (some (.builtin "list.__iadd__")) := PySem.seqSlot_of F.slot_list_iadd.lookup (by decide +kernel)
theorem iadd_nofill : fillsInplaceSlot (.type "list") "add" (Operator.Add == .Add) = pure false := by
  unfold fillsInplaceSlot
  show (typeLookup (.type "list") (dunderI "add") >>= fun fi => pure (fi.isSome && !isSeqSlot fi)) = pure false
  rw [F.slot_list_iadd.lookup]
  kernel_rfl
theorem iadd_L (F : Fr g L s.heap m) (N : News g L s.heap led) (U : UpdF D (listOf its n) led gl) (hb : (b, listOf its2 n2) ∈ led) (hz : its.size + its2.size ≤ 1000)
    (h : ∀ h' n', Fr g L h' m → News g L h' (gl (listOf (its ++ its2) n')) → Q (.ref D) { s with heap := h' }) : wpAny (model PR w) A (inplaceOp .Add (.ref D) (.ref b)) Q E s := by
  obtain ⟨pre, post, rfl, hg, x1, x2⟩ := U.split
  have z := N (D, listOf its n) (List.mem_append.mpr (.inr (.head _)))
  have zb := N _ hb
  have ha : s.TypeIs (.ref D) "list" := ⟨_, z.1, rfl⟩
  have hB : s.TypeIs (.ref b) "list" := ⟨_, zb.1, rfl⟩
  unfold inplaceOp
  refine wpAny_holding ?_
  refine wpAny_bind (wpAny_typeOf ha (wpAny_bind (wpAny_of_eq iadd_nofill ?_)))
  show wpAny _ A (if false = true then _ else _) Q E s
  rw [if_neg Bool.false_ne_true]
  refine wpAny_bind (wpAny_binaryOp1_none (nm := "add") ha hB noFill_list_add ?_)
  refine wpAny_bind (wpAny_of_eq iadd_slot ?_)
  refine wpAny_bind (wpAny_rule ?_)
  have hsl := sizeLine_eq
  refine call_meets PySem.F.slot_list_iadd ha PySem.F.entry_list_iadd (PySem.F.args_list_iadd_2 _ _) (PySem.AutoSeq1.list___iadd___list_list_0 D its n b its2 n2 ?_ (by omega) (by omega)) ⟨z.1, zb.1, ?_⟩
  · unfold Builtin.List.listTooLong
    simp
    intro _
    omega
  · obtain ⟨n', e⟩ : ∃ n', Obj.mapSeq (fun x => x ++ its2) (listOf its n) = listOf (its ++ its2) n' := ⟨_, rfl⟩
    obtain ⟨F', N'⟩ := news_upd F N x1 x2 e (by rfl)
    exact h _ n' F' (by rw [hg]; exact N')
theorem addl_L (F : Fr g L s.heap m) (N : News g L s.heap led) (ha : (D, listOf its n) ∈ led) (hb : (b, listOf its2 n2) ∈ led) (hz : its.size + its2.size ≤ 1000)
    (h : ∀ r h', Fr g L h' m → News g L h' ((r, listOf (its ++ its2) 0) :: led) → (∀ p ∈ led, p.1 < r) → Q (.ref r) { s with heap := h' }) : wpAny (model PR w) A (binaryOp .Add (.ref D) (.ref b)) Q E s := by
  have hsl := sizeLine_eq
  refine concat_meets ⟨_, (N _ ha).1, rfl⟩ ⟨_, (N _ hb).1, rfl⟩ noFill_list_add seq_list_add PySem.F.slot_list_add PySem.F.entry_list_add (PySem.F.args_list_add_2 _ _) (PySem.AutoSeq1.list___add___list_list_0 D its n b its2 n2 (by omega)) ⟨(N _ ha).1, (N _ hb).1, ?_⟩
  exact h _ _ (F.push _) (News.push F N _) fun p hp => Heap.lt_size (N p hp).1
end
end JoinBE

section ResetBF
local macro_rules | `(tactic| walk_at "none") => `(tactic| skip)
theorem resetBF : True := by first | walk1 | (w_top off; trivial)
end ResetBF
section JoinBF
section
variable {w : World} {s : Shared} {g base : Heap} {A₀ : Around} {hn : Option Value} {d u : Nat} {outer : List Env} {gs : Option (List Code)} {cn : Str} {nm : List (Str × NameKind)} {b1 b2 : Bool} {mo : List (Str × Const)} {L a : Addr} {cd : Value} {cl : List (Str × Addr)}
  {m : Str → Option Value} {Q : Value → Shared → Prop} {E : Value → Shared → Prop} {x dx : Addr} {its : List Value} {n nd : Nat} {v : Value} {h0 : Int} {t0 : Tok} {led : List (Addr × Obj)} {gl : Obj → List (Addr × Obj)} {tab : Array Value} {sp : Str} {cs : Nat → Str}
theorem strF (gx : Gx w g base A₀ outer d u) (C2 : CodeHd base 104 100) (F : Fr g L s.heap m) (N : News g L s.heap led) (U : UpdF 100 (tabObj tab) led gl) (hx : (x, accO dx its n) ∈ led) (hd : (dx, accD h0 t0 v) ∈ led) (G : AllBare s.gens) (ht : TriplesOk tab.toList) (hx100 : @Ne Nat x 100) (hd100 : @Ne Nat dx 100)
   (hits : ∀ i, i < its.length → ∃ q t1 t2, its[i]? = some (.ref q) ∧ (q, tupO [.str sp t1, .str (cs i) t2]) ∈ led) (hcs : ∀ i, i < its.length → sp.length + (cs i).length ≤ 1000) (hz : its.length ≤ 900)
   (hok : (((List.range its.length).map fun i => Txt.join "" [sp, cs i]).map (·.length)).sum ≤ 100000)
   (H : ∀ s' t' tab', Fr g L s'.heap m → News g L s'.heap (gl (tabObj tab')) → TriplesOk tab'.toList → AllBare s'.gens → s'.os = s.os → Q (.str (Txt.join "" ((List.range its.length).map fun i => Txt.join "" [sp, cs i])) t') s') :
   wpAny (model PR w) (AG none d outer gs u cn nm b1 b2 mo L a cd cl) (PySem.call (.type "str") [.ref x]) Q E s := by
  obtain ⟨pre, post, rfl, hg, x1, x2⟩ := U.split
  have hr : ∀ p ∈ pre ++ post, p.1 ≠ 100 := fun p hp => (List.mem_append.mp hp).elim (x1 p) (x2 p)
  have N1 : News g L s.heap ((x, accO dx its n) :: (dx, accD h0 t0 v) :: (100, tabObj tab) :: (pre ++ post)) := by
    refine List.forall_mem_cons.mpr ⟨N _ hx, List.forall_mem_cons.mpr ⟨N _ hd, List.forall_mem_cons.mpr ⟨N _ (List.mem_append_right _ (.head _)), fun p hp => N p ?_⟩⟩⟩
    exact (List.mem_append.mp hp).elim (List.mem_append_left _) fun h => List.mem_append_right _ (.tail _ h)
  refine str1 gx C2 F N1 G rfl ht hr hx100 hd100 (fun i hi => ?_) hcs hz hok fun s' t' tab' F' N' t2 G' o' => H s' t' tab' F' ?_ t2 G' o'
  · obtain ⟨q, t1, t2, e, hq⟩ := hits i hi
    refine ⟨q, t1, t2, e, ?_⟩
    rcases List.mem_append.mp hq with hq | hq
    · exact .tail _ (.tail _ (.tail _ (List.mem_append_left _ hq)))
    · rcases List.mem_cons.mp hq with e | hq
      · rw [e]; exact .tail _ (.tail _ (.head _))
      · exact .tail _ (.tail _ (.tail _ (List.mem_append_right _ hq)))
  · rw [hg]
    intro p hp
    rcases List.mem_append.mp hp with hp | hp
    · exact N' p (.tail _ (.tail _ (.tail _ (List.mem_append_left _ hp))))
    · rcases List.mem_cons.mp hp with rfl | hp
      · exact N' _ (.tail _ (.tail _ (.head _)))
      · exact N' p (.tail _ (.tail _ (.tail _ (List.mem_append_right _ hp))))
end
section
variable {w : World} {A : Around} {E : Value → Shared → Prop} {s : Shared} {g : Heap} {L : Addr} {m : Str → Option Value} {env : Env} {x y : Str} {elt iter : Expr} {scope : Scope} {cl : List (Str × Addr)} {px px2 py pos spos : Pos}
theorem areInts : ∀ {vs : List Value} {as : List Int}, IntsAre vs as → AreOf ItemKind.int vs as
  | _, _, .nil => .nil
  | _, _, .cons _ t h => .cons ⟨t, rfl⟩ (areInts h)
/-- a list of texts made of a list of ints -/
theorem comp_S {Q : Value → Shared → Prop} (f : Int → Str)
    (h : wpAny (model PR w) A (eval iter env) (fun xv s₁ => ∃ led ax vs as e, xv = .ref ax ∧ (ax, listOf (List.toArray vs) e) ∈ led ∧ IntsAre vs as ∧ as.length ≤ 1000 ∧ Fr g L s₁.heap m ∧ News g L s₁.heap led ∧
      (∀ C (a : Int) t s₂ m₂ (E' : Value → Shared → Prop), a ∈ as → Fr g L s₂.heap m → News g L s₂.heap led → InElt s₂.heap s₂.heap → s₂.heap.Ns (compEnvC scope cl C env).locals m₂ → m₂ x = some (.int a t) →
        wpAny (model PR w) A (eval elt (compEnvC scope cl C env)) (fun y s₃ => Carried y (.str (f a)) ∧ Keeps s₂ s₃) E' s₂) ∧
      (∀ D ys h' tk e, Fr g L h' m → News g L h' ((D, listOf (List.toArray ys) e) :: led) → (∀ q ∈ led, q.1 ≠ D) → StrsAre ys (as.map f) → Q (.ref D) { s₁ with heap := h', toks := tk })) E s)
    (hh : A.handled = none) (hclos : closureFor scope env = pure cl) (hcell : ∀ z ∈ scope.names, z.2 ≠ .cell) (hkind : scope.kind = .function)
    (hnames : ∀ z ∈ scope.names, z.2 = .local → scope.names.lookup z.1 = some .local) (hx : scope.names.lookup x = some .local)
    (hs : ∀ x, foldedSetIterable iter env x = pure x) :
    wpAny (model PR w) A (eval (.ListComp elt [⟨.Name x px, iter, [], 0⟩] scope pos) env) Q E s := by
  refine ListComp_DCn (h₀ := g) (L := L) (m := m) (K := ItemKind.int) (pz := fun _ => true) (d := fun a => PyData.str (f a)) (cl := cl) hh hclos hcell hkind hnames hx (wpAny_mono h (fun xv s₁ h₁ => ?_) fun _ _ e => e) hs
  obtain ⟨led, ax, vs, as, e, rfl, hr, hI, hn, F, N, ht, hfin⟩ := h₁
  refine ⟨led, ax, vs, as, rfl, ⟨_, (N _ hr).1, rfl, e, rfl⟩, areInts hI, by have := sizeLine_eq; omega, F, N, ?_, ?_, ?_⟩
  · intro C a v s₂ m₂ E' hC ha hv hns hm hk
    rw [List.forIn_nil]
    exact wpAny_pure ⟨rfl, _, _, rfl, InElt.start _⟩
  · intro C a v s₂ m₂ E' hC ha hv hpz hns hm hk
    obtain ⟨t, rfl⟩ := hv
    exact ht C a t s₂ m₂ E' ha (F.keeps hk) (N.grown hk) (InElt.start _) hns hm
  · intro D ys h' tk F' N' hD hl hpl hc
    obtain ⟨⟨e, he⟩, hne⟩ := hpl
    rw [filter_allG] at hc
    refine hfin D ys h' tk e F' (List.forall_mem_cons.mpr ⟨⟨he, fun q => ?_, hD⟩, N'⟩) hne hc.strsOf
    subst q
    obtain ⟨o, es, ep, ho, hd, _⟩ := F'.ns
    rw [he] at ho
    cases ho
    cases hd
end
theorem no_bytes_iadd : typeLookup (.type "bytes") (dunderI "add") = pure none := by rw [typeLookup_type, builtinLookup_eq_fast]; kernel_rfl
section
variable {prog : Program} {w : World} {A : Around} {E : Value → Shared → Prop} {s : Shared} {b c : Array UInt8} {t u : Tok}
theorem ibytes_add {Q : Value → Shared → Prop} (hsz : b.size + c.size ≤ 16777216) (h : ∀ t' k, Q (.bytes (b ++ c) t') { s with toks := k }) : wpAny (model prog w) A (inplaceOp .Add (.bytes b t) (.bytes c u)) Q E s := by
  refine iconcat_gives (typeIs_bytes s b t) (typeIs_bytes s c u) no_bytes_iadd KBy.noFill_bytes_add KBy.seq_bytes_add FB.slot_bytes_add FB.entry_bytes_add (FB.args_bytes_add_2 _ _) (KBy.gives_bytes_add (KBy.tooLong_not hsz)) ?_
  by_cases hb : b.isEmpty = true
  · rw [if_pos hb]
    have e : b ++ c = c := by rw [Array.isEmpty_iff.mp hb]; exact Array.empty_append
    rw [e] at h
    exact h _ _
  · rw [if_neg hb]
    by_cases hc : c.isEmpty = true
    · rw [if_pos hc]
      have e : b ++ c = b := by rw [Array.isEmpty_iff.mp hc]; exact Array.append_empty
      rw [e] at h
      exact h _ _
    · rw [if_neg hc]
      exact ⟨by have := sizeLine_eq; simp; omega, h _ _⟩
end
end JoinBF

section ResetBG
local macro_rules | `(tactic| walk_at "none") => `(tactic| skip)
theorem resetBG : True := by first | walk1 | (w_top off; trivial)
end ResetBG
section JoinBG
theorem news_ne {g h : Heap} {L : Addr} {led : List (Addr × Obj)} {a b : Addr} {o p : Obj} (N : News g L h led) (ha : (a, o) ∈ led) (hb : (b, p) ∈ led) (hne : o.cls ≠ p.cls) : @Ne Nat a b := fun e => by
  have e : a = b := e
  subst e
  have h1 := (N _ ha).1
  rw [(N _ hb).1] at h1
  cases h1
  exact hne rfl
section
variable {w : World} {s : Shared} {g base : Heap} {A₀ : Around} {hn : Option Value} {d u : Nat} {outer : List Env} {gs : Option (List Code)} {cn : Str} {nm : List (Str × NameKind)} {b1 b2 : Bool} {mo : List (Str × Const)} {L a : Addr} {cd : Value} {cl : List (Str × Addr)}
  {m : Str → Option Value} {Q : Value → Shared → Prop} {E : Value → Shared → Prop} {x dx : Addr} {its : List Value} {n nd : Nat} {v : Value} {h0 : Int} {t0 : Tok} {a1 : Value} {led rest : List (Addr × Obj)} {gl : Obj → List (Addr × Obj)}
theorem popF (gx : Gx w g base A₀ outer d u) (F : Fr g L s.heap m) (N : News g L s.heap led) (U : UpdF x (accO dx (its ++ [a1]) n) led gl) (hd : (dx, accD h0 t0 v) ∈ led) (hne : @LT.lt Nat _ dx x) (hz : its.length < 900)
   (H : ∀ h' n' tk', Fr g L h' m → News g L h' (gl (accO dx its n')) → Q a1 { s with heap := h', toks := tk' }) :
   wpAny (model PR w) (AG hn d outer gs u cn nm b1 b2 mo L a cd cl) (PySem.call (.ref 91) [.ref x]) Q E s := by
  obtain ⟨pre, post, rfl, hg, x1, x2⟩ := U.split
  have hr : ∀ p ∈ pre ++ post, p.1 ≠ x := fun p hp => (List.mem_append.mp hp).elim (x1 p) (x2 p)
  have N1 : News g L s.heap ((x, accO dx (its ++ [a1]) n) :: (dx, accD h0 t0 v) :: (pre ++ post)) := by
    refine List.forall_mem_cons.mpr ⟨N _ (List.mem_append_right _ (.head _)), List.forall_mem_cons.mpr ⟨N _ hd, fun p hp => N p ?_⟩⟩
    exact (List.mem_append.mp hp).elim (List.mem_append_left _) fun h => List.mem_append_right _ (.tail _ h)
  refine pop1 gx F N1 hr hne hz fun h' n' tk' F' N' => H h' n' tk' F' ?_
  rw [hg]
  intro p hp
  rcases List.mem_append.mp hp with hp | hp
  · exact N' p (.tail _ (.tail _ (List.mem_append_left _ hp)))
  · rcases List.mem_cons.mp hp with rfl | hp
    · exact N' _ (.head _)
    · exact N' p (.tail _ (.tail _ (List.mem_append_right _ hp)))
theorem popF1 (gx : Gx w g base A₀ outer d u) (F : Fr g L s.heap m) (N : News g L s.heap led) (U : UpdF x (accO dx [a1] n) led gl) (hd : (dx, accD h0 t0 v) ∈ led) (hne : @LT.lt Nat _ dx x)
   (H : ∀ h' n' tk', Fr g L h' m → News g L h' (gl (accO dx [] n')) → Q a1 { s with heap := h', toks := tk' }) :
   wpAny (model PR w) (AG hn d outer gs u cn nm b1 b2 mo L a cd cl) (PySem.call (.ref 91) [.ref x]) Q E s := popF (its := []) gx F N U hd hne (by decide) H
theorem popfromF (gx : Gx w g base A₀ outer d u) (F : Fr g L s.heap m) (N : News g L s.heap ((x, accO dx its n) :: (dx, accD h0 t0 v) :: rest)) (hr1 : ∀ p ∈ rest, p.1 ≠ x) (hne : @LT.lt Nat _ dx x) (hz : its.length < 900) {t}
   (H : ∀ h' n' tk' q nq, Fr g L h' m → News g L h' ((x, accO dx (its.take 2) n') :: (q, listOf (its.drop 2).toArray nq) :: (dx, accD h0 t0 v) :: rest) → @Ne Nat q x → @Ne Nat q dx → Q (.ref q) { s with heap := h', toks := tk' }) :
   wpAny (model PR w) (AG hn d outer gs u cn nm b1 b2 mo L a cd cl) (PySem.call (.ref 83) [.ref x, .int 2 t]) Q E s :=
  popfrom1 gx F N hr1 hne hz fun h' n' tk' q nq F' N' => H h' n' tk' q nq F' N' (news_ne N' (.tail _ (.head _)) (.head _) (fun q => by cases q)) (news_ne N' (.tail _ (.head _)) (.tail _ (.tail _ (.head _))) (fun q => by injection q with q; exact absurd q (by decide)))
theorem resetF (gx : Gx w g base A₀ outer d u) (F : Fr g L s.heap m) {ql nl} {vs : List Value} (N : News g L s.heap ((x, accO dx its n) :: (dx, accD h0 t0 v) :: rest)) (hq : (ql, listOf vs.toArray nl) ∈ rest) (hr1 : ∀ p ∈ rest, p.1 ≠ x) (hne : @LT.lt Nat _ dx x) (hz : its.length < 900) (hz2 : vs.length < 900) (hr2 : ∀ p ∈ rest, p.1 ≠ dx)
   (H : ∀ h' n' tk' v', Fr g L h' m → News g L h' ((x, accO dx vs n') :: (dx, accD h0 t0 v') :: rest) → Q .none { s with heap := h', toks := tk' }) :
   wpAny (model PR w) (AG hn d outer gs u cn nm b1 b2 mo L a cd cl) (PySem.call (.ref 113) [.ref x, .ref ql]) Q E s :=
  reset1 gx F (rest := rest) (List.forall_mem_cons.mpr ⟨N _ (.head _), List.forall_mem_cons.mpr ⟨N _ (.tail _ (.head _)), List.forall_mem_cons.mpr ⟨N _ (.tail _ (.tail _ hq)), fun p hp => N p (.tail _ (.tail _ hp))⟩⟩⟩) hr1 hne hz hz2 (hr1 _ hq) hr2 (hr2 _ hq)
    fun h' n' tk' v' F' N' => H h' n' tk' v' F' (List.forall_mem_cons.mpr ⟨N' _ (.head _), List.forall_mem_cons.mpr ⟨N' _ (.tail _ (.head _)), fun p hp => N' p (.tail _ (.tail _ (.tail _ hp)))⟩⟩)
end
section
variable {w : World} {A : Around} {E : Value → Shared → Prop} {s : Shared} {g : Heap} {L : Addr} {m : Str → Option Value} {led : List (Addr × Obj)} {a b : Addr} {x y : Str} {t u t' u' : Tok} {Q : Value → Shared → Prop}
theorem ne_pair (N : News g L s.heap led) (ha : (a, tupO [.str x t, .str y u]) ∈ led) (hb : (b, ({ cls := .type "tuple", data := .seq #[.str x t', .str y u'] } : Obj)) ∈ led) (hx : PyData.strOk x = true) (hy : PyData.strOk y = true) (hu : A.units + 64 < cLine) (h : Q (.bool false) s) :
    wpAny (model PR w) A (compareOp .NotEq (.ref a) (.ref b)) Q E s := by
  have hs : SeqAt.shaped (PyData.tuple [PyData.str x, PyData.str y]) = true := by
    simp [SeqAt.shaped, PyData.canLay0, PyData.canLayAll0, PyData.depth, PyData.depthAll, hx, hy]
  refine ne_dataH (da := .tuple [.str x, .str y]) (db := .tuple [.str x, .str y]) (reads_tuple_at (N _ ha).1 rfl rfl (ReadsAll.cons (as := []) (bs := []) (Reads.str _ _) (ReadsAll.cons (as := []) (bs := []) (Reads.str _ _) .nil)))
    (reads_tuple_at (N _ hb).1 rfl rfl (ReadsAll.cons (as := []) (bs := []) (Reads.str _ _) (ReadsAll.cons (as := []) (bs := []) (Reads.str _ _) .nil))) hs hs hu ?_
  have e : (!PyData.eqv (.tuple [.str x, .str y]) (.tuple [.str x, .str y])) = false := by
    simp [PyData.eqv, PyData.eqvAll]
  rw [e]
  exact h
end
end JoinBG

section ResetS15
local macro_rules | `(tactic| walk_at "none") => `(tactic| skip)
theorem resetS15 : True := by first | walk1 | (w_top off; trivial)
end ResetS15
section JoinS15
section
variable {w : World} {s : Shared} {g : Heap} {L fa : Addr} {m : Str → Option Value} {Q : Flow → Shared → Prop} {E : Value → Shared → Prop}
theorem seg15 {pl nA : Addr} {vp : List Value} {np : Nat} {ps : List Int} {cP : Obj} {t1 t2 t3 : Tok} {n : Nat} {rest : List (Addr × Obj)} (cx : Cx w g L) (F : Fr g L s.heap m) (hl : m (Str.ofString "nodes") = some (.ref nA)) (hn : n ≤ 7) (hpn : ps.length = n)
   (hI : IntsAre vp ps) (hcl : cP.data = .cell (some (.ref pl)))
   (N : News g L s.heap ((L + 1, cP) :: (pl, listOf vp.toArray np) :: (nA, rgO n t1 t2 t3) :: rest))
   (H : ∀ D ys h' tk e, Fr g L h' (fun z => if z = Str.ofString "coming" then some (.ref D) else m z) → News g L h' ((D, listOf ys.toArray e) :: (L + 1, cP) :: (pl, listOf vp.toArray np) :: (nA, rgO n t1 t2 t3) :: rest) →
     (∀ q ∈ ((L + 1, cP) :: (pl, listOf vp.toArray np) :: (nA, rgO n t1 t2 t3) :: rest), q.1 ≠ D) → IntsAre ys (pick n fun k => ps.getD k 0 == -1) → Q .next { s with heap := h', toks := tk }) :
   wpAny (model PR w) (ALaw L fa) (exec (lawSt 15) (envLaw L fa)) Q E s := by
  obtain ⟨X₀, B, ⟨_, _, _, _, _, T⟩, C1, C2, l0⟩ := cx
  conv => arg 3; arg 1; whnf
  unfold ALaw envLaw
  conv in (occs := *) lawScope => all_goals whnf
  refine comp_A (L := L) (g := g) (m := m) (cl := [(Str.ofString "parents", L + 1)]) (fun k => ps.getD k 0 == -1) (nameX_L F hl ⟨_, nA, n, t1, t2, t3, rfl, .tail _ (.tail _ (.head _)), by omega, F, N, ?_, H⟩) rfl rfl rfl rfl (by decide) rfl (by decide) (by decide) rfl rfl (fun _ => ⟨rfl, rfl⟩) (by decide) (fun _ => rfl)
  intro C k t s₂ m₂ E' hk F2 N2 E2 hns hm
  k_steps
  exact ⟨_, _, rfl, E2⟩
end
end JoinS15

local macro_rules | `(tactic| walk_at "call ref") => lineF `X17.forest1 176 "s a a s s s _" "s' tA lA pA us ps nn n5 F' N' hus hps l1 l2 l3 hg ho" "l"
local macro_rules | `(tactic| walk_at "call ref") => lineF `X17.parentsF 183 "s a a e s o _" "s' q' us' nq' F' N' hus' l1 hg' ho'" "l"
local macro_rules | `(tactic| walk_at "call ref") => lineF `X17.pcountF 128 "s a a e e _" "h' tk' tk'' F' N'" ""
local macro_rules | `(tactic| walk_at "call ref") => lineF `X17.pushF 75 "s a a u e o o _" "h' n' tk' q' F' N' l1" "nl"
local macro_rules | `(tactic| walk_at "call ref") => lineF `X17.acc_new 131 "s a a _" "h' n' tk' x' dx' h0' t0' v' F' N' l1 l2" "l"
local macro_rules | `(tactic| walk_at "call ref") => lineF `X17.addstatsF 149 "s d d a a e e e e s s s s s z s s _" "s' Tq' q' o' kvs' v1' v2' v3' v4' F' N' hd' hf' lo' l2 l1 hg' ho'" "l"
local macro_rules | `(tactic| walk_at "storeName") => line0 `PySem.W.storeX_C "a a r u f _" "h' o' F' N' cd'" "n"
local macro_rules | `(tactic| walk_at "call type:range") => do lineA (← `(tactic| (with_reducible show wpAny _ _ (PySem.call (Value.type _) [Value.int _ _]) _ _ _))) `X17.range_L "a a _" "r' h' tk' t1' t2' t3' F' N' l1" "l"
local macro_rules | `(tactic| walk_at "call ref") => do let g ← `(tactic| (with_reducible show wpAny _ _ (PySem.call (Value.ref 51) [Value.bytes _ _, Value.int _ _]) _ _ _)); let l ← lineF `X17.pd1 51 "s a a s s _" "s' tk' F' N' hg' ho'" "d"; `(tactic| ($g; $l))
local macro_rules | `(tactic| walk_at "call ref") => do let g ← `(tactic| (with_reducible show wpAny _ _ (PySem.call (Value.ref 51) [Value.bytes _ _]) _ _ _)); let l ← lineF `X17.pd0 51 "s a a s s _" "s' tk' F' N' hg' ho'" "d"; `(tactic| ($g; $l))
local macro_rules | `(tactic| walk_at "inplaceOp Add ref") => do lineA (← `(tactic| (with_reducible show wpAny _ _ (inplaceOp Operator.Add (Value.ref _) (Value.ref _)) _ _ _))) `X17.iadd_L "a a u e L _" "h' n' F' N'" "n"
local macro_rules | `(tactic| walk_at "loadName") => line0 `X17.ldnXC "a r e f _" "" ""
local macro_rules | `(tactic| walk_at "loadName") => line0 `X17.ldnX "a h _" "" ""
local macro_rules | `(tactic| walk_at "call ref") => lineF `X17.safeF 171 "s a a e _" "h' tk' F' N'" ""
local macro_rules | `(tactic| walk_at "call ref") => do lineA (← guardC 171) `X17.safe0F "s a a e _" "s' tk' F' N' hg' ho'" ""
local macro_rules | `(tactic| walk_at "eval Dict") => do let g ← `(tactic| (with_reducible show wpAny _ _ (eval (PySem.Expr.Dict [_] [_] _) _) _ _ _)); let as ← args "a a T r r c b _"; let l ← lineT (← `(kdn_eval (knd := PySem.strKind PR _) $as*)) "d' h' o' F' N' l1 lo' hd'" "l"; `(tactic| (k_here; $g; k_dflt $l))
local macro_rules | `(tactic| walk_at "inplaceOp Add bytes bytes") => `(tactic| (k_here; (with_reducible show wpAny _ _ (inplaceOp Operator.Add (Value.bytes _ _) (Value.bytes _ _)) _ _ _); refine ibytes_add (by simp; omega) ?_; intro _ _))
local macro_rules | `(tactic| walk_at "call ref") => lineF `X17.popfromF 83 "s a a s o L _" "h' n' tk' q' nq' F' N' ne1 ne2" ""
local macro_rules | `(tactic| walk_at "call ref") => lineF `X17.popF 91 "s a a u e o L _" "h' n' tk' F' N'" "n"
local macro_rules | `(tactic| walk_at "binaryOp Add ref ref") => do lineA (← `(tactic| (with_reducible show wpAny _ _ (binaryOp Operator.Add (Value.ref _) (Value.ref _)) _ _ _))) `X17.addl_L "a a e e L _" "r' h' F' N' l1" "l"
local macro_rules | `(tactic| walk_at "call ref") => lineF `X17.popF1 91 "s a a u e o _" "h' n' tk' F' N'" "n"
local macro_rules | `(tactic| walk_at "compareOp NotEq ref ref") => `(tactic| (k_here; (with_reducible show wpAny _ _ (compareOp CmpOp.NotEq (Value.ref _) (Value.ref _)) _ _ _); k_dflt (refine ne_pair (by k_asm) (by k_mem) (by k_mem) (by assumption) (by assumption) (by exact Nat.le_of_ble_eq_true rfl) ?_)))

section ResetSA
local macro_rules | `(tactic| walk_at "none") => `(tactic| skip)
theorem resetSA : True := by first | walk1 | (w_top off; trivial)
end ResetSA
section JoinSA
theorem levels_len (script : List Int) : (levelsOf script).length ≤ 7 ∧ 3 ≤ (levelsOf script).length := by
  have e : (levelsOf script).length = (nums script).length := (FSat_ok script _).1
  rw [e]
  exact nums_len script
theorem pieces_len (script : List Int) : (piecesOf script).length = (levelsOf script).length + 1 := by
  have e : (levelsOf script).length = (nums script).length := (FSat_ok script _).1
  rw [e]
  unfold piecesOf
  rw [List.length_append, (FSat_ok script _).2.1]
  rfl
section
variable {w : World} {s : Shared} {g : Heap} {L fa : Addr} {m : Str → Option Value} {Q : Flow → Shared → Prop} {E : Value → Shared → Prop} {tail : List Stmt}
theorem segA {sl : Addr} {vs : List Value} {script : List Int} {c1 c2 c3 c4 c5 : Obj} {tb1 tb2 : Array Value} (cx : Cx w g L) (F : Fr g L s.heap m) (hl : m (Str.ofString "script") = some (.ref sl)) (hsl : g.IsList sl vs.toArray) (hI : IntsAre vs script) (hlen : script.length ≤ 63)
   (h5 : c5.data = .cell none)
   (N : News g L s.heap [(L + 1 + 1 + 1 + 1 + 1, c5), (L + 1 + 1 + 1 + 1, c4), (L + 1 + 1 + 1, c3), (L + 1 + 1, c2), (L + 1, c1), (185, tabObj tb1), (100, tabObj tb2)])
   (H : ∀ s' m' lA pA nA dl us pcs n1 n2 n3 t1 t2 t3 td c5', Fr g L s'.heap m' → m' (Str.ofString "nodes") = some (.ref nA) → m' (Str.ofString "pieces") = some (.ref pA) → m' (Str.ofString "depths") = some (.ref dl) → m' (Str.ofString "depth") = some (.int 0 td) →
     News g L s'.heap [(dl, listOf #[] n3), (nA, rgO (levelsOf script).length t1 t2 t3), (pA, listOf (List.toArray pcs) n2), (lA, listOf (List.toArray us) n1), (L + 1 + 1 + 1 + 1 + 1, c5'), (L + 1 + 1 + 1 + 1, c4), (L + 1 + 1 + 1, c3), (L + 1 + 1, c2), (L + 1, c1), (185, tabObj tb1), (100, tabObj tb2)] →
     c5'.data = .cell (some (.ref lA)) → IntsAre us (levelsOf script) → BytesAre pcs (piecesOf script) → @LT.lt Nat _ (L + 1 + 1 + 1 + 1 + 1) lA → @LT.lt Nat _ lA pA → @LT.lt Nat _ pA nA → @LT.lt Nat _ nA dl → s'.gens = s.gens → s'.os = s.os →
     wpAny (model PR w) (ALaw L fa) (execs tail (envLaw L fa)) Q E s') :
   wpAny (model PR w) (ALaw L fa) (execs (lawSt 0 :: lawSt 1 :: lawSt 2 :: lawSt 3 :: tail) (envLaw L fa)) Q E s := by
  conv in (occs := *) lawSt _ => all_goals whnf
  unfold ALaw envLaw
  conv in (occs := *) lawScope => all_goals whnf
  have gX := cx.gx
  obtain ⟨X₀, B, ⟨_, _, _, _, _, T⟩, C1, C2, l0⟩ := cx
  have l9 : @LT.lt Nat _ 185 L := l0
  have hl7 := (levels_len script).1
  k_steps
  rename_i s9 tA lA pA us ps nn n5 hus hps l2 l3 hg ho l1 h1 h2 o5 cd h3 k0 nA h5 k3 t1 t2 t3 lN h6 k4 dl h7 lD h8 h9 F9 N9
  exact H _ _ lA pA nA dl us ps nn n5 _ t1 t2 t3 _ o5 F9 rfl rfl rfl rfl (by lge_lay) cd hus hps l1.1 l2 lN.2.1 lD.1 hg ho
end
end JoinSA

section ResetS4
local macro_rules | `(tactic| walk_at "none") => `(tactic| skip)
theorem resetS4 : True := by first | walk1 | (w_top off; trivial)
end ResetS4
section JoinS4
inductive PieceJ (g : Heap) (L pA nA dl : Addr) (pcs : List Value) (n2 n : Nat) (t1 t2 t3 : Tok) (rest : List (Addr × Obj)) (D : List Int) (s : Shared) (it : Value) (k : Nat) (s' : Shared) : Prop
  | mk (I : _) (m' : _) (vd : _) (n3 : _) (td : _) : (it = .ref I) → (Fr g L s'.heap m') → (m' (Str.ofString "nodes") = some (.ref nA)) → (m' (Str.ofString "pieces") = some (.ref pA)) → (m' (Str.ofString "depths") = some (.ref dl)) → (m' (Str.ofString "depth") = some (.int (D.getD k 0) td)) → (News g L s'.heap ((dl, listOf (List.toArray vd) n3) :: (I, itO pA k) :: (nA, rgO n t1 t2 t3) :: (pA, listOf (List.toArray pcs) n2) :: rest)) → (IntsAre vd ((D.drop 1).take k)) → (@LT.lt Nat _ dl I) → (@LT.lt Nat _ pA dl) → (@LT.lt Nat _ nA dl) → ((∀ p ∈ rest, p.1 < dl)) → (s'.gens = s.gens) → (s'.os = s.os) → PieceJ g L pA nA dl pcs n2 n t1 t2 t3 rest D s it k s'
section
variable {w : World} {s : Shared} {g : Heap} {L fa : Addr} {m : Str → Option Value} {Q : Flow → Shared → Prop} {E : Value → Shared → Prop} {tail : List Stmt}
theorem seg4 {pA nA dl : Addr} {pcs : List Value} {pieces : List (Array UInt8)} {n2 n3 n : Nat} {t1 t2 t3 td : Tok} {rest : List (Addr × Obj)} {D : List Int} (cx : Cx w g L) (F : Fr g L s.heap m) (hn : m (Str.ofString "nodes") = some (.ref nA)) (hp : m (Str.ofString "pieces") = some (.ref pA)) (hd : m (Str.ofString "depths") = some (.ref dl)) (hd0 : m (Str.ofString "depth") = some (.int 0 td))
   (N : News g L s.heap ((dl, listOf #[] n3) :: (nA, rgO n t1 t2 t3) :: (pA, listOf (List.toArray pcs) n2) :: rest)) (hI : BytesAre pcs pieces) (hlt : @LT.lt Nat _ pA dl) (hlt2 : @LT.lt Nat _ nA dl) (hrest : ∀ p ∈ rest, p.1 < dl) (hz : pieces.length ≤ 8)
   (hD : D.length = pieces.length + 1) (hD0 : D.getD 0 0 = 0) (hP : ∀ k p, pieces[k]? = some p → p.size ≤ 1000 ∧ ∃ cs, Cut (p.map (·.toNat)).toList cs ∧ D.getD k 0 + (toB cs.flatten).toList.count 40 - (toB cs.flatten).toList.count 41 = D.getD (k + 1) 0)
   (H : ∀ s' m' vd n3, Fr g L s'.heap m' → m' (Str.ofString "nodes") = some (.ref nA) → m' (Str.ofString "pieces") = some (.ref pA) → m' (Str.ofString "depths") = some (.ref dl) →
     News g L s'.heap ((dl, listOf (List.toArray vd) n3) :: (nA, rgO n t1 t2 t3) :: (pA, listOf (List.toArray pcs) n2) :: rest) → IntsAre vd (D.drop 1) → s'.gens = s.gens → s'.os = s.os → Q .next s') :
   wpAny (model PR w) (ALaw L fa) (exec (lawSt 4) (envLaw L fa)) Q E s := by
  have gX := cx.gx
  obtain ⟨X₀, B, ⟨_, _, _, _, _, T⟩, C1, C2, l0⟩ := cx
  conv in (occs := *) lawSt _ => all_goals whnf
  unfold ALaw envLaw
  conv in (occs := *) lawScope => all_goals whnf
  refine for_go (n := pieces.length) (PieceJ g L pA nA dl pcs n2 n t1 t2 t3 rest D s) ?_ ?_ ?_
  · refine nameX_L F hp ?_
    refine liter_K F N ⟨_, (N _ (.tail _ (.tail _ (.head _)))).1, rfl, n2, rfl⟩ ?_
    intro I h7 F7 N7 l7 l8
    exact ⟨I, _, [], _, _, rfl, F7, hn, hp, hd, by rw [hD0]; exact hd0, by lge_lay, .nil, l7 (dl, _) (.head _), hlt, hlt2, hrest, rfl, rfl⟩
  · rintro it k s' E' hk ⟨I, m', vd, n3, td, rfl, F8, e1, e2, e3, e4, N8, hvd, l1, l2, l3, l4, hg8, ho8⟩
    generalize hB : PieceJ g L pA nA dl pcs n2 n t1 t2 t3 rest D s (.ref I) (k + 1) = B
    obtain ⟨hsz, cs, hcut, hcnt⟩ := hP k _ (List.getElem?_eq_getElem hk)
    obtain ⟨tp, hx⟩ := hI.get hk
    refine next_K F8 N8 (.tail (Nat.ne_of_lt l1) (.head (List.forall_mem_cons.mpr ⟨Nat.ne_of_lt (Nat.lt_trans l3 l1), List.forall_mem_cons.mpr ⟨Nat.ne_of_lt (Nat.lt_trans l2 l1), fun p hp => Nat.ne_of_lt (Nat.lt_trans (l4 p hp) l1)⟩⟩))) (.tail _ (.tail _ (.tail _ (.head _)))) ⟨_, rfl⟩ (by rw [List.getElem?_toArray]; exact hx) ?_
    intro h' F9 N9
    refine ⟨_, rfl, wpAny_pure ?_⟩
    refine wpAny_assign_Name ?_
    (try dsimp only at N9)
    clear F8 N8
    have hr9 : ∀ p ∈ rest, p.1 ≠ dl := fun p hp => Nat.ne_of_lt (l4 p hp)
    have hvl : vd.length = min k (D.length - 1) := by rw [hvd.length, List.length_take, List.length_drop]
    walk1
    k_steps
    rename_i h_1 tk_1 s_1 tk_2 hg_1 ho_1 h_2 tk_3 h_3 F3 N3
    rw [hcnt] at F3 N3
    rw [List.push_toArray] at N3
    have hst : (D.drop 1).take (k + 1) = (D.drop 1).take k ++ [D.getD (k + 1) 0] := by
      rw [List.take_add_one, List.getElem?_drop, List.getD_eq_getElem?_getD, Nat.add_comm 1 k]
      rw [List.getElem?_eq_getElem (show k + 1 < D.length by omega)]
      rfl
    subst hB
    exact ⟨I, _, _, _, _, rfl, F3, e1, e2, e3, rfl, by lge_lay, by rw [hst]; exact hvd.append (.cons _ _ .nil), l1, l2, l3, l4, hg_1.trans hg8, ho_1.trans ho8⟩
  · rintro it s' E' ⟨I, m', vd, n3, td, rfl, F8, e1, e2, e3, e4, N8, hvd, l1, l2, l3, l4, hg8, ho8⟩
    have N7 : News g L s'.heap ((I, itO pA pieces.length) :: (dl, listOf (List.toArray vd) n3) :: (nA, rgO n t1 t2 t3) :: (pA, listOf (List.toArray pcs) n2) :: rest) := by lge_lay
    refine end_K rfl F8 N7 (List.forall_mem_cons.mpr ⟨Nat.ne_of_lt l1, List.forall_mem_cons.mpr ⟨Nat.ne_of_lt (Nat.lt_trans l3 l1), List.forall_mem_cons.mpr ⟨Nat.ne_of_lt (Nat.lt_trans l2 l1), fun p hp => Nat.ne_of_lt (Nat.lt_trans (l4 p hp) l1)⟩⟩⟩) (.tail _ (.tail _ (.head _))) ⟨_, rfl⟩ (by rw [List.getElem?_toArray, List.getElem?_eq_none (by rw [hI.length]; omega)]) ?_
    intro h' F6 N6
    refine ⟨rfl, H _ _ vd n3 F6 e1 e2 e3 N6 ?_ hg8 ho8⟩
    rwa [List.take_of_length_le (by rw [List.length_drop]; omega)] at hvd
end
end JoinS4

section ResetI1
local macro_rules | `(tactic| walk_at "none") => `(tactic| skip)
theorem resetI1 : True := by first | walk1 | (w_top off; trivial)
end ResetI1
section JoinI1
noncomputable def outerBody : List Stmt := match lawSt 16 with | .For _ _ b _ _ => b | _ => []
noncomputable def outerSt (i : Nat) : Stmt := outerBody.getD i default
noncomputable def innerBody : List Stmt := match outerSt 0 with | .For _ _ b _ _ => b | _ => []
noncomputable def innerSt (i : Nat) : Stmt := innerBody.getD i default
section
variable {w : World} {s : Shared} {g : Heap} {L fa : Addr} {m : Str → Option Value} {Q : Flow → Shared → Prop} {E : Value → Shared → Prop} {tail : List Stmt}
theorem inn1 {lA nA : Addr} {us : List Value} {lv : List Int} {n1 k : Nat} {t1 t2 t3 tk : Tok} {c3 c5 : Obj} {rest : List (Addr × Obj)} (cx : Cx w g L) (F : Fr g L s.heap m) (hn : m (Str.ofString "nodes") = some (.ref nA))
   (N : News g L s.heap ((nA, rgO lv.length t1 t2 t3) :: (lA, listOf (List.toArray us) n1) :: (L + 1 + 1 + 1, c3) :: (L + 1 + 1 + 1 + 1 + 1, c5) :: rest)) (h3 : c3.data = .cell (some (.int k tk))) (h5 : c5.data = .cell (some (.ref lA))) (hI : IntsAre us lv) (hl7 : lv.length ≤ 7) (hk : k < lv.length) (hlv : ∀ i, lv.getD i 0 ≤ 100 ∧ -100 ≤ lv.getD i 0)
   (H : ∀ D ys h' tk e, Fr g L h' (fun z => if z = Str.ofString "waiting" then some (.ref D) else m z) → News g L h' ((D, listOf ys.toArray e) :: (nA, rgO lv.length t1 t2 t3) :: (lA, listOf (List.toArray us) n1) :: (L + 1 + 1 + 1, c3) :: (L + 1 + 1 + 1 + 1 + 1, c5) :: rest) →
     (∀ q ∈ ((nA, rgO lv.length t1 t2 t3) :: (lA, listOf (List.toArray us) n1) :: (L + 1 + 1 + 1, c3) :: (L + 1 + 1 + 1 + 1 + 1, c5) :: rest), q.1 ≠ D) → IntsAre ys (pick lv.length fun i => decide (k < i ∧ lv.getD i 0 = lv.getD k 0 - 1)) → Q .next { s with heap := h', toks := tk }) :
   wpAny (model PR w) (ALaw L fa) (exec (innerSt 0) (envLaw L fa)) Q E s := by
  have gX := cx.gx
  obtain ⟨X₀, B, ⟨_, _, _, _, _, T⟩, C1, C2, l0⟩ := cx
  conv in (occs := *) innerSt _ => all_goals whnf
  unfold ALaw envLaw
  conv in (occs := *) lawScope => all_goals whnf
  refine comp_A (L := L) (g := g) (m := m) (cl := _) (fun i => decide (k < i ∧ lv.getD i 0 = lv.getD k 0 - 1)) (nameX_L F hn ⟨_, nA, _, t1, t2, t3, rfl, .head _, by omega, F, N, ?_, H⟩) rfl rfl rfl rfl (by decide) rfl (by decide) (by decide) rfl rfl (fun _ => ⟨rfl, rfl⟩) (by decide) (fun _ => rfl)
  intro C i t s₂ m₂ E' hi F2 N2 E2 hns hm
  k_steps
  all_goals first
    | exact ⟨_, _, rfl, E2⟩
    | (simp only [Int.toNat_natCast] at *; first | exact (decide_eq_true (by omega)).symm | exact (decide_eq_false (by omega)).symm)
theorem inn2 {lA nA D : Addr} {us ys : List Value} {lv ws : List Int} {n1 n2 k : Nat} {t1 t2 t3 tk : Tok} {c3 c5 : Obj} {rest : List (Addr × Obj)} (cx : Cx w g L) (F : Fr g L s.heap m) (hn : m (Str.ofString "nodes") = some (.ref nA)) (hw : m (Str.ofString "waiting") = some (.ref D))
   (N : News g L s.heap ((D, listOf (List.toArray ys) n2) :: (nA, rgO lv.length t1 t2 t3) :: (lA, listOf (List.toArray us) n1) :: (L + 1 + 1 + 1, c3) :: (L + 1 + 1 + 1 + 1 + 1, c5) :: rest)) (h3 : c3.data = .cell (some (.int k tk))) (h5 : c5.data = .cell (some (.ref lA))) (hI : IntsAre us lv) (hl7 : lv.length ≤ 7) (hk : k < lv.length) (hlv : ∀ i, lv.getD i 0 ≤ 100 ∧ -100 ≤ lv.getD i 0)
   (hne : ∀ q ∈ ((nA, rgO lv.length t1 t2 t3) :: (lA, listOf (List.toArray us) n1) :: (L + 1 + 1 + 1, c3) :: (L + 1 + 1 + 1 + 1 + 1, c5) :: rest), q.1 ≠ D) (hys : IntsAre ys ws) (hwl : ws.length ≤ 7)
   (H : ∀ ys' h' tk e, Fr g L h' (fun z => if z = Str.ofString "waiting" then some (.ref D) else m z) → News g L h' ((D, listOf (List.toArray ys') e) :: (nA, rgO lv.length t1 t2 t3) :: (lA, listOf (List.toArray us) n1) :: (L + 1 + 1 + 1, c3) :: (L + 1 + 1 + 1 + 1 + 1, c5) :: rest) →
     IntsAre ys' (ws ++ pick lv.length fun i => decide (i < k ∧ lv.getD i 0 = lv.getD k 0)) → Q .next { s with heap := h', toks := tk }) :
   wpAny (model PR w) (ALaw L fa) (exec (innerSt 1) (envLaw L fa)) Q E s := by
  have gX := cx.gx
  obtain ⟨X₀, B, ⟨_, _, _, _, _, T⟩, C1, C2, l0⟩ := cx
  conv in (occs := *) innerSt _ => all_goals whnf
  unfold ALaw envLaw
  conv in (occs := *) lawScope => all_goals whnf
  have hyl := hys.length
  repeat' (first | ((fail_if_success (with_reducible show wpAny _ _ (eval (PySem.Expr.ListComp _ _ _ _) _) _ _ _)); walk1))
  rename Fr _ _ _ _ => F1
  rename News _ _ _ _ => N1
  refine comp_E (L := L) (g := g) (m := m) (cl := _) (fun i => decide (i < k ∧ lv.getD i 0 = lv.getD k 0)) ?h rfl rfl (by decide) rfl (by decide) (by decide) (fun _ => ⟨rfl, rfl⟩) (by decide) (fun _ => rfl)
  refine nameX_L F1 hn ⟨_, nA, lv.length, t1, t2, t3, rfl, .tail _ (.head _), by omega, F1, N1, ?_, ?_⟩
  · intro C i t s₂ m₂ E' hi F2 N2 E2 hns hm
    k_steps
    all_goals first
      | exact ⟨_, _, rfl, E2⟩
      | (simp only [Int.toNat_natCast] at *; first | exact (decide_eq_true (by omega)).symm | exact (decide_eq_false (by omega)).symm)
  · intro D2 ys2 h' tk e F' N' ne2 hys2
    have hl1 : (pick lv.length fun i => decide (i < k ∧ lv.getD i 0 = lv.getD k 0)).length ≤ 7 := by
      unfold pick
      rw [List.length_map]
      exact Nat.le_trans (List.length_filter_le _ _) (by rw [List.length_range]; exact hl7)
    have hl2 := hys2.length
    refine iadd_L F' N' (.tail (Ne.symm (ne2 _ (.head _))) (.head hne)) (.head _) (by simp only [List.size_toArray]; omega) ?_
    intro h2 n' F2 N2
    k_steps
    rename_i h3 F3 N3
    rw [List.append_toArray] at N3
    exact H _ _ _ _ F3 (ncut N3) (hys.append hys2)
end
end JoinI1

section ResetI3
local macro_rules | `(tactic| walk_at "none") => `(tactic| skip)
theorem resetI3 : True := by first | walk1 | (w_top off; trivial)
end ResetI3
section JoinI3
section
variable {w : World} {s : Shared} {g : Heap} {L fa : Addr} {m : Str → Option Value} {Q : Flow → Shared → Prop} {E : Value → Shared → Prop} {tail : List Stmt}
theorem inn3 {x dx D : Addr} {its ys : List Value} {ws : List Int} {n n2 : Nat} {h0 : Int} {t0 tb tw : Tok} {v0 : Value} {b : Array UInt8} {cs : List (List Nat)} {wv : Int} {rest : List (Addr × Obj)} (cx : Cx w g L) (F : Fr g L s.heap m)
   (hq : m (Str.ofString "queue") = some (.ref x)) (hw : m (Str.ofString "waiting") = some (.ref D)) (hst : m (Str.ofString "step") = some (.bytes b tb)) (hwt : m (Str.ofString "waits") = some (.int wv tw))
   (N : News g L s.heap ((D, listOf (List.toArray ys) n2) :: (x, accO dx its n) :: (dx, accD h0 t0 v0) :: rest)) (hys : IntsAre ys ws) (hwl : ws.length ≤ 14)
   (hcut : Cut (b.map (·.toNat)).toList cs) (hsz : b.size ≤ 1000) (hcnt : wv + (toB cs.flatten).toList.count 40 - (toB cs.flatten).toList.count 41 = (ws.length : Int)) (hits : its.length = ws.length)
   (H : ∀ s' tk, Fr g L s'.heap (fun z => if z = Str.ofString "waits" then some (.int ws.length tk) else m z) → News g L s'.heap ((D, listOf (List.toArray ys) n2) :: (x, accO dx its n) :: (dx, accD h0 t0 v0) :: rest) → s'.gens = s.gens → s'.os = s.os →
     wpAny (model PR w) (ALaw L fa) (execs tail (envLaw L fa)) Q E s') :
   wpAny (model PR w) (ALaw L fa) (execs (innerSt 2 :: innerSt 3 :: tail) (envLaw L fa)) Q E s := by
  have gX := cx.gx
  obtain ⟨X₀, B, ⟨_, _, _, _, _, T⟩, C1, C2, l0⟩ := cx
  conv in (occs := *) innerSt _ => all_goals whnf
  unfold ALaw envLaw
  conv in (occs := *) lawScope => all_goals whnf
  have hyl := hys.length
  k_steps
  all_goals first
    | (exfalso; omega)
    | skip
  rename Fr _ _ _ _ => F3
  rename News _ _ _ _ => N3
  rw [hcnt] at F3
  exact H _ _ F3 N3 (by assumption) (by assumption)
end
end JoinI3

section ResetI4
local macro_rules | `(tactic| walk_at "none") => `(tactic| skip)
theorem resetI4 : True := by first | walk1 | (w_top off; trivial)
end ResetI4
section JoinI4
section
variable {w : World} {s : Shared} {g : Heap} {L fa : Addr} {m : Str → Option Value} {Q : Flow → Shared → Prop} {E : Value → Shared → Prop} {tail : List Stmt}
noncomputable def chrS (a : Int) : Str := Str.mk #[(97 + a).toNat]
theorem sum_sp : ∀ ws : List Int, ((ws.map fun a => Str.ofString " " ++ chrS a).map (·.length)).sum = 2 * ws.length
  | [] => rfl
  | a :: l => by rw [List.map_cons, List.map_cons, List.sum_cons, sum_sp l, List.length_cons]; show 2 + _ = _; omega
theorem inn4 {x dx D : Addr} {its ys : List Value} {ws : List Int} {n n2 : Nat} {h0 : Int} {t0 : Tok} {v0 : Value} {tab : Array Value} {rest : List (Addr × Obj)} (cx : Cx w g L) (F : Fr g L s.heap m)
   (hq : m (Str.ofString "queue") = some (.ref x)) (hw : m (Str.ofString "waiting") = some (.ref D))
   (N : News g L s.heap ((D, listOf (List.toArray ys) n2) :: (x, accO dx its n) :: (dx, accD h0 t0 v0) :: (100, tabObj tab) :: rest)) (hys : IntsAre ys ws) (hwl : ws.length ≤ 14) (hws : ∀ a ∈ ws, 0 ≤ a ∧ a < 14) (G : AllBare s.gens) (ht : TriplesOk tab.toList) (h100 : ∀ p ∈ rest, p.1 ≠ 100) (hD : D ≠ 100) (hx : @LT.lt Nat _ L x) (hdx : @LT.lt Nat _ L dx) (hits : its.length = ws.length) (hit : ∀ i, i < its.length → ∃ q t1 t2, its[i]? = some (.ref q) ∧ (q, tupO [.str (Str.ofString " ") t1, .str (chrS (ws.getD i 0)) t2]) ∈ ((D, listOf (List.toArray ys) n2) :: (x, accO dx its n) :: (dx, accD h0 t0 v0) :: (100, tabObj tab) :: rest))
   (H : ∀ s' tab', Fr g L s'.heap m → News g L s'.heap ((D, listOf (List.toArray ys) n2) :: (x, accO dx its n) :: (dx, accD h0 t0 v0) :: (100, tabObj tab') :: rest) → TriplesOk tab'.toList → AllBare s'.gens → s'.os = s.os →
     wpAny (model PR w) (ALaw L fa) (execs tail (envLaw L fa)) Q E s') :
   wpAny (model PR w) (ALaw L fa) (execs (innerSt 4 :: tail) (envLaw L fa)) Q E s := by
  have gX := cx.gx
  obtain ⟨X₀, B, ⟨_, _, _, _, _, T⟩, C1, C2, l0⟩ := cx
  conv in (occs := *) innerSt _ => all_goals whnf
  unfold ALaw envLaw
  conv in (occs := *) lawScope => all_goals whnf
  have hyl := hys.length
  have l9 : @LT.lt Nat _ 185 L := l0
  repeat' (first | ((fail_if_success (with_reducible show wpAny _ _ (PySem.call (Value.type "str") [Value.ref _]) _ _ _)); walk1))
  rename Fr _ _ _ _ => F1
  rename News _ _ _ _ => N1
  have hj : ∀ a : Int, (Txt.join "" [Str.ofString " ", chrS a]).length = 2 := fun a => rfl
  have hsum : ∀ l : List Nat, ((l.map fun i => Txt.join "" [Str.ofString " ", chrS (ws.getD i 0)]).map (·.length)).sum = 2 * l.length := by
    intro l
    induction l with
    | nil => rfl
    | cons a l ih => rw [List.map_cons, List.map_cons, List.sum_cons, ih, hj, List.length_cons]; omega
  refine strF (outer := []) (A₀ := callerA) (sp := Str.ofString " ") (cs := fun i => chrS (ws.getD i 0)) gX C2 F1 N1 (.tail ?_ (.tail ?_ (.tail ?_ (.head h100)))) (.tail _ (.head _)) (.tail _ (.tail _ (.head _))) G ht ?_ ?_ hit ?_ ?_ ?_ ?_
  · first | exact hD | exact Ne.symm hD | exact neN (by omega)
  · first | exact hD | exact Ne.symm hD | exact neN (by omega)
  · first | exact hD | exact Ne.symm hD | exact neN (by omega)
  · first | exact hD | exact Ne.symm hD | exact neN (by omega)
  · first | exact hD | exact Ne.symm hD | exact neN (by omega)
  · intro i _
    show 1 + 1 ≤ 1000
    decide
  · omega
  · rw [hsum, List.length_range]; omega
  intro s2 t2 tab' F2 N2 ht2 G2 o2
  clear F1 N1
  repeat' (first | ((fail_if_success (with_reducible show wpAny _ _ (eval (PySem.Expr.ListComp _ _ _ _) _) _ _ _)); walk1))
  rename Fr _ _ _ _ => F3
  rename News _ _ _ _ => N3
  refine comp_S (L := L) (g := g) (m := m) (cl := _) (fun a => Str.ofString " " ++ chrS a) ?h rfl rfl (by decide) rfl (by decide) (by decide) (fun _ => rfl)
  refine nameX_L F3 hw ⟨_, D, ys, ws, n2, rfl, .head _, hys, by omega, F3, N3, ?_, ?_⟩
  · intro C a t s₂ m₂ E' ha F4 N4 E4 hns hm
    have ha2 := hws a ha
    k_steps
    all_goals first
      | exact ⟨_, _, rfl, E4⟩
      | exact Carried.str _ _
  · intro D2 zs h' tk e F' N' ne2 hzs
    repeat' (first | ((fail_if_success (with_reducible show wpAny _ _ (PySem.call (Value.builtin "str.join") _ _) _ _ _)); walk1))
    have htx : (List.range its.length).map (fun i => Txt.join "" [Str.ofString " ", chrS (ws.getD i 0)]) = ws.map fun a => Str.ofString " " ++ chrS a := by
      rw [hits]
      refine List.ext_getElem (by simp) fun i h1 h2 => ?_
      rw [List.length_map] at h2
      rw [List.getElem_map, List.getElem_map, List.getElem_range, List.getD_eq_getElem?_getD, List.getElem?_eq_getElem h2]
      rfl
    rw [htx]
    refine join_listW ⟨_, (N' _ (.head _)).1, rfl, e, rfl⟩ (by rw [List.toList_toArray]; exact hzs) (by decide) (by rw [sum_sp, List.length_map]; omega) ?_
    intro t5 k5
    k_steps
    all_goals first
      | (exfalso; rename _ = true => hq9; simp at hq9; done)
      | skip
    rename Fr _ _ _ _ => F9
    rename News _ _ _ _ => N9
    exact H _ tab' F9 (ncut N9) ht2 G2 o2
end
end JoinI4

section ResetI5
local macro_rules | `(tactic| walk_at "none") => `(tactic| skip)
theorem resetI5 : True := by first | walk1 | (w_top off; trivial)
end ResetI5
section JoinI5
section
variable {w : World} {s : Shared} {g : Heap} {L fa : Addr} {m : Str → Option Value} {Q : Flow → Shared → Prop} {E : Value → Shared → Prop} {tail : List Stmt}
theorem inn5a {lf : Addr} {rest : List (Addr × Obj)} (cx : Cx w g L) (F : Fr g L s.heap m) (hl : m (Str.ofString "left") = some (.ref lf)) (N : News g L s.heap ((lf, tupO []) :: rest))
   (H : ∀ s' t, Fr g L s'.heap (fun z => if z = Str.ofString "caller" then some (.str "<caller func_get_function_name() failed>" t) else m z) → News g L s'.heap ((lf, tupO []) :: rest) → s'.gens = s.gens → s'.os = s.os → Q .next s') :
   wpAny (model PR w) (ALaw L fa) (exec (innerSt 5) (envLaw L fa)) Q E s := by
  have gX := cx.gx
  obtain ⟨X₀, B, ⟨_, _, _, _, _, T⟩, C1, C2, l0⟩ := cx
  conv in (occs := *) innerSt _ => all_goals whnf
  unfold ALaw envLaw
  conv in (occs := *) lawScope => all_goals whnf
  k_steps
  rename Fr _ _ _ _ => F9
  rename News _ _ _ _ => N9
  exact H _ _ F9 N9 (by assumption) (by assumption)
theorem inn5b {lf : Addr} {a1 a2 a3 : Value} {rest : List (Addr × Obj)} (cx : Cx w g L) (F : Fr g L s.heap m) (hl : m (Str.ofString "left") = some (.ref lf)) (N : News g L s.heap ((lf, tupO [a1, a2, a3]) :: rest))
   (H : ∀ s', Fr g L s'.heap (fun z => if z = Str.ofString "caller" then some a3 else m z) → News g L s'.heap ((lf, tupO [a1, a2, a3]) :: rest) → s'.gens = s.gens → s'.os = s.os → Q .next s') :
   wpAny (model PR w) (ALaw L fa) (exec (innerSt 5) (envLaw L fa)) Q E s := by
  have gX := cx.gx
  obtain ⟨X₀, B, ⟨_, _, _, _, _, T⟩, C1, C2, l0⟩ := cx
  conv in (occs := *) innerSt _ => all_goals whnf
  unfold ALaw envLaw
  conv in (occs := *) lawScope => all_goals whnf
  k_steps
  rename Fr _ _ _ _ => F9
  rename News _ _ _ _ => N9
  exact H _ F9 N9 rfl rfl
theorem inn6 {pl : Addr} {vp : List Value} {ps : List Int} {n4 k : Nat} {tk tc tW : Tok} {C W : Str} {c1 c3 : Obj} {rest : List (Addr × Obj)} (cx : Cx w g L) (F : Fr g L s.heap m) (hc : m (Str.ofString "caller") = some (.str C tc)) (hW : m (Str.ofString "words") = some (.str W tW))
   (N : News g L s.heap ((pl, listOf (List.toArray vp) n4) :: (L + 1 + 1 + 1, c3) :: (L + 1, c1) :: rest)) (h3 : c3.data = .cell (some (.int k tk))) (h1 : c1.data = .cell (some (.ref pl))) (hI : IntsAre vp ps) (hp7 : ps.length ≤ 7) (hk : k < ps.length) (hps : ∀ i, -1 ≤ ps.getD i 0 ∧ ps.getD i 0 ≤ 100)
   (hC : C = if 0 ≤ ps.getD k 0 then chrS (ps.getD k 0) else W)
   (H : ∀ s' t, Fr g L s'.heap (fun z => if z = Str.ofString "primitive" then some (.int (if ps.getD k 0 = -1 then 1 else 0) t) else m z) → News g L s'.heap ((pl, listOf (List.toArray vp) n4) :: (L + 1 + 1 + 1, c3) :: (L + 1, c1) :: rest) → s'.gens = s.gens → s'.os = s.os →
     wpAny (model PR w) (ALaw L fa) (execs tail (envLaw L fa)) Q E s') :
   wpAny (model PR w) (ALaw L fa) (execs (innerSt 6 :: innerSt 7 :: tail) (envLaw L fa)) Q E s := by
  have gX := cx.gx
  obtain ⟨X₀, B, ⟨_, _, _, _, _, T⟩, C1, C2, l0⟩ := cx
  conv in (occs := *) innerSt _ => all_goals whnf
  unfold ALaw envLaw
  conv in (occs := *) lawScope => all_goals whnf
  have hp9 := hps (k : Int).toNat
  have hC1 : 0 ≤ ps.getD (k : Int).toNat 0 → C = ⟨#[(97 + ps.getD (k : Int).toNat 0).toNat]⟩ := fun h => by
    rw [hC, if_pos (by simpa only [Int.toNat_natCast] using h)]; rfl
  have hC2 : ¬ 0 ≤ ps.getD (k : Int).toNat 0 → C = W := fun h => by rw [hC, if_neg (by simpa only [Int.toNat_natCast] using h)]
  have hP1 : ps.getD (k : Int).toNat 0 = -1 → (if ps.getD k 0 = -1 then (1 : Int) else 0) = 1 := fun h => if_pos (by simpa only [Int.toNat_natCast] using h)
  have hP0 : ps.getD (k : Int).toNat 0 ≠ -1 → (if ps.getD k 0 = -1 then (1 : Int) else 0) = 0 := fun h => if_neg (by simpa only [Int.toNat_natCast] using h)
  k_steps
  all_goals first
    | (exfalso; have e := hC1 (by assumption); rename _ = true => hq9; rw [e] at hq9; simp at hq9; done)
    | (exfalso; have e := hC2 (by assumption); rename _ = true => hq9; rw [e] at hq9; simp at hq9; done)
    | (rename Fr _ _ _ _ => F9; rename News _ _ _ _ => N9; have e := hP1 (by assumption); rw [e] at H; exact H _ _ F9 N9 rfl rfl)
    | (rename Fr _ _ _ _ => F9; rename News _ _ _ _ => N9; have e := hP0 (by assumption); rw [e] at H; exact H _ _ F9 N9 rfl rfl)
end
end JoinI5

section ResetI6
local macro_rules | `(tactic| walk_at "none") => `(tactic| skip)
theorem resetI6 : True := by first | walk1 | (w_top off; trivial)
end ResetI6
section JoinI6
section
variable {w : World} {s : Shared} {g : Heap} {L fa : Addr} {m : Str → Option Value} {Q : Flow → Shared → Prop} {E : Value → Shared → Prop} {tail : List Stmt}
theorem inn8 {Tt Dt dl : Addr} {vd : List Value} {ds : List Int} {n3 k : Nat} {tk tc t1 t2 t3 t4 tp tw : Tok} {a b c d pr wv : Int} {C : Str} {tab : Tab} {oD : Obj} {kD : List (Str × Value)} {c3 : Obj} {rest : List (Addr × Obj)} (cx : Cx w g L) (F : Fr g L s.heap m)
   (hc : m (Str.ofString "caller") = some (.str C tc)) (ht : m (Str.ofString "total") = some (.ref Tt)) (hp : m (Str.ofString "primitive") = some (.int pr tp)) (hw : m (Str.ofString "waits") = some (.int wv tw)) (hd : m (Str.ofString "depths") = some (.ref dl))
   (N : News g L s.heap ((Tt, tup5 a b c d t1 t2 t3 t4 Dt) :: (Dt, oD) :: (dl, listOf (List.toArray vd) n3) :: (L + 1 + 1 + 1, c3) :: rest)) (h3 : c3.data = .cell (some (.int k tk))) (hI : IntsAre vd ds) (hd7 : ds.length ≤ 8) (hk : k < ds.length)
   (hD : Obj.IsDictOf (strKind PR w) oD kD) (hF : PyProof.V.FlatPairs PyData.str kD (kdpD tab)) (hz : tab.length ≤ 8) (lo : (Dt == sysModules) = false) (hpr : 0 ≤ pr ∧ pr ≤ 1) (hwv : 0 ≤ wv ∧ wv ≤ 14) (hds : ∀ i, 0 ≤ ds.getD i 0 ∧ ds.getD i 0 ≤ 100)
   (H : ∀ s' Tq q o' kvs' v1 v2 v3 v4, Fr g L s'.heap (fun z => if z = Str.ofString "total" then some (.ref Tq) else m z) →
     News g L s'.heap ((Tq, tup5 (pr + a) (1 + b) (ds.getD k 0 + c) (wv + d) v1 v2 v3 v4 q) :: (q, o') :: (Tt, tup5 a b c d t1 t2 t3 t4 Dt) :: (Dt, oD) :: (dl, listOf (List.toArray vd) n3) :: (L + 1 + 1 + 1, c3) :: rest) →
     Obj.IsDictOf (strKind PR w) o' kvs' → PyProof.V.FlatPairs PyData.str kvs' (kdpD (merge tab [(C, 1)])) → (q == sysModules) = false → @LT.lt Nat _ q Tq →
     (∀ p ∈ ((Tt, tup5 a b c d t1 t2 t3 t4 Dt) :: (Dt, oD) :: (dl, listOf (List.toArray vd) n3) :: (L + 1 + 1 + 1, c3) :: rest), p.1 < q) → s'.gens = s.gens → s'.os = s.os → Q .next s') :
   wpAny (model PR w) (ALaw L fa) (exec (innerSt 8) (envLaw L fa)) Q E s := by
  have gX := cx.gx
  obtain ⟨X₀, B, ⟨_, _, _, _, _, T⟩, C1, C2, l0⟩ := cx
  conv in (occs := *) innerSt _ => all_goals whnf
  unfold ALaw envLaw
  conv in (occs := *) lawScope => all_goals whnf
  repeat' (first | ((fail_if_success (with_reducible show wpAny _ _ (PySem.call (Value.ref 149) _) _ _ _)); walk1))
  rename_i t_1 d_1 h_1 o_1 lo_1 hd_1 l1_1 h_2 o_2 hd_2 hf_1 D_1 h_3 F_1 N_1 l1_2
  refine addstatsF (outer := []) (A₀ := callerA) (c1 := tab) (c2 := [(C, 1)]) gX (by decide) (by decide) F_1 N_1 (.tail _ (.tail _ (.head _))) (.head _) (.tail _ (.tail _ (.tail _ (.head _)))) (.tail _ (.head _)) hD hF (by omega) hd_2 hf_1 (Nat.le_of_ble_eq_true rfl) lo lo_1 ?_
  intro s' Tq q o' kvs' v1 v2 v3 v4 F' N' D' f' lo' l1 l2 hg ho
  k_steps
  rename Fr _ _ _ _ => F9
  rename News _ _ _ _ => N9
  rw [Int.toNat_natCast] at N9
  exact H _ Tq q o' kvs' v1 v2 v3 v4 F9 (by lge_lay) D' f' lo' l1 (fun p hp => l2 p (.tail _ (.tail _ hp))) hg ho
end
end JoinI6

section ResetI7
local macro_rules | `(tactic| walk_at "none") => `(tactic| skip)
theorem resetI7 : True := by first | walk1 | (w_top off; trivial)
end ResetI7
section JoinI7
section
variable {w : World} {s : Shared} {g : Heap} {L fa : Addr} {m : Str → Option Value} {Q : Flow → Shared → Prop} {E : Value → Shared → Prop} {tail : List Stmt}
theorem inn9 {x dx : Addr} {its : List Value} {n k : Nat} {h0 : Int} {t0 tk tg : Tok} {v0 : Value} {lg : Array UInt8} {c2 c3 : Obj} {rest : List (Addr × Obj)} (cx : Cx w g L) (F : Fr g L s.heap m)
   (hq : m (Str.ofString "queue") = some (.ref x))
   (N : News g L s.heap ((x, accO dx its n) :: (dx, accD h0 t0 v0) :: (L + 1 + 1, c2) :: (L + 1 + 1 + 1, c3) :: rest)) (h2 : c2.data = .cell (some (.bytes lg tg))) (h3 : c3.data = .cell (some (.int k tk))) (hk : k < 14) (hz : its.length ≤ 14) (hlg : lg.size ≤ 100)
   (hdx : @LT.lt Nat _ dx x) (hL : @LT.lt Nat _ (L + 1 + 1 + 1 + 1 + 1) dx) (hr : ∀ p ∈ rest, p.1 ≠ x) (hr2 : ∀ p ∈ rest, p.1 ≠ L + 1 + 1)
   (H : ∀ s' q n' c2' u1 u2 u3 u4, Fr g L s'.heap (fun z => if z = Str.ofString "step" then some (.bytes #[40] u1) else m z) →
     News g L s'.heap ((q, tupO [.str (Str.ofString " ") u2, .str (chrS k) u3]) :: (x, accO dx (its ++ [.ref q]) n') :: (dx, accD h0 t0 v0) :: (L + 1 + 1, c2') :: (L + 1 + 1 + 1, c3) :: rest) → c2'.data = .cell (some (.bytes (lg ++ #[40]) u4)) →
     @LT.lt Nat _ x q → (∀ p ∈ rest, p.1 < q) → s'.gens = s.gens → s'.os = s.os → wpAny (model PR w) (ALaw L fa) (execs tail (envLaw L fa)) Q E s') :
   wpAny (model PR w) (ALaw L fa) (execs (innerSt 9 :: innerSt 10 :: innerSt 11 :: tail) (envLaw L fa)) Q E s := by
  have gX := cx.gx
  obtain ⟨X₀, B, ⟨_, _, _, _, _, T⟩, C1, C2, l0⟩ := cx
  conv in (occs := *) innerSt _ => all_goals whnf
  unfold ALaw envLaw
  conv in (occs := *) lawScope => all_goals whnf
  k_steps
  rename_i h_1 n_1 tk_1 q_1 l1_1 h_2 F_1 N_1 t_1 k_1 h_3 o_1 F_2 N_2 cd_1
  exact H _ q_1 n_1 o_1 _ _ _ _ F_2 N_2 cd_1 l1_1.1 (allLt l1_1.2.2.2.2) rfl rfl
end
end JoinI7

section ResetO1
local macro_rules | `(tactic| walk_at "none") => `(tactic| skip)
theorem resetO1 : True := by first | walk1 | (w_top off; trivial)
end ResetO1
section JoinO1
section
variable {w : World} {s : Shared} {g : Heap} {L fa : Addr} {m : Str → Option Value} {Q : Flow → Shared → Prop} {E : Value → Shared → Prop} {tail : List Stmt}
theorem strOk_chr : ∀ n : Nat, n < 14 → PyData.strOk (chrS n) = true := by decide +kernel
theorem strOk_sp : PyData.strOk (Str.ofString " ") = true := by decide +kernel
theorem out1b {x dx qa : Addr} {vb : Value} {r : List Value} {n : Nat} {nd : Nat} {h0 : Int} {t0 tn u1 u2 : Tok} {v0 : Value} {c4 : Obj} {rest : List (Addr × Obj)} (cx : Cx w g L) (F : Fr g L s.heap m)
   (hq : m (Str.ofString "queue") = some (.ref x))
   (N : News g L s.heap ((x, accO dx ([.ref qa] ++ [vb] ++ r) n) :: (dx, accD h0 t0 v0) :: (qa, tupO [.str (Str.ofString " ") u1, .str (chrS nd) u2]) :: (L + 1 + 1 + 1 + 1, c4) :: rest)) (h4 : c4.data = .cell (some (.int nd tn))) (hk : nd < 14) (hz : r.length ≤ 12)
   (hdx : @LT.lt Nat _ dx x) (hL : @LT.lt Nat _ (L + 1 + 1 + 1 + 1 + 1) dx) (hqx : @Ne Nat qa x) (hqd : @Ne Nat qa dx) (hr : ∀ p ∈ rest, p.1 ≠ x) (hr2 : ∀ p ∈ rest, p.1 ≠ dx)
   (H : ∀ s' m' n' v', (∀ z, z ≠ Str.ofString "others" → m' z = m z) → Fr g L s'.heap m' → News g L s'.heap ((x, accO dx (vb :: r) n') :: (dx, accD h0 t0 v') :: (qa, tupO [.str (Str.ofString " ") u1, .str (chrS nd) u2]) :: (L + 1 + 1 + 1 + 1, c4) :: rest) → s'.gens = s.gens → s'.os = s.os →
     wpAny (model PR w) (ALaw L fa) (execs tail (envLaw L fa)) Q E s') :
   wpAny (model PR w) (ALaw L fa) (execs (outerSt 1 :: outerSt 2 :: outerSt 3 :: outerSt 4 :: tail) (envLaw L fa)) Q E s := by
  have gX := cx.gx
  have k1 := strOk_chr nd hk
  have k2 := strOk_sp
  obtain ⟨X₀, B, ⟨_, _, _, _, _, T⟩, C1, C2, l0⟩ := cx
  conv in (occs := *) outerSt _ => all_goals whnf
  unfold ALaw envLaw
  conv in (occs := *) lawScope => all_goals whnf
  have hr9 : ∀ p ∈ ((qa, tupO [.str (Str.ofString " ") u1, .str (chrS nd) u2]) :: (L + 1 + 1 + 1 + 1, c4) :: rest), p.1 ≠ x := List.forall_mem_cons.mpr ⟨hqx, List.forall_mem_cons.mpr ⟨neN (by omega), hr⟩⟩
  repeat' (first | ((fail_if_success (with_reducible show wpAny _ _ (PySem.call (Value.ref 83) _) _ _ _)); walk1))
  rename Fr _ _ _ _ => F1
  rename News _ _ _ _ => N1
  refine' popfromF (outer := []) (A₀ := callerA) ?gx ?F ?N hr9 hdx ?z ?_
  case gx => exact gX
  case F => exact F1
  case N => exact N1
  case z => simp only [List.length_append, List.length_cons, List.length_nil]; omega
  intro h1 n1 tk1 q1 nq F2 N2 ne1 ne2
  have N3 : News g L h1 ((x, accO dx ([.ref qa] ++ [vb]) n1) :: (q1, listOf (List.toArray r) nq) :: (dx, accD h0 t0 v0) :: (qa, tupO [.str (Str.ofString " ") u1, .str (chrS nd) u2]) :: (L + 1 + 1 + 1 + 1, c4) :: rest) := N2
  clear N1 F1 N2
  repeat' (first | ((fail_if_success (with_reducible show wpAny _ _ (PySem.call (Value.ref 113) _) _ _ _)); walk1))
  · rename_i h_1 tk_1 h_2 tk_2 tk_3 a_1 tk_4 h_3 n_1 tk_5 l_1 h_4 l1_1 r_1 h_5 l1_2 h_6 tk_6 h_7 n_2 tk_7 D_1 h_8 kF_1 N_1 l1_3
    rw [show #[vb] ++ r.toArray = (vb :: r).toArray from by simp] at N_1
    have N9 : News g L _ ((x, accO dx [] n_2) :: (dx, accD h0 t0 v0) :: (r_1, listOf (List.toArray (vb :: r)) 0) :: (qa, tupO [.str (Str.ofString " ") u1, .str (chrS nd) u2]) :: (L + 1 + 1 + 1 + 1, c4) :: rest) := nsub N_1 (NSub.cons (by k_mem) (NSub.cons (by k_mem) (NSub.cons (by k_mem) (NSub.cons (by k_mem) (NSub.cons (by k_mem) (NSub.drop (NSub.drop (NSub.drop (NSub.drop (NSub.drop (NSub.drop (NSub.drop (NSub.drop (NSub.refl _))))))))))))))
    refine' resetF (outer := []) (A₀ := callerA) (ql := r_1) (rest := (r_1, listOf (List.toArray (vb :: r)) 0) :: (qa, tupO [.str (Str.ofString " ") u1, .str (chrS nd) u2]) :: (L + 1 + 1 + 1 + 1, c4) :: rest) ?gx ?F ?N (.head _) ?r1 hdx ?z ?z2 ?r2 ?_
    case gx => exact gX
    case F => exact kF_1
    case N => exact N9
    case r1 => exact List.forall_mem_cons.mpr ⟨neN (by omega), hr9⟩
    case z => exact Nat.le_of_ble_eq_true rfl
    case z2 => simp only [List.length_cons]; omega
    case r2 => exact List.forall_mem_cons.mpr ⟨neN (by omega), List.forall_mem_cons.mpr ⟨hqd, List.forall_mem_cons.mpr ⟨neN (by omega), hr2⟩⟩⟩
    intro h' n' tk' v' F' N'
    k_steps
    refine H _ _ n' v' ?_ F' (by lge_lay) rfl rfl
    intro z hz
    simp only [if_neg hz]
  · rename_i a_1 _ _ _ _ _ _ _ _
    exact absurd rfl a_1
end
end JoinO1

section ResetO2
local macro_rules | `(tactic| walk_at "none") => `(tactic| skip)
theorem resetO2 : True := by first | walk1 | (w_top off; trivial)
end ResetO2
section JoinO2
section
variable {w : World} {s : Shared} {g : Heap} {L fa : Addr} {m : Str → Option Value} {Q : Flow → Shared → Prop} {E : Value → Shared → Prop} {tail : List Stmt}
theorem out1a {x dx qa : Addr} {n : Nat} {nd : Nat} {h0 : Int} {t0 tn u1 u2 : Tok} {v0 : Value} {c4 : Obj} {rest : List (Addr × Obj)} (cx : Cx w g L) (F : Fr g L s.heap m)
   (hq : m (Str.ofString "queue") = some (.ref x))
   (N : News g L s.heap ((x, accO dx [.ref qa] n) :: (dx, accD h0 t0 v0) :: (qa, tupO [.str (Str.ofString " ") u1, .str (chrS nd) u2]) :: (L + 1 + 1 + 1 + 1, c4) :: rest)) (h4 : c4.data = .cell (some (.int nd tn))) (hk : nd < 14)
   (hdx : @LT.lt Nat _ dx x) (hL : @LT.lt Nat _ (L + 1 + 1 + 1 + 1 + 1) dx) (hqx : @Ne Nat qa x) (hqd : @Ne Nat qa dx) (hr : ∀ p ∈ rest, p.1 ≠ x) (hr2 : ∀ p ∈ rest, p.1 ≠ dx)
   (H : ∀ s' m' n' v', (∀ z, z ≠ Str.ofString "others" → m' z = m z) → Fr g L s'.heap m' → News g L s'.heap ((x, accO dx [] n') :: (dx, accD h0 t0 v') :: (qa, tupO [.str (Str.ofString " ") u1, .str (chrS nd) u2]) :: (L + 1 + 1 + 1 + 1, c4) :: rest) → s'.gens = s.gens → s'.os = s.os →
     wpAny (model PR w) (ALaw L fa) (execs tail (envLaw L fa)) Q E s') :
   wpAny (model PR w) (ALaw L fa) (execs (outerSt 1 :: outerSt 2 :: outerSt 3 :: outerSt 4 :: tail) (envLaw L fa)) Q E s := by
  have gX := cx.gx
  have k1 := strOk_chr nd hk
  have k2 := strOk_sp
  obtain ⟨X₀, B, ⟨_, _, _, _, _, T⟩, C1, C2, l0⟩ := cx
  conv in (occs := *) outerSt _ => all_goals whnf
  unfold ALaw envLaw
  conv in (occs := *) lawScope => all_goals whnf
  have hr9 : ∀ p ∈ ((qa, tupO [.str (Str.ofString " ") u1, .str (chrS nd) u2]) :: (L + 1 + 1 + 1 + 1, c4) :: rest), p.1 ≠ x := List.forall_mem_cons.mpr ⟨hqx, List.forall_mem_cons.mpr ⟨neN (by omega), hr⟩⟩
  repeat' (first | ((fail_if_success (with_reducible show wpAny _ _ (PySem.call (Value.ref 83) _) _ _ _)); walk1))
  rename Fr _ _ _ _ => F1
  rename News _ _ _ _ => N1
  refine' popfromF (outer := []) (A₀ := callerA) ?gx ?F ?N hr9 hdx ?z ?_
  case gx => exact gX
  case F => exact F1
  case N => exact N1
  case z => exact Nat.le_of_ble_eq_true rfl
  intro h1 n1 tk1 q1 nq F2 N2 ne1 ne2
  have N3 : News g L h1 ((x, accO dx [.ref qa] n1) :: (q1, listOf (List.toArray []) nq) :: (dx, accD h0 t0 v0) :: (qa, tupO [.str (Str.ofString " ") u1, .str (chrS nd) u2]) :: (L + 1 + 1 + 1 + 1, c4) :: rest) := N2
  clear N1 F1 N2
  repeat' (first | ((fail_if_success (with_reducible show wpAny _ _ (PySem.call (Value.ref 113) _) _ _ _)); walk1))
  · exfalso
    rename ((List.length _ : Nat) : Int) = 2 => a9
    exact absurd a9 (by simp)
  · rename_i h_1 tk_1 h_2 tk_2 tk_3 a_1 tk_4 h_3 n_1 tk_5 D_1 h_4 kF_1 N_1 l1_1
    have N9 : News g L _ ((x, accO dx [] n_1) :: (dx, accD h0 t0 v0) :: (q1, listOf (List.toArray []) nq) :: (qa, tupO [.str (Str.ofString " ") u1, .str (chrS nd) u2]) :: (L + 1 + 1 + 1 + 1, c4) :: rest) := nsub N_1 (NSub.cons (by k_mem) (NSub.cons (by k_mem) (NSub.cons (by k_mem) (NSub.cons (by k_mem) (NSub.cons (by k_mem) (NSub.drop (NSub.drop (NSub.drop (NSub.drop (NSub.drop (NSub.drop (NSub.refl _))))))))))))
    refine' resetF (outer := []) (A₀ := callerA) (ql := q1) (rest := (q1, listOf (List.toArray []) nq) :: (qa, tupO [.str (Str.ofString " ") u1, .str (chrS nd) u2]) :: (L + 1 + 1 + 1 + 1, c4) :: rest) ?gx ?F ?N (.head _) ?r1 hdx ?z ?z2 ?r2 ?_
    case gx => exact gX
    case F => exact kF_1
    case N => exact N9
    case r1 => exact List.forall_mem_cons.mpr ⟨ne1, hr9⟩
    case z => exact Nat.le_of_ble_eq_true rfl
    case z2 => exact Nat.le_of_ble_eq_true rfl
    case r2 => exact List.forall_mem_cons.mpr ⟨ne2, List.forall_mem_cons.mpr ⟨hqd, List.forall_mem_cons.mpr ⟨neN (by omega), hr2⟩⟩⟩
    intro h' n' tk' v' F' N'
    k_steps
    refine H _ _ n' v' ?_ F' (by lge_lay) rfl rfl
    intro z hz
    simp only [if_neg hz]
end
section
variable {w : World} {s : Shared} {g : Heap} {L fa : Addr} {m : Str → Option Value} {Q : Flow → Shared → Prop} {E : Value → Shared → Prop} {tail : List Stmt}
theorem out1 {x dx qa : Addr} {r : List Value} {n : Nat} {nd : Nat} {h0 : Int} {t0 tn u1 u2 : Tok} {v0 : Value} {c4 : Obj} {rest : List (Addr × Obj)} (cx : Cx w g L) (F : Fr g L s.heap m)
   (hq : m (Str.ofString "queue") = some (.ref x))
   (N : News g L s.heap ((x, accO dx (.ref qa :: r) n) :: (dx, accD h0 t0 v0) :: (qa, tupO [.str (Str.ofString " ") u1, .str (chrS nd) u2]) :: (L + 1 + 1 + 1 + 1, c4) :: rest)) (h4 : c4.data = .cell (some (.int nd tn))) (hk : nd < 14) (hz : r.length ≤ 12)
   (hdx : @LT.lt Nat _ dx x) (hL : @LT.lt Nat _ (L + 1 + 1 + 1 + 1 + 1) dx) (hqx : @Ne Nat qa x) (hqd : @Ne Nat qa dx) (hr : ∀ p ∈ rest, p.1 ≠ x) (hr2 : ∀ p ∈ rest, p.1 ≠ dx)
   (H : ∀ s' m' n' v', (∀ z, z ≠ Str.ofString "others" → m' z = m z) → Fr g L s'.heap m' → News g L s'.heap ((x, accO dx r n') :: (dx, accD h0 t0 v') :: (qa, tupO [.str (Str.ofString " ") u1, .str (chrS nd) u2]) :: (L + 1 + 1 + 1 + 1, c4) :: rest) → s'.gens = s.gens → s'.os = s.os →
     wpAny (model PR w) (ALaw L fa) (execs tail (envLaw L fa)) Q E s') :
   wpAny (model PR w) (ALaw L fa) (execs (outerSt 1 :: outerSt 2 :: outerSt 3 :: outerSt 4 :: tail) (envLaw L fa)) Q E s := by
  cases r with
  | nil => exact out1a cx F hq N h4 hk hdx hL hqx hqd hr hr2 H
  | cons vb r => exact out1b cx F hq N h4 hk (Nat.le_of_succ_le hz) hdx hL hqx hqd hr hr2 H
end
end JoinO2

section ResetO5
local macro_rules | `(tactic| walk_at "none") => `(tactic| skip)
theorem resetO5 : True := by first | walk1 | (w_top off; trivial)
end ResetO5
section JoinO5
section
variable {w : World} {s : Shared} {g : Heap} {L fa : Addr} {m : Str → Option Value} {Q : Flow → Shared → Prop} {E : Value → Shared → Prop} {tail : List Stmt}
theorem out5 {nd : Nat} {tn tg tb : Tok} {lg b : Array UInt8} {c2 c4 : Obj} {rest : List (Addr × Obj)} (cx : Cx w g L) (F : Fr g L s.heap m) (hst : m (Str.ofString "step") = some (.bytes b tb))
   (N : News g L s.heap ((L + 1 + 1, c2) :: (L + 1 + 1 + 1 + 1, c4) :: rest)) (h2 : c2.data = .cell (some (.bytes lg tg))) (h4 : c4.data = .cell (some (.int nd tn))) (hk : nd < 14) (hlg : lg.size ≤ 100) (hb : b.size ≤ 100) (hr : ∀ p ∈ rest, p.1 ≠ L + 1 + 1)
   (H : ∀ s' m' D c2' u1 u2 u3 u4 u5, (∀ z, z ≠ Str.ofString "left" → z ≠ Str.ofString "step" → m' z = m z) → m' (Str.ofString "left") = some (.ref D) → m' (Str.ofString "step") = some (.bytes (b ++ #[41]) u1) → Fr g L s'.heap m' →
     News g L s'.heap ((D, tupO [.str (Str.ofString "log") u2, .int lg.size u3, .str (chrS nd) u4]) :: (L + 1 + 1, c2') :: (L + 1 + 1 + 1 + 1, c4) :: rest) → c2'.data = .cell (some (.bytes (lg ++ #[41]) u5)) → (∀ p ∈ ((L + 1 + 1, c2) :: (L + 1 + 1 + 1 + 1, c4) :: rest), p.1 < D) → s'.gens = s.gens → s'.os = s.os →
     wpAny (model PR w) (ALaw L fa) (execs tail (envLaw L fa)) Q E s') :
   wpAny (model PR w) (ALaw L fa) (execs (outerSt 5 :: outerSt 6 :: outerSt 7 :: tail) (envLaw L fa)) Q E s := by
  have gX := cx.gx
  obtain ⟨X₀, B, ⟨_, _, _, _, _, T⟩, C1, C2, l0⟩ := cx
  conv in (occs := *) outerSt _ => all_goals whnf
  unfold ALaw envLaw
  conv in (occs := *) lawScope => all_goals whnf
  k_steps
  rename_i D_1 h_1 l1_1 h_2 t_1 k_1 h_3 F_1 N_1 t_2 k_2 h_4 o_1 F_2 N_2 cd_1
  refine H _ _ D_1 o_1 _ _ _ _ _ ?_ rfl rfl F_2 N_2 cd_1 (List.forall_mem_cons.mpr ⟨l1_1.1, List.forall_mem_cons.mpr ⟨l1_1.2.1, allLt l1_1.2.2⟩⟩) rfl rfl
  intro z h1 h2
  simp only [if_neg h1, if_neg h2]
theorem out8 {pl nA : Addr} {vp : List Value} {np nd : Nat} {tn : Tok} {ps : List Int} {cP c4 : Obj} {t1 t2 t3 : Tok} {n : Nat} {rest : List (Addr × Obj)} (cx : Cx w g L) (F : Fr g L s.heap m) (hl : m (Str.ofString "nodes") = some (.ref nA)) (hn : n ≤ 7) (hpn : ps.length = n)
   (hI : IntsAre vp ps) (hcl : cP.data = .cell (some (.ref pl))) (h4 : c4.data = .cell (some (.int nd tn)))
   (N : News g L s.heap ((L + 1, cP) :: (L + 1 + 1 + 1 + 1, c4) :: (pl, listOf vp.toArray np) :: (nA, rgO n t1 t2 t3) :: rest))
   (H : ∀ D ys h' tk e, Fr g L h' (fun z => if z = Str.ofString "coming" then some (.ref D) else m z) → News g L h' ((D, listOf ys.toArray e) :: (L + 1, cP) :: (L + 1 + 1 + 1 + 1, c4) :: (pl, listOf vp.toArray np) :: (nA, rgO n t1 t2 t3) :: rest) →
     (∀ q ∈ ((L + 1, cP) :: (L + 1 + 1 + 1 + 1, c4) :: (pl, listOf vp.toArray np) :: (nA, rgO n t1 t2 t3) :: rest), q.1 ≠ D) → IntsAre ys (pick n fun k => decide (ps.getD k 0 = nd)) → Q .next { s with heap := h', toks := tk }) :
   wpAny (model PR w) (ALaw L fa) (exec (outerSt 8) (envLaw L fa)) Q E s := by
  obtain ⟨X₀, B, ⟨_, _, _, _, _, T⟩, C1, C2, l0⟩ := cx
  conv in (occs := *) outerSt _ => all_goals whnf
  unfold ALaw envLaw
  conv in (occs := *) lawScope => all_goals whnf
  refine comp_A (L := L) (g := g) (m := m) (cl := _) (fun k => decide (ps.getD k 0 = nd)) (nameX_L F hl ⟨_, nA, n, t1, t2, t3, rfl, .tail _ (.tail _ (.tail _ (.head _))), by omega, F, N, ?_, H⟩) rfl rfl rfl rfl (by decide) rfl (by decide) (by decide) rfl rfl (fun _ => ⟨rfl, rfl⟩) (by decide) (fun _ => rfl)
  intro C k t s₂ m₂ E' hk F2 N2 E2 hns hm
  k_steps
  all_goals first
    | exact ⟨_, _, rfl, E2⟩
    | (simp only [Int.toNat_natCast] at *; first | exact (decide_eq_true (by omega)).symm | exact (decide_eq_false (by omega)).symm)
end
end JoinO5

section ResetS17
local macro_rules | `(tactic| walk_at "none") => `(tactic| skip)
theorem resetS17 : True := by first | walk1 | (w_top off; trivial)
end ResetS17
section JoinS17
section
variable {w : World} {s : Shared} {g : Heap} {L fa : Addr} {m : Str → Option Value} {Q : Flow → Shared → Prop} {E : Value → Shared → Prop} {tail : List Stmt}
theorem seg17 {lg : Array UInt8} {tg : Tok} {c2 : Obj} {rest : List (Addr × Obj)} (cx : Cx w g L) (F : Fr g L s.heap m)
   (N : News g L s.heap ((L + 1 + 1, c2) :: rest)) (h2 : c2.data = .cell (some (.bytes lg tg))) (hlg : lg.size ≤ 100)
   (H : ∀ s' m' D ys e r ro, (∀ z, z ≠ Str.ofString "shuts" → m' z = m z) → m' (Str.ofString "shuts") = some (.ref D) → Fr g L s'.heap m' → News g L s'.heap ((D, listOf (List.toArray ys) e) :: (r, ro) :: (L + 1 + 1, c2) :: rest) → (∀ q ∈ ((L + 1 + 1, c2) :: rest), q.1 ≠ D) →
     IntsAre ys (pick lg.size fun i => decide ((KBw.bInts lg).getD i 0 = 41)) → s'.gens = s.gens → s'.os = s.os → Q .next s') :
   wpAny (model PR w) (ALaw L fa) (exec (lawSt 17) (envLaw L fa)) Q E s := by
  have gX := cx.gx
  obtain ⟨X₀, B, ⟨_, _, _, _, _, T⟩, C1, C2, l0⟩ := cx
  conv in (occs := *) lawSt _ => all_goals whnf
  unfold ALaw envLaw
  conv in (occs := *) lawScope => all_goals whnf
  refine comp_A (L := L) (g := g) (m := m) (cl := _) (fun i => decide ((KBw.bInts lg).getD i 0 = 41)) ?h rfl rfl rfl rfl (by decide) rfl (by decide) (by decide) rfl rfl (fun _ => ⟨rfl, rfl⟩) (by decide) (fun _ => rfl)
  repeat' (first | ((fail_if_success (with_reducible show wpAny _ _ (PySem.call (Value.type "range") _) _ _ _)); walk1))
  rename Fr _ _ _ _ => F1
  rename News _ _ _ _ => N1
  refine' range_L ?F ?N ?_
  case F => exact F1
  case N => exact N1
  intro r h' tk t1 t2 t3 F' N' l1
  refine ⟨_, r, lg.size, t1, t2, t3, rfl, .head _, by omega, F', N', ?_, ?_⟩
  · intro C k t s₂ m₂ E' hk F2 N2 E2 hns hm
    k_steps
    refine KBw.item_K rfl (by rw [KBw.ints_length]; omega) (by omega) (by rw [KBw.ints_length]; omega) ?_
    intro t' k' lo hi
    k_steps
    exact ⟨_, _, rfl, E2⟩
  · intro D ys h' tk e F' N' ne hys
    refine H _ _ D ys e r _ ?_ rfl F' N' (fun q hq => ne q (.tail _ hq)) hys rfl rfl
    intro z hz
    simp only [if_neg hz]
end
end JoinS17

section ResetS20
local macro_rules | `(tactic| walk_at "none") => `(tactic| skip)
theorem resetS20 : True := by first | walk1 | (w_top off; trivial)
end ResetS20
section JoinS20
theorem picked_pre {lg : Array UInt8} {p : Int} (hp : 0 ≤ p) : KBy.picked lg none (some p) = (lg.toList.take p.toNat).toArray := by
  obtain ⟨n, rfl⟩ := Int.eq_ofNat_of_zero_le hp
  rw [KBc.picked_eq]
  simp only [Option.elim, clipAt_nat, List.drop_zero, Nat.sub_zero, Int.toNat_natCast]
  congr 1
  rw [← Array.length_toList, List.take_eq_take_iff]
  omega
theorem cut1 {l : List UInt8} (h : ∀ c ∈ l, c.toNat ≠ 34) : Cut (l.toArray.map (·.toNat)).toList [l.map (·.toNat)] := by
  have e : (l.toArray.map (·.toNat)).toList = l.map (·.toNat) := by simp
  rw [e]
  refine .last fun c hc => ?_
  obtain ⟨x, hx, rfl⟩ := List.mem_map.1 hc
  exact h x hx
theorem toB1 (l : List UInt8) : (toB [l.map (·.toNat)].flatten).toList = l := by
  simp only [toB, List.flatten_cons, List.flatten_nil, List.append_nil, List.map_map]
  have : ((fun x : Nat => x.toUInt8) ∘ fun x : UInt8 => x.toNat) = _root_.id := by
    funext x
    exact UInt8.ofNat_toNat
  rw [this, List.map_id]
theorem picked_cut {lg : Array UInt8} {p : Int} (hp : 0 ≤ p) (h : ∀ c ∈ lg.toList, c.toNat ≠ 34) : Cut ((KBy.picked lg none (some p)).map (·.toNat)).toList [(lg.toList.take p.toNat).map (·.toNat)] := by
  rw [picked_pre hp]
  exact cut1 fun c hc => h c (List.mem_of_mem_take hc)
/-- the sum of the first k -/
noncomputable def upto (Z : List Int) (k : Nat) : Int := (Z.take k).sum
noncomputable def weigh (Z : List Int) : Nat → Int
  | 0 => 0
  | k + 1 => weigh Z k + (k : Int) * Z.getD k 0
theorem upto_succ {Z : List Int} {k : Nat} (h : k < Z.length) : upto Z (k + 1) = upto Z k + Z.getD k 0 := by
  unfold upto
  rw [List.take_add_one, List.getElem?_eq_getElem h, List.getD_eq_getElem?_getD, List.getElem?_eq_getElem h, List.sum_append]
  show _ + (Z[k] + 0) = _ + Z[k]
  rw [Int.add_zero]
theorem weigh_succ {Z : List Int} {k : Nat} : weigh Z (k + 1) = weigh Z k + (k : Int) * Z.getD k 0 := rfl
inductive LevJ (g : Heap) (L : Addr) (m : Str → Option Value) (Z : List Int) (led : List (Addr × Obj)) (s : Shared) (it : Value) (k : Nat) (s' : Shared) : Prop
  | mk (I : _) (rg : _) (m' : _) (ta : _) (tb : _) (t1 : _) (t2 : _) (t3 : _) : (it = .ref I) → (Fr g L s'.heap m') → ((∀ z, z ≠ Str.ofString "gone" → z ≠ Str.ofString "weighed" → z ≠ Str.ofString "level" → z ≠ Str.ofString "size" → m' z = m z)) → (m' (Str.ofString "gone") = some (.int (upto Z k) ta)) → (m' (Str.ofString "weighed") = some (.int (weigh Z k) tb)) → (@LT.lt Nat _ rg I) → (News g L s'.heap ((I, riO k (Z.length - k : Int)) :: (rg, rgO Z.length t1 t2 t3) :: led)) → ((∀ p ∈ led, p.1 < rg)) → (s'.gens = s.gens) → (s'.os = s.os) → LevJ g L m Z led s it k s'
section
variable {w : World} {s : Shared} {g : Heap} {L fa : Addr} {m : Str → Option Value} {Q : Flow → Shared → Prop} {E : Value → Shared → Prop} {tail : List Stmt}
theorem seg18 {lA D : Addr} {us ys : List Value} {lv sh Z : List Int} {n1 n4 : Nat} {lg : Array UInt8} {tg : Tok} {c2 c5 : Obj} {rest : List (Addr × Obj)} (cx : Cx w g L) (F : Fr g L s.heap m) (hs : m (Str.ofString "shuts") = some (.ref D))
   (N : News g L s.heap ((D, listOf (List.toArray ys) n4) :: (lA, listOf (List.toArray us) n1) :: (L + 1 + 1, c2) :: (L + 1 + 1 + 1 + 1 + 1, c5) :: rest)) (h2 : c2.data = .cell (some (.bytes lg tg))) (h5 : c5.data = .cell (some (.ref lA))) (hI : IntsAre us lv) (hY : IntsAre ys sh)
   (hl7 : lv.length ≤ 7) (hl3 : 3 ≤ lv.length) (hZ : Z.length ≤ 8) (hM : ∀ M ∈ lv, (∀ a ∈ lv, a ≤ M) → M + 1 = (Z.length : Int)) (hlg : lg.size ≤ 100) (h34 : ∀ c ∈ lg.toList, c.toNat ≠ 34)
   (hc : ∀ k, k < Z.length → 0 ≤ upto Z k ∧ upto Z k < (sh.length : Int) ∧ sh.length ≤ 100 ∧ 0 ≤ sh.getD (upto Z k).toNat 0 ∧ 0 ≤ Z.getD k 0 ∧ Z.getD k 0 ≤ 100 ∧ Z.getD k 0 = (lv.count (k : Int) : Nat) ∧
     0 + ((lg.toList.take (sh.getD (upto Z k).toNat 0).toNat).count 40 : Nat) - ((lg.toList.take (sh.getD (upto Z k).toNat 0).toNat).count 41 : Nat) = Z.getD k 0)
   (H : ∀ s' m' ta, (∀ z, z ≠ Str.ofString "gone" → z ≠ Str.ofString "weighed" → z ≠ Str.ofString "level" → z ≠ Str.ofString "size" → m' z = m z) → m' (Str.ofString "weighed") = some (.int (weigh Z Z.length) ta) → Fr g L s'.heap m' →
     News g L s'.heap ((D, listOf (List.toArray ys) n4) :: (lA, listOf (List.toArray us) n1) :: (L + 1 + 1, c2) :: (L + 1 + 1 + 1 + 1 + 1, c5) :: rest) → s'.gens = s.gens → s'.os = s.os → wpAny (model PR w) (ALaw L fa) (execs tail (envLaw L fa)) Q E s') :
   wpAny (model PR w) (ALaw L fa) (execs (lawSt 18 :: lawSt 19 :: lawSt 20 :: tail) (envLaw L fa)) Q E s := by
  have gX := cx.gx
  have l9 : @LT.lt Nat _ 185 L := cx.l0
  obtain ⟨X₀, B, ⟨_, _, _, _, _, T⟩, C1, C2, l0⟩ := cx
  conv in (occs := *) lawSt _ => all_goals whnf
  unfold ALaw envLaw
  conv in (occs := *) lawScope => all_goals whnf
  have hyl := hY.length
  have hul := hI.length
  repeat' (first | ((fail_if_success (with_reducible show wpAny _ _ (exec (PySem.Stmt.For _ _ _ _ _) _) _ _ _)); walk1))
  rename Fr _ _ _ _ => F1
  rename News _ _ _ _ => N1
  refine for_go (n := Z.length) (LevJ g L m Z ((D, listOf (List.toArray ys) n4) :: (lA, listOf (List.toArray us) n1) :: (L + 1 + 1, c2) :: (L + 1 + 1 + 1 + 1 + 1, c5) :: rest) s) ?_ ?_ ?_
  · repeat' (first | ((fail_if_success (with_reducible show wpAny _ _ (PySem.call (Value.type "range") _) _ _ _)); walk1))
    rename_i M aM bM hM1 hM2
    have hMe := hM _ hM1 hM2
    rw [hMe]
    rename Fr _ _ _ _ => F2
    rename News _ _ _ _ => N2
    refine range_L F2 N2 ?_
    intro r h' tk t1 t2 t3 F' N' l1
    refine wpAny_mono (riter_K (E := E) F' N' (N' _ (.head _)).1 (by omega) ?_) (fun _ _ h => h) fun _ _ h => h
    intro I h2 F2 N2 l2
    refine ⟨I, r, _, _, _, t1, t2, t3, rfl, F2, ?_, rfl, rfl, l2 (r, _) (.head _), ?_, l1, rfl, rfl⟩
    · intro z z1 z2 z3 z4
      simp only [if_neg z1, if_neg z2]
    · rw [show (Z.length : Int) - ((0 : Nat) : Int) = Z.length by omega]
      exact N2
  · rintro it k s' E' hk ⟨I, rg, m', ta, tb, t1, t2, t3, rfl, F8, e0, e1, e2, l1, N8, l2, hg8, ho8⟩
    generalize hB : LevJ g L m Z ((D, listOf (List.toArray ys) n4) :: (lA, listOf (List.toArray us) n1) :: (L + 1 + 1, c2) :: (L + 1 + 1 + 1 + 1 + 1, c5) :: rest) s (.ref I) (k + 1) = B
    have l3 := l2 (D, _) (.head _)
    have l4 := l2 (lA, _) (.tail _ (.head _))
    have l5 := l2 (L + 1 + 1, _) (.tail _ (.tail _ (.head _)))
    have l6 := l2 (L + 1 + 1 + 1 + 1 + 1, _) (.tail _ (.tail _ (.tail _ (.head _))))
    obtain ⟨c1, c3, c4, c6, c7, c8, c9, c10⟩ := hc k hk
    refine rnext_K F8 N8 (.head (List.forall_mem_cons.mpr ⟨Nat.ne_of_lt l1, fun p hp => Nat.ne_of_lt (Nat.lt_trans (l2 p hp) l1)⟩)) (by omega) ?_
    intro h' F9 N9
    refine ⟨_, rfl, wpAny_pure ?_⟩
    refine wpAny_assign_Name ?_
    (try dsimp only at N9)
    clear F8 N8
    have hs9 : m' (Str.ofString "shuts") = some (.ref D) := by rw [e0 _ (by decide) (by decide) (by decide) (by decide)]; exact hs
    walk1
    repeat' (first | ((fail_if_success (with_reducible show wpAny _ _ (PySem.call (Value.ref 51) _) _ _ _)); walk1))
    rename Fr _ _ _ _ => F1
    rename News _ _ _ _ => N1
    refine KBc.slice_K (s := ⟨_, _, _, _, _⟩) F1 N1 rfl (by constructor) (by constructor) (by rw [KBw.ints_length]; omega) ?_
    intro h2 t' k2 F2 N2 _
    have hcut := picked_cut (lg := lg) c6 h34
    have hsz := KBc.size_picked_le lg none (some (sh.getD (upto Z k).toNat 0))
    repeat' (first | ((fail_if_success (with_reducible show wpAny _ _ (PySem.call (Value.ref 51) _) _ _ _)); walk1))
    rename Fr _ _ _ _ => F1
    rename News _ _ _ _ => N1
    refine' pd0 (outer := []) (A₀ := callerA) ?gx ?F ?N ?c ?z ?_
    case F => exact F1
    case N => exact N1
    case c => exact hcut
    case z => omega
    case gx => exact gX
    intro s9 tk9 F9 N9 hg9 ho9
    rw [toB1, c10]
    k_steps
    all_goals first
      | (exfalso; omega)
      | (rename Fr _ _ _ _ => F3
         rename News _ _ _ _ => N3
         subst hB
         refine ⟨I, rg, _, _, _, t1, t2, t3, rfl, F3, ?_, by rw [upto_succ hk]; rfl, by rw [weigh_succ]; rfl, l1, ?_, l2, hg9.trans hg8, ho9.trans ho8⟩
         · intro z z1 z2 z3 z4
           simp only [if_neg z1, if_neg z2, if_neg z3, if_neg z4]
           exact e0 z z1 z2 z3 z4
         · rw [show (Z.length : Int) - ((k + 1 : Nat) : Int) = Z.length - k - 1 by omega]
           exact N3)
  · rintro it s' E' ⟨I, rg, m', ta, tb, t1, t2, t3, rfl, F8, e0, e1, e2, l1, N8, l2, hg8, ho8⟩
    refine rend_K rfl F8 N8 (List.forall_mem_cons.mpr ⟨Nat.ne_of_lt l1, fun p hp => Nat.ne_of_lt (Nat.lt_trans (l2 p hp) l1)⟩) (by omega) ?_
    intro h' F6 N6
    exact ⟨rfl, H _ _ _ e0 e2 F6 (ncut N6) hg8 ho8⟩
end
end JoinS20

section ResetMA
local macro_rules | `(tactic| walk_at "none") => `(tactic| skip)
theorem resetMA : True := by first | walk1 | (w_top off; trivial)
end ResetMA
section JoinMA
noncomputable def Wd : Str := Str.ofString "<caller func_get_function_name() failed>"
/-- what stays as it is, once the main loop is reached -/
structure Cf where
  (lA pA nA dl pl dx x T0 D0 : Addr)
  (us pcs vd vp : List Value)
  (n1 n2 n3 n4 : Nat)
  (t1 t2 t3 z1 z2 z3 z4 : Tok)
  (o0 c1 c5 : Obj)
  (lv ps ds : List Int)
  (pieces : List (Array UInt8))
/-- what the main loop changes, in plain terms -/
structure PS where
  (q : List Int) (lg step : List UInt8) (waits a b c d : Int) (tab : Tab) (left : Option Int)
/-- and where it lies -/
structure Dy where
  (its : List Value) (n : Nat) (h0 : Int) (t0 : Tok) (v0 : Value) (Tt Dt lf : Addr) (oD lfo : Obj) (kD : List (Str × Value)) (y1 y2 y3 y4 tb tw tW tg : Tok) (tb1 tb2 : Array Value) (c2 c3 c4 : Obj) (dyn : List (Addr × Obj))
noncomputable def led (L : Addr) (c : Cf) (p : PS) (d : Dy) : List (Addr × Obj) :=
  (c.x, accO c.dx d.its d.n) :: (c.dx, accD d.h0 d.t0 d.v0) :: (d.Tt, tup5 p.a p.b p.c p.d d.y1 d.y2 d.y3 d.y4 d.Dt) :: (d.Dt, d.oD) :: (d.lf, d.lfo) :: (100, tabObj d.tb1) :: (185, tabObj d.tb2) ::
  (L + 1, c.c1) :: (L + 1 + 1, d.c2) :: (L + 1 + 1 + 1, d.c3) :: (L + 1 + 1 + 1 + 1, d.c4) :: (L + 1 + 1 + 1 + 1 + 1, c.c5) ::
  (c.lA, listOf (List.toArray c.us) c.n1) :: (c.pA, listOf (List.toArray c.pcs) c.n2) :: (c.nA, rgO (c.lv.length : Nat) c.t1 c.t2 c.t3) :: (c.dl, listOf (List.toArray c.vd) c.n3) :: (c.pl, listOf (List.toArray c.vp) c.n4) ::
  (c.T0, tup5 0 0 0 0 c.z1 c.z2 c.z3 c.z4 c.D0) :: (c.D0, c.o0) :: d.dyn
structure CfOk (w : World) (L : Addr) (c : Cf) : Prop where
  l9 : @LT.lt Nat _ 185 L
  l1 : @LT.lt Nat _ (L + 1 + 1 + 1 + 1 + 1) c.lA
  l2 : @LT.lt Nat _ c.lA c.pA
  l3 : @LT.lt Nat _ c.pA c.nA
  l4 : @LT.lt Nat _ c.nA c.dl
  l5 : @LT.lt Nat _ c.dl c.pl
  l6 : @LT.lt Nat _ c.pl c.dx
  l7 : @LT.lt Nat _ c.dx c.x
  l8 : @LT.lt Nat _ c.x c.D0
  l10 : @LT.lt Nat _ c.D0 c.T0
  hI : IntsAre c.us c.lv
  hvp : IntsAre c.vp c.ps
  hvd : IntsAre c.vd c.ds
  h1 : c.c1.data = .cell (some (.ref c.pl))
  h5 : c.c5.data = .cell (some (.ref c.lA))
  hl7 : c.lv.length ≤ 7
  hp : c.ps.length = c.lv.length
  hd : c.ds.length = c.lv.length + 1
  hlv : ∀ i, c.lv.getD i 0 ≤ 100 ∧ -100 ≤ c.lv.getD i 0
  hps : ∀ i, -1 ≤ c.ps.getD i 0 ∧ c.ps.getD i 0 ≤ 100
  hds : ∀ i, 0 ≤ c.ds.getD i 0 ∧ c.ds.getD i 0 ≤ 100
structure Apart (L : Addr) (c : Cf) (a : Addr) : Prop where
  n100 : a ≠ 100
  n185 : a ≠ 185
  n2 : a ≠ L + 1 + 1
  n3 : a ≠ L + 1 + 1 + 1
  n4 : a ≠ L + 1 + 1 + 1 + 1
  nx : a ≠ c.x
  nd : a ≠ c.dx
theorem apart_of {w : World} {L a : Addr} {c : Cf} (co : CfOk w L c) (h : @LT.lt Nat _ c.x a) : Apart L c a := by
  obtain ⟨l9, l1, l2, l3, l4, l5, l6, l7, l8, l10, _⟩ := co
  exact ⟨Nat.ne_of_gt (by omega), Nat.ne_of_gt (by omega), Nat.ne_of_gt (by omega), Nat.ne_of_gt (by omega), Nat.ne_of_gt (by omega), Nat.ne_of_gt (by omega), Nat.ne_of_gt (by omega)⟩
structure Big (w : World) (g : Heap) (L : Addr) (c : Cf) (p : PS) (d : Dy) (s : Shared) (m : Str → Option Value) : Prop where
  F : Fr g L s.heap m
  N : News g L s.heap (led L c p d)
  G : AllBare s.gens
  mq : m (Str.ofString "queue") = some (.ref c.x)
  ms : m (Str.ofString "step") = some (.bytes p.step.toArray d.tb)
  mw : m (Str.ofString "waits") = some (.int p.waits d.tw)
  ml : m (Str.ofString "left") = some (.ref d.lf)
  mt : m (Str.ofString "total") = some (.ref d.Tt)
  mn : m (Str.ofString "nothing") = some (.ref c.T0)
  mW : m (Str.ofString "words") = some (.str Wd d.tW)
  md : m (Str.ofString "depths") = some (.ref c.dl)
  mo : m (Str.ofString "nodes") = some (.ref c.nA)
  mp : m (Str.ofString "pieces") = some (.ref c.pA)
  hits : d.its.length = p.q.length
  hit : ∀ i, i < d.its.length → ∃ q t1 t2, d.its[i]? = some (.ref q) ∧ (q, tupO [.str (Str.ofString " ") t1, .str (chrS (p.q.getD i 0)) t2]) ∈ d.dyn
  hlf : (p.left = none ∧ d.lfo = tupO []) ∨ ∃ r a1 a2 t, p.left = some r ∧ d.lfo = tupO [a1, a2, .str (chrS r) t]
  hD : Obj.IsDictOf (strKind PR w) d.oD d.kD
  hF : PyProof.V.FlatPairs PyData.str d.kD (kdpD p.tab)
  lo : (d.Dt == sysModules) = false
  h2 : d.c2.data = .cell (some (.bytes p.lg.toArray d.tg))
  h3 : ∃ v, d.c3.data = .cell v
  h4 : ∃ v, d.c4.data = .cell v
  tri : TriplesOk d.tb1.toList
  lT : @LT.lt Nat _ c.x d.Tt
  lD : @LT.lt Nat _ c.x d.Dt
  ll : @LT.lt Nat _ c.x d.lf
  hdyn : ∀ z ∈ d.dyn, Apart L c z.1
theorem pick_le (n : Nat) (p : Nat → Bool) : (pick n p).length ≤ n := by
  unfold pick
  rw [List.length_map]
  exact Nat.le_trans (List.length_filter_le _ _) (by rw [List.length_range]; exact Nat.le_refl _)
noncomputable def wsOf (lv : List Int) (k : Nat) : List Int := (pick lv.length fun i => decide (k < i ∧ lv.getD i 0 = lv.getD k 0 - 1)) ++ pick lv.length fun i => decide (i < k ∧ lv.getD i 0 = lv.getD k 0)
noncomputable def callerOf (ps : List Int) (k : Nat) : Str := if 0 ≤ ps.getD k 0 then chrS (ps.getD k 0) else Wd
noncomputable def PS.turn (p : PS) (lv ps ds : List Int) (k : Nat) : PS :=
  { q := p.q ++ [(k : Int)], lg := p.lg ++ [40], step := [40], waits := (wsOf lv k).length, a := (if ps.getD k 0 = -1 then 1 else 0) + p.a, b := 1 + p.b, c := ds.getD k 0 + p.c, d := (wsOf lv k).length + p.d,
    tab := merge p.tab [(callerOf ps k, 1)], left := p.left }
noncomputable def PS.okTurn (p : PS) (lv ps : List Int) (k : Nat) : Bool :=
  decide (k < lv.length) && decide (p.waits + (p.step.count 40 : Nat) - (p.step.count 41 : Nat) = (wsOf lv k).length) && decide (p.q = wsOf lv k) && decide (p.left = if 0 ≤ ps.getD k 0 then some (ps.getD k 0) else none) &&
  (p.step.all fun c => decide (c.toNat ≠ 34)) && decide (p.step.length ≤ 100) && decide (p.lg.length ≤ 90) && decide (p.tab.length ≤ 8) && decide ((wsOf lv k).length ≤ 13) && ((wsOf lv k).all fun a => decide (0 ≤ a ∧ a < 14))
section
variable {w : World} {s : Shared} {g : Heap} {L fa : Addr} {m : Str → Option Value} {Q : Flow → Shared → Prop} {E : Value → Shared → Prop}
theorem turn_in {c : Cf} {p : PS} {d : Dy} {k : Nat} {tk : Tok} (cx : Cx w g L) (co : CfOk w L c) (hb : Big w g L c p d s m) (hok : p.okTurn c.lv c.ps k = true) (h3 : d.c3.data = .cell (some (.int k tk)))
   (H : ∀ s' m' d' new, Big w g L c (p.turn c.lv c.ps c.ds k) d' s' m' → d'.dyn = new ++ d.dyn → (∀ q ∈ new, ∀ z ∈ d.dyn, z.1 < q.1) → (∀ z ∈ d.dyn, @LT.lt Nat _ z.1 d'.Tt) → (∀ z ∈ d.dyn, @LT.lt Nat _ z.1 d'.Dt) → d'.lf = d.lf → d'.c4 = d.c4 → m' (Str.ofString "coming") = m (Str.ofString "coming") → s'.os = s.os → Q .next s') :
   wpAny (model PR w) (ALaw L fa) (execs innerBody (envLaw L fa)) Q E s := by
  obtain ⟨lA, pA, nA, dl, pl, dx, x, T0, D0, us, pcs, vd, vp, n1, n2, n3, n4, t1, t2, t3, z1, z2, z3, z4, o0, c1, c5, lv, ps, ds, pieces⟩ := c
  obtain ⟨q, lg, step, waits, a, b, cc, dd, tab, left⟩ := p
  obtain ⟨its, n, h0, t0, v0, Tt, Dt, lf, oD, lfo, kD, y1, y2, y3, y4, tb, tw, tW, tg, tb1, tb2, c2, c3, c4, dyn⟩ := d
  obtain ⟨F, N, G, mq, ms, mw, ml, mt, mn, mW, md, mo, mp, hits, hit, hlf, hD, hF, lo, h2, h3', h4, tri, lT, lD, ll, hdyn⟩ := hb
  have co' := co
  obtain ⟨l9, l1, l2, l3, l4, l5, l6, l7, l8, l10, hI, hvp, hvd, h1, h5, hl7, hp, hd, hlv, hps, hds⟩ := co
  unfold PS.okTurn at hok
  unfold led at N
  dsimp only at *
  simp only [Bool.and_eq_true, decide_eq_true_eq, List.all_eq_true] at hok
  obtain ⟨⟨⟨⟨⟨⟨⟨⟨⟨hk, hcnt⟩, hq⟩, hleft⟩, h34⟩, hsl⟩, hll⟩, htl⟩, hwl⟩, hwa⟩ := hok
  subst hq
  show wpAny _ _ (execs (innerSt 0 :: innerSt 1 :: innerSt 2 :: innerSt 3 :: innerSt 4 :: innerSt 5 :: innerSt 6 :: innerSt 7 :: innerSt 8 :: innerSt 9 :: innerSt 10 :: innerSt 11 :: []) (envLaw L fa)) Q E s
  refine wpAny_execs_cons (inn1 (rest := (x, accO dx its n) :: (dx, accD h0 t0 v0) :: (Tt, tup5 a b cc dd y1 y2 y3 y4 Dt) :: (Dt, oD) :: (lf, lfo) :: (100, tabObj tb1) :: (185, tabObj tb2) :: (L + 1, c1) :: (L + 1 + 1, c2) :: (L + 1 + 1 + 1 + 1, c4) :: (pA, listOf (List.toArray pcs) n2) :: (dl, listOf (List.toArray vd) n3) :: (pl, listOf (List.toArray vp) n4) :: (T0, tup5 0 0 0 0 z1 z2 z3 z4 D0) :: (D0, o0) :: dyn) cx F mo (by lge_lay) h3 h5 hI hl7 hk hlv ?_)
  intro D ys h_1 k_1 e_1 F1 N1 hne1 hys1
  clear F N
  have lw1 : (pick lv.length fun i => decide (k < i ∧ lv.getD i 0 = lv.getD k 0 - 1)).length ≤ 7 := Nat.le_trans (pick_le _ _) hl7
  refine wpAny_execs_cons (inn2 (rest := (x, accO dx its n) :: (dx, accD h0 t0 v0) :: (Tt, tup5 a b cc dd y1 y2 y3 y4 Dt) :: (Dt, oD) :: (lf, lfo) :: (100, tabObj tb1) :: (185, tabObj tb2) :: (L + 1, c1) :: (L + 1 + 1, c2) :: (L + 1 + 1 + 1 + 1, c4) :: (pA, listOf (List.toArray pcs) n2) :: (dl, listOf (List.toArray vd) n3) :: (pl, listOf (List.toArray vp) n4) :: (T0, tup5 0 0 0 0 z1 z2 z3 z4 D0) :: (D0, o0) :: dyn) cx F1 (by exact mo) (by rfl) N1 h3 h5 hI hl7 hk hlv hne1 hys1 lw1 ?_)
  intro ys2 h_2 k_2 e2 F2 N2 hys2
  clear F1
  have hys2 : IntsAre ys2 (wsOf lv k) := hys2
  have hD0 : D ≠ 100 := Ne.symm (hne1 (100, _) (by k_mem))
  refine inn3 (rest := (Tt, tup5 a b cc dd y1 y2 y3 y4 Dt) :: (Dt, oD) :: (lf, lfo) :: (100, tabObj tb1) :: (185, tabObj tb2) :: (L + 1, c1) :: (L + 1 + 1, c2) :: (L + 1 + 1 + 1, c3) :: (L + 1 + 1 + 1 + 1, c4) :: (L + 1 + 1 + 1 + 1 + 1, c5) :: (lA, listOf (List.toArray us) n1) :: (pA, listOf (List.toArray pcs) n2) :: (nA, rgO (lv.length : Nat) t1 t2 t3) :: (dl, listOf (List.toArray vd) n3) :: (pl, listOf (List.toArray vp) n4) :: (T0, tup5 0 0 0 0 z1 z2 z3 z4 D0) :: (D0, o0) :: dyn) cx F2 (by exact mq) (by rfl) (by exact ms) (by exact mw) (by lge_lay) hys2 (by omega) (cut1 h34) (by rw [List.size_toArray]; omega) (by rw [toB1]; exact hcnt) (by omega) ?_
  intro s_3 k_3 F3 N3 hg3 ho3
  clear F2 N2 N1
  refine inn4 (rest := (Tt, tup5 a b cc dd y1 y2 y3 y4 Dt) :: (Dt, oD) :: (lf, lfo) :: (185, tabObj tb2) :: (L + 1, c1) :: (L + 1 + 1, c2) :: (L + 1 + 1 + 1, c3) :: (L + 1 + 1 + 1 + 1, c4) :: (L + 1 + 1 + 1 + 1 + 1, c5) :: (lA, listOf (List.toArray us) n1) :: (pA, listOf (List.toArray pcs) n2) :: (nA, rgO (lv.length : Nat) t1 t2 t3) :: (dl, listOf (List.toArray vd) n3) :: (pl, listOf (List.toArray vp) n4) :: (T0, tup5 0 0 0 0 z1 z2 z3 z4 D0) :: (D0, o0) :: dyn) cx F3 (by exact mq) (by rfl) (by lge_lay) hys2 (by omega) hwa (by rw [hg3]; exact G) tri ?_ hD0 (by omega) (by omega) (by omega) ?_ ?_
  · ((repeat (refine List.forall_mem_cons.mpr ⟨by first | exact Nat.ne_of_lt (by omega) | exact Nat.ne_of_gt (by omega), ?_⟩)); skip)
    exact fun z hz => (hdyn z hz).n100
  · intro i hi
    obtain ⟨q', u1, u2, e1, e2⟩ := hit i hi
    exact ⟨q', u1, u2, e1, by (repeat (first | exact e2 | refine List.Mem.tail _ ?_))⟩
  intro s_4 tb1' F4 N4 tri4 G4 ho4
  clear F3 N3
  obtain ⟨m4, hm4, hw4, F5⟩ : ∃ m4 : Str → Option Value, (∀ z, z ≠ Str.ofString "waiting" → z ≠ Str.ofString "waits" → m4 z = m z) ∧ m4 (Str.ofString "waits") = some (.int (wsOf lv k).length k_3) ∧ Fr g L s_4.heap m4 :=
    ⟨_, fun z a b => by simp only [if_neg a, if_neg b], rfl, F4⟩
  clear F4
  have mv : ∀ {z : Str} {v : Value}, m z = some v → z ≠ Str.ofString "waiting" → z ≠ Str.ofString "waits" → m4 z = some v := fun e a b => (hm4 _ a b).trans e
  have N5 : News g L s_4.heap ((100, tabObj tb1') :: (x, accO dx its n) :: (dx, accD h0 t0 v0) :: (Tt, tup5 a b cc dd y1 y2 y3 y4 Dt) :: (Dt, oD) :: (lf, lfo) :: (185, tabObj tb2) :: (L + 1, c1) :: (L + 1 + 1, c2) :: (L + 1 + 1 + 1, c3) :: (L + 1 + 1 + 1 + 1, c4) :: (L + 1 + 1 + 1 + 1 + 1, c5) :: (lA, listOf (List.toArray us) n1) :: (pA, listOf (List.toArray pcs) n2) :: (nA, rgO (lv.length : Nat) t1 t2 t3) :: (dl, listOf (List.toArray vd) n3) :: (pl, listOf (List.toArray vp) n4) :: (T0, tup5 0 0 0 0 z1 z2 z3 z4 D0) :: (D0, o0) :: dyn) := by lge_lay
  clear N4
  have hcall : ∀ Q' : Flow → Shared → Prop, (∀ s' t, Fr g L s'.heap (fun z => if z = Str.ofString "caller" then some (.str (callerOf ps k) t) else m4 z) → News g L s'.heap ((100, tabObj tb1') :: (x, accO dx its n) :: (dx, accD h0 t0 v0) :: (Tt, tup5 a b cc dd y1 y2 y3 y4 Dt) :: (Dt, oD) :: (lf, lfo) :: (185, tabObj tb2) :: (L + 1, c1) :: (L + 1 + 1, c2) :: (L + 1 + 1 + 1, c3) :: (L + 1 + 1 + 1 + 1, c4) :: (L + 1 + 1 + 1 + 1 + 1, c5) :: (lA, listOf (List.toArray us) n1) :: (pA, listOf (List.toArray pcs) n2) :: (nA, rgO (lv.length : Nat) t1 t2 t3) :: (dl, listOf (List.toArray vd) n3) :: (pl, listOf (List.toArray vp) n4) :: (T0, tup5 0 0 0 0 z1 z2 z3 z4 D0) :: (D0, o0) :: dyn) → s'.gens = s_4.gens → s'.os = s_4.os → Q' .next s') →
      wpAny (model PR w) (ALaw L fa) (exec (innerSt 5) (envLaw L fa)) Q' E s_4 := by
    intro Q' hQ
    rcases hlf with ⟨e1, e2⟩ | ⟨r, a1, a2, t, e1, e2⟩
    · have hneg : ¬ 0 ≤ ps.getD k 0 := by
        intro h
        rw [e1, if_pos h] at hleft
        cases hleft
      have hc : callerOf ps k = Wd := if_neg hneg
      subst e2
      rw [hc] at hQ
      refine inn5a (rest := (100, tabObj tb1') :: (x, accO dx its n) :: (dx, accD h0 t0 v0) :: (Tt, tup5 a b cc dd y1 y2 y3 y4 Dt) :: (Dt, oD) :: (185, tabObj tb2) :: (L + 1, c1) :: (L + 1 + 1, c2) :: (L + 1 + 1 + 1, c3) :: (L + 1 + 1 + 1 + 1, c4) :: (L + 1 + 1 + 1 + 1 + 1, c5) :: (lA, listOf (List.toArray us) n1) :: (pA, listOf (List.toArray pcs) n2) :: (nA, rgO (lv.length : Nat) t1 t2 t3) :: (dl, listOf (List.toArray vd) n3) :: (pl, listOf (List.toArray vp) n4) :: (T0, tup5 0 0 0 0 z1 z2 z3 z4 D0) :: (D0, o0) :: dyn) cx F5 (mv ml (by decide) (by decide)) (by lge_lay) ?_
      intro s5 t5 F6 N6 hg6 ho6
      exact hQ s5 t5 F6 (by lge_lay) hg6 ho6
    · have hpos : 0 ≤ ps.getD k 0 := by
        by_cases h : 0 ≤ ps.getD k 0
        · exact h
        · rw [e1, if_neg h] at hleft
          cases hleft
      have hr : r = ps.getD k 0 := by
        rw [e1, if_pos hpos] at hleft
        exact Option.some.inj hleft
      have hc : callerOf ps k = chrS (ps.getD k 0) := if_pos hpos
      subst e2
      rw [hc] at hQ
      subst hr
      refine inn5b (rest := (100, tabObj tb1') :: (x, accO dx its n) :: (dx, accD h0 t0 v0) :: (Tt, tup5 a b cc dd y1 y2 y3 y4 Dt) :: (Dt, oD) :: (185, tabObj tb2) :: (L + 1, c1) :: (L + 1 + 1, c2) :: (L + 1 + 1 + 1, c3) :: (L + 1 + 1 + 1 + 1, c4) :: (L + 1 + 1 + 1 + 1 + 1, c5) :: (lA, listOf (List.toArray us) n1) :: (pA, listOf (List.toArray pcs) n2) :: (nA, rgO (lv.length : Nat) t1 t2 t3) :: (dl, listOf (List.toArray vd) n3) :: (pl, listOf (List.toArray vp) n4) :: (T0, tup5 0 0 0 0 z1 z2 z3 z4 D0) :: (D0, o0) :: dyn) cx F5 (mv ml (by decide) (by decide)) (by lge_lay) ?_
      intro s5 F6 N6 hg6 ho6
      exact hQ s5 t F6 (by lge_lay) hg6 ho6
  refine wpAny_execs_cons (hcall _ ?_)
  intro s5 t5 F6 N6 hg6 ho6
  clear F5 N5 hcall
  dsimp only
  refine inn6 (rest := (100, tabObj tb1') :: (x, accO dx its n) :: (dx, accD h0 t0 v0) :: (Tt, tup5 a b cc dd y1 y2 y3 y4 Dt) :: (Dt, oD) :: (lf, lfo) :: (185, tabObj tb2) :: (L + 1 + 1, c2) :: (L + 1 + 1 + 1 + 1, c4) :: (L + 1 + 1 + 1 + 1 + 1, c5) :: (lA, listOf (List.toArray us) n1) :: (pA, listOf (List.toArray pcs) n2) :: (nA, rgO (lv.length : Nat) t1 t2 t3) :: (dl, listOf (List.toArray vd) n3) :: (T0, tup5 0 0 0 0 z1 z2 z3 z4 D0) :: (D0, o0) :: dyn) cx F6 (by rfl) (by exact mv mW (by decide) (by decide)) (by lge_lay) h3 h1 hvp (by omega) (by omega) hps rfl ?_
  intro s6 t6 F7 N7 hg7 ho7
  clear F6 N6
  refine wpAny_execs_cons (inn8 (rest := (100, tabObj tb1') :: (x, accO dx its n) :: (dx, accD h0 t0 v0) :: (lf, lfo) :: (185, tabObj tb2) :: (L + 1, c1) :: (L + 1 + 1, c2) :: (L + 1 + 1 + 1 + 1, c4) :: (L + 1 + 1 + 1 + 1 + 1, c5) :: (lA, listOf (List.toArray us) n1) :: (pA, listOf (List.toArray pcs) n2) :: (nA, rgO (lv.length : Nat) t1 t2 t3) :: (pl, listOf (List.toArray vp) n4) :: (T0, tup5 0 0 0 0 z1 z2 z3 z4 D0) :: (D0, o0) :: dyn) cx F7 (by rfl) (by exact mv mt (by decide) (by decide)) (by rfl) (by exact hw4) (by exact mv md (by decide) (by decide)) (by lge_lay) h3 hvd (by omega) (by omega) hD hF htl lo (by split <;> decide) (by omega) hds ?_)
  intro s8 Tq q8 o8 kv8 v1 v2 v3 v4 F8 N8 hd8 hf8 lo8 lq8 lall hg8 ho8
  clear F7 N7
  dsimp only
  have hq8 : ∀ z ∈ dyn, @LT.lt Nat _ z.1 q8 := fun z hz => lall z (by (repeat (first | exact hz | refine List.Mem.tail _ ?_)))
  have hq9 : @LT.lt Nat _ x q8 := lall (x, accO dx its n) (by k_mem)
  refine inn9 (rest := (Tq, tup5 ((if ps.getD k 0 = -1 then 1 else 0) + a) (1 + b) (ds.getD k 0 + cc) ((wsOf lv k).length + dd) v1 v2 v3 v4 q8) :: (q8, o8) :: (100, tabObj tb1') :: (lf, lfo) :: (185, tabObj tb2) :: (L + 1, c1) :: (L + 1 + 1 + 1 + 1, c4) :: (L + 1 + 1 + 1 + 1 + 1, c5) :: (lA, listOf (List.toArray us) n1) :: (pA, listOf (List.toArray pcs) n2) :: (nA, rgO (lv.length : Nat) t1 t2 t3) :: (dl, listOf (List.toArray vd) n3) :: (pl, listOf (List.toArray vp) n4) :: (T0, tup5 0 0 0 0 z1 z2 z3 z4 D0) :: (D0, o0) :: dyn) cx F8 (by exact mv mq (by decide) (by decide)) (by lge_lay) h2 h3 (by omega) (by omega) (by rw [List.size_toArray]; omega) l7 (by omega) ?_ ?_ ?_
  · ((repeat (refine List.forall_mem_cons.mpr ⟨by first | exact Nat.ne_of_lt (by omega) | exact Nat.ne_of_gt (by omega), ?_⟩)); skip)
    exact fun z hz => (hdyn z hz).nx
  · ((repeat (refine List.forall_mem_cons.mpr ⟨by first | exact Nat.ne_of_lt (by omega) | exact Nat.ne_of_gt (by omega), ?_⟩)); skip)
    exact fun z hz => (hdyn z hz).n2
  intro s9 q9 n9 c9 u1 u2 u3 u4 F9 N9 h9 lx9 lr9 hg9 ho9
  clear F8 N8
  refine wpAny_execs_nil ?_
  have hr9 : ∀ z ∈ dyn, @LT.lt Nat _ z.1 q9 := fun z hz => lr9 z (by (repeat (first | exact hz | refine List.Mem.tail _ ?_)))
  refine H s9 _ ⟨its ++ [.ref q9], n9, h0, t0, v0, Tq, q8, lf, o8, lfo, kv8, v1, v2, v3, v4, u1, k_3, tW, u4, tb1', tb2, c9, c3, c4, (q9, tupO [.str (Str.ofString " ") u2, .str (chrS k) u3]) :: dyn⟩ [(q9, tupO [.str (Str.ofString " ") u2, .str (chrS k) u3])]
    ⟨F9, ?_, ?_, by exact mv mq (by decide) (by decide), by rfl, by exact hw4, by exact mv ml (by decide) (by decide), by rfl, by exact mv mn (by decide) (by decide), by exact mv mW (by decide) (by decide), by exact mv md (by decide) (by decide), by exact mv mo (by decide) (by decide), by exact mv mp (by decide) (by decide),
      ?_, ?_, hlf, hd8, hf8, lo8, ?_, ⟨_, h3⟩, h4, tri4, ?_, hq9, ll, ?_⟩ rfl ?_ ?_ hq8 rfl rfl ?_ ?_
  · unfold led
    dsimp only [PS.turn]
    lge_lay
  · rw [hg9, hg8, hg7, hg6]
    exact G4
  · simp only [PS.turn, List.length_append, List.length_cons, List.length_nil, hits]
  · intro i hi
    simp only [List.length_append, List.length_cons, List.length_nil] at hi
    simp only [PS.turn]
    rcases Nat.lt_or_ge i its.length with hlt | hge
    · obtain ⟨q', w1, w2, e1, e2⟩ := hit i hlt
      refine ⟨q', w1, w2, ?_, ?_⟩
      · rw [List.getElem?_append_left hlt]
        exact e1
      · rw [List.getD_eq_getElem?_getD, List.getElem?_append_left (by omega), ← List.getD_eq_getElem?_getD]
        exact .tail _ e2
    · have hi' : i = its.length := by omega
      subst hi'
      refine ⟨q9, u2, u3, ?_, ?_⟩
      · rw [List.getElem?_append_right (Nat.le_refl _), Nat.sub_self]
        rfl
      · rw [List.getD_eq_getElem?_getD, List.getElem?_append_right (by omega), hits, Nat.sub_self]
        exact .head _
  · rw [h9]
    simp only [PS.turn, List.append_toArray]
  · exact Nat.lt_trans hq9 lq8
  · exact List.forall_mem_cons.mpr ⟨apart_of co' lx9, hdyn⟩
  · exact List.forall_mem_cons.mpr ⟨hr9, fun _ h => nomatch h⟩
  · exact fun z hz => Nat.lt_trans (hq8 z hz) lq8
  · exact (hm4 _ (by decide) (by decide))
  · rw [ho9, ho8, ho7, ho6, ho4, ho3]
end
end JoinMA

section ResetSB
local macro_rules | `(tactic| walk_at "none") => `(tactic| skip)
theorem resetSB : True := by first | walk1 | (w_top off; trivial)
end ResetSB
section JoinSB
local macro_rules | `(tactic| lcg_off) => do let z ← closeZ; `(tactic| ((repeat (first | krn_off | refine Nat.lt_trans ?_ (by krn_off))); with_reducible $z:tactic))
section
variable {w : World} {s : Shared} {g : Heap} {L fa : Addr} {m : Str → Option Value} {Q : Flow → Shared → Prop} {E : Value → Shared → Prop} {tail : List Stmt}
theorem segB {lA pA nA dl : Addr} {vd us pcs : List Value} {lv : List Int} {n1 n2 n3 : Nat} {t1 t2 t3 : Tok} {tb1 tb2 : Array Value} {c1 c2 c3 c4 c5 : Obj} (cx : Cx w g L) (F : Fr g L s.heap m) (hn : m (Str.ofString "nodes") = some (.ref nA)) (hp : m (Str.ofString "pieces") = some (.ref pA)) (hd : m (Str.ofString "depths") = some (.ref dl))
   (N : News g L s.heap [(dl, listOf (List.toArray vd) n3), (nA, rgO lv.length t1 t2 t3), (pA, listOf (List.toArray pcs) n2), (lA, listOf (List.toArray us) n1), (L + 1 + 1 + 1 + 1 + 1, c5), (L + 1 + 1 + 1 + 1, c4), (L + 1 + 1 + 1, c3), (L + 1 + 1, c2), (L + 1, c1), (185, tabObj tb1), (100, tabObj tb2)])
   (h1 : c1.data = .cell none) (h2 : c2.data = .cell none) (h5 : c5.data = .cell (some (.ref lA))) (hI : IntsAre us lv) (hvd : IntsAre vd (lv ++ [0])) (hl7 : lv.length ≤ 7)
   (l1 : @LT.lt Nat _ (L + 1 + 1 + 1 + 1 + 1) lA) (l2 : @LT.lt Nat _ lA pA) (l3 : @LT.lt Nat _ pA nA) (l4 : @LT.lt Nat _ nA dl)
   (H : ∀ s' m' T0 D0 lf x dx pl o0 vp n4 nx h0 t0 v0 c1' c2' z1 z2 z3 z4 e1 e2 e3 e4, Fr g L s'.heap m' → m' (Str.ofString "nodes") = some (.ref nA) → m' (Str.ofString "pieces") = some (.ref pA) → m' (Str.ofString "depths") = some (.ref dl) →
     m' (Str.ofString "words") = some (.str "<caller func_get_function_name() failed>" e1) → m' (Str.ofString "queue") = some (.ref x) → m' (Str.ofString "step") = some (.bytes #[] e2) → m' (Str.ofString "waits") = some (.int 0 e3) → m' (Str.ofString "left") = some (.ref lf) → m' (Str.ofString "nothing") = some (.ref T0) → m' (Str.ofString "total") = some (.ref T0) →
     News g L s'.heap [(T0, tup5 0 0 0 0 z1 z2 z3 z4 D0), (D0, o0), (lf, tupO []), (x, accO dx [] nx), (dx, accD h0 t0 v0), (pl, listOf (List.toArray vp) n4), (dl, listOf (List.toArray vd) n3), (nA, rgO lv.length t1 t2 t3), (pA, listOf (List.toArray pcs) n2), (lA, listOf (List.toArray us) n1), (L + 1 + 1 + 1 + 1 + 1, c5), (L + 1 + 1 + 1 + 1, c4), (L + 1 + 1 + 1, c3), (L + 1 + 1, c2'), (L + 1, c1'), (185, tabObj tb1), (100, tabObj tb2)] →
     Obj.IsDictOf (strKind PR w) o0 [] → PyProof.V.FlatPairs PyData.str [] [] → (D0 == sysModules) = false → c1'.data = .cell (some (.ref pl)) → c2'.data = .cell (some (.bytes #[] e4)) → IntsAre vp (parentsOf lv) →
     @LT.lt Nat _ dl pl → @LT.lt Nat _ pl dx → @LT.lt Nat _ dx x → @LT.lt Nat _ x lf → @LT.lt Nat _ lf D0 → @LT.lt Nat _ D0 T0 → s'.gens = s.gens → s'.os = s.os → wpAny (model PR w) (ALaw L fa) (execs tail (envLaw L fa)) Q E s') :
   wpAny (model PR w) (ALaw L fa) (execs (lawSt 5 :: lawSt 6 :: lawSt 7 :: lawSt 8 :: lawSt 9 :: lawSt 10 :: lawSt 11 :: lawSt 12 :: lawSt 13 :: lawSt 14 :: tail) (envLaw L fa)) Q E s := by
  have gX := cx.gx
  have l9 : @LT.lt Nat _ 185 L := cx.l0
  obtain ⟨X₀, B, ⟨_, _, _, _, _, T⟩, C1, C2, l0⟩ := cx
  conv in (occs := *) lawSt _ => all_goals whnf
  unfold ALaw envLaw
  conv in (occs := *) lawScope => all_goals whnf
  k_steps
  rename_i l_1 h_1 l1_1 D_1 ws_1 h_2 hI_1 l1_2 tk_1 s_1 q_1 us_1 nq_1 hus_1 hg_1 ho_1 l1_3 h_3 o_1 cd_1 h_4 h_5 n_1 tk_2 x_1 dx_1 h0_1 t0_1 v_1 l2_1 l1_4 h_6 h_7 o_2 cd_2 h_8 h_9 D_2 h_10 l1_5 h_11 tk_3 d_1 h_12 o_3 lo_1 hs_1 fs_1 hi_1 fi_1 l1_6 D_3 h_13 l1_7 h_14 h_15 F_1 N_1
  exact H _ _ D_3 d_1 D_2 x_1 dx_1 q_1 o_3 us_1 nq_1 n_1 h0_1 t0_1 v_1 o_1 o_2 _ _ _ _ _ _ _ _ F_1 (by first | exact hn | rfl) (by first | exact hp | rfl) (by first | exact hd | rfl) rfl rfl rfl rfl rfl rfl rfl (by lge_lay) hs_1 fs_1 lo_1 cd_1 cd_2 hus_1 (by omega) l1_4.1 l2_1 l1_5.1 l1_6.1 l1_7.1 hg_1 ho_1
end
end JoinSB

section ResetMB
local macro_rules | `(tactic| walk_at "none") => `(tactic| skip)
theorem resetMB : True := by first | walk1 | (w_top off; trivial)
end ResetMB
section JoinMB
theorem ints_at : ∀ {vs : List Value} {ns : List Int}, IntsAre vs ns → ∀ {j : Nat}, j < ns.length → ∃ t, vs[j]? = some (.int (ns.getD j 0) t)
  | _, _, .nil, j, h => absurd h (Nat.not_lt_zero j)
  | _, _, .cons n t r, 0, _ => ⟨t, rfl⟩
  | _, _, .cons n t r, j + 1, h => by
    obtain ⟨t', e⟩ := ints_at r (j := j) (Nat.lt_of_succ_lt_succ h)
    exact ⟨t', e⟩
theorem drop_at {ks : List Int} {j : Nat} (h : j < ks.length) : ks.drop j = ks.getD j 0 :: ks.drop (j + 1) := by
  rw [List.drop_eq_getElem_cons h, List.getD_eq_getElem?_getD, List.getElem?_eq_getElem h]
  rfl
theorem not_tup : ∀ {l : Addr} {k : Nat}, (itO l k).cls ≠ .type "tuple" := by
  intro l k h
  injection h with h
  exact absurd h (by decide)
noncomputable def PS.runIn (lv ps ds : List Int) : PS → List Int → Option PS
  | p, [] => some p
  | p, k :: ks => if decide (0 ≤ k) && p.okTurn lv ps k.toNat then PS.runIn lv ps ds (p.turn lv ps ds k.toNat) ks else none
noncomputable def ledH (L : Addr) (c : Cf) (p : PS) (d : Dy) : List (Addr × Obj) := led L c p { d with dyn := [] }
theorem led_eq (L : Addr) (c : Cf) (p : PS) (d : Dy) : led L c p d = ledH L c p d ++ d.dyn := rfl
section
variable {w : World} {s : Shared} {g : Heap} {L fa : Addr} {m : Str → Option Value} {Q : Flow → Shared → Prop} {E : Value → Shared → Prop} {c : Cf} {p : PS} {d : Dy}
theorem Big.to {dyn2 : List (Addr × Obj)} {c3' : Obj} {s2 : Shared} (hb : Big w g L c p d s m) (F : Fr g L s2.heap m) (N : News g L s2.heap (led L c p { d with dyn := dyn2, c3 := c3' })) (hg : s2.gens = s.gens) (h3 : ∃ v, c3'.data = .cell v)
    (hit : ∀ z ∈ d.dyn, z.2.cls = .type "tuple" → z ∈ dyn2) (hdyn : ∀ z ∈ dyn2, Apart L c z.1) : Big w g L c p { d with dyn := dyn2, c3 := c3' } s2 m :=
  ⟨F, N, by rw [hg]; exact hb.G, hb.mq, hb.ms, hb.mw, hb.ml, hb.mt, hb.mn, hb.mW, hb.md, hb.mo, hb.mp, hb.hits, fun i hi => by
    obtain ⟨q, t1, t2, e1, e2⟩ := hb.hit i hi
    exact ⟨q, t1, t2, e1, hit _ e2 rfl⟩, hb.hlf, hb.hD, hb.hF, hb.lo, hb.h2, h3, hb.h4, hb.tri, hb.lT, hb.lD, hb.ll, hdyn⟩
/-- no entry of the head lies at an address that is above x and is none of the named ones -/
theorem ledH_ne {I : Addr} (co : CfOk w L c) (hI : @LT.lt Nat _ c.x I) (h1 : d.Tt ≠ I) (h2 : d.Dt ≠ I) (h3 : d.lf ≠ I) (h4 : c.T0 ≠ I) (h5 : c.D0 ≠ I) : ∀ z ∈ ledH L c p d, z.1 ≠ I := by
  obtain ⟨l9, l1, l2, l3, l4, l5, l6, l7, l8, l10, _⟩ := co
  unfold ledH led
  ((repeat (refine List.forall_mem_cons.mpr ⟨by first | exact Nat.ne_of_lt (by omega) | exact Nat.ne_of_gt (by omega) | assumption, ?_⟩)))
  exact fun _ h => nomatch h
inductive InJ (w : World) (g : Heap) (L : Addr) (c : Cf) (d : Dy) (ks : List Int) (Dc : Addr) (p' : PS) (s : Shared) (it : Value) (j : Nat) (s' : Shared) : Prop
  | mk (I : _) (m' : _) (d' : _) (ex : _) (pj : _) : (it = .ref I) → (Big w g L c pj d' s' m') → (d'.dyn = ex ++ (I, itO Dc j) :: d.dyn) → ((∀ q ∈ ex, q.1 ≠ I)) → ((∀ q ∈ d.dyn, @LT.lt Nat _ q.1 I)) → (d'.Tt ≠ I) → (d'.Dt ≠ I) → (d'.lf ≠ I) → (c.T0 ≠ I) → (c.D0 ≠ I) → (@LT.lt Nat _ c.x I) → (pj.runIn c.lv c.ps c.ds (ks.drop j) = some p') → (s'.os = s.os) → ((∀ q ∈ ex, ∀ z ∈ d.dyn, q.1 ≠ z.1)) → ((∀ z ∈ d.dyn, d.Tt ≠ z.1 → d'.Tt ≠ z.1)) → ((∀ z ∈ d.dyn, d.Dt ≠ z.1 → d'.Dt ≠ z.1)) → (d'.lf = d.lf) → (d'.c4 = d.c4) → InJ w g L c d ks Dc p' s it j s'
theorem inner_loop {Dc : Addr} {ys : List Value} {ey : Nat} {ks : List Int} {p' : PS} (cx : Cx w g L) (co : CfOk w L c) (hb : Big w g L c p d s m) (hcm : m (Str.ofString "coming") = some (.ref Dc)) (hc : (Dc, listOf (List.toArray ys) ey) ∈ d.dyn) (hys : IntsAre ys ks) (hrun : p.runIn c.lv c.ps c.ds ks = some p')
   (H : ∀ s' m' d' ex, Big w g L c p' d' s' m' → d'.dyn = ex ++ d.dyn → (∀ q ∈ ex, ∀ z ∈ d.dyn, q.1 ≠ z.1) → (∀ z ∈ d.dyn, d.Tt ≠ z.1 → d'.Tt ≠ z.1) → (∀ z ∈ d.dyn, d.Dt ≠ z.1 → d'.Dt ≠ z.1) → d'.lf = d.lf → d'.c4 = d.c4 → s'.os = s.os → Q .next s') :
   wpAny (model PR w) (ALaw L fa) (exec (outerSt 0) (envLaw L fa)) Q E s := by
  have gX := cx.gx
  have hyl := hys.length
  conv in (occs := *) outerSt _ => all_goals whnf
  unfold ALaw envLaw
  conv in (occs := *) lawScope => all_goals whnf
  refine for_go (n := ks.length) (InJ w g L c d ks Dc p' s) ?_ ?_ ?_
  · refine nameX_L hb.F hcm ?_
    have hz := hb.N _ (List.mem_append_right (ledH L c p d) hc)
    refine liter_K hb.F hb.N ⟨_, hz.1, rfl, ey, rfl⟩ ?_
    intro I h7 F7 N7 l7 l8
    have hx : @LT.lt Nat _ c.x I := l7 (c.x, _) (.head _)
    refine ⟨I, m, { d with dyn := (I, itO Dc 0) :: d.dyn }, [], p, rfl, hb.to F7 ?_ rfl hb.h3 (fun z hz _ => .tail _ hz) (List.forall_mem_cons.mpr ⟨apart_of co hx, hb.hdyn⟩), rfl, (fun _ h => nomatch h), fun q hq => l7 q (List.mem_append_right (ledH L c p d) hq), ?_, ?_, ?_, ?_, ?_, hx, hrun, rfl, (fun _ h => nomatch h), (fun _ _ h => h), (fun _ _ h => h), rfl, rfl⟩
    · refine nsub N7 ?_
      intro z hz
      rw [led_eq] at hz ⊢
      rcases List.mem_append.mp hz with h | h
      · exact .tail _ (List.mem_append_left _ h)
      · rcases List.mem_cons.mp h with rfl | h
        · exact .head _
        · exact .tail _ (List.mem_append_right _ h)
    · exact Nat.ne_of_lt (l7 (d.Tt, _) (by unfold led; k_mem))
    · exact Nat.ne_of_lt (l7 (d.Dt, _) (by unfold led; k_mem))
    · exact Nat.ne_of_lt (l7 (d.lf, _) (by unfold led; k_mem))
    · exact Nat.ne_of_lt (l7 (c.T0, _) (by unfold led; k_mem))
    · exact Nat.ne_of_lt (l7 (c.D0, _) (by unfold led; k_mem))
  · rintro it j s' E' hj ⟨I, m', d', ex, pj, rfl, hB, hdy, hex, hdI, i1, i2, i3, i4, i5, hx, hr, ho8, f1, f2, f3, f4, f5⟩
    have hDc : (Dc, listOf (List.toArray ys) ey) ∈ d'.dyn := by
      rw [hdy]
      exact List.mem_append_right _ (.tail _ hc)
    have hcI : Dc ≠ I := Nat.ne_of_lt (hdI _ hc)
    obtain ⟨tv, hv⟩ := ints_at hys hj
    have hH := ledH_ne (p := pj) co hx i1 i2 i3 i4 i5
    have hne : ∀ q ∈ ledH L c pj d' ++ (ex ++ d.dyn), q.1 ≠ I := by
      intro q hq
      rcases List.mem_append.mp hq with h | h
      · exact hH q h
      · rcases List.mem_append.mp h with h | h
        · exact hex q h
        · exact Nat.ne_of_lt (hdI q h)
    have N1 : News g L s'.heap ((I, itO Dc j) :: (ledH L c pj d' ++ (ex ++ d.dyn))) := by
      refine nsub hB.N ?_
      intro z hz
      rw [led_eq, hdy]
      rcases List.mem_cons.mp hz with rfl | h
      · exact List.mem_append_right _ (List.mem_append_right _ (.head _))
      · rcases List.mem_append.mp h with h | h
        · exact List.mem_append_left _ h
        · rcases List.mem_append.mp h with h | h
          · exact List.mem_append_right _ (List.mem_append_left _ h)
          · exact List.mem_append_right _ (List.mem_append_right _ (.tail _ h))
    refine next_K hB.F N1 (.head hne) (.tail _ (List.mem_append_right _ (List.mem_append_right _ hc))) ⟨ey, rfl⟩ (by rw [List.getElem?_toArray]; exact hv) ?_
    intro h' F9 N9
    refine ⟨_, rfl, wpAny_pure ?_⟩
    refine wpAny_assign_Name ?_
    try dsimp only at N9
    have hit2 : ∀ z ∈ d'.dyn, z.2.cls = .type "tuple" → z ∈ ex ++ (I, itO Dc (j + 1)) :: d.dyn := by
      intro z hz hcls
      rw [hdy] at hz
      rcases List.mem_append.mp hz with h | h
      · exact List.mem_append_left _ h
      · rcases List.mem_cons.mp h with rfl | h
        · exact absurd hcls not_tup
        · exact List.mem_append_right _ (.tail _ h)
    have hB2 := hB.to (dyn2 := ex ++ (I, itO Dc (j + 1)) :: d.dyn) (c3' := d'.c3) (s2 := ⟨h', s'.gens, s'.drawn, s'.toks, s'.os⟩) F9 (by
      refine nsub N9 ?_
      intro z hz
      rw [led_eq] at hz
      rcases List.mem_append.mp hz with h | h
      · exact .tail _ (List.mem_append_left _ h)
      · rcases List.mem_append.mp h with h | h
        · exact .tail _ (List.mem_append_right _ (List.mem_append_left _ h))
        · rcases List.mem_cons.mp h with rfl | h
          · exact .head _
          · exact .tail _ (List.mem_append_right _ (List.mem_append_right _ h))) rfl hB.h3 hit2 (by
      intro z hz
      rcases List.mem_append.mp hz with h | h
      · exact hB.hdyn z (by rw [hdy]; exact List.mem_append_left _ h)
      · rcases List.mem_cons.mp h with rfl | h
        · exact apart_of co hx
        · exact hB.hdyn z (by rw [hdy]; exact List.mem_append_right _ (.tail _ h)))
    obtain ⟨v3, hv3⟩ := hB.h3
    obtain ⟨l9, l1, l2, l3, l4, l5, l6, l7, l8, l10, _⟩ := id co
    have b1 := hB.lT
    have b2 := hB.lD
    have b3 := hB.ll
    have hdyn2 := hB2.hdyn
    have U : UpdF (L + 1 + 1 + 1) d'.c3 (led L c pj { d' with dyn := ex ++ (I, itO Dc (j + 1)) :: d.dyn, c3 := d'.c3 }) (fun o' => led L c pj { d' with dyn := ex ++ (I, itO Dc (j + 1)) :: d.dyn, c3 := o' }) := by
      unfold led
      dsimp only
      refine .tail ?_ (.tail ?_ (.tail ?_ (.tail ?_ (.tail ?_ (.tail ?_ (.tail ?_ (.tail ?_ (.tail ?_ (.head ?_)))))))))
      all_goals first | exact Nat.ne_of_lt (by omega) | exact Nat.ne_of_gt (by omega) | skip
      ((repeat (refine List.forall_mem_cons.mpr ⟨by first | exact Nat.ne_of_lt (by omega) | exact Nat.ne_of_gt (by omega) | assumption, ?_⟩)))
      exact fun z hz => (hdyn2 z hz).n3
    refine storeX_C F9 hB2.N rfl U hv3 ?_
    intro h2 o2 F1 N1 c1
    have hB3 := hB2.to (dyn2 := ex ++ (I, itO Dc (j + 1)) :: d.dyn) (c3' := o2) (s2 := ⟨h2, s'.gens, s'.drawn, s'.toks, s'.os⟩) F1 N1 rfl ⟨_, c1⟩ (fun z hz _ => hz) hdyn2
    rw [drop_at hj, PS.runIn] at hr
    split at hr
    case isFalse => cases hr
    rename_i hok
    rw [Bool.and_eq_true, decide_eq_true_eq] at hok
    have hc1 : o2.data = .cell (some (.int ((ks.getD j 0).toNat : Nat) tv)) := by
      rw [Int.toNat_of_nonneg hok.1]
      exact c1
    show wpAny (model PR w) (ALaw L fa) (execs innerBody (envLaw L fa)) _ _ _
    refine turn_in (d := { d' with dyn := ex ++ (I, itO Dc (j + 1)) :: d.dyn, c3 := o2 }) cx co hB3 hok.2 hc1 ?_
    intro s4 m4 d4 new hB4 hdy4 hnew hT4 hD4 hl4 hk4 hc4 ho4
    have hI4 : (I, itO Dc (j + 1)) ∈ ex ++ (I, itO Dc (j + 1)) :: d.dyn := List.mem_append_right _ (.head _)
    refine ⟨rfl, I, m4, d4, new ++ ex, _, rfl, hB4, ?_, ?_, hdI, ?_, ?_, ?_, i4, i5, hx, hr, ho4.trans ho8, ?_, ?_, ?_, hl4.trans f4, hk4.trans f5⟩
    · rw [hdy4, List.append_assoc]
    · intro q hq
      rcases List.mem_append.mp hq with h | h
      · exact Nat.ne_of_gt (hnew q h _ hI4)
      · exact hex q h
    · exact Nat.ne_of_gt (hT4 _ hI4)
    · exact Nat.ne_of_gt (hD4 _ hI4)
    · rw [hl4]
      exact i3
    · intro q hq z hz
      rcases List.mem_append.mp hq with h | h
      · exact Nat.ne_of_gt (hnew q h z (List.mem_append_right _ (.tail _ hz)))
      · exact f1 q h z hz
    · exact fun z hz _ => Nat.ne_of_gt (hT4 z (List.mem_append_right _ (.tail _ hz)))
    · exact fun z hz _ => Nat.ne_of_gt (hD4 z (List.mem_append_right _ (.tail _ hz)))
  · rintro it s' E' ⟨I, m', d', ex, pj, rfl, hB, hdy, hex, hdI, i1, i2, i3, i4, i5, hx, hr, ho8, f1, f2, f3, f4, f5⟩
    have hH := ledH_ne (p := pj) co hx i1 i2 i3 i4 i5
    have hne : ∀ q ∈ ledH L c pj d' ++ (ex ++ d.dyn), q.1 ≠ I := by
      intro q hq
      rcases List.mem_append.mp hq with h | h
      · exact hH q h
      · rcases List.mem_append.mp h with h | h
        · exact hex q h
        · exact Nat.ne_of_lt (hdI q h)
    have N1 : News g L s'.heap ((I, itO Dc ks.length) :: (ledH L c pj d' ++ (ex ++ d.dyn))) := by
      refine nsub hB.N ?_
      intro z hz
      rw [led_eq, hdy]
      rcases List.mem_cons.mp hz with rfl | h
      · exact List.mem_append_right _ (List.mem_append_right _ (.head _))
      · rcases List.mem_append.mp h with h | h
        · exact List.mem_append_left _ h
        · rcases List.mem_append.mp h with h | h
          · exact List.mem_append_right _ (List.mem_append_left _ h)
          · exact List.mem_append_right _ (List.mem_append_right _ (.tail _ h))
    refine end_K rfl hB.F N1 hne (List.mem_append_right _ (List.mem_append_right _ hc)) ⟨ey, rfl⟩ (by rw [List.getElem?_toArray, List.getElem?_eq_none (by omega)]) ?_
    intro h' F6 N6
    rw [List.drop_length, PS.runIn] at hr
    cases hr
    refine ⟨rfl, H _ _ { d' with dyn := ex ++ d.dyn, c3 := d'.c3 } ex (hB.to F6 N6 rfl hB.h3 ?_ ?_) rfl f1 f2 f3 f4 f5 ho8⟩
    · intro z hz hcls
      rw [hdy] at hz
      rcases List.mem_append.mp hz with h | h
      · exact List.mem_append_left _ h
      · rcases List.mem_cons.mp h with rfl | h
        · exact absurd hcls not_tup
        · exact List.mem_append_right _ h
    · intro z hz
      rcases List.mem_append.mp hz with h | h
      · exact hB.hdyn z (by rw [hdy]; exact List.mem_append_left _ h)
      · exact hB.hdyn z (by rw [hdy]; exact List.mem_append_right _ (.tail _ h))
end
end JoinMB

section ResetMC
local macro_rules | `(tactic| walk_at "none") => `(tactic| skip)
theorem resetMC : True := by first | walk1 | (w_top off; trivial)
end ResetMC
section JoinMC
noncomputable def PS.turnO (p : PS) (nd : Nat) : PS := { p with q := p.q.tail, left := some nd, step := p.step ++ [41], lg := p.lg ++ [41] }
noncomputable def PS.okO (p : PS) (nd : Nat) : Bool := decide (p.q.head? = some (nd : Int)) && decide (nd < 14) && decide (p.q.length ≤ 12) && decide (p.lg.length ≤ 90) && decide (p.step.length ≤ 90)
noncomputable def kids (lv ps : List Int) (nd : Nat) : List Int := pick lv.length fun k => decide (ps.getD k 0 = nd)
section
variable {w : World} {s : Shared} {g : Heap} {L fa : Addr} {m : Str → Option Value} {Q : Flow → Shared → Prop} {E : Value → Shared → Prop} {c : Cf} {p : PS} {d : Dy}
theorem turn_out {Dc : Addr} {ys : List Value} {ey : Nat} {ks : List Int} {p1 : PS} {nd : Nat} {tn : Tok} (cx : Cx w g L) (co : CfOk w L c) (hb : Big w g L c p d s m) (hcm : m (Str.ofString "coming") = some (.ref Dc)) (hc : (Dc, listOf (List.toArray ys) ey) ∈ d.dyn) (hys : IntsAre ys ks) (hrun : p.runIn c.lv c.ps c.ds ks = some p1)
   (hok : p1.okO nd = true) (h4n : d.c4.data = .cell (some (.int nd tn)))
   (H : ∀ s' m' d' ex D2 ys2 e2, Big w g L c (p1.turnO nd) d' s' m' → m' (Str.ofString "coming") = some (.ref D2) → (D2, listOf (List.toArray ys2) e2) ∈ d'.dyn → IntsAre ys2 (kids c.lv c.ps nd) → d'.dyn = ex ++ d.dyn → (∀ q ∈ ex, ∀ z ∈ d.dyn, q.1 ≠ z.1) →
     (∀ z ∈ d.dyn, d.Tt ≠ z.1 → d'.Tt ≠ z.1) → (∀ z ∈ d.dyn, d.Dt ≠ z.1 → d'.Dt ≠ z.1) → (∀ z ∈ d.dyn, d'.lf ≠ z.1) → s'.os = s.os → Q .next s') :
   wpAny (model PR w) (ALaw L fa) (execs outerBody (envLaw L fa)) Q E s := by
  show wpAny _ _ (execs (outerSt 0 :: outerSt 1 :: outerSt 2 :: outerSt 3 :: outerSt 4 :: outerSt 5 :: outerSt 6 :: outerSt 7 :: outerSt 8 :: []) (envLaw L fa)) Q E s
  refine wpAny_execs_cons (inner_loop cx co hb hcm hc hys hrun ?_)
  intro s1 m1 d1 ex1 hB1 hdy1 f1 f2 f3 f4 f5 ho1
  rw [← f5] at h4n
  clear hb hcm hc hys hrun
  obtain ⟨lA, pA, nA, dl, pl, dx, x, T0, D0, us, pcs, vd, vp, n1, n2, n3, n4, t1, t2, t3, z1, z2, z3, z4, o0, c1, c5, lv, ps, ds, pieces⟩ := c
  obtain ⟨q, lg, step, waits, a, b, cc, dd, tab, left⟩ := p1
  obtain ⟨its, n, h0, t0, v0, Tt, Dt, lf, oD, lfo, kD, y1, y2, y3, y4, tb, tw, tW, tg, tb1, tb2, c2, c3, c4, dyn⟩ := d1
  obtain ⟨F, N, G, mq, ms, mw, ml, mt, mn, mW, md, mo, mp, hits, hit, hlf, hD, hF, lo, h2, h3', h4, tri, lT, lD, ll, hdyn⟩ := hB1
  have co' := co
  obtain ⟨l9, l1, l2, l3, l4, l5, l6, l7, l8, l10, hI, hvp, hvd, h1, h5, hl7, hp, hd, hlv, hps, hds⟩ := co
  unfold PS.okO at hok
  unfold led at N
  dsimp only at *
  simp only [Bool.and_eq_true, decide_eq_true_eq] at hok
  obtain ⟨⟨⟨⟨hqh, hnd⟩, hql⟩, hll⟩, hsl⟩ := hok
  obtain ⟨q', rfl⟩ : ∃ q', q = (nd : Int) :: q' := by
    cases q with
    | nil => cases hqh
    | cons y q' => exact ⟨q', by rw [Option.some.inj hqh]⟩
  obtain ⟨qa, w1, w2, e1, e2⟩ := hit 0 (by rw [hits]; exact Nat.zero_lt_succ _)
  obtain ⟨r, rfl⟩ : ∃ r, its = .ref qa :: r := by
    cases its with
    | nil => cases e1
    | cons y r => exact ⟨r, by rw [Option.some.inj e1]⟩
  have e2 : (qa, tupO [.str (Str.ofString " ") w1, .str (chrS nd) w2]) ∈ dyn := e2
  have hqa := hdyn _ e2
  have hrl : r.length = q'.length := by simpa using hits
  simp only [List.length_cons] at hql
  refine out1 (rest := (Tt, tup5 a b cc dd y1 y2 y3 y4 Dt) :: (Dt, oD) :: (lf, lfo) :: (100, tabObj tb1) :: (185, tabObj tb2) :: (L + 1, c1) :: (L + 1 + 1, c2) :: (L + 1 + 1 + 1, c3) :: (L + 1 + 1 + 1 + 1 + 1, c5) :: (lA, listOf (List.toArray us) n1) :: (pA, listOf (List.toArray pcs) n2) :: (nA, rgO (lv.length : Nat) t1 t2 t3) :: (dl, listOf (List.toArray vd) n3) :: (pl, listOf (List.toArray vp) n4) :: (T0, tup5 0 0 0 0 z1 z2 z3 z4 D0) :: (D0, o0) :: dyn) cx F mq (nsub N (NSub.cons (by k_mem) (NSub.cons (by k_mem) (NSub.cons (by (repeat (first | exact e2 | refine List.Mem.tail _ ?_))) (NSub.cons (by k_mem) ?_))))) h4n hnd (by omega) l7 (by omega) hqa.nx hqa.nd ?_ ?_ ?_
  · first | ((repeat (first | exact NSub.nil | exact NSub.refl _ | refine NSub.keep ?_ | refine NSub.keep2 ?_ | refine NSub.cons (by k_mem) ?_ | refine NSub.drop ?_)); done) | repeat' (first | exact NSub.nil | refine NSub.cons (by k_mem) ?_ | exact NSub.refl _ | refine NSub.drop ?_)
  · ((repeat (refine List.forall_mem_cons.mpr ⟨by first | exact Nat.ne_of_lt (by omega) | exact Nat.ne_of_gt (by omega) | assumption, ?_⟩)))
    exact fun z hz => (hdyn z hz).nx
  · ((repeat (refine List.forall_mem_cons.mpr ⟨by first | exact Nat.ne_of_lt (by omega) | exact Nat.ne_of_gt (by omega) | assumption, ?_⟩)))
    exact fun z hz => (hdyn z hz).nd
  intro s2 m2 n_2 v_2 hm2 F2 N2 hg2 ho2
  clear F N
  refine out5 (rest := (x, accO dx r n_2) :: (dx, accD h0 t0 v_2) :: (Tt, tup5 a b cc dd y1 y2 y3 y4 Dt) :: (Dt, oD) :: (lf, lfo) :: (100, tabObj tb1) :: (185, tabObj tb2) :: (L + 1, c1) :: (L + 1 + 1 + 1, c3) :: (L + 1 + 1 + 1 + 1 + 1, c5) :: (lA, listOf (List.toArray us) n1) :: (pA, listOf (List.toArray pcs) n2) :: (nA, rgO (lv.length : Nat) t1 t2 t3) :: (dl, listOf (List.toArray vd) n3) :: (pl, listOf (List.toArray vp) n4) :: (T0, tup5 0 0 0 0 z1 z2 z3 z4 D0) :: (D0, o0) :: dyn) cx F2 ((hm2 _ (by decide)).trans ms) (by lge_lay) h2 h4n hnd (by rw [List.size_toArray]; omega) (by rw [List.size_toArray]; omega) ?_ ?_
  · ((repeat (refine List.forall_mem_cons.mpr ⟨by first | exact Nat.ne_of_lt (by omega) | exact Nat.ne_of_gt (by omega) | assumption, ?_⟩)))
    exact fun z hz => (hdyn z hz).n2
  intro s3 m3 lf3 c2_3 u1 u2 u3 u4 u5 hm3 hl3 hs3 F3 N3 h23 hlt3 hg3 ho3
  clear F2 N2
  refine wpAny_execs_cons (out8 (rest := (x, accO dx r n_2) :: (dx, accD h0 t0 v_2) :: (Tt, tup5 a b cc dd y1 y2 y3 y4 Dt) :: (Dt, oD) :: (lf3, tupO [.str (Str.ofString "log") u2, .int lg.toArray.size u3, .str (chrS nd) u4]) :: (100, tabObj tb1) :: (185, tabObj tb2) :: (L + 1 + 1, c2_3) :: (L + 1 + 1 + 1, c3) :: (L + 1 + 1 + 1 + 1 + 1, c5) :: (lA, listOf (List.toArray us) n1) :: (pA, listOf (List.toArray pcs) n2) :: (dl, listOf (List.toArray vd) n3) :: (T0, tup5 0 0 0 0 z1 z2 z3 z4 D0) :: (D0, o0) :: dyn) cx F3 ((hm3 _ (by decide) (by decide)).trans ((hm2 _ (by decide)).trans mo)) hl7 hp hvp h1 h4n (by lge_lay) ?_)
  intro D8 ys8 h_8 k_8 e8 F8 N8 hne8 hys8
  clear F3 N3
  refine wpAny_execs_nil ?_
  have mv : ∀ {z : Str} {v : Value}, m1 z = some v → z ≠ Str.ofString "others" → z ≠ Str.ofString "left" → z ≠ Str.ofString "step" → m3 z = some v := fun e a b c => (hm3 _ b c).trans ((hm2 _ a).trans e)
  have lx3 : @LT.lt Nat _ x lf3 := hlt3 (x, accO dx r n_2) (by k_mem)
  have ld3 : ∀ z ∈ dyn, @LT.lt Nat _ z.1 lf3 := fun z hz => hlt3 z (by (repeat (first | exact hz | refine List.Mem.tail _ ?_)))
  have a8 : Apart L ⟨lA, pA, nA, dl, pl, dx, x, T0, D0, us, pcs, vd, vp, n1, n2, n3, n4, t1, t2, t3, z1, z2, z3, z4, o0, c1, c5, lv, ps, ds, pieces⟩ D8 :=
    ⟨Ne.symm (hne8 (100, _) (by k_mem)), Ne.symm (hne8 (185, _) (by k_mem)), Ne.symm (hne8 (L + 1 + 1, _) (by k_mem)), Ne.symm (hne8 (L + 1 + 1 + 1, _) (by k_mem)), Ne.symm (hne8 (L + 1 + 1 + 1 + 1, _) (by k_mem)), Ne.symm (hne8 (x, _) (by k_mem)), Ne.symm (hne8 (dx, _) (by k_mem))⟩
  have d8 : ∀ z ∈ dyn, z.1 ≠ D8 := fun z hz => hne8 z (by (repeat (first | exact hz | refine List.Mem.tail _ ?_)))
  have hsub : ∀ z ∈ d.dyn, z ∈ dyn := fun z hz => by rw [hdy1]; exact List.mem_append_right _ hz
  refine H _ _ ⟨r, n_2, h0, t0, v_2, Tt, Dt, lf3, oD, tupO [.str (Str.ofString "log") u2, .int lg.toArray.size u3, .str (chrS nd) u4], kD, y1, y2, y3, y4, u1, tw, tW, u5, tb1, tb2, c2_3, c3, c4, (D8, listOf (List.toArray ys8) e8) :: dyn⟩ ((D8, listOf (List.toArray ys8) e8) :: ex1) D8 ys8 e8
    ⟨F8, ?_, ?_, by exact mv mq (by decide) (by decide) (by decide), ?_, by exact mv mw (by decide) (by decide) (by decide), by exact hl3, by exact mv mt (by decide) (by decide) (by decide), by exact mv mn (by decide) (by decide) (by decide), by exact mv mW (by decide) (by decide) (by decide), by exact mv md (by decide) (by decide) (by decide), by exact mv mo (by decide) (by decide) (by decide), by exact mv mp (by decide) (by decide) (by decide),
      hrl, ?_, .inr ⟨_, _, _, _, rfl, rfl⟩, hD, hF, lo, ?_, h3', h4, tri, lT, lD, lx3, ?_⟩ rfl (.head _) hys8 ?_ ?_ f2 f3 ?_ ?_
  · unfold led
    dsimp only [PS.turnO]
    lge_lay
  · show AllBare s3.gens
    rw [hg3, hg2]
    exact G
  · refine hs3.trans ?_
    simp only [PS.turnO, List.append_toArray]
  · intro i hi
    obtain ⟨q2, w3, w4, e3, e4⟩ := hit (i + 1) (Nat.succ_lt_succ hi)
    exact ⟨q2, w3, w4, e3, .tail _ e4⟩
  · rw [h23]
    simp only [PS.turnO, List.append_toArray]
  · exact List.forall_mem_cons.mpr ⟨a8, hdyn⟩
  · rw [hdy1]
    rfl
  · intro z hz y hy
    rcases List.mem_cons.mp hz with rfl | h
    · exact Ne.symm (d8 y (hsub y hy))
    · exact f1 z h y hy
  · exact fun z hz => Nat.ne_of_gt (ld3 z (hsub z hz))
  · show s3.os = s.os
    rw [ho3, ho2, ho1]
end
end JoinMC

section ResetBH
local macro_rules | `(tactic| walk_at "none") => `(tactic| skip)
theorem resetBH : True := by first | walk1 | (w_top off; trivial)
end ResetBH
section JoinBH
noncomputable def cntI (p : Nat → Nat → Bool) (k : Nat) : Nat → Nat
  | 0 => 0
  | i + 1 => cntI p k i + if p k i = true then 1 else 0
noncomputable def cntO (p : Nat → Nat → Bool) : Nat → Nat
  | 0 => 0
  | k + 1 => cntO p k + cntI p k k
theorem compTurn_two0 (elt t1 i1 t2 i2 : Expr) (ifs : List Expr) (scope : Scope) (pos : Pos) (it acc : Value) (env : Env) :
    compTurn (.ListComp elt [⟨t1, i1, [], 0⟩, ⟨t2, i2, ifs, 0⟩] scope pos) 0 it acc env = (do
      standAt i1.pos
      match ← pyNext it with
      | none => pure (.done .next)
      | some v =>
        letOwnedTupleGo t1 it v
        assign t1 env v
        let x ← eval i2 env
        standAt i2.pos
        let x ← foldedSetIterable i2 env x
        let _ ← runOwn (.compStart (.ListComp elt [⟨t1, i1, [], 0⟩, ⟨t2, i2, ifs, 0⟩] scope pos) 1 (← holding [x] (pyIter x)) acc env) env
        again (.compLoop (.ListComp elt [⟨t1, i1, [], 0⟩, ⟨t2, i2, ifs, 0⟩] scope pos) 0 it acc env)) := by rfl
theorem compTurn_two1 (elt t1 i1 t2 i2 : Expr) (ifs : List Expr) (scope : Scope) (pos : Pos) (it acc : Value) (env : Env) :
    compTurn (.ListComp elt [⟨t1, i1, [], 0⟩, ⟨t2, i2, ifs, 0⟩] scope pos) 1 it acc env = (do
      standAt i2.pos
      match ← pyNext it with
      | none => pure (.done .next)
      | some v =>
        letOwnedTupleGo t2 it v
        assign t2 env v
        let mut ok := true
        for c in ifs do
          if ok then ok ← isTrue c env (eval c env)
        if ok then
          (do let _ ← call (.builtin "list.append") [acc, ← eval elt env])
        again (.compLoop (.ListComp elt [⟨t1, i1, [], 0⟩, ⟨t2, i2, ifs, 0⟩] scope pos) 1 it acc env)) := by rfl
section
variable {w : World} {A : Around} {R : Result → Shared → Prop} {s : Shared} {elt t1 i1 t2 i2 : Expr} {ifs : List Expr} {scope : Scope} {pos : Pos} {it acc : Value} {env : Env}
theorem compStart_two1
    (h : wpAny (model PR w) A (pyIter it) (fun it' s' => it' = it ∧ codeAny (model PR w) A (.compLoop (.ListComp elt [⟨t1, i1, [], 0⟩, ⟨t2, i2, ifs, 0⟩] scope pos) 1 it acc env) R s')
      (notedBy (model PR w) A env fun x s' => R (.error x) s') s)
    (h0 : codeAny (model PR w) A (.compLoop (.ListComp elt [⟨t1, i1, [], 0⟩, ⟨t2, i2, ifs, 0⟩] scope pos) 1 it acc env) R s) :
    codeAny (model PR w) A (.compStart (.ListComp elt [⟨t1, i1, [], 0⟩, ⟨t2, i2, ifs, 0⟩] scope pos) 1 it acc env) R s := by
  refine codeAny_of_tree ?_
  show wpAny _ _ ((compStart (.ListComp elt [⟨t1, i1, [], 0⟩, ⟨t2, i2, ifs, 0⟩] scope pos) 1 it acc env).onRaise (fun x => do noteFrame x env; standAt theWindowsPlace)) _ _ s
  refine wpAny_notedAt ?_
  unfold compStart
  show wpAny _ _ (ask >>= _) _ _ s
  refine wpAny_bind (wpAny_askSetting (wpAny_ite ?_))
  split
  · first
      | exact wpAny_bind (wpAny_pure (wpAny_pure (And.intro rfl h0)))
      | exact wpAny_pure (And.intro rfl h0)
  · first
      | exact wpAny_bind (wpAny_rule (wpAny_bind (wpAny_standAt (wpAny_bind (wpAny_mono h (fun it' s' h' => by obtain ⟨rfl, h'⟩ := h'; exact wpAny_pure (And.intro rfl h')) fun _ _ x => x)))))
      | (refine wpAny_bind (wpAny_rule ?_); show wpAny _ _ (standAt i2.pos >>= _) _ _ s; exact wpAny_bind (wpAny_standAt (wpAny_bind (wpAny_mono h (fun it' s' h' => by obtain ⟨rfl, h'⟩ := h'; exact wpAny_pure (And.intro rfl h')) fun _ _ x => x))))
end
section
variable {w : World} {A : Around} {E : Value → Shared → Prop} {s : Shared} {g : Heap} {C I D I2 : Addr} {m : Str → Option Value} {its : Array Value} {e : Nat} {led : List (Addr × Obj)} {env : Env}
theorem append_L {D : Addr} {gl : Obj → List (Addr × Obj)} {v : Value} {Q : Value → Shared → Prop} (F : Fr g C s.heap m) (N : News g C s.heap led) (U : UpdF D (listOf its e) led gl) (hz : its.size ≤ 1000)
    (h : ∀ h', Fr g C h' m → News g C h' (gl (listOf (its.push v) (e + 1))) → Q .none { s with heap := h' }) : wpAny (model PR w) A (PySem.call (.builtin "list.append") [.ref D, v]) Q E s := by
  obtain ⟨pre, post, rfl, hg, x1, x2⟩ := U.split
  have z := N (D, listOf its e) (List.mem_append.mpr (.inr (.head _)))
  refine append_at z.1 (fun h' hs ho => ?_) (by have := sizeLine_eq; omega)
  refine h h' ⟨F.ns.sameBut hs (Ne.symm z.2.1), fun b o q => hs.extBut b o (fun q' => by rw [q', z.2.2] at q; cases q) (F.keep b o q), F.above⟩ ?_
  rw [hg]
  exact News.setAt N x1 x2 hs ho
theorem store_L {x : Str} {v : Value} {Q : Unit → Shared → Prop} (F : Fr g env.locals s.heap m) (N : News g env.locals s.heap led) (hl : env.kindOf x = some .local) (hp : (env.scope.kind == .class || (env.scope.kind == .module && env.locals != env.globals)) = false)
    (h : ∀ h', Fr g env.locals h' (fun z => if z = x then some v else m z) → News g env.locals h' led → Q () { s with heap := h', toks := s.toks + 1 }) : wpAny (model PR w) A (storeName env x v) Q E s :=
  wpAny_storeName_local hl F.ns (fun h' hn hs => h h' (F.set hn hs) fun p hp => ⟨hs.extBut _ _ (N p hp).2.1 (N p hp).1, (N p hp).2⟩) hp
theorem cntI_le (p : Nat → Nat → Bool) (k : Nat) : ∀ i, cntI p k i ≤ i
  | 0 => Nat.le_refl _
  | i + 1 => by
    have := cntI_le p k i
    unfold cntI
    split <;> omega
theorem loop_in {x1 x2 : Str} {p1 p2 p3 : Pos} {i1 i2 ct : Expr} {scope : Scope} {pos : Pos} {k : Nat} {a b : Int} {R : Result → Shared → Prop} {tk : Tok} (p : Nat → Nat → Bool) (hh : A.handled = none)
    (F : Fr g env.locals s.heap m) (N : News g env.locals s.heap [(I2, riO 0 k), (D, listOf its e), (I, riO a b)]) (d1 : D ≠ I2) (d2 : I ≠ I2) (d3 : I ≠ D) (hm : m x1 = some (.int k tk)) (hx : x1 ≠ x2)
    (hl : env.kindOf x2 = some .local) (hk : env.scope.kind = .function) (hdb : (x2 == ("__debug__" : Str)) = false) (hz : its.size + k ≤ 1000)
    (test : ∀ (i : Nat) t s₂ m₂ (E' : Value → Shared → Prop), i < k → Fr g env.locals s₂.heap m₂ → m₂ x1 = some (.int k tk) → m₂ x2 = some (.int i t) →
      wpAny (model PR w) A (isTrue ct env (eval ct env)) (fun ok s₃ => ok = p k i ∧ Keeps s₂ s₃) E' s₂)
    (fin : ∀ h' t' m' its' e', Fr g env.locals h' m' → News g env.locals h' [(D, listOf its' e'), (I, riO a b)] → its'.size = its.size + cntI p k k → R (.ok .next) { s with heap := h', toks := t' }) :
    codeAny (model PR w) A (.compLoop (.ListComp (.Name x2 p1) [⟨.Name x1 p2, i1, [], 0⟩, ⟨.Name x2 p3, i2, [ct], 0⟩] scope pos) 1 (.ref I2) (.ref D) env) R s := by
  have hp : (env.scope.kind == .class || (env.scope.kind == .module && env.locals != env.globals)) = false := by rw [hk]; rfl
  refine codeAny_loop rfl (fun q s' => ∃ i h t' m' its' e', q = k - i ∧ i ≤ k ∧ s' = { s with heap := h, toks := t' } ∧ Fr g env.locals h m' ∧ News g env.locals h [(I2, riO i ((k : Int) - i)), (D, listOf its' e'), (I, riO a b)] ∧ m' x1 = some (.int k tk) ∧ its'.size = its.size + cntI p k i) ?_ k ⟨0, _, _, m, its, e, rfl, Nat.zero_le _, rfl, F, ?_, hm, rfl⟩
  · rintro q s' ⟨i, h, t', m', its', e', rfl, hi, rfl, F1, N1, hm1, hz1⟩
    show wpAny _ A ((compTurn (.ListComp (.Name x2 p1) [⟨.Name x1 p2, i1, [], 0⟩, ⟨.Name x2 p3, i2, [ct], 0⟩] scope pos) 1 (.ref I2) (.ref D) env).onRaise (fun x => do noteFrame x env; theTreesLotGoes x)) _ _ _
    refine wpAny_noted ?_
    rw [compTurn_two1]
    refine wpAny_bind (wpAny_standAt (wpAny_bind ?_))
    rcases Nat.lt_or_eq_of_le hi with hlt | rfl
    · refine rnext_K (s := ⟨_, _, _, _, _⟩) F1 N1 (.head (List.forall_mem_cons.mpr ⟨d1, List.forall_mem_cons.mpr ⟨d2, fun _ q => nomatch q⟩⟩)) (by omega) ?_
      intro h2 F2 N2
      refine wpAny_bind (wpAny_of_eq (a := ()) rfl ?_)
      refine wpAny_bind (wpAny_assign_Name (store_L F2 N2 hl hp ?_))
      intro h3 F3 N3
      try dsimp only at N3
      have hm3 : (fun z => if z = x2 then some (.int i t') else m' z) x1 = some (Value.int k tk) := by
        show (if x1 = x2 then _ else _) = _
        rw [if_neg hx]
        exact hm1
      refine wpAny_bind (wpAny_tests_one (wpAny_mono (test i _ _ _ _ hlt F3 hm3 (if_pos rfl)) (fun ok s₃ h₃ => ?_) fun _ _ h => h))
      obtain ⟨rfl, h4, t4, rfl, k4⟩ := h₃
      have F4 := F3.keeps k4
      have N4 := N3.grown k4
      have hcI : cntI p k (i + 1) = cntI p k i + if p k i = true then 1 else 0 := rfl
      have hle := cntI_le p k i
      cases hpk : p k i
      · refine wpAny_bind (wpAny_pure ?_)
        rw [hpk, if_neg Bool.false_ne_true] at hcI
        refine wpAny_pure ⟨rfl, k - (i + 1), by omega, i + 1, _, _, _, its', e', rfl, hlt, rfl, F4, ?_, hm3, by omega⟩
        rw [show ((i + 1 : Nat) : Int) = i + 1 by omega, show (k : Int) - (i + 1) = k - i - 1 by omega]
        exact N4
      · rw [hpk, if_pos rfl] at hcI
        refine wpAny_bind (wpAny_bind (wpAny_Name (wpAny_loadName_local hk hl F4.ns (if_pos rfl) ?_) hdb))
        refine wpAny_bind (append_L F4 N4 (.tail (Ne.symm d1) (.head (List.forall_mem_cons.mpr ⟨d3, fun _ q => nomatch q⟩))) (by omega) ?_)
        intro h5 F5 N5
        refine wpAny_pure ?_
        refine wpAny_pure ⟨rfl, k - (i + 1), by omega, i + 1, _, _, _, its'.push (.int i t'), e' + 1, rfl, hlt, rfl, F5, ?_, hm3, by rw [Array.size_push]; omega⟩
        rw [show ((i + 1 : Nat) : Int) = i + 1 by omega, show (k : Int) - (i + 1) = k - i - 1 by omega]
        exact N5
    · refine rend_K (s := ⟨_, _, _, _, _⟩) hh F1 N1 (List.forall_mem_cons.mpr ⟨d1, List.forall_mem_cons.mpr ⟨d2, fun _ q => nomatch q⟩⟩) (by omega) ?_
      intro h2 F2 N2
      exact wpAny_pure (fin _ _ _ _ _ F2 N2 hz1)
  · rw [show ((0 : Nat) : Int) = 0 from rfl, show (k : Int) - 0 = k by omega]
    exact N
theorem cntO_le (p : Nat → Nat → Bool) : ∀ k, cntO p k ≤ k * k
  | 0 => Nat.le_refl _
  | k + 1 => by
    have h1 := cntO_le p k
    have h2 := cntI_le p k k
    unfold cntO
    have : (k + 1) * (k + 1) = k * k + k + k + 1 := by rw [Nat.add_mul, Nat.mul_add]; omega
    omega
theorem loop_out {x1 x2 : Str} {p1 p2 p3 : Pos} {i1 i2 ct : Expr} {scope : Scope} {pos : Pos} {n : Nat} {R : Result → Shared → Prop} (p : Nat → Nat → Bool) (hh : A.handled = none) (hn : n ≤ 20)
    (F : Fr g env.locals s.heap m) (N : News g env.locals s.heap [(D, listOf #[] e), (I, riO 0 n)]) (d3 : I ≠ D) (hx : x1 ≠ x2)
    (hl1 : env.kindOf x1 = some .local) (hl : env.kindOf x2 = some .local) (hk : env.scope.kind = .function) (hdb : (x2 == ("__debug__" : Str)) = false)
    (hi2 : ∀ x, foldedSetIterable i2 env x = pure x)
    (inner : ∀ (k : Nat) t s₂ m₂ (E' : Value → Shared → Prop), k < n → Fr g env.locals s₂.heap m₂ → m₂ x1 = some (.int k t) →
      wpAny (model PR w) A (eval i2 env) (fun xv s₃ => ∃ r u1 u2 u3, xv = .ref r ∧ s₃.heap.get? r = some (rgO k u1 u2 u3) ∧ Keeps s₂ s₃) E' s₂)
    (test : ∀ (k i : Nat) tk t s₂ m₂ (E' : Value → Shared → Prop), k < n → i < k → Fr g env.locals s₂.heap m₂ → m₂ x1 = some (.int k tk) → m₂ x2 = some (.int i t) →
      wpAny (model PR w) A (isTrue ct env (eval ct env)) (fun ok s₃ => ok = p k i ∧ Keeps s₂ s₃) E' s₂)
    (fin : ∀ h' t' m' its' e', Fr g env.locals h' m' → News g env.locals h' [(D, listOf its' e')] → its'.size = cntO p n → R (.ok .next) { s with heap := h', toks := t' }) :
    codeAny (model PR w) A (.compLoop (.ListComp (.Name x2 p1) [⟨.Name x1 p2, i1, [], 0⟩, ⟨.Name x2 p3, i2, [ct], 0⟩] scope pos) 0 (.ref I) (.ref D) env) R s := by
  have hp : (env.scope.kind == .class || (env.scope.kind == .module && env.locals != env.globals)) = false := by rw [hk]; rfl
  refine codeAny_loop rfl (fun q s' => ∃ k h t' m' its' e', q = n - k ∧ k ≤ n ∧ s' = { s with heap := h, toks := t' } ∧ Fr g env.locals h m' ∧ News g env.locals h [(D, listOf its' e'), (I, riO k ((n : Int) - k))] ∧ its'.size = cntO p k) ?_ n ⟨0, _, _, m, #[], e, rfl, Nat.zero_le _, rfl, F, ?_, rfl⟩
  · rintro q s' ⟨k, h, t', m', its', e', rfl, hi, rfl, F1, N1, hz1⟩
    show wpAny _ A ((compTurn (.ListComp (.Name x2 p1) [⟨.Name x1 p2, i1, [], 0⟩, ⟨.Name x2 p3, i2, [ct], 0⟩] scope pos) 0 (.ref I) (.ref D) env).onRaise (fun x => do noteFrame x env; theTreesLotGoes x)) _ _ _
    refine wpAny_noted ?_
    rw [compTurn_two0]
    refine wpAny_bind (wpAny_standAt (wpAny_bind ?_))
    rcases Nat.lt_or_eq_of_le hi with hlt | rfl
    · refine rnext_K (s := ⟨_, _, _, _, _⟩) F1 N1 (.tail (Ne.symm d3) (.head (fun _ q => nomatch q))) (by omega) ?_
      intro h2 F2 N2
      try dsimp only at N2
      refine wpAny_bind (wpAny_of_eq (a := ()) rfl ?_)
      refine wpAny_bind (wpAny_assign_Name (store_L F2 N2 hl1 hp ?_))
      intro h3 F3 N3
      try dsimp only at N3
      have hm3 : (fun z => if z = x1 then some (.int k t') else m' z) x1 = some (Value.int k t') := if_pos rfl
      refine wpAny_bind (wpAny_mono (inner k _ _ _ _ hlt F3 hm3) (fun xv s₃ h₃ => ?_) fun _ _ h => h)
      obtain ⟨r, u1, u2, u3, rfl, hr, h4, t4, rfl, k4⟩ := h₃
      have F4 := F3.keeps k4
      have N4 := N3.grown k4
      refine wpAny_bind (wpAny_standAt ?_)
      refine wpAny_bind (wpAny_of_eq (hi2 _) ?_)
      refine wpAny_bind (wpAny_holding ?_)
      refine riter_K F4 N4 hr (by omega) ?_
      intro I2 h5 F5 N5 l5
      have hle := cntO_le p k
      have hkk : k * k ≤ 19 * 19 := Nat.mul_le_mul (by omega) (by omega)
      have dD : D ≠ I2 := Nat.ne_of_lt (l5 (D, _) (.head _))
      have dI : I ≠ I2 := Nat.ne_of_lt (l5 (I, _) (.tail _ (.head _)))
      refine wpAny_bind (wpAny_runOwn ?_)
      rw [Around.mark_none]
      suffices h0 : codeAny (model PR w) A (.compLoop (.ListComp (.Name x2 p1) [⟨.Name x1 p2, i1, [], 0⟩, ⟨.Name x2 p3, i2, [ct], 0⟩] scope pos) 1 (.ref I2) (.ref D) env) _ _ from
        compStart_two1 (wpAny_pyIter_rangeiter (N5 _ (.head _)).1 ⟨rfl, h0⟩) h0
      refine loop_in (its := its') p hh F5 N5 dD dI d3 hm3 hx hl hk hdb (by omega) (fun i t s₂ m₂ E' a1 a2 a3 a4 => test k i _ t s₂ m₂ E' hlt a1 a2 a3 a4) ?_
      intro h6 t6 m6 its6 e6 F6 N6 hz6
      refine wpAny_pure ⟨rfl, n - (k + 1), by omega, k + 1, _, _, _, its6, e6, rfl, hlt, rfl, F6, ?_, by rw [hz6, hz1]; rfl⟩
      rw [show ((k + 1 : Nat) : Int) = k + 1 by omega, show (n : Int) - (k + 1) = n - k - 1 by omega]
      exact N6
    · refine rend_K (s := ⟨_, _, _, _, _⟩) hh F1 (led := [(D, listOf its' e')]) (x := k) (left := (k : Int) - k) (fun p hp => N1 p (by simpa [or_comm] using hp)) (List.forall_mem_cons.mpr ⟨Ne.symm d3, fun _ q => nomatch q⟩) (by omega) ?_
      intro h2 F2 N2
      exact wpAny_pure (fin _ _ _ _ _ F2 N2 hz1)
  · rw [show ((0 : Nat) : Int) = 0 from rfl, show (n : Int) - 0 = n by omega]
    exact N
end
end JoinBH

section ResetBI
local macro_rules | `(tactic| walk_at "none") => `(tactic| skip)
theorem resetBI : True := by first | walk1 | (w_top off; trivial)
end ResetBI
section JoinBI
section
variable {w : World} {A : Around} {E : Value → Shared → Prop} {s : Shared} {g : Heap} {L : Addr} {m : Str → Option Value} {env : Env} {x1 x2 y : Str} {ct i1 i2 : Expr} {scope : Scope} {cl : List (Str × Addr)} {p1 p2 p3 py pos spos : Pos}
theorem comp_two {Q : Flow → Shared → Prop} (p : Nat → Nat → Bool)
    (h : wpAny (model PR w) A (eval i1 env) (fun xv s₁ => ∃ led r n t1 t2 t3, xv = .ref r ∧ (r, rgO (n : Nat) t1 t2 t3) ∈ led ∧ n ≤ 20 ∧ Fr g L s₁.heap m ∧ News g L s₁.heap led ∧
      (∀ C (k : Nat) t s₂ m₂ (E' : Value → Shared → Prop), k < n → Fr g L s₂.heap m → News g L s₂.heap led → InElt s₂.heap s₂.heap → s₂.heap.Ns (compEnvC scope cl C env).locals m₂ → m₂ x1 = some (.int k t) →
        wpAny (model PR w) A (eval i2 (compEnvC scope cl C env)) (fun xv s₃ => ∃ r u1 u2 u3, xv = .ref r ∧ s₃.heap.get? r = some (rgO k u1 u2 u3) ∧ Keeps s₂ s₃) E' s₂) ∧
      (∀ C (k i : Nat) tk t s₂ m₂ (E' : Value → Shared → Prop), k < n → i < k → Fr g L s₂.heap m → News g L s₂.heap led → InElt s₂.heap s₂.heap → s₂.heap.Ns (compEnvC scope cl C env).locals m₂ → m₂ x1 = some (.int k tk) → m₂ x2 = some (.int i t) →
        wpAny (model PR w) A (isTrue ct (compEnvC scope cl C env) (eval ct (compEnvC scope cl C env))) (fun ok s₃ => ok = p k i ∧ Keeps s₂ s₃) E' s₂) ∧
      (∀ D its h' tk e, Fr g L h' (fun z => if z = y then some (.ref D) else m z) → News g L h' ((D, listOf its e) :: led) → (∀ q ∈ led, q.1 ≠ D) → its.size = cntO p n → Q .next { s₁ with heap := h', toks := tk })) E s)
    (hsw : swapsWith (.ListComp (.Name x2 p1) [⟨.Name x1 p2, i1, [], 0⟩, ⟨.Name x2 p3, i2, [ct], 0⟩] scope pos) (some (.Name y py)) spos.line env = pure true) (hL : env.locals = L)
    (hh : A.handled = none) (hclos : closureFor scope env = pure cl) (hcell : ∀ z ∈ scope.names, z.2 ≠ .cell) (hkind : scope.kind = .function)
    (hnames : ∀ z ∈ scope.names, z.2 = .local → scope.names.lookup z.1 = some .local) (hx1 : scope.names.lookup x1 = some .local) (hx2 : scope.names.lookup x2 = some .local) (hxx : x1 ≠ x2)
    (hy : env.kindOf y = some .local) (hp : (env.scope.kind == .class || (env.scope.kind == .module && env.locals != env.globals)) = false)
    (hdb : (x2 == ("__debug__" : Str)) = false)
    (hs : ∀ x, foldedSetIterable i1 env x = pure x) (hi2 : ∀ C x, foldedSetIterable i2 (compEnvC scope cl C env) x = pure x) :
    wpAny (model PR w) A (exec (.Assign [.Name y py] (.ListComp (.Name x2 p1) [⟨.Name x1 p2, i1, [], 0⟩, ⟨.Name x2 p3, i2, [ct], 0⟩] scope pos) spos) env) Q E s := by
  subst hL
  rw [exec_Assign_Name_used _ _ _ _ hsw]
  refine wpAny_bind (wpAny_standAt (wpAny_bind ?_))
  show wpAny _ A (do let _ ← comprehension (.ListComp (.Name x2 p1) [⟨.Name x1 p2, i1, [], 0⟩, ⟨.Name x2 p3, i2, [ct], 0⟩] scope pos) scope env _ (newList []) false (eval i1 env) (some (assign (.Name y py) env))) _ _ s
  refine wpAny_bind (wpAny_mono (wpAny_comprehension_free (use := some (assign (.Name y py) env)) (Q := fun _ s' => Q .next s') rfl hs hclos hkind hnames
    (wpAny_mono h (fun xv s₁ h₁ => ?_) fun _ _ e => e)) (fun _ s' hq => wpAny_pure (wpAny_pure hq)) fun _ _ e => e)
  obtain ⟨led, r, n, t1, t2, t3, rfl, hr, hn, F, N, hin, hte, hfin⟩ := h₁
  refine wpAny_pyIter_range (N _ hr).1 (small_nat (by omega)) ?_
  rw [rangeSize_nat']
  refine wpAny_newObj_type (wpAny_newFunctionEnv hcell (by intro y hy; simp at hy) (fun h₁ hns₁ hsb₁ => ?_) hkind)
  dsimp only at hns₁ hsb₁ ⊢
  generalize hH1 : s₁.heap.push { cls := .type "range_iterator", data := .fields #[rawInt 0, rawInt (n : Int), rawInt 1] } = H1 at hns₁ hsb₁ ⊢
  generalize hH2 : H1.push { cls := .type "list", dict := none, data := .seq ([] : List Value).toArray } = H2 at hns₁ hsb₁ ⊢
  have sz1 : H1.objs.size = s₁.heap.objs.size + 1 := by rw [← hH1, Heap.size_push]
  have sz2 : H2.objs.size = s₁.heap.objs.size + 2 := by rw [← hH2, Heap.size_push, sz1]
  have old : ∀ b o, H2.get? b = some o → h₁.get? b = some o := fun b o e => hsb₁.extBut b o (Nat.ne_of_lt (Heap.lt_size e)) (Heap.get?_push_of_some _ e)
  have old1 : ∀ b o, H1.get? b = some o → h₁.get? b = some o := fun b o e => old b o (hH2 ▸ Heap.get?_push_of_some _ e)
  have old0 : ∀ b o, s₁.heap.get? b = some o → h₁.get? b = some o := fun b o e => old1 b o (hH1 ▸ Heap.get?_push_of_some _ e)
  have fresh : ∀ a, s₁.heap.objs.size ≤ a → s₁.heap.get? a = none := fun a ha => by
    cases e : s₁.heap.get? a with
    | none => rfl
    | some o' => exact absurd (Heap.lt_size e) (Nat.not_lt.mpr ha)
  have hI : h₁.get? s₁.heap.objs.size = some (riO 0 n) := old1 _ _ (hH1 ▸ Heap.get?_push_size _ rfl)
  have hD : h₁.get? H1.objs.size = some (listOf #[] 0) := old _ _ (hH2 ▸ Heap.get?_push_size _ rfl)
  have FC : Fr s₁.heap (compEnvC scope cl H2.objs.size env).locals h₁ _ := ⟨hns₁, old0, by show _ ≤ H2.objs.size; omega⟩
  have NC : News s₁.heap (compEnvC scope cl H2.objs.size env).locals h₁ [(H1.objs.size, listOf #[] 0), (s₁.heap.objs.size, riO 0 n)] := by
    refine List.forall_mem_cons.mpr ⟨⟨hD, ?_, fresh _ (by omega)⟩, List.forall_mem_cons.mpr ⟨⟨hI, ?_, fresh _ (Nat.le_refl _)⟩, fun _ q => nomatch q⟩⟩
    · exact Nat.ne_of_lt (show @LT.lt Nat _ H1.objs.size H2.objs.size by omega)
    · exact Nat.ne_of_lt (show @LT.lt Nat _ s₁.heap.objs.size H2.objs.size by omega)
  have hLs := F.ns.lt
  have sub : ∀ {h m'}, Fr s₁.heap (compEnvC scope cl H2.objs.size env).locals h m' → Fr g env.locals h m ∧ News g env.locals h led := fun G => ⟨F.keeps G.keep, N.grown G.keep⟩
  suffices hloop : ∀ R : Result → Shared → Prop, (∀ h' t' m' its' e', Fr s₁.heap (compEnvC scope cl H2.objs.size env).locals h' m' → News s₁.heap (compEnvC scope cl H2.objs.size env).locals h' [(H1.objs.size, listOf its' e')] → its'.size = cntO p n → R (.ok .next) { s₁ with heap := h', toks := t' }) →
      codeAny (model PR w) A (.compLoop (.ListComp (.Name x2 p1) [⟨.Name x1 p2, i1, [], 0⟩, ⟨.Name x2 p3, i2, [ct], 0⟩] scope pos) 0 (.ref s₁.heap.objs.size) (.ref H1.objs.size) (compEnvC scope cl H2.objs.size env)) R { s₁ with heap := h₁, toks := s₁.toks + ([] : List (Str × Value)).length } by
    have hl := hloop (compPost (model PR w) A E (some (assign (.Name y py) env)) (fun _ s' => Q .next s') (.ref H1.objs.size) H2.objs.size) ?_
    · exact codeAny_compStart_list hl (wpAny_pyIter_rangeiter hI hl)
    · intro h' t' m' its' e' G' M' hz
      obtain ⟨F', N'⟩ := sub G'
      have zD := M' _ (.head _)
      have ne : ∀ q ∈ led, q.1 ≠ H1.objs.size := fun q hq => Nat.ne_of_lt (by have : @LT.lt Nat _ q.1 s₁.heap.objs.size := Heap.lt_size (N q hq).1; omega)
      have hLs : @LT.lt Nat _ env.locals s₁.heap.objs.size := F.ns.lt
      have gD : g.get? H1.objs.size = none := by
        cases e : g.get? H1.objs.size with
        | none => rfl
        | some o' => have := F.keep _ _ e; rw [fresh _ (by omega)] at this; cases this
      have gC : g.get? H2.objs.size = none := by
        cases e : g.get? H2.objs.size with
        | none => rfl
        | some o' => have := F.keep _ _ e; rw [fresh _ (by omega)] at this; cases this
      have N2 : News g env.locals h' ((H1.objs.size, listOf its' e') :: led) := List.forall_mem_cons.mpr ⟨⟨zD.1, Nat.ne_of_gt (show @LT.lt Nat _ env.locals H1.objs.size by omega), gD⟩, N'⟩
      show wpAny _ A (assign (.Name y py) env (.ref H1.objs.size)) _ _ _
      refine wpAny_assign_Name (wpAny_storeName_local hy F'.ns (fun h₂ hn₂ hs₂ => ?_) hp)
      have F3 := F'.set hn₂ hs₂
      refine ⟨m', G'.ns.sameBut hs₂ (Nat.ne_of_gt (show @LT.lt Nat _ env.locals H2.objs.size by omega)), fun h₃ hs₃ => ?_⟩
      refine hfin H1.objs.size its' h₃ _ e' ⟨F3.ns.sameBut hs₃ (Nat.ne_of_lt (show @LT.lt Nat _ env.locals H2.objs.size by omega)), fun b o e => hs₃.extBut b o (by rintro rfl; rw [gC] at e; cases e) (F3.keep b o e), F3.above⟩ (fun q hq => ?_) ne hz
      have z := N2 q hq
      refine ⟨hs₃.extBut _ _ ?_ (hs₂.extBut _ _ z.2.1 z.1), z.2⟩
      rcases List.mem_cons.mp hq with rfl | hq
      · exact Nat.ne_of_lt (show @LT.lt Nat _ H1.objs.size H2.objs.size by omega)
      · exact Nat.ne_of_lt (by have : @LT.lt Nat _ q.1 s₁.heap.objs.size := Heap.lt_size (N q hq).1; omega)
  intro R hR
  refine loop_out p hh hn FC NC (Nat.ne_of_lt (show @LT.lt Nat _ s₁.heap.objs.size H1.objs.size by omega)) hxx (lookup_relabel_local hx1) (lookup_relabel_local hx2) hkind hdb (hi2 _) (fun k t s₂ m₂ E' hk G hm => ?_) (fun k i tk t s₂ m₂ E' hk hi G hm1 hm2 => ?_) ?_
  · obtain ⟨F', N'⟩ := sub G
    exact hin _ k t s₂ m₂ E' hk F' N' (InElt.start _) G.ns hm
  · obtain ⟨F', N'⟩ := sub G
    exact hte _ k i tk t s₂ m₂ E' hk hi F' N' (InElt.start _) G.ns hm1 hm2
  · intro h' t' m' its' e' G' M' hz
    exact hR h' t' m' its' e' G' M' hz
end
end JoinBI

section ResetS21
local macro_rules | `(tactic| walk_at "none") => `(tactic| skip)
theorem resetS21 : True := by first | walk1 | (w_top off; trivial)
end ResetS21
section JoinS21
section
variable {w : World} {s : Shared} {g : Heap} {L fa : Addr} {m : Str → Option Value} {Q : Flow → Shared → Prop} {E : Value → Shared → Prop} {tail : List Stmt}
noncomputable def isPair (lv : List Int) (k i : Nat) : Bool := [0, 1].any fun x => x == lv.getD i 0 - lv.getD k 0
theorem seg21 {lA nA : Addr} {us : List Value} {lv : List Int} {n1 : Nat} {t1 t2 t3 : Tok} {c5 : Obj} {rest : List (Addr × Obj)} (cx : Cx w g L) (F : Fr g L s.heap m) (hn : m (Str.ofString "nodes") = some (.ref nA))
   (N : News g L s.heap ((nA, rgO lv.length t1 t2 t3) :: (lA, listOf (List.toArray us) n1) :: (L + 1 + 1 + 1 + 1 + 1, c5) :: rest)) (h5 : c5.data = .cell (some (.ref lA))) (hI : IntsAre us lv) (hl7 : lv.length ≤ 7) (hlv : ∀ i, lv.getD i 0 ≤ 100 ∧ -100 ≤ lv.getD i 0)
   (H : ∀ D its h' tk e, Fr g L h' (fun z => if z = Str.ofString "pairs" then some (.ref D) else m z) → News g L h' ((D, listOf its e) :: (nA, rgO lv.length t1 t2 t3) :: (lA, listOf (List.toArray us) n1) :: (L + 1 + 1 + 1 + 1 + 1, c5) :: rest) →
     (∀ q ∈ ((nA, rgO lv.length t1 t2 t3) :: (lA, listOf (List.toArray us) n1) :: (L + 1 + 1 + 1 + 1 + 1, c5) :: rest), q.1 ≠ D) → its.size = cntO (isPair lv) lv.length → Q .next { s with heap := h', toks := tk }) :
   wpAny (model PR w) (ALaw L fa) (exec (lawSt 21) (envLaw L fa)) Q E s := by
  have gX := cx.gx
  have l9 : @LT.lt Nat _ 185 L := cx.l0
  obtain ⟨X₀, B, ⟨_, _, _, _, _, T⟩, C1, C2, l0⟩ := cx
  conv in (occs := *) lawSt _ => all_goals whnf
  unfold ALaw envLaw
  conv in (occs := *) lawScope => all_goals whnf
  have hul := hI.length
  refine comp_two (L := L) (g := g) (m := m) (cl := _) (isPair lv) (nameX_L F hn ⟨_, nA, _, t1, t2, t3, rfl, .head _, by omega, F, N, ?_, ?_, H⟩) rfl rfl rfl rfl (by decide) rfl (by decide) (by decide) (by decide) (by decide) rfl rfl (by decide) (fun _ => rfl) (fun _ _ => rfl)
  · intro C k t s₂ m₂ E' hk F2 N2 E2 hns hm
    repeat' (first | ((fail_if_success (with_reducible show wpAny _ _ (PySem.call (Value.type "range") _) _ _ _)); walk1))
    exact PySem.call_range_1 ⟨_, _, _, _, rfl, Heap.get?_push_size _ rfl, _, _, rfl, fun b o e => Heap.get?_push_of_some _ e⟩
  · intro C k i tk t s₂ m₂ E' hk hi F2 N2 E2 hns hm1 hm2
    repeat' (first | ((fail_if_success (with_reducible show wpAny _ _ (newTuple _) _ _ _)); walk1))
    rename Fr _ _ _ _ => F3
    rename News _ _ _ _ => N3
    refine newTuple_NK (vs := [_, _]) F3 N3 ?_ (by have := sizeLine_eq; show 2 ≤ sizeLine; omega)
    intro h' F4 N4 k4
    k_steps
    exact ⟨_, _, rfl, k4⟩
end
end JoinS21

section ResetS22
local macro_rules | `(tactic| walk_at "none") => `(tactic| skip)
theorem resetS22 : True := by first | walk1 | (w_top off; trivial)
end ResetS22
section JoinS22
theorem any_mem {ps : List Int} {k : Int} : (ps.any fun x => x == k) = true ↔ k ∈ ps := by
  rw [List.any_eq_true]
  constructor
  · rintro ⟨x, hx, e⟩
    rw [eq_of_beq e] at hx
    exact hx
  · intro h
    exact ⟨k, h, beq_self_eq_true k⟩
noncomputable def dueAt (W : Str) (ps : List Int) : Nat → Tab
  | 0 => [(W, (ps.count (-1) : Nat))]
  | k + 1 => if (k : Int) ∈ ps then kdpPut (dueAt W ps k) (chrS k) (ps.count (k : Int) : Nat) else dueAt W ps k
theorem dueAt_len (W : Str) (ps : List Int) : ∀ k, (dueAt W ps k).length ≤ k + 1
  | 0 => Nat.le_refl _
  | k + 1 => by
    unfold dueAt
    split
    · exact Nat.le_trans (kdpPut_len _ _ _) (Nat.succ_le_succ (dueAt_len W ps k))
    · exact Nat.le_succ_of_le (dueAt_len W ps k)
inductive DueJ (w : World) (g : Heap) (L : Addr) (m : Str → Option Value) (d : Addr) (W : Str) (ps : List Int) (n : Nat) (led : List (Addr × Obj)) (s : Shared) (it : Value) (k : Nat) (s' : Shared) : Prop
  | mk (I : _) (m' : _) (o' : _) (kvs : _) (c3 : _) (cv : _) : (it = .ref I) → (Fr g L s'.heap m') → ((∀ z, z ≠ Str.ofString "due" → m' z = m z)) → (m' (Str.ofString "due") = some (.ref d)) → (News g L s'.heap ((I, riO k (n - k : Int)) :: (d, o') :: (L + 1 + 1 + 1, c3) :: led)) → (Obj.IsDictOf (strKind PR w) o' kvs) → (PyProof.V.FlatPairs PyData.str kvs (kdpD (dueAt W ps k))) → ((d == sysModules) = false) → (@LT.lt Nat _ d I) → (@LT.lt Nat _ (L + 1 + 1 + 1) d) → (c3.data = .cell cv) → ((∀ p ∈ led, p.1 < d)) → (s'.gens = s.gens) → (s'.os = s.os) → DueJ w g L m d W ps n led s it k s'
section
variable {w : World} {s : Shared} {g : Heap} {L fa : Addr} {m : Str → Option Value} {Q : Flow → Shared → Prop} {E : Value → Shared → Prop} {tail : List Stmt}
theorem seg22 {pl nA : Addr} {vp : List Value} {np n : Nat} {ps : List Int} {cP : Obj} {t1 t2 t3 tw : Tok} {W : Str} {c3 : Obj} {rest : List (Addr × Obj)} (cx : Cx w g L) (F : Fr g L s.heap m) (hW : m (Str.ofString "words") = some (.str W tw)) (hn : m (Str.ofString "nodes") = some (.ref nA)) (hn7 : n ≤ 7)
   (hI : IntsAre vp ps) (hcl : cP.data = .cell (some (.ref pl)))
   (N : News g L s.heap ((L + 1, cP) :: (pl, listOf vp.toArray np) :: (nA, rgO n t1 t2 t3) :: (L + 1 + 1 + 1, c3) :: rest))
   {c3v : Option Value} (hc3 : c3.data = .cell c3v) (hlt : ∀ p ∈ rest, p.1 ≠ L + 1 + 1 + 1) (hpl : @LT.lt Nat _ (L + 1 + 1 + 1 + 1 + 1) pl) (hnA : @LT.lt Nat _ (L + 1 + 1 + 1 + 1 + 1) nA) (hpn : ps.length ≤ 7)
   (H : ∀ s' m' d o' kvs c3', (∀ z, z ≠ Str.ofString "due" → m' z = m z) → m' (Str.ofString "due") = some (.ref d) → Fr g L s'.heap m' → News g L s'.heap ((d, o') :: (L + 1, cP) :: (pl, listOf vp.toArray np) :: (nA, rgO n t1 t2 t3) :: (L + 1 + 1 + 1, c3') :: rest) →
     Obj.IsDictOf (strKind PR w) o' kvs → PyProof.V.FlatPairs PyData.str kvs (kdpD (dueAt W ps n)) → (d == sysModules) = false → (∀ p ∈ ((L + 1, cP) :: (pl, listOf vp.toArray np) :: (nA, rgO n t1 t2 t3) :: rest), p.1 < d) → s'.gens = s.gens → s'.os = s.os → wpAny (model PR w) (ALaw L fa) (execs tail (envLaw L fa)) Q E s') :
   wpAny (model PR w) (ALaw L fa) (execs (lawSt 22 :: lawSt 23 :: tail) (envLaw L fa)) Q E s := by
  have gX := cx.gx
  have l9 : @LT.lt Nat _ 185 L := cx.l0
  obtain ⟨X₀, B, ⟨_, _, _, _, _, T⟩, C1, C2, l0⟩ := cx
  conv in (occs := *) lawSt _ => all_goals whnf
  unfold ALaw envLaw
  conv in (occs := *) lawScope => all_goals whnf
  have hyl := hI.length
  repeat' (first | ((fail_if_success (with_reducible show wpAny _ _ (exec (PySem.Stmt.For _ _ _ _ _) _) _ _ _)); walk1))
  rename_i d h1 o1 lo hd1 l1 h2 o3 hd3 hf3 h4 F4 N4
  refine for_go (n := n) (DueJ w g L m d W ps n ((L + 1, cP) :: (pl, listOf vp.toArray np) :: (nA, rgO n t1 t2 t3) :: rest) s) ?_ ?_ ?_
  · refine nameX_L F4 hn ?_
    refine riter_K F4 N4 (N4 _ (.tail _ (.tail _ (.tail _ (.head _))))).1 (by omega) ?_
    intro I h5 F5 N5 l5
    refine ⟨I, _, o3, _, c3, c3v, rfl, F5, ?_, rfl, ?_, hd3, hf3, lo, l5 (d, _) (.head _), l1.2.2.2.1, hc3, ?_, rfl, rfl⟩
    · intro z hz
      simp only [if_neg hz]
    · rw [show (n : Int) - ((0 : Nat) : Int) = n by omega]
      lge_lay
    · exact List.forall_mem_cons.mpr ⟨l1.1, List.forall_mem_cons.mpr ⟨l1.2.1, List.forall_mem_cons.mpr ⟨l1.2.2.1, allLt l1.2.2.2.2⟩⟩⟩
  · rintro it k s' E' hk ⟨I, m', o', kvs, c3', cv, rfl, F8, e0, e1, N8, hd8, hf8, lo8, l1, l2, h3, l3, hg8, ho8⟩
    generalize hB : DueJ w g L m d W ps n ((L + 1, cP) :: (pl, listOf vp.toArray np) :: (nA, rgO n t1 t2 t3) :: rest) s (.ref I) (k + 1) = B
    refine rnext_K F8 N8 (.head (List.forall_mem_cons.mpr ⟨Nat.ne_of_lt l1, List.forall_mem_cons.mpr ⟨Nat.ne_of_lt (by omega), fun p hp => Nat.ne_of_lt (Nat.lt_trans (l3 p hp) l1)⟩⟩)) (by omega) ?_
    intro h' F9 N9
    refine ⟨_, rfl, wpAny_pure ?_⟩
    refine wpAny_assign_Name ?_
    (try dsimp only at N9)
    clear F8 N8
    have e2 : m' (Str.ofString "nodes") = some (.ref nA) := by rw [e0 _ (by decide)]; exact hn
    have hdl := dueAt_len W ps k
    generalize hcg : dueAt W ps k = c at *
    have hst : dueAt W ps (k + 1) = if (k : Int) ∈ ps then kdpPut c (chrS k) (ps.count (k : Int) : Nat) else c := by rw [← hcg]; rfl
    have z1 : I ≠ L + 1 + 1 + 1 := Ne.symm (Nat.ne_of_lt (Nat.lt_trans l2 l1))
    have z2 : d ≠ L + 1 + 1 + 1 := Ne.symm (Nat.ne_of_lt l2)
    have z3 : L + 1 ≠ L + 1 + 1 + 1 := Nat.ne_of_lt (by omega)
    have z4 : pl ≠ L + 1 + 1 + 1 := Ne.symm (Nat.ne_of_lt (by omega))
    have z5 : nA ≠ L + 1 + 1 + 1 := Ne.symm (Nat.ne_of_lt (by omega))
    refine storeX_C F9 N9 rfl (.tail z1 (.tail z2 (.head (List.forall_mem_cons.mpr ⟨z3, List.forall_mem_cons.mpr ⟨z4, List.forall_mem_cons.mpr ⟨z5, hlt⟩⟩⟩)))) h3 ?_
    intro h2 o2 F1 N1 c1
    (try dsimp only at N1)
    clear F9 N9
    k_steps
    · rename List.any _ _ = true => ha
      rename Fr _ _ _ _ => F3
      rename News _ _ _ _ => N3
      rename Obj.IsDictOf _ _ _ => d3
      rename PyProof.V.FlatPairs _ _ _ => f3
      subst hB
      exact ⟨I, _, _, _, _, _, rfl, F3, e0, e1, by rw [show (n : Int) - ((k + 1 : Nat) : Int) = n - k - 1 by omega]; exact N3, d3, by rw [hst, if_pos (any_mem.1 ha)]; exact f3, lo8, l1, l2, c1, l3, hg8, ho8⟩
    · rename List.any _ _ = false => ha
      rename Fr _ _ _ _ => F3
      rename News _ _ _ _ => N3
      subst hB
      exact ⟨I, _, _, _, _, _, rfl, F3, e0, e1, by rw [show (n : Int) - ((k + 1 : Nat) : Int) = n - k - 1 by omega]; exact N3, hd8, by rw [hst, if_neg (fun h => by rw [any_mem.2 h] at ha; cases ha)]; exact hf8, lo8, l1, l2, c1, l3, hg8, ho8⟩
  · rintro it s' E' ⟨I, m', o', kvs, c3', cv, rfl, F8, e0, e1, N8, hd8, hf8, lo8, l1, l2, h3, l3, hg8, ho8⟩
    refine rend_K rfl F8 N8 (List.forall_mem_cons.mpr ⟨Nat.ne_of_lt l1, List.forall_mem_cons.mpr ⟨Nat.ne_of_lt (by omega), fun p hp => Nat.ne_of_lt (Nat.lt_trans (l3 p hp) l1)⟩⟩) (by omega) ?_
    intro h' F6 N6
    exact ⟨rfl, H _ _ d _ _ _ e0 e1 F6 (by lge_lay) hd8 hf8 lo8 l3 hg8 ho8⟩
end
end JoinS22

section ResetBJ
local macro_rules | `(tactic| walk_at "none") => `(tactic| skip)
theorem resetBJ : True := by first | walk1 | (w_top off; trivial)
end ResetBJ
section JoinBJ
open PySem.SeqAt
open AutoSeq1 (wpAny_loadPart')
noncomputable def tabEq (t1 t2 : Tab) : Bool := t1.length == t2.length && t1.all fun p => (t2.find? fun q => decide (q.1 = p.1)).map (·.2) == some p.2
theorem lookup_kdp (k : Str) : ∀ c : Tab, PySem.Spec.lookup (.str k) (kdpD c) = ((c.find? fun p => decide (p.1 = k)).map (·.2)).map PyData.int
  | [] => rfl
  | p :: c => by
    have ih := lookup_kdp k c
    show (if PySem.Spec.same (.str p.1) (.str k) = true then _ else _) = _
    rw [PyProof.V.same_str, List.find?_cons]
    by_cases h : p.1 = k
    · simp only [h, decide_true, if_true]
      rfl
    · simp only [h, decide_false, Bool.false_eq_true, if_false]
      exact ih
theorem rows_of (t2 : Tab) : ∀ t1 : Tab, (t1.all fun p => (t2.find? fun q => decide (q.1 = p.1)).map (·.2) == some p.2) = true → KeqRows (kdpD t2) (kdpD t1) true
  | [], _ => .nil
  | p :: t1, h => by
    rw [List.all_cons, Bool.and_eq_true] at h
    have h1 := eq_of_beq h.1
    have ih := rows_of t2 t1 h.2
    have e := lookup_kdp p.1 t2
    rw [h1] at e
    have := KeqRows.hit (k := PyData.str p.1) (v := PyData.int p.2) e ih
    rw [show (PyData.eqv (.int p.2) (.int p.2) && true) = true by simp [PyData.eqv]] at this
    exact this
section
variable {w : World} {A : Around} {E : Value → Shared → Prop} {s : Shared}
theorem ne_tup {l b : Addr} {items items2 : Array Value} {n n2 : Nat} {dd dd2 : Option Addr} {sl sl2 : Array (Option Value)} {Q : Value → Shared → Prop} (e : Nat → Bool)
    (hl : s.heap.get? l = some { cls := .type "tuple", dict := dd, data := .seq items n, slots := sl }) (hb : s.heap.get? b = some { cls := .type "tuple", dict := dd2, data := .seq items2 n2, slots := sl2 }) (hu : A.units < cLine)
    (he : ∀ j (h1 : j < items.size) (h2 : j < items2.size) (E' : Value → Shared → Prop) (Q' : Bool → Shared → Prop), Q' (e j) s → wpAny (model PR w) A.in1 (eqBool items[j] items2[j]) Q' E' s)
    (h : Q (.bool (!((List.range (min items.size items2.size)).all e && items.size == items2.size))) s) : wpAny (model PR w) A (compareOp .NotEq (.ref l) (.ref b)) Q E s := by
  have ha : s.TypeIs (.ref l) "tuple" := ⟨_, hl, rfl⟩
  have hB : s.TypeIs (.ref b) "tuple" := ⟨_, hb, rfl⟩
  refine wpAny_richCompare_same_room (op := .NotEq) ha hB PySem.F.slot_tuple_ne (wpAny_call_entry PySem.F.slot_tuple_ne ha PySem.F.entry_tuple_ne ?_ (PySem.F.args_tuple_ne_2 _ _)) hu
  obtain ⟨hp, g, d, tk, os⟩ := s
  have f2 := AutoSeq1.sub_tuple_tuple
  have hZ : (items.toList.zip items2.toList).length = min items.size items2.size := by simp
  wp_walk using wpAny_loadPart' hl, wpAny_loadPart' hb, wpAny_forIn_list _ (fun rest b s' => b.1 = none ∧ s' = ⟨hp, g, d, tk, os⟩ ∧ ∃ i, rest = (items.toList.zip items2.toList).drop i ∧
      Q (.bool (!(((List.range (min items.size items2.size)).drop i).all e && items.size == items2.size))) ⟨hp, g, d, tk, os⟩) _
  case turn =>
    rintro ⟨y, x⟩ rest b s' ⟨hb', rfl, i, hz, hR⟩
    have hlt : i < (items.toList.zip items2.toList).length := by
      rcases Nat.lt_or_ge i (items.toList.zip items2.toList).length with h' | h'
      · exact h'
      · rw [List.drop_of_length_le h'] at hz; cases hz
    have hm : i < min items.size items2.size := hZ ▸ hlt
    have h1 : i < items.size := Nat.lt_of_lt_of_le hm (Nat.min_le_left _ _)
    have h2 : i < items2.size := Nat.lt_of_lt_of_le hm (Nat.min_le_right _ _)
    rw [List.drop_eq_getElem_cons hlt] at hz
    injection hz with hyx hrest
    have hy : y = items[i] := by have := congrArg Prod.fst hyx; simpa using this
    have hx : x = items2[i] := by have := congrArg Prod.snd hyx; simpa using this
    subst hy hx
    have hd : (List.range (min items.size items2.size)).drop i = i :: (List.range (min items.size items2.size)).drop (i + 1) := by simp [List.drop_eq_getElem_cons, hm]
    rw [hd, List.all_cons] at hR
    refine wpAny_bind (he i h1 h2 _ _ ?_)
    cases hy : e i with
    | true =>
      rw [hy] at hR
      wp_walk
      exact ⟨rfl, rfl, i + 1, hrest, by simpa using hR⟩
    | false =>
      rw [hy] at hR
      wp_walk
      exact ⟨_, rfl, (fun x => nomatch x), by simpa using hR⟩
  case fin =>
    rintro ⟨b1, b2⟩ s' ⟨hb', rfl, i, hz, hR⟩
    simp only at hb'
    subst hb'
    have hge : min items.size items2.size ≤ i := by
      rcases Nat.lt_or_ge i (items.toList.zip items2.toList).length with h' | h'
      · rw [List.drop_eq_getElem_cons h'] at hz; cases hz
      · exact hZ ▸ h'
    rw [List.drop_of_length_le (by simpa using hge)] at hR
    wp_walk
    exact ⟨_, rfl, (fun x => nomatch x), by simpa [Builtin.Tuple.tupleCompareSizes, bne] using hR⟩
  case h =>
    exact ⟨rfl, rfl, 0, rfl, by simpa using h⟩
theorem ne_tup5 {g : Heap} {L l b q d : Addr} {led : List (Addr × Obj)} {x1 x2 x3 x4 : Int} {t1 t2 t3 t4 u1 u2 u3 u4 : Tok} {oq od : Obj} {kq kd : List (Str × Value)} {tq td : Tab} {Q : Value → Shared → Prop} (N : News g L s.heap led)
    (hl : (l, tup5 x1 x2 x3 x4 t1 t2 t3 t4 q) ∈ led) (hb : (b, ({ cls := .type "tuple", data := .seq #[.int x1 u1, .int x2 u2, .int x3 u3, .int x4 u4, .ref d] } : Obj)) ∈ led) (hq : (q, oq) ∈ led) (hd : (d, od) ∈ led)
    (hdq : Obj.IsDictOf (strKind PR w) oq kq) (hfq : PyProof.V.FlatPairs PyData.str kq (kdpD tq)) (hdd : Obj.IsDictOf (strKind PR w) od kd) (hfd : PyProof.V.FlatPairs PyData.str kd (kdpD td))
    (lq : (q == sysModules) = false) (ld : (d == sysModules) = false) (he : tabEq tq td = true) (hne : q ≠ d) (hu : A.units + 64 < cLine) (h : Q (.bool false) s) :
    wpAny (model PR w) A (compareOp .NotEq (.ref l) (.ref b)) Q E s := by
  unfold tabEq at he
  rw [Bool.and_eq_true] at he
  refine ne_tup (fun _ => true) (N _ hl).1 (N _ hb).1 (by omega) ?_ h
  intro j h1 h2 E' Q' hQ
  match j, h1, h2 with
  | 0, _, _ => exact (EqAt.int_int x1 t1 x1 u1) PR w E' Q' (by rw [beq_self_eq_true]; exact hQ)
  | 1, _, _ => exact (EqAt.int_int x2 t2 x2 u2) PR w E' Q' (by rw [beq_self_eq_true]; exact hQ)
  | 2, _, _ => exact (EqAt.int_int x3 t3 x3 u3) PR w E' Q' (by rw [beq_self_eq_true]; exact hQ)
  | 3, _, _ => exact (EqAt.int_int x4 t4 x4 u4) PR w E' Q' (by rw [beq_self_eq_true]; exact hQ)
  | 4, _, _ =>
    show wpAny (model PR w) A.in1 (eqBool (.ref q) (.ref d)) Q' E' s
    unfold eqBool
    refine wpAny_holding ?_
    refine wpAny_ite_split (fun hab => absurd (by have := eq_of_beq hab; injection this) hne) (fun _ => ?_)
    refine wpAny_bind (keq_tabs (knd := strKind PR w) (enc := PyData.str) PyProof.V.same_str ⟨lq, kq, Heap.dictOf_iff.mpr ⟨oq, (N _ hq).1, hdq⟩, hfq⟩ ⟨ld, kd, Heap.dictOf_iff.mpr ⟨od, (N _ hd).1, hdd⟩, hfd⟩ ?_ ?_ (rows_of td tq he.2) ?_)
    · rw [kdpD_length, kdpD_length]
      exact eq_of_beq he.1
    · show A.units + 1 < cLine
      omega
    · exact wpAny_truthy_bool hQ
end
end JoinBJ

section ResetS24
local macro_rules | `(tactic| walk_at "none") => `(tactic| skip)
local macro_rules | `(tactic| walk_at "none") => `(tactic| skip)
theorem resetS24 : True := by first | walk1 | (w_top off; trivial)
end ResetS24
section JoinS24
theorem slot_join : Slot "bytes" "join" "bytes.join" := .of (owner := "bytes") (n := "join") (by rw [typeLookup_type, builtinLookup_eq_fast]; kernel_rfl) (by decide +kernel) (by decide +kernel) (by decide +kernel)
    (by first | exact .inl (by decide +kernel) | exact .inr (by decide +kernel)) (by rw [isSubtype_type]; kernel_rfl)
theorem type_join : typeOf (.builtin "bytes.join") = pure (.type "method_descriptor") := by kernel_rfl!
section
variable {w : World} {A : Around} {E : Value → Shared → Prop} {s : Shared} {b : Array UInt8} {t : Tok}
theorem join_getm {pl : Sem Bool} {Q : Value × List Value → Shared → Prop} (h : Q (.builtin "bytes.join", [.bytes b t]) s) : wpAny (model PR w) A (getMethod (.bytes b t) "join" pl) Q E s :=
  getMethod_builtin (T := "bytes") (show typeOf _ = _ by kernel_rfl!) PySem.W.FB.plainAttrs_bytes slot_join type_join (fun a e => by cases e) h
end
local macro_rules | `(tactic| walk_at "getMethod bytes") => `(tactic| (k_here; refine join_getm ?_))
section
variable {w : World} {s : Shared} {g : Heap} {L fa : Addr} {m : Str → Option Value} {Q : Flow → Shared → Prop} {E : Value → Shared → Prop} {tail : List Stmt}
theorem seg24 {Tq q T0 D0 pl lA pr dd pA : Addr} {vp us pcs : List Value} {its : Array Value} {ps lv : List Int} {pieces : List (Array UInt8)} {n1 n2 n3 n4 : Nat} {t1 t2 t3 t4 z1 z2 z3 z4 tw : Tok} {oq o0 od c1 c5 : Obj} {kq kd : List (Str × Value)} {tq td : Tab} {a b c d : Int} {cs : List (List Nat)} {rest : List (Addr × Obj)}
   (cx : Cx w g L) (F : Fr g L s.heap m) (hT : m (Str.ofString "total") = some (.ref Tq)) (h0 : m (Str.ofString "nothing") = some (.ref T0)) (hw : m (Str.ofString "weighed") = some (.int c tw)) (hpr : m (Str.ofString "pairs") = some (.ref pr)) (hdue : m (Str.ofString "due") = some (.ref dd)) (hpc : m (Str.ofString "pieces") = some (.ref pA))
   (N : News g L s.heap ((Tq, tup5 a b c d t1 t2 t3 t4 q) :: (q, oq) :: (T0, tup5 0 0 0 0 z1 z2 z3 z4 D0) :: (D0, o0) :: (pl, listOf (List.toArray vp) n1) :: (L + 1, c1) :: (lA, listOf (List.toArray us) n2) :: (L + 1 + 1 + 1 + 1 + 1, c5) :: (pr, listOf its n3) :: (dd, od) :: (pA, listOf (List.toArray pcs) n4) :: rest))
   (h1 : c1.data = .cell (some (.ref pl))) (h5 : c5.data = .cell (some (.ref lA))) (hI : IntsAre us lv) (hvp : IntsAre vp ps) (hpI : BytesAre pcs pieces) (hl7 : lv.length ≤ 7) (hps : ps.length ≤ 7)
   (hdq : Obj.IsDictOf (strKind PR w) oq kq) (hfq : PyProof.V.FlatPairs PyData.str kq (kdpD tq)) (hdd : Obj.IsDictOf (strKind PR w) od kd) (hfd : PyProof.V.FlatPairs PyData.str kd (kdpD td)) (hd0 : Obj.IsDictOf (strKind PR w) o0 []) (hf0 : PyProof.V.FlatPairs PyData.str [] [])
   (lq : (q == sysModules) = false) (ld : (dd == sysModules) = false) (l0 : (D0 == sysModules) = false) (hqd : q ≠ dd) (he : tabEq tq td = true) (hq9 : tq.length ≤ 9)
   (ha : a = (ps.count (-1) : Nat)) (hb : b = (lv.length : Nat)) (hd : d = (its.size : Nat)) (hcn : cntAt tq tq.length = (lv.length : Nat)) (hz : (cat pieces).size ≤ 1000) (hpz : pieces.length ≤ 8) (hpn : pieces ≠ []) (hits : its.size ≤ 1000)
   (hcut : Cut ((cat pieces).map (·.toNat)).toList cs) (hc0 : 0 + ((toB cs.flatten).toList.count 40 : Nat) - ((toB cs.flatten).toList.count 41 : Nat) = (0 : Int))
   (H : ∀ s' m', Fr g L s'.heap m' → News g L s'.heap rest → s'.gens = s.gens → s'.os = s.os → Q (.ret (.bool true)) s') :
   wpAny (model PR w) (ALaw L fa) (execs [lawSt 24, lawSt 25] (envLaw L fa)) Q E s := by
  have gX := cx.gx
  have l9 : @LT.lt Nat _ 185 L := cx.l0
  obtain ⟨X₀, B, ⟨_, _, _, _, _, T⟩, C1, C2, l0'⟩ := cx
  conv in (occs := *) lawSt _ => all_goals whnf
  unfold ALaw envLaw
  conv in (occs := *) lawScope => all_goals whnf
  have hvl := hvp.length
  have hul := hI.length
  subst ha hb hd
  repeat' (first | ((fail_if_success (with_reducible show wpAny _ _ (PySem.call (Value.builtin "len") [Value.ref pr]) _ _ _)); walk1))
  refine call_len_list (items := its) ⟨listOf its n3, (N (pr, _) (by k_mem)).1, rfl, n3, rfl⟩ (by omega) ?_
  repeat' (first | ((fail_if_success (with_reducible show wpAny _ _ (compareOp .NotEq (Value.ref _) (Value.ref _)) _ _ _)); walk1))
  rename Fr _ _ _ _ => F1
  rename News _ _ _ _ => N1
  refine ne_tup5 N1 (by k_mem) (by k_mem) (by k_mem) (by k_mem) hdq hfq hdd hfd lq ld he hqd (by exact Nat.le_of_ble_eq_true rfl) ?_
  repeat' (first | ((fail_if_success (with_reducible show wpAny _ _ (PySem.call (Value.ref 163) _) _ _ _)); walk1))
  rename Fr _ _ _ _ => F2
  rename News _ _ _ _ => N2
  refine' countF (outer := []) (A₀ := callerA) ?gx ?F ?N ?t ?d ?f ?z ?l ?_
  case F => exact F2
  case N => exact N2
  case t => k_mem
  case d => exact hdq
  case f => exact hfq
  case z => exact hq9
  case l => exact lq
  case gx => exact gX
  intro s3 tk3 F3 N3 hg3 ho3
  rw [hcn]
  clear F2 N2
  k_steps
  · repeat' (first | ((fail_if_success (with_reducible show wpAny _ _ (PySem.call (Value.builtin "bytes.join") _) _ _ _)); walk1))
    refine join_ (o := listOf (List.toArray pcs) n4) (N3 (pA, _) (by k_mem)).1 rfl rfl hpI (fun h => hpn (by have h9 : pcs = [] := h; subst h9; cases hpI; rfl)) (by rw [← cat_size]; have := sizeLine_eq; omega) ?_
    intro t4 tk4
    k_steps
    rw [hc0]
    rename_i s8 tk8 F9 N9 hg8 ho8
    exact H _ m F9 (by lge_lay) (hg8.trans hg3) (ho8.trans ho3)
  · exfalso
    omega
end
end JoinS24

section ResetBK
local macro_rules | `(tactic| walk_at "none") => `(tactic| skip)
theorem resetBK : True := by first | walk1 | (w_top off; trivial)
end ResetBK
section JoinBK
section
variable {w : World} {A : Around} {E : Value → Shared → Prop} {s : Shared} {r : Addr} {t u v : Tok} {n : Nat}
theorem collect_R {Q : List Value → Shared → Prop} (hh : A.handled = none) (hr : IsRange s.heap r 0 n 1 t u v) (hn : n ≤ 1000)
    (hQ : ∀ h' tk acc, (∀ b o, s.heap.get? b = some o → h'.get? b = some o) → ItemsOf (fun i v => ∃ t, v = .int (0 + i * 1) t) acc n → Q acc.toList { s with heap := h', toks := tk }) :
    wpAny (model PR w) A (collect (.ref r)) Q E s := by
  unfold collect
  refine wpAny_bind (wpAny_runValue (codeAny_builtin F.entry_proto_collect ?_))
  rw [Around.under_plainId F.plain_proto_collect _]
  show wpAny _ A.in1 (newList [] >>= fun l => again (.builtin "list.__iadd__" ⟨[l, .ref r], []⟩)) _ _ s
  refine wpAny_bind (wpAny_newObj_type ?_)
  refine wpAny_pure ⟨plainId_quiet F.plain_list_iadd _, codeAny_builtin F.entry_list_iadd ?_⟩
  rw [Around.under_plainId F.plain_list_iadd _]
  have hS₁ : (s.heap.push { cls := .type "list", data := .seq ([] : List Value).toArray }).get? s.heap.objs.size = some { cls := .type "list", data := .seq ([] : List Value).toArray } := Heap.get?_push_size _ rfl
  show wpAny _ A.in1 (Builtin.List.listExtendWith (.ref s.heap.objs.size) (.ref r) (.ref s.heap.objs.size)) _ _ _
  refine wpAny_extend_range (R := fun r s' => match r with
      | .ok (.ret v) => wpAny (model PR w) A (match v with
        | .ref a => do match (← load a).data with
          | .seq xs _ => pure xs.toList
          | _ => unsupported "internal:collect"
        | _ => unsupported "internal:collect") Q E s'
      | .ok _ => False
      | .error e => E e s') (s := { s with heap := s.heap.push { cls := .type "list", data := .seq ([] : List Value).toArray } }) hh (Heap.get?_push_of_some _ hr) (small_nat hn) (rangeSize_nat' n) (by omega) s.heap.objs.size _ 0 hS₁ fun h' tk acc' c' hk hS' hacc => ?_
  show wpAny _ A (load s.heap.objs.size >>= _) _ _ _
  refine wpAny_bind (wpAny_load hS' ?_)
  exact wpAny_pure (hQ h' tk acc' (fun b o e => hk b o (Nat.ne_of_lt (Heap.lt_size e)) (Heap.get?_push_of_some _ e)) hacc)
theorem items_ints : ∀ {n : Nat} {acc : Array Value}, ItemsOf (fun i v => ∃ t, v = Value.int (0 + i * 1) t) acc n → IntsAre acc.toList ((List.range n).map Int.ofNat) := by
  intro n acc h
  have h1 : acc.toList.length = n := by rw [Array.length_toList]; exact h.1
  have key : ∀ (l : List Value) (k : Nat), (∀ j v, l[j]? = some v → ∃ t, v = Value.int ((k + j : Nat) : Int) t) → IntsAre l ((List.range' k l.length).map Int.ofNat) := by
    intro l
    induction l with
    | nil => intro k _; exact .nil
    | cons a l ih =>
      intro k hk
      obtain ⟨t, rfl⟩ := hk 0 a rfl
      rw [List.length_cons, List.range'_succ, List.map_cons]
      refine .cons _ t (ih (k + 1) fun j v e => ?_)
      obtain ⟨t', e'⟩ := hk (j + 1) v e
      exact ⟨t', by rw [e', show k + (j + 1) = k + 1 + j by omega]⟩
  have := key acc.toList 0 (fun j v e => by
    obtain ⟨t, rfl⟩ := h.2 j v (by simpa using e)
    exact ⟨t, by congr 1; omega⟩)
  rw [h1] at this
  rw [List.range_eq_range']
  exact this
variable {h₀ : Heap} {L : Addr} {m : Str → Option Value} {news : List (Addr × Obj)}
theorem sorted_R {f : Value} {kw : List (Str × Value)} {Q : Value → Shared → Prop} (hh : A.in1.handled = none) (F : Fr h₀ L s.heap m) (N : News h₀ L s.heap news) (hr : IsRange s.heap r 0 n 1 t u v) (h2 : 2 ≤ n) (h64 : n < 64)
    (ha1 : argsOk "sorted" ⟨[.ref r], kw⟩) (ha2 : ∀ x, argsOk "list.sort" ⟨[.ref x], kw⟩) (ht : ∀ x, Builtin.«list.sort» ⟨[.ref x], kw⟩ = ksk_tree x f false)
    (h : ∀ vs D kS e1 h' tk, IntsAre vs ((List.range n).map Int.ofNat) → Fr h₀ L h' m → News h₀ L h' ((kS, seqObj "list" #[] 0) :: (D, seqObj "list" #[] e1) :: news) → D < kS → (∀ q ∈ news, q.1 < D) →
      KatKeys PR w A.in1.in1 h₀ L m kS f (fun ks e s' => wpAny (model PR w) A.in1.in1 (keyKind' (List.toArray ks)) (fun κ s'' => (kas_sort vs.length).kasWp (kas_ask PR w A.in1.in1 κ (katRev false ks)) (fun p s3 => KatFin h₀ L m kS D ks e e1 (katRev false (p.toList.map fun i => (katRev false vs).getD i Value.none)) (fun s4 => Q (.ref D) s4) s3) s'') (fun _ _ => False) s') vs [] 0 { s with heap := h', toks := tk }) :
    wpAny (model PR w) A (PySem.call (.builtin "sorted") [.ref r] kw) Q E s := by
  refine call_function_entry_kw kind_sorted plain_sorted entry_sorted ha1 ?_
  unfold Builtin.«sorted»
  refine wpAny_bind (m := checkCount "sorted" 1 1 _) (wpAny_pure ?_)
  refine wpAny_bind (collect_R hh hr (by omega) fun h9 tk9 acc hk9 hacc => ?_)
  have hI := items_ints hacc
  have hlen : acc.toList.length = n := by rw [Array.length_toList]; exact hacc.1
  generalize acc.toList = vs at hI hlen
  have F9 := F.keeps hk9
  have N9 := N.grown hk9
  refine wpAny_bind (wpAny_newList ?_ (by rw [sizeLine_eq, hlen]; omega))
  have hL : @LT.lt Nat _ L h9.objs.size := F9.ns.lt
  have hoL : (h9.push (seqObj "list" vs.toArray 0)).get? h9.objs.size = some (seqObj "list" vs.toArray 0) := Heap.get?_push_size _ rfl
  have keep : ∀ b o, h9.get? b = some o → (h9.push (seqObj "list" vs.toArray 0)).get? b = some o := fun b o q => Heap.get?_push_of_some _ q
  refine wpAny_bind (wpAny_holding (wpAny_call_entry_kw slot_list_sort ⟨_, hoL, rfl⟩ entry_list_sort ?body (ha2 _)))
  case body =>
    have ht' := ht h9.objs.size
    show wpAny (model PR w) A.in1.in1 (Builtin.«list.sort» ⟨[.ref h9.objs.size], kw⟩) _ _ _
    rw [ht']
    refine kat_keyed (s := { s with heap := h9.push (seqObj "list" vs.toArray 0), toks := tk9 })
      (F9.keeps keep) (N9.grown keep) hoL (Nat.ne_of_gt hL) (Heap.get?_none_of_le (Nat.le_trans F.above (Nat.le_of_lt hL)))
      (fun p hp => Nat.ne_of_lt (Heap.lt_size (N9 p hp).1)) (by omega) (by omega) fun kS e1 h' F' N' l0 l1 => ?_
    refine kat_keys_mono (h vs h9.objs.size kS e1 h' tk9 hI F' N' l0 fun q hq => Heap.lt_size (N9 q hq).1) fun ks e s' hl' hd => ?_
    have hl2 : ks.length = vs.length := by simpa using hl'
    refine wpAny_mono hd (fun κ s'' hk => ?_) fun _ _ x => x
    rw [kat_ask_eq (vs := katRev false vs) (by rw [kat_len, kat_len, hl2])] at hk ⊢
    exact kas_wp_mono hk fun p s3 hk' => hk'.mono fun s4 hq => ⟨_, rfl, wpAny_pure ⟨_, rfl, hq⟩⟩
end
end JoinBK

section ResetBL
local macro_rules | `(tactic| walk_at "none") => `(tactic| skip)
theorem resetBL : True := by first | walk1 | (w_top off; trivial)
end ResetBL
section JoinBL
noncomputable def lamE : Expr := match lawSt 16 with | .For _ (.Call _ _ (kw :: _) _) _ _ _ => kw.value | _ => default
noncomputable def lamPs : Arguments := match lamE with | .Lambda ps _ _ _ => ps | _ => default
noncomputable def lamB : Expr := match lamE with | .Lambda _ b _ _ => b | _ => default
noncomputable def lamS : Scope := match lamE with | .Lambda _ _ sc _ => sc | _ => default
noncomputable def lamQ : Str := (envLaw 0 0).qual ++ "<lambda>"
section
variable {w : World} {s : Shared} {g : Heap} {L fa : Addr} {m : Str → Option Value} {Q : Value → Shared → Prop} {E : Value → Shared → Prop}
theorem lam1 {f c' lA : Addr} {us : List Value} {lv : List Int} {n1 k : Nat} {tk0 t : Tok} {pm ctv : Value} {vs : Array Value} {oc c5 : Obj} {rest : List (Addr × Obj)} (cx : Cx w g L) (F : Fr g L s.heap m)
   (N : News g L s.heap ((f, kla_obj "<lambda>" lamQ lamPs lamB lamS [(Str.ofString "levels", L + 1 + 1 + 1 + 1 + 1)] pm c' ctv) :: (c', oc) :: (lA, listOf (List.toArray us) n1) :: (L + 1 + 1 + 1 + 1 + 1, c5) :: rest)) (d1 : oc.data = .fields vs) (d2 : vs[1]? = some (.str lamQ t)) (h5 : c5.data = .cell (some (.ref lA))) (hI : IntsAre us lv) (hl7 : lv.length ≤ 7) (hk : k < lv.length)
   (H : ∀ T h' tk u1 u2, Fr g L h' m → News g L h' ((T, ({ cls := .type "tuple", data := .seq #[.int (lv.getD k 0) u1, .int k u2] } : Obj)) :: (f, kla_obj "<lambda>" lamQ lamPs lamB lamS [(Str.ofString "levels", L + 1 + 1 + 1 + 1 + 1)] pm c' ctv) :: (c', oc) :: (lA, listOf (List.toArray us) n1) :: (L + 1 + 1 + 1 + 1 + 1, c5) :: rest) →
     (∀ q ∈ ((f, kla_obj "<lambda>" lamQ lamPs lamB lamS [(Str.ofString "levels", L + 1 + 1 + 1 + 1 + 1)] pm c' ctv) :: (c', oc) :: (lA, listOf (List.toArray us) n1) :: (L + 1 + 1 + 1 + 1 + 1, c5) :: rest), q.1 < T) → Q (.ref T) { s with heap := h', toks := tk }) :
   wpAny (model PR w) (ALaw L fa).in1.in1 (PySem.call (.ref f) [.int k tk0]) Q E s := by
  have gX := cx.gx
  have l9 : @LT.lt Nat _ 185 L := cx.l0
  obtain ⟨X₀, B, ⟨_, _, _, _, _, T⟩, C1, C2, l0⟩ := cx
  unfold ALaw envLaw
  conv in (occs := *) lawScope => all_goals whnf
  have hul := hI.length
  refine wpAny_call ?_
  kla_enter
  conv in (occs := *) lamB => all_goals whnf
  k_steps
  rename Fr g L _ _ => F9
  rename News g L _ _ => N9
  rename (_ ∧ _ ∧ _ ∧ _ ∧ _) => l1
  exact H _ _ _ _ _ F9 N9 (List.forall_mem_cons.mpr ⟨l1.1, List.forall_mem_cons.mpr ⟨l1.2.1, List.forall_mem_cons.mpr ⟨l1.2.2.1, List.forall_mem_cons.mpr ⟨l1.2.2.2.1, allLt l1.2.2.2.2⟩⟩⟩⟩)
end
end JoinBL

section ResetBM
local macro_rules | `(tactic| walk_at "none") => `(tactic| skip)
theorem resetBM : True := by first | walk1 | (w_top off; trivial)
end ResetBM
section JoinBM
noncomputable abbrev tupK (x : Int) (u : Tok) (y : Int) (v : Tok) : Obj := { cls := .type "tuple", data := .seq #[.int x u, .int y v] }
noncomputable def KeysAre (lv : List Int) (kt : List (Addr × Obj)) (ks : List Value) (js : List Int) : Prop := ks.length = js.length ∧ ∀ i, i < js.length → ∃ a u1 u2, ks[i]? = some (.ref a) ∧ (a, tupK (lv.getD (js.getD i 0).toNat 0) u1 (js.getD i 0) u2) ∈ kt
noncomputable def runT {α : Type} (lt : Nat → Nat → Bool) (n : Nat) : KasT α → Option α
  | .ret a => some a
  | .ask i j k => if i < n ∧ j < n then runT lt n (k (lt i j)) else none
theorem run_T {α : Type} {lt : Nat → Nat → Bool} {n : Nat} {cmp : Nat → Nat → (Bool → Shared → Prop) → Shared → Prop} {s : Shared} {Q : α → Shared → Prop} (hc : ∀ i j C, i < n → j < n → C (lt i j) s → cmp i j C s) : ∀ {t : KasT α} {a : α}, runT lt n t = some a → Q a s → t.kasWp cmp Q s
  | .ret a, b, h, hQ => by
    cases h
    exact hQ
  | .ask i j k, b, h, hQ => by
    rw [runT] at h
    split at h
    · rename_i hij
      exact hc i j _ hij.1 hij.2 (run_T hc h hQ)
    · cases h
noncomputable def ltK (lv js : List Int) (i j : Nat) : Bool :=
  if lv.getD (js.getD i 0).toNat 0 == lv.getD (js.getD j 0).toNat 0 then (if js.getD i 0 == js.getD j 0 then false else decide (js.getD i 0 < js.getD j 0)) else decide (lv.getD (js.getD i 0).toNat 0 < lv.getD (js.getD j 0).toNat 0)
theorem tups_of {h : Heap} : ∀ {ks : List Value}, (∀ i, i < ks.length → ∃ a x u y v, ks[i]? = some (.ref a) ∧ h.get? a = some (tupK x u y v)) → ∃ fs, KatTups h ks fs ∧ fs.length = ks.length ∧ ∀ v ∈ fs, ∃ i t, v = Value.int i t
  | [], _ => ⟨[], .nil, rfl, fun _ h => nomatch h⟩
  | k :: ks, H => by
    obtain ⟨a, x, u, y, v, e, ho⟩ := H 0 (Nat.zero_lt_succ _)
    cases e
    obtain ⟨fs, h1, h2, h3⟩ := tups_of (ks := ks) fun i hi => H (i + 1) (Nat.succ_lt_succ hi)
    exact ⟨.int x u :: fs, .cons ho rfl rfl rfl h1, by rw [List.length_cons, List.length_cons, h2], List.forall_mem_cons.mpr ⟨⟨x, u, rfl⟩, h3⟩⟩
section
variable {w : World} {A : Around} {s : Shared} {g : Heap} {L fa : Addr} {m : Str → Option Value} {Q : Value → Shared → Prop} {E : Value → Shared → Prop}
theorem ask_lt {lv js : List Int} {ks : List Value} {kt : List (Addr × Obj)} {i j : Nat} {C : Bool → Shared → Prop} (K : KeysAre lv kt ks js) (N : ∀ z ∈ kt, s.heap.get? z.1 = some z.2) (hi : i < js.length) (hj : j < js.length) (h : C (ltK lv js i j) s) :
    kas_ask PR w A (tuples' (Value.type "int" != Value.type "tuple")) ks i j C s := by
  obtain ⟨a, u1, u2, e1, m1⟩ := K.2 i hi
  obtain ⟨b, v1, v2, e2, m2⟩ := K.2 j hj
  unfold kas_ask
  rw [List.getD_eq_getElem?_getD, e1, List.getD_eq_getElem?_getD, e2]
  refine kat_lt (N _ m1) rfl (N _ m2) rfl ?_
  unfold ltK at h
  refine kat_cons (wpAny_eqBool_int ?_)
  cases h1 : (lv.getD (js.getD i 0).toNat 0 == lv.getD (js.getD j 0).toNat 0)
  · rw [h1, if_neg Bool.false_ne_true] at h
    exact kat_no (oneLt_int h)
  · rw [h1, if_pos rfl] at h
    refine kat_yes (kat_cons (wpAny_eqBool_int ?_))
    cases h2 : (js.getD i 0 == js.getD j 0)
    · rw [h2, if_neg Bool.false_ne_true] at h
      exact kat_no (kat_one _ _ (lt_int h))
    · rw [h2, if_pos rfl] at h
      exact kat_yes (kat_nil h)
theorem keys_loop {f c' lA kS : Addr} {us : List Value} {lv : List Int} {n1 : Nat} {t : Tok} {pm ctv : Value} {vs : Array Value} {oc c5 : Obj} {rest : List (Addr × Obj)} {Fin : List Value → Nat → Shared → Prop} (cx : Cx w g L)
   (d1 : oc.data = .fields vs) (d2 : vs[1]? = some (.str lamQ t)) (h5 : c5.data = .cell (some (.ref lA))) (hI : IntsAre us lv) (hl7 : lv.length ≤ 7)
   (hne : ∀ z ∈ ((f, kla_obj "<lambda>" lamQ lamPs lamB lamS [(Str.ofString "levels", L + 1 + 1 + 1 + 1 + 1)] pm c' ctv) :: (c', oc) :: (lA, listOf (List.toArray us) n1) :: (L + 1 + 1 + 1 + 1 + 1, c5) :: rest), z.1 ≠ kS) :
   ∀ {r : List Value} {js : List Int}, IntsAre r js → (∀ j ∈ js, ∃ k : Nat, j = k ∧ k < lv.length) → ∀ (ks : List Value) (done : List Int) (kt : List (Addr × Obj)) (e : Nat) (s : Shared), Fr g L s.heap m →
     News g L s.heap ((kS, seqObj "list" (List.toArray ks) e) :: (f, kla_obj "<lambda>" lamQ lamPs lamB lamS [(Str.ofString "levels", L + 1 + 1 + 1 + 1 + 1)] pm c' ctv) :: (c', oc) :: (lA, listOf (List.toArray us) n1) :: (L + 1 + 1 + 1 + 1 + 1, c5) :: (kt ++ rest)) →
     KeysAre lv kt ks done → (∀ z ∈ kt, z.1 ≠ kS) →
     (∀ ks' kt' e' h' tk', Fr g L h' m → News g L h' ((kS, seqObj "list" (List.toArray ks') e') :: (f, kla_obj "<lambda>" lamQ lamPs lamB lamS [(Str.ofString "levels", L + 1 + 1 + 1 + 1 + 1)] pm c' ctv) :: (c', oc) :: (lA, listOf (List.toArray us) n1) :: (L + 1 + 1 + 1 + 1 + 1, c5) :: (kt' ++ rest)) →
       KeysAre lv kt' ks' (done ++ js) → (∀ z ∈ kt', z.1 ≠ kS) → Fin ks' e' { s with heap := h', toks := tk' }) →
     KatKeys PR w (ALaw L fa).in1.in1 g L m kS (.ref f) Fin r ks e s := by
  intro r js hR
  induction hR with
  | nil =>
    intro _ ks done kt e s F N K hk fin
    refine KatKeys.nil (fin ks kt e s.heap s.toks F N ?_ hk)
    rw [List.append_nil]
    exact K
  | cons j tj hr ih =>
    intro hjs ks done kt e s F N K hk fin
    obtain ⟨k, rfl, hkl⟩ := hjs j (.head _)
    refine KatKeys.cons (lam1 (c' := c') (n1 := n1) (pm := pm) (ctv := ctv) (rest := (kS, seqObj "list" (List.toArray ks) e) :: (kt ++ rest)) cx F (nsub N ?_) d1 d2 h5 hI hl7 hkl ?_)
    · refine NSub.cons (by k_mem) (NSub.cons (by k_mem) (NSub.cons (by k_mem) (NSub.cons (by k_mem) (NSub.cons (by k_mem) ?_))))
      exact NSub.drop (NSub.drop (NSub.drop (NSub.drop (NSub.drop (NSub.refl _)))))
    intro T h' tk u1 u2 F' N' lt
    have hTS : T ≠ kS := Nat.ne_of_gt (lt (kS, _) (.tail _ (.tail _ (.tail _ (.tail _ (.head _))))))
    have hnk : ∀ z ∈ ((f, kla_obj "<lambda>" lamQ lamPs lamB lamS [(Str.ofString "levels", L + 1 + 1 + 1 + 1 + 1)] pm c' ctv) :: (c', oc) :: (lA, listOf (List.toArray us) n1) :: (L + 1 + 1 + 1 + 1 + 1, c5) :: (((T, tupK (lv.getD k 0) u1 k u2) :: kt) ++ rest)), z.1 ≠ kS := by
      refine List.forall_mem_cons.mpr ⟨hne _ (.head _), List.forall_mem_cons.mpr ⟨hne _ (.tail _ (.head _)), List.forall_mem_cons.mpr ⟨hne _ (.tail _ (.tail _ (.head _))), List.forall_mem_cons.mpr ⟨hne _ (.tail _ (.tail _ (.tail _ (.head _)))), ?_⟩⟩⟩⟩
      intro z hz
      rcases List.mem_append.mp hz with h | h
      · rcases List.mem_cons.mp h with rfl | h
        · exact hTS
        · exact hk z h
      · exact hne z (.tail _ (.tail _ (.tail _ (.tail _ h))))
    have N2 : News g L h' ((kS, seqObj "list" (List.toArray ks) e) :: (f, kla_obj "<lambda>" lamQ lamPs lamB lamS [(Str.ofString "levels", L + 1 + 1 + 1 + 1 + 1)] pm c' ctv) :: (c', oc) :: (lA, listOf (List.toArray us) n1) :: (L + 1 + 1 + 1 + 1 + 1, c5) :: (((T, tupK (lv.getD k 0) u1 k u2) :: kt) ++ rest)) := by
      refine nsub N' ?_
      refine NSub.cons (by k_mem) (NSub.cons (by k_mem) (NSub.cons (by k_mem) (NSub.cons (by k_mem) (NSub.cons (by k_mem) (NSub.cons (by k_mem) ?_)))))
      exact NSub.drop (NSub.drop (NSub.drop (NSub.drop (NSub.drop (NSub.drop (NSub.refl _))))))
    refine KatBack.intro F' N2 (UpdF.head hnk) ?_
    intro h2 e2 F2 N3
    have hlen := K.1
    refine ih (fun j hj => hjs j (.tail _ hj)) (ks ++ [.ref T]) (done ++ [(k : Int)]) ((T, tupK (lv.getD k 0) u1 k u2) :: kt) e2 { s with heap := h2, toks := tk } F2 N3 ?_ ?_ ?_
    · refine ⟨by simp only [List.length_append, List.length_cons, List.length_nil, hlen], fun i hi => ?_⟩
      simp only [List.length_append, List.length_cons, List.length_nil] at hi
      rcases Nat.lt_or_ge i done.length with hlt | hge
      · obtain ⟨a, w1, w2, e3, e4⟩ := K.2 i hlt
        have ed : (done ++ [(k : Int)]).getD i 0 = done.getD i 0 := by
          rw [List.getD_eq_getElem?_getD, List.getElem?_append_left hlt, ← List.getD_eq_getElem?_getD]
        rw [ed]
        exact ⟨a, w1, w2, by rw [List.getElem?_append_left (by omega)]; exact e3, .tail _ e4⟩
      · have hi' : i = done.length := by omega
        subst hi'
        have ed : (done ++ [(k : Int)]).getD done.length 0 = k := by
          rw [List.getD_eq_getElem?_getD, List.getElem?_append_right (Nat.le_refl _), Nat.sub_self]
          rfl
        rw [ed, Int.toNat_natCast]
        exact ⟨T, u1, u2, by rw [List.getElem?_append_right (by omega), hlen, Nat.sub_self]; rfl, .head _⟩
    · exact List.forall_mem_cons.mpr ⟨hTS, hk⟩
    · intro ks' kt' e' h3 tk3 F3 N4 K4 hk4
      rw [List.append_assoc] at K4
      exact fin ks' kt' e' h3 tk3 F3 N4 K4 hk4
end
end JoinBM

section ResetBN
local macro_rules | `(tactic| walk_at "none") => `(tactic| skip)
theorem resetBN : True := by first | walk1 | (w_top off; trivial)
end ResetBN
section JoinBN
noncomputable def sortE : Expr := match lawSt 16 with | .For _ it _ _ _ => it | _ => default
theorem ints_map {vs : List Value} {js : List Int} (h : IntsAre vs js) : ∀ {is : List Nat}, (∀ i ∈ is, i < js.length) → IntsAre (is.map fun i => vs.getD i Value.none) (is.map fun i => js.getD i 0)
  | [], _ => .nil
  | i :: is, hi => by
    obtain ⟨t, e⟩ := ints_at h (hi i (.head _))
    rw [List.map_cons, List.map_cons, List.getD_eq_getElem?_getD, e]
    exact .cons _ t (ints_map h fun k hk => hi k (.tail _ hk))
section
variable {w : World} {s : Shared} {g : Heap} {L fa : Addr} {m : Str → Option Value} {Q : Value → Shared → Prop} {E : Value → Shared → Prop}
theorem sort_eval {lA nA : Addr} {us : List Value} {lv : List Int} {n1 : Nat} {t1 t2 t3 : Tok} {c5 : Obj} {p : Array Nat} {rest : List (Addr × Obj)} (cx : Cx w g L) (F : Fr g L s.heap m) (hn : m (Str.ofString "nodes") = some (.ref nA))
   (N : News g L s.heap ((185, tabObj #[]) :: (nA, rgO lv.length t1 t2 t3) :: (lA, listOf (List.toArray us) n1) :: (L + 1 + 1 + 1 + 1 + 1, c5) :: rest)) (h185 : ∀ q ∈ ((nA, rgO lv.length t1 t2 t3) :: (lA, listOf (List.toArray us) n1) :: (L + 1 + 1 + 1 + 1 + 1, c5) :: rest), q.1 ≠ 185) (h5 : c5.data = .cell (some (.ref lA))) (hI : IntsAre us lv) (hl7 : lv.length ≤ 7) (hl2 : 2 ≤ lv.length)
   (hrun : runT (ltK lv ((List.range lv.length).map Int.ofNat)) lv.length (kas_sort lv.length) = some p) (hp : ∀ i ∈ p.toList, i < lv.length)
   (H : ∀ D ys e tb h' tk, Fr g L h' m → News g L h' ((D, listOf (List.toArray ys) e) :: (185, tabObj tb) :: (nA, rgO lv.length t1 t2 t3) :: (lA, listOf (List.toArray us) n1) :: (L + 1 + 1 + 1 + 1 + 1, c5) :: rest) →
     (∀ q ∈ ((nA, rgO lv.length t1 t2 t3) :: (lA, listOf (List.toArray us) n1) :: (L + 1 + 1 + 1 + 1 + 1, c5) :: rest), q.1 < D) → IntsAre ys (p.toList.map fun i => ((List.range lv.length).map Int.ofNat).getD i 0) → Q (.ref D) { s with heap := h', toks := tk }) :
   wpAny (model PR w) (ALaw L fa) (PySem.eval sortE (envLaw L fa)) Q E s := by
  have gX := cx.gx
  have cx' := cx
  have l9 : @LT.lt Nat _ 185 L := cx.l0
  obtain ⟨X₀, B, ⟨_, _, _, _, _, T⟩, C1, C2, l0⟩ := cx
  conv in (occs := *) sortE => all_goals whnf
  unfold ALaw envLaw
  conv in (occs := *) lawScope => all_goals whnf
  have hul := hI.length
  repeat' (first | ((fail_if_success (with_reducible show wpAny _ _ (PySem.eval (PySem.Expr.Lambda _ _ _ _) _) _ _ _)); walk1))
  rename Fr _ _ _ _ => F1
  rename News _ _ _ _ => N1
  refine kla_eval rfl ?_
  refine kla_nest F1 N1 T C1 rfl (UpdF.head h185) (by kn_triples) (by rfl) rfl ?_
  intro f c' oc vs t ctv h1 k1 F2 N2 d1 d2 l1 l2
  try dsimp only at N2
  have hN2 : ∃ (pm : Value) (tb : Array Value), News g L h1 ((f, kla_obj "<lambda>" lamQ lamPs lamB lamS [(Str.ofString "levels", L + 1 + 1 + 1 + 1 + 1)] pm c' ctv) :: (c', oc) :: (185, tabObj tb) :: (nA, rgO lv.length t1 t2 t3) :: (lA, listOf (List.toArray us) n1) :: (L + 1 + 1 + 1 + 1 + 1, c5) :: rest) := ⟨_, _, N2⟩
  have d3 : vs[1]? = some (.str lamQ t) := d2
  clear N2 d2
  obtain ⟨pm, tb, N2⟩ := hN2
  repeat' (first | ((fail_if_success (with_reducible show wpAny _ _ (PySem.call (Value.builtin "sorted") _ _) _ _ _)); walk1))
  have hrg := (N2 (nA, rgO lv.length t1 t2 t3) (.tail _ (.tail _ (.tail _ (.head _))))).1
  show wpAny _ _ (PySem.call (Value.builtin _) [Value.ref _] [(PySem.Str.ofString "key", Value.ref f)]) _ _ _
  refine sorted_R (n := lv.length) (f := .ref f) rfl F2 N2 hrg hl2 (by omega) (ksk_s1 _ _) (fun _ => ksk_l1 _ _) (fun _ => ksk_t1 _ _) ?_
  intro vs2 D kS e1 h2 tk2 hvs F3 N3 l3 l4
  have lf : f ≠ kS := Nat.ne_of_lt (Nat.lt_trans (l4 _ (.head _)) l3)
  have lc : c' ≠ kS := Nat.ne_of_lt (Nat.lt_trans (l4 _ (.tail _ (.head _))) l3)
  have lt' : ∀ q ∈ ((nA, rgO lv.length t1 t2 t3) :: (lA, listOf (List.toArray us) n1) :: (L + 1 + 1 + 1 + 1 + 1, c5) :: rest), q.1 ≠ kS := fun q hq => Nat.ne_of_lt (Nat.lt_trans (l4 q (.tail _ (.tail _ (.tail _ hq)))) l3)
  have l185 : (185 : Nat) ≠ kS := Nat.ne_of_lt (Nat.lt_trans (l4 _ (.tail _ (.tail _ (.head _)))) l3)
  have N4 : News g L h2 ((kS, seqObj "list" (List.toArray []) 0) :: (f, kla_obj "<lambda>" lamQ lamPs lamB lamS [(Str.ofString "levels", L + 1 + 1 + 1 + 1 + 1)] pm c' ctv) :: (c', oc) :: (lA, listOf (List.toArray us) n1) :: (L + 1 + 1 + 1 + 1 + 1, c5) :: ([] ++ ((D, seqObj "list" #[] e1) :: (185, tabObj tb) :: (nA, rgO lv.length t1 t2 t3) :: rest))) := by
    refine nsub N3 (NSub.cons (by k_mem) (NSub.cons (by k_mem) (NSub.cons (by k_mem) (NSub.cons (by k_mem) (NSub.cons (by k_mem) ?_)))))
    exact NSub.cons (by k_mem) (NSub.cons (by k_mem) (NSub.cons (by k_mem) (NSub.drop (NSub.drop (NSub.drop (NSub.drop (NSub.drop (NSub.drop (NSub.drop (NSub.drop (NSub.refl _)))))))))))
  refine keys_loop cx' d1 d3 h5 hI hl7 ?_ hvs ?_ [] [] [] 0 _ F3 N4 ⟨rfl, fun _ h => absurd h (Nat.not_lt_zero _)⟩ (fun _ h => nomatch h) ?_
  · exact List.forall_mem_cons.mpr ⟨lf, List.forall_mem_cons.mpr ⟨lc, List.forall_mem_cons.mpr ⟨lt' _ (.tail _ (.head _)), List.forall_mem_cons.mpr ⟨lt' _ (.tail _ (.tail _ (.head _))), List.forall_mem_cons.mpr ⟨Nat.ne_of_lt l3, List.forall_mem_cons.mpr ⟨l185, List.forall_mem_cons.mpr ⟨lt' _ (.head _), fun q hq => lt' q (.tail _ (.tail _ (.tail _ hq)))⟩⟩⟩⟩⟩⟩⟩
  · intro j hj
    obtain ⟨k, hk, rfl⟩ := List.mem_map.1 hj
    exact ⟨k, rfl, List.mem_range.1 hk⟩
  intro ks kt e5 h5' tk5 F5 N5 K5 hk5
  rw [List.nil_append] at K5
  have hjl : ((List.range lv.length).map Int.ofNat).length = lv.length := by rw [List.length_map, List.length_range]
  have hks : ks.length = lv.length := K5.1.trans hjl
  have hv2 : vs2.length = lv.length := hvs.length.trans hjl
  have hkt : ∀ z ∈ kt, h5'.get? z.1 = some z.2 := fun z hz => (N5 z (.tail _ (.tail _ (.tail _ (.tail _ (.tail _ (List.mem_append_left _ hz))))))).1
  obtain ⟨fs, T1, T2, T3⟩ := tups_of (h := h5') (ks := ks) fun i hi => by
    obtain ⟨a, u1, u2, e1, e2⟩ := K5.2 i (by omega)
    exact ⟨a, _, u1, _, u2, e1, hkt _ e2⟩
  refine kat_kind (T := Value.type "int") T1 (by omega) (fun v hv => by obtain ⟨i, t, rfl⟩ := T3 v hv; exact Looks.of_pure rfl) (by decide) ?_
  rw [hv2]
  refine run_T (lt := ltK lv ((List.range lv.length).map Int.ofNat)) (n := lv.length) ?_ hrun ?_
  · intro i j C hi hj hC
    exact ask_lt (s := ⟨h5', s.gens, s.drawn, tk5, s.os⟩) K5 hkt (by omega) (by omega) hC
  refine KatFin.intro F5 N5 (UpdF.head ?_) ?_
  · refine List.forall_mem_cons.mpr ⟨lf, List.forall_mem_cons.mpr ⟨lc, List.forall_mem_cons.mpr ⟨lt' _ (.tail _ (.head _)), List.forall_mem_cons.mpr ⟨lt' _ (.tail _ (.tail _ (.head _))), ?_⟩⟩⟩⟩
    intro z hz
    rcases List.mem_append.mp hz with h | h
    · exact hk5 z h
    · exact (List.forall_mem_cons.mpr ⟨Nat.ne_of_lt l3, List.forall_mem_cons.mpr ⟨l185, List.forall_mem_cons.mpr ⟨lt' _ (.head _), fun q hq => lt' q (.tail _ (.tail _ (.tail _ hq)))⟩⟩⟩ : ∀ z ∈ ((D, seqObj "list" #[] e1) :: (185, tabObj tb) :: (nA, rgO lv.length t1 t2 t3) :: rest), z.1 ≠ kS) z h
  intro h6 c6 F6 N6
  have N7 : News g L h6 ((D, seqObj "list" #[] e1) :: (185, tabObj tb) :: (nA, rgO lv.length t1 t2 t3) :: (lA, listOf (List.toArray us) n1) :: (L + 1 + 1 + 1 + 1 + 1, c5) :: rest) := by
    have up : ∀ z ∈ ((D, seqObj "list" #[] e1) :: (185, tabObj tb) :: (nA, rgO lv.length t1 t2 t3) :: rest), h6.get? z.1 = some z.2 ∧ z.1 ≠ L ∧ g.get? z.1 = none := fun z hz => N6 z (.tail _ (.tail _ (.tail _ (.tail _ (.tail _ (List.mem_append_right _ hz))))))
    exact List.forall_mem_cons.mpr ⟨up _ (.head _), List.forall_mem_cons.mpr ⟨up _ (.tail _ (.head _)), List.forall_mem_cons.mpr ⟨up _ (.tail _ (.tail _ (.head _))), List.forall_mem_cons.mpr ⟨N6 _ (.tail _ (.tail _ (.tail _ (.head _)))), List.forall_mem_cons.mpr ⟨N6 _ (.tail _ (.tail _ (.tail _ (.tail _ (.head _))))), fun z hz => up z (.tail _ (.tail _ (.tail _ hz)))⟩⟩⟩⟩⟩
  refine KasFin.intro F6 N7 (UpdF.head ?_) ?_
  · exact fun q hq => Nat.ne_of_lt (l4 q (.tail _ (.tail _ hq)))
  intro h7 c7 F7 N8
  exact H D _ c7 tb h7 tk5 F7 N8 (fun q hq => l4 q (.tail _ (.tail _ (.tail _ hq)))) (ints_map hvs fun i hi => by rw [hjl]; exact hp i hi)
end
end JoinBN

section ResetMD
local macro_rules | `(tactic| walk_at "none") => `(tactic| skip)
theorem resetMD : True := by first | walk1 | (w_top off; trivial)
end ResetMD
section JoinMD
noncomputable def runOut (lv ps ds : List Int) : PS → List Int → List Nat → Option PS
  | p, _, [] => some p
  | p, ks, nd :: r => match PS.runIn lv ps ds p ks with
    | none => none
    | some p1 => if p1.okO nd = true then runOut lv ps ds (p1.turnO nd) (kids lv ps nd) r else none
theorem ns_eq {n : Nat} : ∀ {is : List Nat}, (∀ i ∈ is, i < n) → (is.map fun i => ((List.range n).map Int.ofNat).getD i 0) = is.map Int.ofNat
  | [], _ => rfl
  | i :: is, h => by
    have hi := h i (.head _)
    rw [List.map_cons, List.map_cons, ns_eq fun k hk => h k (.tail _ hk), List.getD_eq_getElem?_getD, List.getElem?_map, List.getElem?_range hi]
    rfl
section
variable {w : World} {s : Shared} {g : Heap} {L fa : Addr} {m : Str → Option Value} {Q : Flow → Shared → Prop} {E : Value → Shared → Prop} {c : Cf} {p : PS} {d : Dy}
theorem Big.to4 {dyn2 : List (Addr × Obj)} {c4' : Obj} {tb' : Array Value} {s2 : Shared} (hb : Big w g L c p d s m) (F : Fr g L s2.heap m) (N : News g L s2.heap (led L c p { d with dyn := dyn2, c4 := c4', tb2 := tb' })) (hg : s2.gens = s.gens) (h4 : ∃ v, c4'.data = .cell v)
    (hit : ∀ z ∈ d.dyn, z.2.cls = .type "tuple" → z ∈ dyn2) (hdyn : ∀ z ∈ dyn2, Apart L c z.1) : Big w g L c p { d with dyn := dyn2, c4 := c4', tb2 := tb' } s2 m :=
  ⟨F, N, by rw [hg]; exact hb.G, hb.mq, hb.ms, hb.mw, hb.ml, hb.mt, hb.mn, hb.mW, hb.md, hb.mo, hb.mp, hb.hits, fun i hi => by
    obtain ⟨q, t1, t2, e1, e2⟩ := hb.hit i hi
    exact ⟨q, t1, t2, e1, hit _ e2 rfl⟩, hb.hlf, hb.hD, hb.hF, hb.lo, hb.h2, hb.h3, h4, hb.tri, hb.lT, hb.lD, hb.ll, hdyn⟩
inductive OutJ (w : World) (g : Heap) (L : Addr) (c : Cf) (base : List (Addr × Obj)) (ord : List Nat) (S : Addr) (p' : PS) (s : Shared) (it : Value) (j : Nat) (s' : Shared) : Prop
  | mk (I : _) (m' : _) (d' : _) (ex : _) (pj : _) (Dj : _) (ysj : _) (eyj : _) (ksj : _) : (it = .ref I) → (Big w g L c pj d' s' m') → (m' (Str.ofString "coming") = some (.ref Dj)) → ((Dj, listOf (List.toArray ysj) eyj) ∈ d'.dyn) → (IntsAre ysj ksj) → (d'.dyn = ex ++ (I, itO S j) :: base) → ((∀ q ∈ ex, q.1 ≠ I)) → ((∀ q ∈ base, @LT.lt Nat _ q.1 I)) → (d'.Tt ≠ I) → (d'.Dt ≠ I) → (d'.lf ≠ I) → (c.T0 ≠ I) → (c.D0 ≠ I) → (@LT.lt Nat _ c.x I) → (runOut c.lv c.ps c.ds pj ksj (ord.drop j) = some p') → (s'.os = s.os) → OutJ w g L c base ord S p' s it j s'
theorem outer_loop {Dc : Addr} {ys : List Value} {ey : Nat} {ks : List Int} {p' : PS} {ord : Array Nat} (cx : Cx w g L) (co : CfOk w L c) (hb : Big w g L c p d s m) (htb : d.tb2 = #[]) (hcm : m (Str.ofString "coming") = some (.ref Dc)) (hc : (Dc, listOf (List.toArray ys) ey) ∈ d.dyn) (hys : IntsAre ys ks)
   (hl2 : 2 ≤ c.lv.length) (hsort : runT (ltK c.lv ((List.range c.lv.length).map Int.ofNat)) c.lv.length (kas_sort c.lv.length) = some ord) (hord : ∀ i ∈ ord.toList, i < c.lv.length) (hrun : runOut c.lv c.ps c.ds p ks ord.toList = some p')
   (H : ∀ s' m' d', Big w g L c p' d' s' m' → s'.os = s.os → Q .next s') :
   wpAny (model PR w) (ALaw L fa) (exec (lawSt 16) (envLaw L fa)) Q E s := by
  have gX := cx.gx
  obtain ⟨l9, l1, l2, l3, l4, l5, l6, l7, l8, l10, hI, hvp, hvd, h1, h5, hl7, hp9, hd9, hlv, hps, hds⟩ := id co
  have hN := hb.N
  unfold led at hN
  have hTt := hb.lT
  have hDt := hb.lD
  have hlf := hb.ll
  show wpAny _ _ (exec (.For (.Name (Str.ofString "node") _) sortE outerBody [] _) _) Q E s
  refine for_go (n := ord.toList.length) (fun it j s' => ∃ S so es, IntsAre so (ord.toList.map Int.ofNat) ∧ OutJ w g L c ((S, listOf (List.toArray so) es) :: d.dyn) ord.toList S p' s it j s') ?_ ?_ ?_
  · refine sort_eval (t1 := c.t1) (t2 := c.t2) (t3 := c.t3) (n1 := c.n1) (rest := (c.x, accO c.dx d.its d.n) :: (c.dx, accD d.h0 d.t0 d.v0) :: (d.Tt, tup5 p.a p.b p.c p.d d.y1 d.y2 d.y3 d.y4 d.Dt) :: (d.Dt, d.oD) :: (d.lf, d.lfo) :: (100, tabObj d.tb1) :: (L + 1, c.c1) :: (L + 1 + 1, d.c2) :: (L + 1 + 1 + 1, d.c3) :: (L + 1 + 1 + 1 + 1, d.c4) :: (c.pA, listOf (List.toArray c.pcs) c.n2) :: (c.dl, listOf (List.toArray c.vd) c.n3) :: (c.pl, listOf (List.toArray c.vp) c.n4) :: (c.T0, tup5 0 0 0 0 c.z1 c.z2 c.z3 c.z4 c.D0) :: (c.D0, c.o0) :: d.dyn) cx hb.F hb.mo ?_ ?_ h5 hI hl7 hl2 hsort hord ?_
    · rw [htb] at hN
      lge_lay
    · ((repeat (refine List.forall_mem_cons.mpr ⟨by first | exact Nat.ne_of_lt (by omega) | exact Nat.ne_of_gt (by omega) | assumption, ?_⟩)))
      exact fun z hz => (hb.hdyn z hz).n185
    intro D so es tb h2 tk2 F2 N2 l2' hso
    rw [ns_eq hord] at hso
    have lx : @LT.lt Nat _ c.x D := l2' (c.x, _) (by k_mem)
    have N3 : News g L h2 (led L c p { d with dyn := (D, listOf (List.toArray so) es) :: d.dyn, tb2 := tb }) := by
      unfold led
      dsimp only
      lge_lay
    refine liter_K (s := ⟨h2, s.gens, s.drawn, tk2, s.os⟩) F2 N3 ⟨_, (N2 _ (.head _)).1, rfl, es, rfl⟩ ?_
    intro I h7 F7 N7 l7' l8'
    have hx : @LT.lt Nat _ c.x I := l7' (c.x, _) (.head _)
    refine ⟨D, so, es, hso, I, m, { d with dyn := (I, itO D 0) :: (D, listOf (List.toArray so) es) :: d.dyn, c4 := d.c4, tb2 := tb }, [], p, Dc, ys, ey, ks, rfl, hb.to4 F7 ?_ rfl hb.h4 (fun z hz _ => .tail _ (.tail _ hz)) (List.forall_mem_cons.mpr ⟨apart_of co hx, List.forall_mem_cons.mpr ⟨apart_of co lx, hb.hdyn⟩⟩), hcm, .tail _ (.tail _ hc), hys, rfl, (fun _ h => nomatch h), ?_, ?_, ?_, ?_, ?_, ?_, hx, hrun, rfl⟩
    · unfold led at N7 ⊢
      dsimp only at N7 ⊢
      lge_lay
    · refine List.forall_mem_cons.mpr ⟨l8', fun q hq => l7' q (List.mem_append_right (ledH L c p { d with dyn := [], tb2 := tb }) (.tail _ hq))⟩
    · exact Nat.ne_of_lt (l7' (d.Tt, _) (by unfold led; k_mem))
    · exact Nat.ne_of_lt (l7' (d.Dt, _) (by unfold led; k_mem))
    · exact Nat.ne_of_lt (l7' (d.lf, _) (by unfold led; k_mem))
    · exact Nat.ne_of_lt (l7' (c.T0, _) (by unfold led; k_mem))
    · exact Nat.ne_of_lt (l7' (c.D0, _) (by unfold led; k_mem))
  · rintro it j s' E' hj ⟨S, so, es, hso, I, m', d', ex, pj, Dj, ysj, eyj, ksj, rfl, hB, hcm', hDj, hysj, hdy, hex, hbI, i1, i2, i3, i4, i5, hx, hr, ho8⟩
    obtain ⟨tv, hv⟩ := ints_at hso (j := j) (by rw [List.length_map]; exact hj)
    have hnj : (ord.toList.map Int.ofNat).getD j 0 = ((ord.toList.getD j 0 : Nat) : Int) := by
      rw [List.getD_eq_getElem?_getD, List.getElem?_map, List.getD_eq_getElem?_getD, List.getElem?_eq_getElem hj]
      rfl
    rw [hnj] at hv
    have hH := ledH_ne (p := pj) co hx i1 i2 i3 i4 i5
    have hne : ∀ q ∈ ledH L c pj d' ++ (ex ++ ((S, listOf (List.toArray so) es) :: d.dyn)), q.1 ≠ I := by
      intro q hq
      rcases List.mem_append.mp hq with h | h
      · exact hH q h
      · rcases List.mem_append.mp h with h | h
        · exact hex q h
        · exact Nat.ne_of_lt (hbI q h)
    have N1 : News g L s'.heap ((I, itO S j) :: (ledH L c pj d' ++ (ex ++ ((S, listOf (List.toArray so) es) :: d.dyn)))) := by
      refine nsub hB.N ?_
      intro z hz
      rw [led_eq, hdy]
      rcases List.mem_cons.mp hz with rfl | h
      · exact List.mem_append_right _ (List.mem_append_right _ (.head _))
      · rcases List.mem_append.mp h with h | h
        · exact List.mem_append_left _ h
        · rcases List.mem_append.mp h with h | h
          · exact List.mem_append_right _ (List.mem_append_left _ h)
          · exact List.mem_append_right _ (List.mem_append_right _ (.tail _ h))
    refine next_K hB.F N1 (.head hne) (.tail _ (List.mem_append_right _ (List.mem_append_right _ (.head _)))) ⟨es, rfl⟩ (by rw [List.getElem?_toArray]; exact hv) ?_
    intro h' F9 N9
    refine ⟨_, rfl, wpAny_pure ?_⟩
    refine wpAny_assign_Name ?_
    try dsimp only at N9
    have hit2 : ∀ z ∈ d'.dyn, z.2.cls = .type "tuple" → z ∈ ex ++ (I, itO S (j + 1)) :: (S, listOf (List.toArray so) es) :: d.dyn := by
      intro z hz hcls
      rw [hdy] at hz
      rcases List.mem_append.mp hz with h | h
      · exact List.mem_append_left _ h
      · rcases List.mem_cons.mp h with rfl | h
        · exact absurd hcls not_tup
        · exact List.mem_append_right _ (.tail _ h)
    have hDj2 : (Dj, listOf (List.toArray ysj) eyj) ∈ ex ++ (I, itO S (j + 1)) :: (S, listOf (List.toArray so) es) :: d.dyn := by
      rw [hdy] at hDj
      rcases List.mem_append.mp hDj with h | h
      · exact List.mem_append_left _ h
      · rcases List.mem_cons.mp h with h | h
        · exfalso
          injection h with _ h
          have := congrArg Obj.cls h
          injection this with this
          exact absurd this (by decide)
        · exact List.mem_append_right _ (.tail _ h)
    have hB2 := hB.to4 (dyn2 := ex ++ (I, itO S (j + 1)) :: (S, listOf (List.toArray so) es) :: d.dyn) (c4' := d'.c4) (tb' := d'.tb2) (s2 := ⟨h', s'.gens, s'.drawn, s'.toks, s'.os⟩) F9 (by
      refine nsub N9 ?_
      intro z hz
      rw [led_eq] at hz
      rcases List.mem_append.mp hz with h | h
      · exact .tail _ (List.mem_append_left _ h)
      · rcases List.mem_append.mp h with h | h
        · exact .tail _ (List.mem_append_right _ (List.mem_append_left _ h))
        · rcases List.mem_cons.mp h with rfl | h
          · exact .head _
          · exact .tail _ (List.mem_append_right _ (List.mem_append_right _ h))) rfl hB.h4 hit2 (by
      intro z hz
      rcases List.mem_append.mp hz with h | h
      · exact hB.hdyn z (by rw [hdy]; exact List.mem_append_left _ h)
      · rcases List.mem_cons.mp h with rfl | h
        · exact apart_of co hx
        · exact hB.hdyn z (by rw [hdy]; exact List.mem_append_right _ (.tail _ h)))
    obtain ⟨v4, hv4⟩ := hB.h4
    have b1 := hB.lT
    have b2 := hB.lD
    have b3 := hB.ll
    have hdyn2 := hB2.hdyn
    have U : UpdF (L + 1 + 1 + 1 + 1) d'.c4 (led L c pj { d' with dyn := ex ++ (I, itO S (j + 1)) :: (S, listOf (List.toArray so) es) :: d.dyn, c4 := d'.c4, tb2 := d'.tb2 }) (fun o' => led L c pj { d' with dyn := ex ++ (I, itO S (j + 1)) :: (S, listOf (List.toArray so) es) :: d.dyn, c4 := o', tb2 := d'.tb2 }) := by
      unfold led
      dsimp only
      refine .tail ?_ (.tail ?_ (.tail ?_ (.tail ?_ (.tail ?_ (.tail ?_ (.tail ?_ (.tail ?_ (.tail ?_ (.tail ?_ (.head ?_))))))))))
      all_goals first | exact Nat.ne_of_lt (by omega) | exact Nat.ne_of_gt (by omega) | skip
      ((repeat (refine List.forall_mem_cons.mpr ⟨by first | exact Nat.ne_of_lt (by omega) | exact Nat.ne_of_gt (by omega) | assumption, ?_⟩)))
      exact fun z hz => (hdyn2 z hz).n4
    refine storeX_C F9 hB2.N rfl U hv4 ?_
    intro h2 o2 F1 N1 c1
    have hB3 := hB2.to4 (dyn2 := ex ++ (I, itO S (j + 1)) :: (S, listOf (List.toArray so) es) :: d.dyn) (c4' := o2) (tb' := d'.tb2) (s2 := ⟨h2, s'.gens, s'.drawn, s'.toks, s'.os⟩) F1 N1 rfl ⟨_, c1⟩ (fun z hz _ => hz) hdyn2
    have hdr : ord.toList.drop j = ord.toList.getD j 0 :: ord.toList.drop (j + 1) := by
      rw [List.drop_eq_getElem_cons hj, List.getD_eq_getElem?_getD, List.getElem?_eq_getElem hj]
      rfl
    rw [hdr, runOut] at hr
    cases hrn : PS.runIn c.lv c.ps c.ds pj ksj with
    | none => rw [hrn] at hr; cases hr
    | some p1 =>
      rw [hrn] at hr
      dsimp only at hr
      split at hr
      case isFalse => cases hr
      rename_i hok
      refine turn_out (d := { d' with dyn := ex ++ (I, itO S (j + 1)) :: (S, listOf (List.toArray so) es) :: d.dyn, c4 := o2, tb2 := d'.tb2 }) cx co hB3 hcm' hDj2 hysj hrn hok c1 ?_
      intro s4 m4 d4 ex4 D4 ys4 e4 hB4 hc4 hD4 hy4 hdy4 hn4 hT4 hDt4 hl4 ho4
      have hI4 : (I, itO S (j + 1)) ∈ ex ++ (I, itO S (j + 1)) :: (S, listOf (List.toArray so) es) :: d.dyn := List.mem_append_right _ (.head _)
      refine ⟨rfl, S, so, es, hso, I, m4, d4, ex4 ++ ex, _, D4, ys4, e4, _, rfl, hB4, hc4, hD4, hy4, ?_, ?_, hbI, hT4 _ hI4 i1, hDt4 _ hI4 i2, hl4 _ hI4, i4, i5, hx, hr, ho4.trans ho8⟩
      · rw [hdy4, List.append_assoc]
      · intro q hq
        rcases List.mem_append.mp hq with h | h
        · exact hn4 q h _ hI4
        · exact hex q h
  · rintro it s' E' ⟨S, so, es, hso, I, m', d', ex, pj, Dj, ysj, eyj, ksj, rfl, hB, hcm', hDj, hysj, hdy, hex, hbI, i1, i2, i3, i4, i5, hx, hr, ho8⟩
    have hH := ledH_ne (p := pj) co hx i1 i2 i3 i4 i5
    have hsl := hso.length
    rw [List.length_map] at hsl
    have hne : ∀ q ∈ ledH L c pj d' ++ (ex ++ ((S, listOf (List.toArray so) es) :: d.dyn)), q.1 ≠ I := by
      intro q hq
      rcases List.mem_append.mp hq with h | h
      · exact hH q h
      · rcases List.mem_append.mp h with h | h
        · exact hex q h
        · exact Nat.ne_of_lt (hbI q h)
    have N1 : News g L s'.heap ((I, itO S ord.toList.length) :: (ledH L c pj d' ++ (ex ++ ((S, listOf (List.toArray so) es) :: d.dyn)))) := by
      refine nsub hB.N ?_
      intro z hz
      rw [led_eq, hdy]
      rcases List.mem_cons.mp hz with rfl | h
      · exact List.mem_append_right _ (List.mem_append_right _ (.head _))
      · rcases List.mem_append.mp h with h | h
        · exact List.mem_append_left _ h
        · rcases List.mem_append.mp h with h | h
          · exact List.mem_append_right _ (List.mem_append_left _ h)
          · exact List.mem_append_right _ (List.mem_append_right _ (.tail _ h))
    refine end_K rfl hB.F N1 hne (List.mem_append_right _ (List.mem_append_right _ (.head _))) ⟨es, rfl⟩ (by rw [List.getElem?_toArray, List.getElem?_eq_none (by omega)]) ?_
    intro h' F6 N6
    rw [List.drop_length, runOut] at hr
    cases hr
    refine ⟨rfl, H _ _ { d' with dyn := ex ++ ((S, listOf (List.toArray so) es) :: d.dyn), c4 := d'.c4, tb2 := d'.tb2 } (hB.to4 F6 N6 rfl hB.h4 ?_ ?_) ho8⟩
    · intro z hz hcls
      rw [hdy] at hz
      rcases List.mem_append.mp hz with h | h
      · exact List.mem_append_left _ h
      · rcases List.mem_cons.mp h with rfl | h
        · exact absurd hcls not_tup
        · exact List.mem_append_right _ h
    · intro z hz
      rcases List.mem_append.mp hz with h | h
      · exact hB.hdyn z (by rw [hdy]; exact List.mem_append_left _ h)
      · exact hB.hdyn z (by rw [hdy]; exact List.mem_append_right _ (.tail _ h))
end
end JoinMD

section ResetPL
local macro_rules | `(tactic| walk_at "none") => `(tactic| skip)
theorem resetPL : True := by first | walk1 | (w_top off; trivial)
end ResetPL
section JoinPL
noncomputable def levelsFrom : Int → List Int → List Int
  | _, [] => []
  | l, x :: xs => (l + (1 - x.fmod (l + 2))) :: levelsFrom (l + (1 - x.fmod (l + 2))) xs
noncomputable def shapesFrom : Int → Nat → List (List Int)
  | l, 0 => [levelsFrom l [6, 14]]
  | l, k + 1 => (List.range (l.toNat + 2)).flatMap fun (i : Nat) => (shapesFrom (i : Int) k).map fun t => (i : Int) :: t
theorem shapes_mem : ∀ (xs : List Int) (l : Int), 0 ≤ l → levelsFrom l (xs ++ [6, 14]) ∈ shapesFrom l xs.length
  | [], l, _ => List.mem_singleton.2 rfl
  | x :: xs, l, hl => by
    have h1 := Int.fmod_nonneg_of_pos x (b := l + 2) (by omega)
    have h2 := Int.fmod_lt_of_pos x (b := l + 2) (by omega)
    have h0 : 0 ≤ l + (1 - x.fmod (l + 2)) := by omega
    have ih := shapes_mem xs _ h0
    obtain ⟨i, hi⟩ := Int.eq_ofNat_of_zero_le h0
    have hr : i < l.toNat + 2 := by omega
    refine List.mem_flatMap.2 ⟨i, List.mem_range.2 hr, List.mem_map.2 ⟨levelsFrom (l + (1 - x.fmod (l + 2))) (xs ++ [6, 14]), ?_, ?_⟩⟩
    · rw [hi] at ih ⊢
      exact ih
    · rw [← hi]
      rfl
theorem FS_levels (ns : List Int) : ∀ k, k ≤ ns.length → (FSat ns k).levels ++ levelsFrom (FSat ns k).level (ns.drop k) = levelsFrom (-1) ns
  | 0, _ => rfl
  | k + 1, h => by
    rw [← FS_levels ns k (by omega), List.drop_eq_getElem_cons (show k < ns.length by omega)]
    have e : ns.getD k 0 = ns[k] := by rw [List.getD_eq_getElem?_getD, List.getElem?_eq_getElem (show k < ns.length by omega)]; rfl
    show ((FSat ns k).step (ns.getD k 0)).levels ++ levelsFrom ((FSat ns k).step (ns.getD k 0)).level _ = _
    rw [e]
    simp only [FS.step, List.append_assoc]
    rfl
theorem levels_from (script : List Int) : levelsOf script = levelsFrom (-1) (nums script) := by
  have := FS_levels (nums script) (nums script).length (Nat.le_refl _)
  rw [List.drop_length] at this
  rw [← this]
  show _ = _ ++ []
  rw [List.append_nil]
  rfl
theorem levels_shape (script : List Int) : ∃ k t, k < 5 ∧ t ∈ shapesFrom 0 k ∧ levelsOf script = 0 :: t := by
  rw [levels_from]
  have h := shapes_mem ((script.take 4).map fun a => a.fmod 1000000) 0 (Int.le_refl _)
  refine ⟨_, _, ?_, h, ?_⟩
  · rw [List.length_map, List.length_take]
    omega
  · unfold nums
    rfl
noncomputable def zOf (lv : List Int) : List Int := ((List.range 8).map fun (k : Nat) => ((lv.count (k : Int) : Nat) : Int)).take ((lv.foldl max 0).toNat + 1)
noncomputable def PS.start : PS := ⟨[], [], [], 0, 0, 0, 0, 0, [], none⟩
noncomputable def shutsOf (lg : List UInt8) : List Int := pick lg.toArray.size fun i => decide ((KBw.bInts lg.toArray).getD i 0 = 41)
noncomputable def finOk (lv ps : List Int) (p : PS) : Bool :=
  let Z := zOf lv
  decide (p.lg.length ≤ 100) && (p.lg.all fun c => decide (c.toNat ≠ 34)) && decide ((shutsOf p.lg).length ≤ 100) &&
  ((List.range Z.length).all fun k => decide (0 ≤ upto Z k ∧ upto Z k < ((shutsOf p.lg).length : Int) ∧ 0 ≤ (shutsOf p.lg).getD (upto Z k).toNat 0 ∧ 0 ≤ Z.getD k 0 ∧ Z.getD k 0 ≤ 100 ∧ Z.getD k 0 = (lv.count (k : Int) : Nat) ∧
    0 + ((p.lg.take ((shutsOf p.lg).getD (upto Z k).toNat 0).toNat).count 40 : Nat) - ((p.lg.take ((shutsOf p.lg).getD (upto Z k).toNat 0).toNat).count 41 : Nat) = Z.getD k 0)) &&
  decide (p.a = (ps.count (-1) : Nat)) && decide (p.b = (lv.length : Nat)) && decide (p.c = weigh Z Z.length) && decide (p.d = (cntO (isPair lv) lv.length : Nat)) && tabEq p.tab (dueAt Wd ps lv.length) && decide (p.tab.length ≤ 9) && decide (cntAt p.tab p.tab.length = (lv.length : Nat))
noncomputable def good (lv : List Int) : Bool :=
  let ps := parentsOf lv
  let ds := lv ++ [0]
  decide (ps.length = lv.length) && (lv.all fun a => decide (0 ≤ a ∧ a ≤ 6)) && (ps.all fun a => decide (-1 ≤ a ∧ a ≤ 6)) && decide ((zOf lv).length ≤ 8) && (lv.all fun M => !(lv.all fun a => decide (a ≤ M)) || decide (M + 1 = ((zOf lv).length : Int))) &&
  match runT (ltK lv ((List.range lv.length).map Int.ofNat)) lv.length (kas_sort lv.length) with
  | none => false
  | some ord => (ord.toList.all fun i => decide (i < lv.length)) && match runOut lv ps ds PS.start (pick lv.length fun k => ps.getD k 0 == -1) ord.toList with
    | none => false
    | some p => finOk lv ps p
theorem all_good : ((List.range 5).all fun k => (shapesFrom 0 k).all fun t => good (0 :: t)) = true := by decide +kernel
end JoinPL

section ResetPN
local macro_rules | `(tactic| walk_at "none") => `(tactic| skip)
theorem resetPN : True := by first | walk1 | (w_top off; trivial)
end ResetPN
section JoinPN
theorem Bd.app {b b' x : List Nat} (h : Bd b b') : Bd (b ++ x) (b' ++ x) := by
  induction h with
  | close => exact .close
  | esc h0 _ ih => exact .esc h0 ih
  | chr h1 h2 _ ih => exact .chr h1 h2 ih
theorem Cut.app {a : List Nat} {cs : List (List Nat)} (h : Cut a cs) : ∀ {b : List Nat} {ds : List (List Nat)}, Cut b ds → ∃ es, Cut (a ++ b) es ∧ es.flatten = cs.flatten ++ ds.flatten := by
  induction h with
  | @last r hr =>
    intro b ds hb
    cases hb with
    | last hr' =>
      refine ⟨[r ++ b], .last fun c hc => ?_, by simp⟩
      rcases List.mem_append.1 hc with h | h
      · exact hr c h
      · exact hr' c h
    | @more a' b0 b' cs' ha hbd hc =>
      refine ⟨(r ++ a') :: cs', ?_, by simp⟩
      rw [← List.append_assoc]
      refine .more (fun c hc => ?_) hbd hc
      rcases List.mem_append.1 hc with h | h
      · exact hr c h
      · exact ha c h
  | @more a b0 b' cs ha hbd _ ih =>
    intro b ds hb
    obtain ⟨es, h1, h2⟩ := ih hb
    refine ⟨a :: es, ?_, by simp [h2]⟩
    rw [List.append_assoc]
    exact .more ha hbd.app h1
noncomputable def dep (cs : List (List Nat)) : Int := ((toB cs.flatten).toList.count 40 : Nat) - ((toB cs.flatten).toList.count 41 : Nat)
noncomputable def CutD (p : Array UInt8) (o : Int) : Prop := ∃ cs, Cut (p.map (·.toNat)).toList cs ∧ dep cs = o
theorem CutD.app {p q : Array UInt8} {x y : Int} (h1 : CutD p x) (h2 : CutD q y) : CutD (p ++ q) (x + y) := by
  obtain ⟨cs, c1, rfl⟩ := h1
  obtain ⟨ds, c2, rfl⟩ := h2
  obtain ⟨es, c3, e⟩ := c1.app c2
  refine ⟨es, ?_, ?_⟩
  · rw [Array.map_append, Array.toList_append]
    exact c3
  · unfold dep
    rw [e, toB_append, Array.toList_append, List.count_append, List.count_append]
    omega
theorem CutD.shut (n : Nat) : CutD (shutB n) (-(n : Int)) := by
  refine ⟨[List.replicate n 41], ?_, ?_⟩
  · have e : ((shutB n).map (·.toNat)).toList = List.replicate n 41 := by
      unfold shutB
      simp [Int.toNat_natCast]
    rw [e]
    exact .last fun c hc => by rw [List.eq_of_mem_replicate hc]; decide
  · unfold dep toB
    simp [List.count_replicate]
theorem cut_none : CutD #[] 0 := by
  refine ⟨[[]], ?_, rfl⟩
  rw [show ((#[] : Array UInt8).map (·.toNat)).toList = [] by simp]
  exact .last fun c hc => absurd hc (List.not_mem_nil)
theorem cut_label (q : Int) (i : Nat) (hi : i < 7) : CutD (#[40] ++ label q (byteArr [97 + (i : Int)])) 1 := by
  have hc : ∃ c : UInt8, byteArr [97 + (i : Int)] = #[c] ∧ c.toNat ≠ 34 ∧ c.toNat ≠ 92 ∧ c.toNat < 256 ∧ c ≠ 40 ∧ c ≠ 41 := by
    refine ⟨(97 + i).toUInt8, ?_, ?_⟩
    · match i, hi with
      | 0, _ => rfl
      | 1, _ => rfl
      | 2, _ => rfl
      | 3, _ => rfl
      | 4, _ => rfl
      | 5, _ => rfl
      | 6, _ => rfl
    · match i, hi with
      | 0, _ => decide
      | 1, _ => decide
      | 2, _ => decide
      | 3, _ => decide
      | 4, _ => decide
      | 5, _ => decide
      | 6, _ => decide
  obtain ⟨c, e, h1, h2, _, h4, h5⟩ := hc
  rw [e]
  unfold label pick4
  have n40 : ∀ x ∈ [40], x ≠ 34 := by decide
  have nn : ∀ x ∈ ([] : List Nat), x ≠ 34 := by decide
  have d1 : dep [[40], []] = 1 := by decide
  split
  · refine ⟨[[40, c.toNat]], ?_, ?_⟩
    · rw [show ((#[40] ++ #[c] : Array UInt8).map (·.toNat)).toList = [40, c.toNat] by simp]
      exact .last (List.forall_mem_cons.2 ⟨by decide, List.forall_mem_cons.2 ⟨h1, nn⟩⟩)
    · unfold dep toB
      simp [List.count_cons, h4, h5]
  · split
    · refine ⟨[[40], []], ?_, d1⟩
      rw [show ((#[40] ++ (#[34] ++ #[c] ++ #[34]) : Array UInt8).map (·.toNat)).toList = [40] ++ 34 :: [c.toNat, 34] by simp]
      exact .more n40 (.chr h1 h2 .close) (.last nn)
    · split
      · refine ⟨[[40], []], ?_, d1⟩
        rw [show ((#[40] ++ (#[34, 40] ++ #[c] ++ #[34]) : Array UInt8).map (·.toNat)).toList = [40] ++ 34 :: [40, c.toNat, 34] by simp]
        exact .more n40 (.chr (by decide) (by decide) (.chr h1 h2 .close)) (.last nn)
      · refine ⟨[[40], []], ?_, d1⟩
        rw [show ((#[40] ++ (#[34] ++ #[c] ++ #[92, 34, 41, 34]) : Array UInt8).map (·.toNat)).toList = [40] ++ 34 :: [c.toNat, 92, 34, 41, 34] by simp]
        exact .more n40 (.chr h1 h2 (.esc (by decide) (.chr (by decide) (by decide) .close))) (.last nn)
theorem FS_piece (script : List Int) : ∀ k, k ≤ 7 → CutD (FSat (nums script) k).piece (if k = 0 then 0 else 1)
  | 0, _ => cut_none
  | k + 1, h => by
    have hl := (FSat_ok script k).1
    show CutD (#[40] ++ label _ (byteArr [97 + ((FSat (nums script) k).levels.length : Int)])) 1
    rw [hl]
    exact cut_label _ k (by omega)
noncomputable def pieceAt (ns : List Int) (k : Nat) : Array UInt8 := (FSat ns k).piece ++ shutB ((ns.getD k 0).fmod ((FSat ns k).level + 2))
theorem FS_lists (ns : List Int) : ∀ k, (FSat ns k).pieces = (List.range k).map (pieceAt ns) ∧ (FSat ns k).levels = (List.range k).map fun i => (FSat ns (i + 1)).level
  | 0 => ⟨rfl, rfl⟩
  | k + 1 => by
    obtain ⟨h1, h2⟩ := FS_lists ns k
    rw [List.range_succ, List.map_append, List.map_append, ← h1, ← h2]
    exact ⟨rfl, rfl⟩
noncomputable def depths (script : List Int) : List Int := 0 :: (levelsOf script ++ [0])
theorem depth_at (script : List Int) (k : Nat) (hk : k < (levelsOf script).length) : (depths script).getD (k + 1) 0 = (FSat (nums script) (k + 1)).level := by
  have e : (levelsOf script).length = (nums script).length := (FSat_ok script _).1
  unfold depths
  rw [List.getD_cons_succ, List.getD_eq_getElem?_getD, List.getElem?_append_left hk]
  have hk' : k < (nums script).length := by omega
  unfold levelsOf
  rw [(FS_lists _ _).2, List.getElem?_map, List.getElem?_range hk']
  rfl
theorem depth_last (script : List Int) : (depths script).getD ((levelsOf script).length + 1) 0 = 0 := by
  unfold depths
  rw [List.getD_cons_succ, List.getD_eq_getElem?_getD, List.getElem?_append_right (Nat.le_refl _), Nat.sub_self]
  rfl
theorem shut_size (n : Nat) : (shutB n).size = n := by
  unfold shutB
  simp
theorem pieces_ok (script : List Int) : ∀ k p, (piecesOf script)[k]? = some p → p.size ≤ 20 ∧ CutD p ((depths script).getD (k + 1) 0 - (depths script).getD k 0) := by
  intro k p hp
  have e : (levelsOf script).length = (nums script).length := (FSat_ok script _).1
  have hn := (nums_len script).1
  have hpl : (FSat (nums script) (nums script).length).pieces.length = (nums script).length := (FSat_ok script _).2.1
  unfold piecesOf at hp
  have hlast : ∀ k, k ≤ (nums script).length → 0 < k → (depths script).getD k 0 = (FSat (nums script) k).level := by
    intro k h1 h2
    obtain ⟨j, rfl⟩ : ∃ j, k = j + 1 := ⟨k - 1, by omega⟩
    exact depth_at script j (by omega)
  rcases Nat.lt_or_ge k (nums script).length with hlt | hge
  · rw [List.getElem?_append_left (by omega), (FS_lists _ _).1, List.getElem?_map, List.getElem?_range hlt] at hp
    cases hp
    have hlv := (FSat_ok script k).2.2
    have h0 := nums_at script k
    have f1 := Int.fmod_nonneg_of_pos ((nums script).getD k 0) (b := (FSat (nums script) k).level + 2) (by omega)
    have f2 := Int.fmod_lt_of_pos ((nums script).getD k 0) (b := (FSat (nums script) k).level + 2) (by omega)
    obtain ⟨n, hn'⟩ := Int.eq_ofNat_of_zero_le f1
    have hs := FS_piece script k (by omega)
    have hnext : (FSat (nums script) (k + 1)).level = (FSat (nums script) k).level + (1 - ((nums script).getD k 0).fmod ((FSat (nums script) k).level + 2)) := rfl
    unfold pieceAt
    rw [depth_at script k (by omega), hnext, hn']
    rw [hn'] at f2
    refine ⟨by rw [Array.size_append, shut_size]; omega, ?_⟩
    have := hs.app (CutD.shut n)
    by_cases hk0 : k = 0
    · subst hk0
      have e0 : (FSat (nums script) 0).level = -1 := rfl
      rw [e0]
      rw [show (depths script).getD 0 0 = 0 from rfl]
      rw [if_pos rfl] at this
      rw [show (-1 + (1 - (n : Int)) - 0) = 0 + -(n : Int) by omega]
      exact this
    · rw [hlast k (by omega) (by omega)]
      rw [if_neg hk0] at this
      rw [show ((FSat (nums script) k).level + (1 - (n : Int)) - (FSat (nums script) k).level) = 1 + -(n : Int) by omega]
      exact this
  · rcases Nat.lt_or_ge (nums script).length k with hgt | hle
    · rw [List.getElem?_eq_none (by rw [List.length_append, hpl, List.length_singleton]; omega)] at hp
      cases hp
    · have hk : k = (nums script).length := by omega
      subst hk
      rw [List.getElem?_append_right (by omega), hpl, Nat.sub_self] at hp
      cases hp
      have hlv := (FSat_ok script (nums script).length).2.2
      have hs := FS_piece script (nums script).length (by omega)
      have h3 := (nums_len script).2
      obtain ⟨n, hn'⟩ := Int.eq_ofNat_of_zero_le (show 0 ≤ (FSat (nums script) (nums script).length).level + 1 by omega)
      have d0 : (depths script).getD ((nums script).length + 1) 0 = 0 := by rw [← e]; exact depth_last script
      rw [d0, hlast _ (Nat.le_refl _) (by omega), hn']
      refine ⟨by rw [Array.size_append, shut_size]; omega, ?_⟩
      have := hs.app (CutD.shut n)
      rw [if_neg (by omega)] at this
      rw [show (0 - (FSat (nums script) (nums script).length).level) = 1 + -(n : Int) by omega]
      exact this
theorem cat_take (script : List Int) : ∀ k, k ≤ (piecesOf script).length → (cat ((piecesOf script).take k)).size ≤ 20 * k ∧ CutD (cat ((piecesOf script).take k)) ((depths script).getD k 0)
  | 0, _ => ⟨Nat.le_refl _, cut_none⟩
  | k + 1, h => by
    obtain ⟨h1, h2⟩ := cat_take script k (by omega)
    have hp : (piecesOf script)[k]? = some (piecesOf script)[k] := List.getElem?_eq_getElem h
    obtain ⟨p1, p2⟩ := pieces_ok script k _ hp
    rw [List.take_add_one, hp]
    have hc : cat ((piecesOf script).take k ++ (some (piecesOf script)[k]).toList) = cat ((piecesOf script).take k) ++ (piecesOf script)[k] := cat_snoc _ _
    rw [hc]
    refine ⟨by rw [Array.size_append]; omega, ?_⟩
    have := h2.app p2
    rw [show (depths script).getD k 0 + ((depths script).getD (k + 1) 0 - (depths script).getD k 0) = (depths script).getD (k + 1) 0 by omega] at this
    exact this
theorem cat_ok (script : List Int) (hl : (piecesOf script).length = (levelsOf script).length + 1) (h7 : (levelsOf script).length ≤ 7) : (cat (piecesOf script)).size ≤ 1000 ∧ CutD (cat (piecesOf script)) 0 := by
  have h := cat_take script (piecesOf script).length (Nat.le_refl _)
  rw [List.take_length] at h
  refine ⟨by omega, ?_⟩
  rw [hl, depth_last] at h
  exact h.2
end JoinPN

section ResetJA
local macro_rules | `(tactic| walk_at "none") => `(tactic| skip)
theorem resetJA : True := by first | walk1 | (w_top off; trivial)
end ResetJA
section JoinJA
theorem good_at (script : List Int) : good (levelsOf script) = true := by
  obtain ⟨k, t, hk, ht, e⟩ := levels_shape script
  rw [e]
  have h := all_good
  rw [List.all_eq_true] at h
  have h2 := h k (List.mem_range.2 hk)
  rw [List.all_eq_true] at h2
  exact h2 t ht
theorem getD_of {l : List Int} {P : Int → Prop} (h : ∀ a ∈ l, P a) (h0 : P 0) (i : Nat) : P (l.getD i 0) := by
  rw [List.getD_eq_getElem?_getD]
  cases e : l[i]? with
  | none => exact h0
  | some a => exact h a (List.mem_of_getElem? e)
section
variable {w : World} {s : Shared} {g : Heap} {L fa : Addr} {m : Str → Option Value} {Q : Flow → Shared → Prop} {E : Value → Shared → Prop} {tail : List Stmt}
theorem law_start {sl : Addr} {vs : List Value} {script : List Int} {c1 c2 c3 c4 c5 : Obj} {v3 v4 : Option Value} {p' : PS} {ord : Array Nat} (cx : Cx w g L) (F : Fr g L s.heap m) (hl : m (Str.ofString "script") = some (.ref sl)) (hsl : g.IsList sl vs.toArray) (hI : IntsAre vs script) (hlen : script.length ≤ 63)
   (h1 : c1.data = .cell none) (h2 : c2.data = .cell none) (h3 : c3.data = .cell v3) (h4 : c4.data = .cell v4) (h5 : c5.data = .cell none) (hg : AllBare s.gens)
   (N : News g L s.heap [(L + 1 + 1 + 1 + 1 + 1, c5), (L + 1 + 1 + 1 + 1, c4), (L + 1 + 1 + 1, c3), (L + 1 + 1, c2), (L + 1, c1), (185, tabObj #[]), (100, tabObj #[])])
   (hps : (parentsOf (levelsOf script)).length = (levelsOf script).length) (hlv : ∀ a ∈ levelsOf script, 0 ≤ a ∧ a ≤ 6) (hpv : ∀ a ∈ parentsOf (levelsOf script), -1 ≤ a ∧ a ≤ 6)
   (hsort : runT (ltK (levelsOf script) ((List.range (levelsOf script).length).map Int.ofNat)) (levelsOf script).length (kas_sort (levelsOf script).length) = some ord) (hord : ∀ i ∈ ord.toList, i < (levelsOf script).length)
   (hrun : runOut (levelsOf script) (parentsOf (levelsOf script)) (levelsOf script ++ [0]) PS.start (pick (levelsOf script).length fun k => (parentsOf (levelsOf script)).getD k 0 == -1) ord.toList = some p')
   (H : ∀ s' m' c d, CfOk w L c → c.lv = levelsOf script → c.ps = parentsOf (levelsOf script) → c.pieces = piecesOf script → BytesAre c.pcs c.pieces → Obj.IsDictOf (strKind PR w) c.o0 [] → (c.D0 == sysModules) = false → Big w g L c p' d s' m' → s'.os = s.os →
     wpAny (model PR w) (ALaw L fa) (execs tail (envLaw L fa)) Q E s') :
   wpAny (model PR w) (ALaw L fa) (execs (lawSt 0 :: lawSt 1 :: lawSt 2 :: lawSt 3 :: lawSt 4 :: lawSt 5 :: lawSt 6 :: lawSt 7 :: lawSt 8 :: lawSt 9 :: lawSt 10 :: lawSt 11 :: lawSt 12 :: lawSt 13 :: lawSt 14 :: lawSt 15 :: lawSt 16 :: tail) (envLaw L fa)) Q E s := by
  have l9 : @LT.lt Nat _ 185 L := cx.l0
  obtain ⟨hl7, hl3⟩ := levels_len script
  have hpl := pieces_len script
  refine segA cx F hl hsl hI hlen h5 N ?_
  intro s1 m1 lA pA nA dl us pcs n1 n2 n3 t1 t2 t3 td c5' F1 e1 e2 e3 e4 N1 h5' hus hpcs l1 l2 l3 l4 hg1 ho1
  refine wpAny_execs_cons (seg4 (D := depths script) (pieces := piecesOf script) (n := (levelsOf script).length) cx F1 e1 e2 e3 e4 N1 hpcs (by omega) l4 ?_ (by omega) ?_ rfl ?_ ?_)
  · repeat (refine List.forall_mem_cons.mpr ⟨by show @LT.lt Nat _ _ _; dsimp only; omega, ?_⟩)
    exact fun _ h => nomatch h
  · unfold depths
    rw [List.length_cons, List.length_append, List.length_singleton]
    omega
  · intro k p hp
    obtain ⟨a, cs, b, e⟩ := pieces_ok script k p hp
    refine ⟨by omega, cs, b, ?_⟩
    unfold dep at e
    omega
  intro s2 m2 vd n3' F2 f1 f2 f3 N2 hvd hg2 ho2
  have hvd : IntsAre vd (levelsOf script ++ [0]) := hvd
  refine segB cx F2 f1 f2 f3 N2 h1 h2 h5' hus hvd hl7 l1 l2 l3 l4 ?_
  intro s3 m3 T0 D0 lf x dx pl o0 vp n4 nx h0 t0 v0 c1' c2' z1 z2 z3 z4 q1 q2 q3 q4 F3 g1 g2 g3 g4 g5 g6 g7 g8 g9 g10 N3 hd0 hf0 lo0 hc1 hc2 hvp k1 k2 k3 k4 k5 k6 hg3 ho3
  refine wpAny_execs_cons (seg15 (pl := pl) (nA := nA) (vp := vp) (np := n4) (ps := parentsOf (levelsOf script)) (cP := c1') (t1 := t1) (t2 := t2) (t3 := t3) (n := (levelsOf script).length) (rest := [(T0, tup5 0 0 0 0 z1 z2 z3 z4 D0), (D0, o0), (lf, tupO []), (x, accO dx [] nx), (dx, accD h0 t0 v0), (dl, listOf (List.toArray vd) n3'), (pA, listOf (List.toArray pcs) n2), (lA, listOf (List.toArray us) n1), (L + 1 + 1 + 1 + 1 + 1, c5'), (L + 1 + 1 + 1 + 1, c4), (L + 1 + 1 + 1, c3), (L + 1 + 1, c2'), (185, tabObj #[]), (100, tabObj #[])]) cx F3 g1 hl7 hps hvp hc1 (by lge_lay) ?_)
  intro Dc ys h_4 k_4 e_4 F4 N4 hne4 hys
  have co : CfOk w L ⟨lA, pA, nA, dl, pl, dx, x, T0, D0, us, pcs, vd, vp, n1, n2, n3', n4, t1, t2, t3, z1, z2, z3, z4, o0, c1', c5', levelsOf script, parentsOf (levelsOf script), levelsOf script ++ [0], piecesOf script⟩ :=
    ⟨l9, l1, l2, l3, l4, k1, k2, k3, by show @LT.lt Nat _ x D0; omega, k6, hus, hvp, hvd, hc1, h5', hl7, hps, by simp, fun i => by have := getD_of (P := fun a => 0 ≤ a ∧ a ≤ 6) hlv (by decide) i; dsimp only at this ⊢; omega, fun i => by have := getD_of (P := fun a => -1 ≤ a ∧ a ≤ 6) hpv (by decide) i; dsimp only at this ⊢; omega, fun i => by
      have := getD_of (l := levelsOf script ++ [0]) (P := fun a => 0 ≤ a ∧ a ≤ 6) (fun a ha => by
        rcases List.mem_append.1 ha with h | h
        · exact hlv a h
        · rw [List.mem_singleton.1 h]; decide) (by decide) i
      dsimp only at this ⊢
      omega⟩
  have aD : Apart L ⟨lA, pA, nA, dl, pl, dx, x, T0, D0, us, pcs, vd, vp, n1, n2, n3', n4, t1, t2, t3, z1, z2, z3, z4, o0, c1', c5', levelsOf script, parentsOf (levelsOf script), levelsOf script ++ [0], piecesOf script⟩ Dc :=
    ⟨Ne.symm (hne4 (100, _) (by k_mem)), Ne.symm (hne4 (185, _) (by k_mem)), Ne.symm (hne4 (L + 1 + 1, _) (by k_mem)), Ne.symm (hne4 (L + 1 + 1 + 1, _) (by k_mem)), Ne.symm (hne4 (L + 1 + 1 + 1 + 1, _) (by k_mem)), Ne.symm (hne4 (x, _) (by k_mem)), Ne.symm (hne4 (dx, _) (by k_mem))⟩
  refine wpAny_execs_cons (outer_loop (p := PS.start) (d := ⟨[], nx, h0, t0, v0, T0, D0, lf, o0, tupO [], [], z1, z2, z3, z4, q2, q3, q1, q4, #[], #[], c2', c3, c4, [(Dc, listOf (List.toArray ys) e_4)]⟩) cx co ⟨F4, ?_, ?_, by exact g5, by exact g6, by exact g7, by exact g8, by exact g10, by exact g9, by exact g4, by exact g3, by exact g1, by exact g2, rfl, (fun _ h => absurd h (Nat.not_lt_zero _)), .inl ⟨rfl, rfl⟩, hd0, hf0, lo0, ?_, ⟨_, h3⟩, ⟨_, h4⟩, ?_, ?_, ?_, ?_, ?_⟩ rfl rfl (.head _) hys (by show 2 ≤ (levelsOf script).length; omega) hsort hord hrun ?_)
  · unfold led
    dsimp only [PS.start]
    lge_lay
  · show AllBare s3.gens
    rw [hg3, hg2, hg1]
    exact hg
  · exact hc2
  · show TriplesOk (#[] : Array Value).toList
    kn_triples
  · show @LT.lt Nat _ x T0
    omega
  · show @LT.lt Nat _ x D0
    omega
  · exact k4
  · exact List.forall_mem_cons.mpr ⟨aD, fun _ h => nomatch h⟩
  · intro s5 m5 d5 hB ho5
    exact H s5 m5 _ d5 co rfl rfl rfl hpcs hd0 lo0 hB (by rw [ho5]; show s3.os = s.os; rw [ho3, ho2, ho1])
end
end JoinJA

section ResetJB
local macro_rules | `(tactic| walk_at "none") => `(tactic| skip)
theorem resetJB : True := by first | walk1 | (w_top off; trivial)
end ResetJB
section JoinJB
section
variable {w : World} {s : Shared} {g : Heap} {L fa : Addr} {m : Str → Option Value} {Q : Flow → Shared → Prop} {E : Value → Shared → Prop} {c : Cf} {p : PS} {d : Dy}
theorem law_end (cx : Cx w g L) (co : CfOk w L c) (hb : Big w g L c p d s m) (hfin : finOk c.lv c.ps p = true) (hl3 : 3 ≤ c.lv.length) (hz8 : (zOf c.lv).length ≤ 8) (hM : ∀ M ∈ c.lv, (∀ a ∈ c.lv, a ≤ M) → M + 1 = ((zOf c.lv).length : Int))
   (hpcs : BytesAre c.pcs c.pieces) (hcs : (cat c.pieces).size ≤ 1000) (hcut : CutD (cat c.pieces) 0) (hpl8 : c.pieces.length ≤ 8) (hpn : c.pieces ≠ []) (hd0 : Obj.IsDictOf (strKind PR w) c.o0 []) (lo0 : (c.D0 == sysModules) = false)
   (H : ∀ s' m' tb1 tb2, Fr g L s'.heap m' → News g L s'.heap [(185, tabObj tb2), (100, tabObj tb1)] → AllBare s'.gens → s'.os = s.os → Q (.ret (.bool true)) s') :
   wpAny (model PR w) (ALaw L fa) (execs [lawSt 17, lawSt 18, lawSt 19, lawSt 20, lawSt 21, lawSt 22, lawSt 23, lawSt 24, lawSt 25] (envLaw L fa)) Q E s := by
  obtain ⟨lA, pA, nA, dl, pl, dx, x, T0, D0, us, pcs, vd, vp, n1, n2, n3, n4, t1, t2, t3, z1, z2, z3, z4, o0, c1, c5, lv, ps, ds, pieces⟩ := c
  obtain ⟨q, lg, step, waits, a, b, cc, dd, tab, left⟩ := p
  obtain ⟨its, n, h0, t0, v0, Tt, Dt, lf, oD, lfo, kD, y1, y2, y3, y4, tb, tw, tW, tg, tb1, tb2, c2, c3, c4, dyn⟩ := d
  obtain ⟨F, N, G, mq, ms, mw, ml, mt, mn, mW, md, mo, mp, hits, hit, hlf, hD, hF, lo, h2, ⟨v3, h3⟩, h4, tri, lT, lD, ll, hdyn⟩ := hb
  obtain ⟨l9, l1, l2, l3, l4, l5, l6, l7, l8, l10, hI, hvp, hvd, h1, h5, hl7, hp, hd, hlv, hps, hds⟩ := co
  unfold led at N
  unfold finOk at hfin
  dsimp only at *
  simp only [Bool.and_eq_true, decide_eq_true_eq, List.all_eq_true] at hfin
  obtain ⟨⟨⟨⟨⟨⟨⟨⟨⟨⟨hlg, h34⟩, hsl⟩, hcs9⟩, ha⟩, hb9⟩, hcw⟩, hdp⟩, hte⟩, ht9⟩, hcn⟩ := hfin
  have hpl7 : ps.length ≤ 7 := by omega
  refine wpAny_execs_cons (seg17 (rest := (x, accO dx its n) :: (dx, accD h0 t0 v0) :: (Tt, tup5 a b cc dd y1 y2 y3 y4 Dt) :: (Dt, oD) :: (lf, lfo) :: (100, tabObj tb1) :: (185, tabObj tb2) :: (L + 1, c1) :: (L + 1 + 1 + 1, c3) :: (L + 1 + 1 + 1 + 1, c4) :: (L + 1 + 1 + 1 + 1 + 1, c5) :: (lA, listOf (List.toArray us) n1) :: (pA, listOf (List.toArray pcs) n2) :: (nA, rgO (lv.length : Nat) t1 t2 t3) :: (dl, listOf (List.toArray vd) n3) :: (pl, listOf (List.toArray vp) n4) :: (T0, tup5 0 0 0 0 z1 z2 z3 z4 D0) :: (D0, o0) :: dyn) cx F (by lge_lay) h2 (by rw [List.size_toArray]; omega) ?_)
  intro s1 m1 D ys e17 r ro hm1 hD1 F1 N1 hne1 hys1 hg1 ho1
  clear F N
  have hys1 : IntsAre ys (shutsOf lg) := hys1
  refine seg18 (Z := zOf lv) (rest := (x, accO dx its n) :: (dx, accD h0 t0 v0) :: (Tt, tup5 a b cc dd y1 y2 y3 y4 Dt) :: (Dt, oD) :: (lf, lfo) :: (100, tabObj tb1) :: (185, tabObj tb2) :: (L + 1, c1) :: (L + 1 + 1 + 1, c3) :: (L + 1 + 1 + 1 + 1, c4) :: (pA, listOf (List.toArray pcs) n2) :: (nA, rgO (lv.length : Nat) t1 t2 t3) :: (dl, listOf (List.toArray vd) n3) :: (pl, listOf (List.toArray vp) n4) :: (T0, tup5 0 0 0 0 z1 z2 z3 z4 D0) :: (D0, o0) :: dyn) cx F1 hD1 (by lge_lay) h2 h5 hI hys1 hl7 hl3 hz8 hM (by rw [List.size_toArray]; omega) (fun x hx => h34 x hx) (fun k hk => ?_) ?_
  · have hk9 := hcs9 k (List.mem_range.2 hk)
    obtain ⟨a1, a2, a3, a4, a5, a6, a7⟩ := hk9
    exact ⟨a1, a2, hsl, a3, a4, a5, a6, a7⟩
  intro s2 m2 tw2 hm2 hw2 F2 N2 hg2 ho2
  clear F1 N1
  have up : ∀ {z : Str} {v : Value}, m z = some v → z ≠ Str.ofString "shuts" → z ≠ Str.ofString "gone" → z ≠ Str.ofString "weighed" → z ≠ Str.ofString "level" → z ≠ Str.ofString "size" → m2 z = some v := fun e a b c d f => (hm2 _ b c d f).trans ((hm1 _ a).trans e)
  refine wpAny_execs_cons (seg21 (rest := (x, accO dx its n) :: (dx, accD h0 t0 v0) :: (Tt, tup5 a b cc dd y1 y2 y3 y4 Dt) :: (Dt, oD) :: (lf, lfo) :: (100, tabObj tb1) :: (185, tabObj tb2) :: (L + 1, c1) :: (L + 1 + 1, c2) :: (L + 1 + 1 + 1, c3) :: (L + 1 + 1 + 1 + 1, c4) :: (pA, listOf (List.toArray pcs) n2) :: (dl, listOf (List.toArray vd) n3) :: (pl, listOf (List.toArray vp) n4) :: (T0, tup5 0 0 0 0 z1 z2 z3 z4 D0) :: (D0, o0) :: dyn) cx F2 (up mo (by decide) (by decide) (by decide) (by decide) (by decide)) (by lge_lay) h5 hI hl7 hlv ?_)
  intro pr pit h21 k21 e21 F3 N3 hne3 hsz3
  clear F2 N2
  dsimp only
  have p3 : pr ≠ L + 1 + 1 + 1 := Ne.symm (hne3 (L + 1 + 1 + 1, _) (by k_mem))
  refine seg22 (W := Wd) (tw := tW) (n := lv.length) (c3 := c3) (c3v := v3) (rest := (pr, listOf pit e21) :: (x, accO dx its n) :: (dx, accD h0 t0 v0) :: (Tt, tup5 a b cc dd y1 y2 y3 y4 Dt) :: (Dt, oD) :: (lf, lfo) :: (100, tabObj tb1) :: (185, tabObj tb2) :: (L + 1 + 1, c2) :: (L + 1 + 1 + 1 + 1, c4) :: (L + 1 + 1 + 1 + 1 + 1, c5) :: (lA, listOf (List.toArray us) n1) :: (pA, listOf (List.toArray pcs) n2) :: (dl, listOf (List.toArray vd) n3) :: (T0, tup5 0 0 0 0 z1 z2 z3 z4 D0) :: (D0, o0) :: dyn) cx F3 (by exact up mW (by decide) (by decide) (by decide) (by decide) (by decide)) (by exact up mo (by decide) (by decide) (by decide) (by decide) (by decide)) hl7 hvp h1 (by lge_lay) h3 ?_ (by omega) (by omega) hpl7 ?_
  · ((repeat (refine List.forall_mem_cons.mpr ⟨by first | exact Nat.ne_of_lt (by omega) | exact Nat.ne_of_gt (by omega) | assumption, ?_⟩)))
    exact fun z hz => (hdyn z hz).n3
  intro s4 m4 du od kd c3' hm4 hdu F4 N4 hdd hfd ldu hlt4 hg4 ho4
  clear F3 N3
  obtain ⟨cs, hcc, hc0⟩ := hcut
  have hdq : Dt ≠ du := Nat.ne_of_lt (hlt4 (Dt, oD) (by k_mem))
  have up4 : ∀ {z : Str} {v : Value}, m2 z = some v → z ≠ Str.ofString "pairs" → z ≠ Str.ofString "due" → m4 z = some v := fun e a b => (hm4 _ b).trans ((if_neg a).trans e)
  refine seg24 (rest := [(185, tabObj tb2), (100, tabObj tb1)]) (its := pit) (n3 := e21) (oq := oD) (od := od) (c1 := c1) (c5 := c5) (kq := kD) (tq := tab) (td := dueAt Wd ps lv.length) (cs := cs) cx F4 (up4 (up mt (by decide) (by decide) (by decide) (by decide) (by decide)) (by decide) (by decide)) (up4 (up mn (by decide) (by decide) (by decide) (by decide) (by decide)) (by decide) (by decide)) (up4 hw2 (by decide) (by decide)) ((hm4 _ (by decide)).trans (by rfl)) hdu (up4 (up mp (by decide) (by decide) (by decide) (by decide) (by decide)) (by decide) (by decide))
    (by rw [← hcw]; lge_lay) h1 h5 hI hvp hpcs hl7 hpl7 hD hF hdd hfd hd0 .nil lo ldu lo0 hdq hte ht9 ha hb9 (by rw [hdp, hsz3]) hcn hcs hpl8 hpn ?_ hcc ?_ ?_
  · have := cntO_le (isPair lv) lv.length
    have h49 : lv.length * lv.length ≤ 7 * 7 := Nat.mul_le_mul hl7 hl7
    omega
  · unfold dep at hc0
    omega
  intro s5 m5 F5 N5 hg5 ho5
  exact H s5 m5 tb1 tb2 F5 N5 (by rw [hg5, hg4]; show AllBare s2.gens; rw [hg2, hg1]; exact G) (by rw [ho5, ho4]; show s2.os = s.os; rw [ho2, ho1])
end
end JoinJB

section ResetJC
local macro_rules | `(tactic| walk_at "none") => `(tactic| skip)
theorem resetJC : True := by first | walk1 | (w_top off; trivial)
end ResetJC
section JoinJC
theorem good_parts {lv : List Int} (h : good lv = true) : (parentsOf lv).length = lv.length ∧ (∀ a ∈ lv, 0 ≤ a ∧ a ≤ 6) ∧ (∀ a ∈ parentsOf lv, -1 ≤ a ∧ a ≤ 6) ∧ (zOf lv).length ≤ 8 ∧ (∀ M ∈ lv, (∀ a ∈ lv, a ≤ M) → M + 1 = ((zOf lv).length : Int)) ∧
    ∃ ord p, runT (ltK lv ((List.range lv.length).map Int.ofNat)) lv.length (kas_sort lv.length) = some ord ∧ (∀ i ∈ ord.toList, i < lv.length) ∧ runOut lv (parentsOf lv) (lv ++ [0]) PS.start (pick lv.length fun k => (parentsOf lv).getD k 0 == -1) ord.toList = some p ∧ finOk lv (parentsOf lv) p = true := by
  unfold good at h
  dsimp only at h
  rw [Bool.and_eq_true, Bool.and_eq_true, Bool.and_eq_true, Bool.and_eq_true, Bool.and_eq_true] at h
  obtain ⟨⟨⟨⟨⟨h1, h2⟩, h3⟩, h4⟩, h5⟩, h6⟩ := h
  refine ⟨of_decide_eq_true h1, fun a ha => of_decide_eq_true (List.all_eq_true.1 h2 a ha), fun a ha => of_decide_eq_true (List.all_eq_true.1 h3 a ha), of_decide_eq_true h4, ?_, ?_⟩
  · intro M hM hall
    have := List.all_eq_true.1 h5 M hM
    rw [Bool.or_eq_true] at this
    rcases this with h | h
    · have ht : (lv.all fun a => decide (a ≤ M)) = true := List.all_eq_true.2 fun a ha => decide_eq_true (hall a ha)
      rw [ht] at h
      cases h
    · exact of_decide_eq_true h
  · split at h6
    · cases h6
    · rename_i ord ho
      rw [Bool.and_eq_true] at h6
      obtain ⟨h7, h8⟩ := h6
      split at h8
      · cases h8
      · rename_i p hp
        exact ⟨ord, p, ho, fun i hi => of_decide_eq_true (List.all_eq_true.1 h7 i hi), hp, h8⟩
section
variable {w : World} {s : Shared} {g : Heap} {L fa : Addr} {m : Str → Option Value} {Q : Flow → Shared → Prop} {E : Value → Shared → Prop}
theorem law_body {sl : Addr} {vs : List Value} {script : List Int} {c1 c2 c3 c4 c5 : Obj} {v3 v4 : Option Value} (cx : Cx w g L) (F : Fr g L s.heap m) (hl : m (Str.ofString "script") = some (.ref sl)) (hsl : g.IsList sl vs.toArray) (hI : IntsAre vs script) (hlen : script.length ≤ 63)
   (h1 : c1.data = .cell none) (h2 : c2.data = .cell none) (h3 : c3.data = .cell v3) (h4 : c4.data = .cell v4) (h5 : c5.data = .cell none) (hg : AllBare s.gens)
   (N : News g L s.heap [(L + 1 + 1 + 1 + 1 + 1, c5), (L + 1 + 1 + 1 + 1, c4), (L + 1 + 1 + 1, c3), (L + 1 + 1, c2), (L + 1, c1), (185, tabObj #[]), (100, tabObj #[])])
   (H : ∀ s' m' tb1 tb2, Fr g L s'.heap m' → News g L s'.heap [(185, tabObj tb2), (100, tabObj tb1)] → AllBare s'.gens → s'.os = s.os → Q (.ret (.bool true)) s') :
   wpAny (model PR w) (ALaw L fa) (execs lawBody (envLaw L fa)) Q E s := by
  obtain ⟨q1, q2, q3, q4, q5, ord, p, q6, q7, q8, q9⟩ := good_parts (good_at script)
  obtain ⟨hl7, hl3⟩ := levels_len script
  have hpl := pieces_len script
  obtain ⟨k1, k2⟩ := cat_ok script hpl hl7
  show wpAny _ _ (execs (lawSt 0 :: lawSt 1 :: lawSt 2 :: lawSt 3 :: lawSt 4 :: lawSt 5 :: lawSt 6 :: lawSt 7 :: lawSt 8 :: lawSt 9 :: lawSt 10 :: lawSt 11 :: lawSt 12 :: lawSt 13 :: lawSt 14 :: lawSt 15 :: lawSt 16 :: [lawSt 17, lawSt 18, lawSt 19, lawSt 20, lawSt 21, lawSt 22, lawSt 23, lawSt 24, lawSt 25]) (envLaw L fa)) Q E s
  refine law_start cx F hl hsl hI hlen h1 h2 h3 h4 h5 hg N q1 q2 q3 q6 q7 q8 ?_
  intro s1 m1 c d co e1 e2 e3 hpcs hd0 lo0 hB ho1
  refine law_end cx co hB (by rw [e1, e2]; exact q9) (by rw [e1]; exact hl3) (by rw [e1]; exact q4) (by rw [e1]; exact q5) hpcs (by rw [e3]; exact k1) (by rw [e3]; exact k2) (by rw [e3]; omega) (by rw [e3]; intro h; have h9 := congrArg List.length h; rw [List.length_nil] at h9; omega) hd0 lo0 ?_
  intro s2 m2 tb1 tb2 F2 N2 G2 ho2
  exact H s2 m2 tb1 tb2 F2 N2 G2 (ho2.trans ho1)
end
end JoinJC

section ResetL4
local macro_rules | `(tactic| walk_at "none") => `(tactic| skip)
theorem resetL4 : True := by first | walk1 | (w_top off; trivial)
end ResetL4
section JoinL4
theorem law_holds : PySem.Challenge.rw_xg0017_01.Holds := hd (by
  k_fill
  intro w s₀ s₁ mg mb G Y fa o pm cd doc dV kV ho hd' hcd hD hmg hg args vals as hpre hlay hrd hwl hlo
  have KX := km_in_of Y
  have hT8 := km_tabs_of Y
  have X := (Ground.X G).1
  have V := (Ground.X G).2
  refine Ground.open G ?_
  intro T B D TE TW
  try (refine guard_noD D (by decide +kernel) ?_; clear D)
  have hT9 : TabsAt ([(187, 185), (104, 100)] : List (Addr × Addr)) _ := List.forall_mem_cons.mpr ⟨⟨codeHd_of_K (c := 187) (P := 185) KX (by kernel_rfl), hT8 185 (by k_mem)⟩,
    List.forall_mem_cons.mpr ⟨⟨codeHd_of_K (c := 104) (P := 100) KX (by kernel_rfl), hT8 100 (by k_mem)⟩, fun _ h => nomatch h⟩⟩
  have he9 : cd = PySem.Value.ref 187 := law_code (x := PySem.Str.ofString "law") (c := 187) (P := 185) KX (Top.g T) (by kernel_rfl) hmg ho hd'
  subst he9
  clear hmg
  wrow_args hpre hlay hrd hwl hlo
  refine enter_call ?_
  w_top on
  refine post_bare hT9 ?_
  w_call any ho hd' hcd hD T F
  clear hd'
  kn_ghosts F T
  k_drop
  rename_i sc hs hlay0 hL0 hr hl2 w9 w8 sl vs w5 hL ra w1 r0 hI hr2 hcond hcond2 h1 tk1 o5 o4 o3 o2 o1 e5 e4 e3 e2 e1 X0 X' T' K' F' cH N' l0
  have cx : Cx w _ s₁.heap.objs.size := ⟨X', K', ⟨_, _, _, _, _, T'⟩, cH, codeHd, l0.1⟩
  have hlen : sc.length ≤ 63 := by
    have := hcond
    omega
  refine law_body (L := s₁.heap.objs.size) (script := sc) cx F' (by rfl) lifted hI hlen e1 e2 e3 e4 e5 (by show AllBare s₁.gens; rw [hg]; exact AllBare.empty) N' ?_
  intro s' m' tb1 tb2 F2 N2 G2 ho2
  refine ⟨⟨.bool true, .bool true, rfl, fun _ => rfl, ?_, ?_⟩, F2.keep, ho2, G2, ⟨GrownAt.of N2 (.head _), GrownAt.of N2 (.tail _ (.head _)), trivial⟩⟩
  · exact .bool _
  · first | kernel_rfl | wrow_post | with_unfolding_all rfl)
end JoinL4

end X17
end JoinMain

theorem PySem.Challenge.cw_xg0017_01_holds : PySem.Challenge.rw_xg0017_01.Holds :=
  X17.law_holds
