import PyProof.Rows.All
import Wide.All
import OpenK.AllK
import Wide.FinOn
import KE.BitLaws
import Lean
import PySem.Challenge.RW_pe0204_01
open PySem PySem.W PyProof.Rows
set_option Elab.async false
local macro_rules | `(tactic| walk_at "call ref") => `(tactic| k_extra "call ref!")
local macro_rules | `(tactic| mul_fits) => `(tactic| k_extra "mul_fits!")
local macro_rules | `(tactic| walk_at "CompSrc") => `(tactic| k_extra "CompSrc!")
local macro_rules | `(tactic| walk_at "binaryOp Pow int int") => `(tactic| k_extra "binaryOp Pow int int!")
local macro_rules | `(tactic| walk_at "binaryOp FloorDiv int int") => `(tactic| k_extra "binaryOp FloorDiv int int!")
local macro_rules | `(tactic| walk_at "call builtin:str.join") => `(tactic| k_extra "call builtin:str.join!")
local macro_rules | `(tactic| walk_at "call builtin:max") => `(tactic| k_extra "call builtin:max!")
local macro_rules | `(tactic| walk_at "call builtin:min") => `(tactic| k_extra "call builtin:min!")
local macro_rules | `(tactic| walk_at "call builtin:str.split") => `(tactic| k_extra "call builtin:str.split!")
local macro_rules | `(tactic| walk_at "call builtin:str.find") => `(tactic| k_extra "call builtin:str.find!")
local macro_rules | `(tactic| walk_at "binaryOp Mult ref int") => `(tactic| k_extra "binaryOp Mult ref int!")
local macro_rules | `(tactic| walk_at "call builtin:len") => `(tactic| k_extra "call builtin:len!")
local macro_rules | `(tactic| walk_at "binaryOp RShift int int") => `(tactic| k_extra "binaryOp RShift int int!")
local macro_rules | `(tactic| walk_at "binaryOp LShift int int") => `(tactic| k_extra "binaryOp LShift int int!")
local macro_rules | `(tactic| walk_at "call builtin:divmod") => `(tactic| k_extra "call builtin:divmod!")
local macro_rules | `(tactic| walk_at "truthy ref") => `(tactic| k_extra "truthy ref!")
local macro_rules | `(tactic| walk_at "subscriptTail Name Name ref int") => `(tactic| k_extra "subscriptTail Name Name ref int!")
local macro_rules | `(tactic| walk_at "pyIter ref") => `(tactic| k_extra "pyIter ref!")
local macro_rules | `(tactic| walk_at "call type:reversed") => `(tactic| k_extra "call type:reversed!")
local macro_rules | `(tactic| walk_at "call builtin:list.append") => `(tactic| k_extra "call builtin:list.append!")
local macro_rules | `(tactic| walk_at "call builtin:list.reverse") => `(tactic| k_extra "call builtin:list.reverse!")
local macro_rules | `(tactic| walk_at "call builtin:sum") => `(tactic| k_extra "call builtin:sum!")
local macro_rules | `(tactic| walk_at "CompEnd") => `(tactic| k_extra "CompEnd!")
local macro_rules | `(tactic| walk_at "eval ListComp") => `(tactic| k_extra "eval ListComp!")
local macro_rules | `(tactic| walk_at "newTuple") => `(tactic| k_extra "newTuple!")
local macro_rules | `(tactic| walk_at "binaryOp Add str str") => `(tactic| k_extra "binaryOp Add str str!")
local macro_rules | `(tactic| walk_at "binaryOp Add ref ref") => `(tactic| k_extra "binaryOp Add ref ref!")
local macro_rules | `(tactic| walk_at "subscriptTail List Slice ref ref") => `(tactic| k_extra "subscriptTail List Slice ref ref!")
local macro_rules | `(tactic| walk_at "subscriptTail Name Slice ref ref") => `(tactic| k_extra "subscriptTail Name Slice ref ref!")
local macro_rules | `(tactic| walk_at "exec For Name Subscript cons nil") => `(tactic| k_extra "exec For Name Subscript cons nil!")
local macro_rules | `(tactic| walk_at "binaryOp Div int int") => `(tactic| k_extra "binaryOp Div int int!")
local macro_rules | `(tactic| walk_at "compareOp NotEq float float") => `(tactic| k_extra "compareOp NotEq float float!")
local macro_rules | `(tactic| walk_at "call builtin:list.count") => `(tactic| k_extra "call builtin:list.count!")
local macro_rules | `(tactic| walk_at "binaryOp Add int int") => `(tactic| k_extra "binaryOp Add int int!")
local macro_rules | `(tactic| walk_at "compareOp NotEq ref ref") => `(tactic| k_extra "compareOp NotEq ref ref!")
local macro_rules | `(tactic| walk_at "compareOp Eq ref ref") => `(tactic| k_extra "compareOp Eq ref ref!")
local macro_rules | `(tactic| walk_at "subscriptTail Call Name cons nil Slice ref ref") => `(tactic| k_extra "subscriptTail Call Name cons nil Slice ref ref!")
local macro_rules | `(tactic| walk_at "subscriptTail Name UnaryOp ref int") => `(tactic| k_extra "subscriptTail Name UnaryOp ref int!")
local macro_rules | `(tactic| walk_at "compareOp Eq int int") => `(tactic| k_extra "compareOp Eq int int!")
local macro_rules | `(tactic| walk_at "And") => `(tactic| k_extra "And!")
local macro_rules | `(tactic| walk_at "isTrue BoolOp") => `(tactic| k_extra "isTrue BoolOp!")
section
open PySem PySem.W PyProof.Rows
set_option Elab.async false
namespace Mine
set_option maxRecDepth 100000 in
set_option maxHeartbeats 8000000 in
open_top hd for PySem.Challenge.rw_pe0204_01
end Mine
end
section
open PySem PySem.W PyProof.Rows
set_option Elab.async false
namespace Mine
abbrev prg : Program := RowW.prog (OpenRow.toRowW (OpenLaw.row PySem.Challenge.rw_pe0204_01))
/-- a def of the text by what it hands back: a value that is no object of the call's -/
abbrev ClaimV (w : World) (p : Program) (loose : List Str) (mean : ExcName → Option Value) (mg mb : Str → Option Value) (f nd nu : Nat) (news : List (Addr × Obj)) (pre : Prop) (vs : List Value) (R : Tok → Value) : Prop :=
  ∀ (dp un : Nat) (gd : Option (List Code)) (cn : Str) (cs : Scope) (a : Addr) (ccd : Value) (cl : List (Str × Addr)) (outer : List Env) (A₀ : Around) (base h₀ : Heap) (L : Addr) (m : Str → Option Value) (s : Shared) (Q E : Value → Shared → Prop),
    Below A₀ base outer h₀ → Fr h₀ L s.heap m → (hd.heap_39 w.params).In h₀ → News h₀ L s.heap news → Top p loose mean mg mb h₀ → cs.kind = .function →
    pre → dp + nd < recursionLimit → un + nu < cLine →
    (∀ (t : Tok) (h' : Heap) (tk' : Nat), Fr h₀ L h' m → News h₀ L h' news → Q (R t) { s with heap := h', toks := tk' }) →
    wpAny (model (RowW.prog (OpenRow.toRowW (OpenLaw.row PySem.Challenge.rw_pe0204_01))) w) (ktrTop dp un gd cn cs L a ccd cl outer) (call (.ref f) vs) Q E s
/-- the same, with objects made (tl) ahead of the ledger -/
abbrev ClaimO (w : World) (p : Program) (loose : List Str) (mean : ExcName → Option Value) (mg mb : Str → Option Value) (f nd nu : Nat) (news : List (Addr × Obj)) (pre : Prop) (vs : List Value) (Out : Value → List (Addr × Obj) → Prop) : Prop :=
  ∀ (dp un : Nat) (gd : Option (List Code)) (cn : Str) (cs : Scope) (a : Addr) (ccd : Value) (cl : List (Str × Addr)) (outer : List Env) (A₀ : Around) (base h₀ : Heap) (L : Addr) (m : Str → Option Value) (s : Shared) (Q E : Value → Shared → Prop),
    Below A₀ base outer h₀ → Fr h₀ L s.heap m → (hd.heap_39 w.params).In h₀ → News h₀ L s.heap news → Top p loose mean mg mb h₀ → cs.kind = .function →
    pre → dp + nd < recursionLimit → un + nu < cLine →
    (∀ (r : Value) (tl : List (Addr × Obj)) (h' : Heap) (tk' : Nat), Fr h₀ L h' m → News h₀ L h' (tl ++ news) → (∀ p ∈ tl, ∀ q ∈ news, q.1 < p.1) → Out r tl → Q r { s with heap := h', toks := tk' }) →
    wpAny (model (RowW.prog (OpenRow.toRowW (OpenLaw.row PySem.Challenge.rw_pe0204_01))) w) (ktrTop dp un gd cn cs L a ccd cl outer) (call (.ref f) vs) Q E s
section
variable {w : World} {p : Program} {loose : List Str} {mean : ExcName → Option Value} {mg mb : Str → Option Value} {f nd nu : Nat} {news : List (Addr × Obj)} {pre : Prop} {vs : List Value}
  {dp un : Nat} {gd : Option (List Code)} {cn : Str} {cs : Scope} {a : Addr} {ccd : Value} {cl : List (Str × Addr)} {outer : List Env} {A₀ : Around} {base h₀ : Heap} {L : Addr} {m : Str → Option Value} {s : Shared} {Q E : Value → Shared → Prop}
theorem useV {R : Tok → Value} (C : ClaimV w p loose mean mg mb f nd nu news pre vs R) (B : Below A₀ base outer h₀) (F : Fr h₀ L s.heap m) (X : (hd.heap_39 w.params).In h₀) (N : News h₀ L s.heap news) (T : Top p loose mean mg mb h₀) (hk : cs.kind = .function)
    (hp : pre) (h1 : dp + nd < recursionLimit) (h2 : un + nu < cLine) (ret : ∀ (t : Tok) (h' : Heap) (tk' : Nat), Fr h₀ L h' m → News h₀ L h' news → Q (R t) { s with heap := h', toks := tk' }) :
    wpAny (model (RowW.prog (OpenRow.toRowW (OpenLaw.row PySem.Challenge.rw_pe0204_01))) w) (ktrTop dp un gd cn cs L a ccd cl outer) (call (.ref f) vs) Q E s :=
  C _ _ _ _ _ _ _ _ _ _ _ _ _ _ _ _ _ B F X N T hk hp h1 h2 ret
theorem useO {Out : Value → List (Addr × Obj) → Prop} (C : ClaimO w p loose mean mg mb f nd nu news pre vs Out) (B : Below A₀ base outer h₀) (F : Fr h₀ L s.heap m) (X : (hd.heap_39 w.params).In h₀) (N : News h₀ L s.heap news) (T : Top p loose mean mg mb h₀) (hk : cs.kind = .function)
    (hp : pre) (h1 : dp + nd < recursionLimit) (h2 : un + nu < cLine)
    (ret : ∀ (r : Value) (tl : List (Addr × Obj)) (h' : Heap) (tk' : Nat), Fr h₀ L h' m → News h₀ L h' (tl ++ news) → (∀ p ∈ tl, ∀ q ∈ news, q.1 < p.1) → Out r tl → Q r { s with heap := h', toks := tk' }) :
    wpAny (model (RowW.prog (OpenRow.toRowW (OpenLaw.row PySem.Challenge.rw_pe0204_01))) w) (ktrTop dp un gd cn cs L a ccd cl outer) (call (.ref f) vs) Q E s :=
  C _ _ _ _ _ _ _ _ _ _ _ _ _ _ _ _ _ B F X N T hk hp h1 h2 ret
end
end Mine
end
section
open PySem PySem.W PyProof.Rows PySem.Calls
set_option Elab.async false
namespace Mine
section
variable {prog : Program} {w : World} {A A₀ : Around} {s : Shared} {K : Frag} {L : Addr} {h₀ base : Heap} {m mg mb : Str → Option Value} {p : Program} {loose : List Str} {mean : ExcName → Option Value}
/-- a def entered with an empty ledger: whatever stood before the call is the frame's base -/
theorem code_def0 {env : Env} {outer : List Env} {R : Result → Shared → Prop} {name qual : Str} {params : Arguments} {body : List Stmt} {scope : Scope} {dV kV doc pm cdv ct oc : Value} {an od : Option Addr} {osl : Array (Option Value)} {f : Addr} {args : Args} {binds : List (Str × Value)}
    (B : Below A₀ base outer h₀) (F : Fr h₀ L s.heap m) (X₀ : K.In h₀) (T : Top p loose mean mg mb h₀) (hA : A.frames = some (env :: outer)) (hf : env.frame = some L) (hke : env.scope.kind = .function)
    (ho : K.lookup f = some ⟨oc, od, .func (fnOf name qual params body scope dV kV doc pm an cdv ct), osl⟩) (hcd : codeIn K cdv qual = true) (hroom : A.depth < recursionLimit)
    (hbind : BindsTo s (fnOf name qual params body scope dV kV doc pm an cdv ct) args binds) (hloc : ∀ y ∈ binds, scope.names.lookup y.1 = some .local)
    (h : ∀ L' h₁, s.heap.objs.size = L' → Fr s.heap L' h₁ (fun y => binds.reverse.lookup y) → News s.heap L' h₁ [] → Below A base (env :: outer) s.heap → K.In s.heap → Top p loose mean mg mb s.heap →
      wpAny (model prog w) (A.deeper (envOf qual scope L' f cdv)) (execs body (envOf qual scope L' f cdv))
        (fun fl s' => LeaveK h₀ L m s.heap (fun r s' => (∀ b o, s.heap.get? b = some o → s'.heap.get? b = some o) → R r s') (match fl with | .ret v => v | _ => .none) s')
        (fun e s' => wpAny (model prog w) (A.deeper (envOf qual scope L' f cdv)) (leaving (envOf qual scope L' f cdv) e) (fun _ s'' => R (.error e) s'') (fun e' s'' => R (.error e') s'') s')
        { s with heap := h₁, toks := s.toks + binds.length })
    (hco : scope.isCoroutine = false) (hgen : scope.isGenerator = false) (hk : scope.kind = .function)
    (hcell : ∀ x ∈ scope.names, x.2 ≠ .cell) : codeAny (model prog w) A (.call (.ref f) args) R s := by
  have X := X₀.keeps F.keep
  refine codeAny_call_def (fd := fnOf name qual params body scope dV kV doc pm an cdv ct) (body := body) (binds := binds) hroom (X _ _ ho) rfl (T.nolimit.keeps F.keep) (codeRec_of X hcd) rfl hbind hcell hloc (fun h₁ hns hk₁ => ?_) hco hgen hk
  have hnew : base.get? L = none := by
    cases hq : base.get? L with
    | none => rfl
    | some o => exact absurd (Nat.lt_of_lt_of_le (Heap.lt_size (B.stays L o hq)) F.above) (Nat.lt_irrefl _)
  have B' : Below A base (env :: outer) s.heap := ⟨hA, fun b o e => F.keep b o (B.stays b o e), .cons (by rw [hke]; decide) hf F.ns hnew (B.frames.of_keeps fun b o e _ => ⟨o, F.keep b o e, rfl⟩)⟩
  refine wpAny_mono (h s.heap.objs.size h₁ rfl ⟨hns, hk₁, Nat.le_refl _⟩ News.nil B' X (T.keeps F.keep)) (fun fl s' hl => ?_) fun _ _ y => y
  obtain ⟨L', m', news', F', N', k⟩ := hl
  refine k (F.grownK F'.keep) (fun q hq => ⟨(N' q hq).1, fun e => ?_, ?_⟩) F'.keep
  · have := (N' q hq).2.2
    obtain ⟨o, _, _, e', _⟩ := F.ns
    rw [e, e'] at this; cases this
  · cases e : h₀.get? q.1 with
    | none => rfl
    | some o => have := (N' q hq).2.2; rw [F.keep _ _ e] at this; cases this
end
section
variable {h₀ h' : Heap} {L : Addr} {m : Str → Option Value} {news : List (Addr × Obj)} {s : Shared} {Q : Value → Shared → Prop} {R : Tok → Value} {tk : Nat}
theorem endV (hret : ∀ (t : Tok) (h' : Heap) (tk' : Nat), Fr h₀ L h' m → News h₀ L h' news → Q (R t) { s with heap := h', toks := tk' }) (N : News h₀ L s.heap news) (F : Fr h₀ L h' m) (st : ∀ b o, s.heap.get? b = some o → h'.get? b = some o) (t : Tok) {v : Value} (e : v = R t) :
    Q v { s with heap := h', toks := tk } := by subst e; exact hret t h' tk F (N.grown st)
end
end Mine
end
section
open PySem PySem.W PyProof.Rows PySem.Calls PySem.Spec
set_option Elab.async false
set_option maxRecDepth 100000
namespace Mine
/-- what stood before the call and is not on the call's own ledger stands behind it as it was -/
abbrev Still (own : List (Addr × Obj)) (h h' : Heap) : Prop := ∀ b o, b ∉ own.map (·.1) → h.get? b = some o → h'.get? b = some o
section
variable {prog : Program} {w : World} {A₀ A : Around} {s : Shared} {base h₀ : Heap} {outer : List Env} {L : Addr} {m mg mb : Str → Option Value} {env : Env} {own : List (Addr × Obj)} {K : Frag} {p : Program} {loose : List Str} {mean : ExcName → Option Value}
  {R : Result → Shared → Prop} {name qual : Str} {params : Arguments} {body : List Stmt} {scope : Scope} {dV kV doc pm cdv ct oc : Value} {an od : Option Addr} {osl : Array (Option Value)} {f : Addr} {args : Args} {binds : List (Str × Value)}
/-- a def entered with the ledger «own» alone; all else stands in the frame's base -/
theorem code_defS (B : Below A₀ base outer h₀) (F : Fr h₀ L s.heap m) (X₀ : K.In h₀) (N : News h₀ L s.heap own) (T : Top p loose mean mg mb h₀) (hA : A.frames = some (env :: outer)) (hf : env.frame = some L) (hke : env.scope.kind = .function)
    (ho : K.lookup f = some ⟨oc, od, .func (fnOf name qual params body scope dV kV doc pm an cdv ct), osl⟩) (hcd : codeIn K cdv qual = true) (hroom : A.depth < recursionLimit)
    (hbind : BindsTo s (fnOf name qual params body scope dV kV doc pm an cdv ct) args binds) (hloc : ∀ y ∈ binds, scope.names.lookup y.1 = some .local)
    (h : ∀ g L' h₁, Fr h₀ L g m → Fr g L' h₁ (fun y => binds.reverse.lookup y) → News g L' h₁ own → Below A base (env :: outer) g → K.In g → Top p loose mean mg mb g → Still own s.heap g →
      wpAny (model prog w) (A.deeper (envOf qual scope L' f cdv)) (execs body (envOf qual scope L' f cdv))
        (fun fl s' => LeaveK h₀ L m g (fun r s' => Still own s.heap s'.heap → R r s') (match fl with | .ret v => v | _ => .none) s')
        (fun e s' => wpAny (model prog w) (A.deeper (envOf qual scope L' f cdv)) (leaving (envOf qual scope L' f cdv) e) (fun _ s'' => R (.error e) s'') (fun e' s'' => R (.error e') s'') s')
        { s with heap := h₁, toks := s.toks + binds.length })
    (hco : scope.isCoroutine = false) (hgen : scope.isGenerator = false) (hk : scope.kind = .function)
    (hcell : ∀ x ∈ scope.names, x.2 ≠ .cell) : codeAny (model prog w) A (.call (.ref f) args) R s := by
  obtain ⟨FG, BG, st, lv⟩ := groundX (R := fun r s' => Still own s.heap s'.heap → R r s') B F N hA hf hke
  have X := X₀.keeps F.keep
  refine codeAny_call_def (fd := fnOf name qual params body scope dV kV doc pm an cdv ct) (body := body) (binds := binds) hroom (X _ _ ho) rfl (T.nolimit.keeps F.keep) (codeRec_of X hcd) rfl hbind hcell hloc (fun h₁ hns hk₁ => ?_) hco hgen hk
  have sg : Still own s.heap (hideAll s.heap (own.map (·.1))) := fun b o hb e => hideAll_get _ e hb
  refine wpAny_mono (h _ s.heap.objs.size h₁ FG ⟨hns, fun b o e => hk₁ b o (of_hideAll _ e), Nat.le_of_eq (hideAll_size _ _)⟩
    (fun q hq => ⟨hk₁ _ _ (N q hq).1, Nat.ne_of_lt (Heap.lt_size (N q hq).1), hideAll_none _ (List.mem_map_of_mem hq)⟩) BG (X₀.keeps st) (T.keeps st) sg) (fun fl s' hl => ?_) fun _ _ y => y
  obtain ⟨L', m', news', F', _⟩ := id hl
  exact lv _ _ hl fun b o hb e => F'.keep b o (sg b o hb e)
theorem code_defCS (B : Below A₀ base outer h₀) (F : Fr h₀ L s.heap m) (X₀ : K.In h₀) (N : News h₀ L s.heap own) (T : Top p loose mean mg mb h₀) (hA : A.frames = some (env :: outer)) (hf : env.frame = some L) (hke : env.scope.kind = .function)
    (ho : K.lookup f = some ⟨oc, od, .func (fnOf name qual params body scope dV kV doc pm an cdv ct), osl⟩) (hcd : codeIn K cdv qual = true) (hroom : A.depth < recursionLimit)
    (hbind : BindsTo s (fnOf name qual params body scope dV kV doc pm an cdv ct) args binds) (hkind : (binds.all fun y => scope.names.lookup y.1 == some .local || scope.names.lookup y.1 == some .cell) = true)
    (hnd : ((cellsFrom 0 scope.names []).map (·.1)).Nodup)
    (h : ∀ g L' h₁ tk cells, Fr h₀ L g m → Fr g L' h₁ (bindL (envOfC qual scope L' f cdv).kindOf binds fun _ => none) → News g L' h₁ (cells ++ own) →
      CellsAre (bindC (envOfC qual scope L' f cdv).kindOf binds fun _ => none) (cellsFrom (L' + 1) scope.names []) cells → Below A base (env :: outer) g → K.In g → Top p loose mean mg mb g → (∀ p ∈ own, p.1 < L') → Still own s.heap g →
      wpAny (model prog w) (A.deeper (envOfC qual scope L' f cdv)) (execs body (envOfC qual scope L' f cdv))
        (fun fl s' => LeaveK h₀ L m g (fun r s' => Still own s.heap s'.heap → R r s') (match fl with | .ret v => v | _ => .none) s')
        (fun e s' => wpAny (model prog w) (A.deeper (envOfC qual scope L' f cdv)) (leaving (envOfC qual scope L' f cdv) e) (fun _ s'' => R (.error e) s'') (fun e' s'' => R (.error e') s'') s')
        { s with heap := h₁, toks := tk })
    (hco : scope.isCoroutine = false) (hgen : scope.isGenerator = false) (hk : scope.kind = .function) : codeAny (model prog w) A (.call (.ref f) args) R s := by
  obtain ⟨FG, BG, st, lv⟩ := groundX (R := fun r s' => Still own s.heap s'.heap → R r s') B F N hA hf hke
  have X := X₀.keeps F.keep
  have sg : Still own s.heap (hideAll s.heap (own.map (·.1))) := fun b o hb e => hideAll_get _ e hb
  refine codeAny_call_function hroom (X _ _ ho) rfl hco hgen rfl (codeRec_of X hcd) (hbind _ _ _ _ ?_)
  refine wpAny_newFunctionEnv_cells hk (kindsX hkind _) fun env' he s' x => ?_
  subst he
  refine ⟨(T.nolimit.keeps F.keep).keeps x.toInCall.keep, codeAny_func ?_⟩
  obtain ⟨h₁, tk, rfl, _⟩ := x.done
  have hk₁ := x.toInCall.keep
  obtain ⟨cells, NC, Y⟩ := Cl.news (h₀ := s.heap) (Nat.le_refl _) fun n c hm => ⟨x.cell n c (lookup_of_mem_nodup (cellsFrom_names scope.names 0 (s.heap.objs.size + 1) [] [] rfl ▸ hnd) hm), x.above n c hm⟩
  refine wpAny_mono (h _ s.heap.objs.size h₁ tk cells FG ⟨x.toInCall.ns, fun b o e => hk₁ b o (of_hideAll _ e), Nat.le_of_eq (hideAll_size _ _)⟩ (fun q hq => ?_) Y BG (X₀.keeps st) (T.keeps st) (fun q hq => Heap.lt_size (N q hq).1) sg) (fun fl s' hl => ?_) fun _ _ y => y
  · rcases List.mem_append.mp hq with hq | hq
    · refine ⟨(NC q hq).1, (NC q hq).2.1, ?_⟩
      cases e : (hideAll s.heap (own.map (·.1))).get? q.1 with
      | none => rfl
      | some o => have := of_hideAll _ e; rw [(NC q hq).2.2] at this; cases this
    · exact ⟨hk₁ _ _ (N q hq).1, Nat.ne_of_lt (Heap.lt_size (N q hq).1), hideAll_none _ (List.mem_map_of_mem hq)⟩
  · obtain ⟨L', m', news', F', _⟩ := id hl
    exact lv _ _ hl fun b o hb e => F'.keep b o (sg b o hb e)
end
end Mine
end
section
open PySem PySem.W PyProof.Rows
set_option Elab.async false
namespace Mine
def wtL (light : Int) (l : List Int) : Int := l.foldl (fun a c => a * (if c = 120 then light else 5 - light)) 1
def wt (light : Int) (text : Str) : Int := wtL light (KStt.codes text)
theorem x_is : PySem.Str.ofString "x" = Str.mk #[120] := by decide +kernel
theorem wt_x {light v : Int} {l : List Int} {n : Nat} (h : v = wtL light l) (e : (Str.mk #[n] == PySem.Str.ofString "x") = true) : v * light = wtL light (l ++ [(n : Int)]) := by
  have := beq_iff_eq.mp e
  rw [x_is] at this
  injection this with e1
  have e2 : n = 120 := by simpa using e1
  subst e2
  subst h
  simp [wtL]
theorem wt_o {light v : Int} {l : List Int} {n : Nat} (h : v = wtL light l) (e : (Str.mk #[n] == PySem.Str.ofString "x") = false) : v * (5 - light) = wtL light (l ++ [(n : Int)]) := by
  have hn : n ≠ 120 := fun q => by subst q; rw [x_is] at e; simp at e
  have hn' : (n : Int) ≠ 120 := by omega
  subst h
  simp [wtL, hn']
set_option maxRecDepth 100000 in
set_option maxHeartbeats 8000000 in
theorem weight_c (w : World) (p : Program) (loose : List Str) (mean : ExcName → Option Value) (mg mb : Str → Option Value) (text : Str) (t : Tok) (light : Int) (t2 : Tok) (news : List (Addr × Obj)) :
   ClaimV w p loose mean mg mb 89 1 8 news (0 ≤ light ∧ light ≤ 5) [.str text t, .int light t2] (fun t => .int (wt light text) t) := by
  unfold ClaimV
  k_fill
  w_on
  k_with_none
  k_with "pyIter str" => k_state (fun pre a => a = wtL light pre) "weight"
  k_with "state" => first | exact wt_x (by assumption) (by assumption) | exact wt_o (by assumption) (by assumption)
  intros
  rename_i hret
  refine wpAny_call ?_
  k_dflt cell_enter
  k_steps
  exact cb_retI hret (by assumption) (by assumption) (by assumption)
end Mine
end
section
open PySem PySem.W PyProof.Rows
set_option Elab.async false
namespace Mine
theorem wtL_bound {light : Int} (h : 0 ≤ light ∧ light ≤ 5) (l : List Int) : ∀ a : Int, 0 ≤ a → 0 ≤ l.foldl (fun a c => a * (if c = 120 then light else 5 - light)) a ∧ l.foldl (fun a c => a * (if c = 120 then light else 5 - light)) a ≤ a * 5 ^ l.length := by
  induction l with
  | nil => intro a ha; simp [ha]
  | cons c l ih =>
    intro a ha
    simp only [List.foldl_cons, List.length_cons]
    have hx : 0 ≤ (if c = 120 then light else 5 - light) ∧ (if c = 120 then light else 5 - light) ≤ 5 := by split <;> omega
    generalize (if c = 120 then light else 5 - light) = x at hx
    have h0 : 0 ≤ a * x := Int.mul_nonneg ha hx.1
    obtain ⟨h1, h2⟩ := ih _ h0
    refine ⟨h1, Int.le_trans h2 ?_⟩
    rw [Int.pow_succ, Int.mul_comm _ 5, ← Int.mul_assoc]
    exact Int.mul_le_mul_of_nonneg_right (Int.mul_le_mul_of_nonneg_left hx.2 ha) (Int.pow_nonneg (by decide))
theorem wt_bound {light : Int} (h : 0 ≤ light ∧ light ≤ 5) (s : Str) (hs : s.length ≤ 3) : 0 ≤ wt light s ∧ wt light s ≤ 125 := by
  obtain ⟨h1, h2⟩ := wtL_bound h (KStt.codes s) 1 (by decide)
  refine ⟨h1, Int.le_trans h2 ?_⟩
  rw [KStt.codes_length]
  have : s.length = 0 ∨ s.length = 1 ∨ s.length = 2 ∨ s.length = 3 := by omega
  rcases this with e | e | e | e <;> rw [e] <;> decide
theorem mul_ok_fac {light : Int} {s : Str} {c : Int} (h : 0 ≤ light ∧ light ≤ 5) (hs : s.length ≤ 3) : IntMulOk ((16384 - 5) * wt light s) c := by
  obtain ⟨h1, h2⟩ := wt_bound h s hs
  exact IntMulOk.of_left (intBits_le_64 (by omega) (by omega))
def facStep (light : Int) (text : Str) (a k : Int) : Int :=
  if (Txt.slice text (some k) none == Txt.slice text none (some ((text.length : Int) - k))) = true then a + (16384 - 5) * wt light (Txt.slice text (some ((text.length : Int) - k)) none) * 16384 ^ ((text.length : Int) - 1 - k).toNat else a
def facL (light : Int) (text : Str) (l : List Int) : Int := l.foldl (facStep light text) (wt light text)
def fac (light : Int) (text : Str) : Int := facL light text (rangeKs 0 (Int.toNat ((text.length : Int) - 0)))
theorem fac_0 {light : Int} {text : Str} : wt light text = facL light text [] := by simp only [facL, List.foldl_nil]
theorem fac_y {light v k : Int} {text : Str} {l : List Int} (h : v = facL light text l) (e : (Txt.slice text (some k) none == Txt.slice text none (some ((text.length : Int) - k))) = true) :
    v + (16384 - 5) * wt light (Txt.slice text (some ((text.length : Int) - k)) none) * 16384 ^ ((text.length : Int) - 1 - k).toNat = facL light text (l ++ [k]) := by
  subst h; simp only [facL, List.foldl_append, List.foldl_cons, List.foldl_nil, facStep, if_pos e]
theorem fac_n {light v k : Int} {text : Str} {l : List Int} (h : v = facL light text l) (e : (Txt.slice text (some k) none == Txt.slice text none (some ((text.length : Int) - k))) = false) : v = facL light text (l ++ [k]) := by
  subst h
  have e' : ¬ (Txt.slice text (some k) none == Txt.slice text none (some ((text.length : Int) - k))) = true := by rw [e]; decide
  simp only [facL, List.foldl_append, List.foldl_cons, List.foldl_nil, facStep, if_neg e']
set_option maxRecDepth 100000 in
set_option maxHeartbeats 8000000 in
theorem factor_c (w : World) (p : Program) (loose : List Str) (mean : ExcName → Option Value) (mg mb : Str → Option Value) (text : Str) (t : Tok) (light : Int) (t2 : Tok) (b : Int) (t3 : Tok) (news : List (Addr × Obj)) :
   ClaimV w p loose mean mg mb 96 2 16 news ((0 ≤ light ∧ light ≤ 5) ∧ text.length ≤ 3 ∧ b = 16384) [.str text t, .int light t2, .int b t3] (fun t => .int (fac light text) t) := by
  unfold ClaimV
  k_fill
  w_on
  k_with_none
  k_with "call ref!" => ((k_here; (with_reducible show wpAny _ _ (call (Value.ref 89) _ _) _ _ _); k_dflt (
  refine' useV (weight_c _ _ _ _ _ _ _ _ _ _ _) ?k1 ?k2 ?k3 ?k4 ?k5 ?kK ?kp ?kd ?ku ?_
  (case k1 => k_asm)
  (case k2 => k_asm)
  (case k3 => k_asm)
  (case k4 => k_asm)
  (case k5 => k_asm)
  (case kK => first | exact rfl | assumption)
  (case kp => first | assumption | omega)
  (case kd => ktr_room)
  (case ku => ktr_units)
  intro t9 h9 tk9 F9 N9
  (try dsimp only)
  (try k_fold))))
  k_with "mul_fits!" => (exact mul_ok_fac (by assumption) (by omega))
  k_with "pyIter ref" => k_state (fun pre a => a = facL light text pre) "factor"
  k_with "state" => first | exact fac_0 | exact fac_y (by assumption) (by assumption) | exact fac_n (by assumption) (by assumption)
  intros
  rename_i hpre _ _ hret
  obtain ⟨hli, hlen, rfl⟩ := hpre
  refine wpAny_call ?_
  k_dflt cell_enter
  k_steps
  exact cb_retI hret (by assumption) (by assumption) (by assumption)
end Mine
end
section
open PySem PySem.W PyProof.Rows
set_option Elab.async false
namespace Mine
section
open LCg
theorem compRest_ind {prog : Program} {w : World} {A : Around} {h₀ : Heap} {L : Addr} {m : Str → Option Value} {env : Env} {elt : PySem.Expr} {x : Str} {scope : Scope} {cl : List (Str × Addr)} {s : Shared} {S : List (Addr × Obj) → Prop} {P : Nat → Value → Prop}
    {Fin : List Value → List (Addr × Obj) → Prop} {news : List (Addr × Obj)} (J : Nat → List Value → Prop) (n : Nat) (h0 : J 0 []) (hfin : ∀ ys, J n ys → Fin ys news)
    (step : ∀ i ys, i < n → J i ys → ∀ v I oI C oC D m₂ h tk (E' : Value → Shared → Prop), P i v → NsObj oC m₂ → m₂ x = some v → Fr h₀ L h m → News h₀ L h ((I, oI) :: (C, oC) :: (D, lst ys) :: news) → Off3 I C D news → ((@Ne Nat I C) ∧ (@Ne Nat I D) ∧ (@Ne Nat C D)) →
      wpAny (model prog w) A (eval elt (compEnvC scope cl C env)) (CompEnd h₀ L m { s with heap := h, toks := tk } I oI C oC D (lst ys) S (fun y news' => news' = news ∧ J (i + 1) (ys ++ [y]))) E' { s with heap := h, toks := tk }) :
    CompRest prog w A h₀ L m env elt x scope cl s S P Fin n 0 [] news := by
  have all : ∀ k i ys, i + k = n → J i ys → CompRest prog w A h₀ L m env elt x scope cl s S P Fin k i ys news := by
    intro k
    induction k with
    | zero => intro i ys hi hj; exact hfin ys (by rw [← hi]; exact hj)
    | succ k ih =>
      intro i ys hi hj
      refine CompRest.succ fun v I oI C oC D m₂ h tk E' hv hC hx F N off ne => wpAny_mono (step i ys (by omega) hj v I oI C oC D m₂ h tk E' hv hC hx F N off ne) (fun y s' hy => ?_) fun _ _ e => e
      obtain ⟨h', tk', news', e, F', N', off', hS, rfl, hJ⟩ := hy
      exact ⟨h', tk', news', e, F', N', off', hS, ih (i + 1) _ (by omega) hJ⟩
  exact all n 0 [] (by omega) h0
theorem compEnd_same {h₀ : Heap} {L I C D : Addr} {m : Str → Option Value} {s₁ : Shared} {oI oC oD : Obj} {S : List (Addr × Obj) → Prop} {rest : Value → List (Addr × Obj) → Prop} {y : Value} {h' : Heap} {tk : Nat} {news' : List (Addr × Obj)}
    (F : Fr h₀ L h' m) (N : News h₀ L h' ((I, oI) :: (C, oC) :: (D, oD) :: news')) (off : Off3 I C D news') (hS : S news') (r : rest y news') :
    CompEnd h₀ L m s₁ I oI C oC D oD S rest y { s₁ with heap := h', toks := tk } := ⟨h', tk, news', rfl, F, N, off, hS, r⟩
end
section
variable {prog : Program} {w : World} {A : Around} {E : Value → Shared → Prop} {s : Shared} {a k : Int} {t u : Tok} {Q : Value → Shared → Prop}
theorem pow2_small (h0 : 0 ≤ k) (h3 : k ≤ 2) (h : Q (.int (2 ^ k.toNat) s.toks) { s with toks := s.toks + 1 }) : wpAny (model prog w) A (binaryOp .Pow (.int 2 t) (.int k u)) Q E s := by
  refine pow_int h0 ?_ h
  have : Builtin.Int.intBits 2 = 2 := by decide +kernel
  rw [this]
  omega
theorem div2_small (h0 : 0 ≤ k) (h3 : k ≤ 2) (h : Q (.int (a.fdiv (2 ^ k.toNat)) s.toks) { s with toks := s.toks + 1 }) : wpAny (model prog w) A (binaryOp .FloorDiv (.int a t) (.int (2 ^ k.toNat) u)) Q E s := by
  have hk : k = 0 ∨ k = 1 ∨ k = 2 := by omega
  refine floordiv_int ?_ h (.inl (PyProof.noPylong_small ?_)) <;> rcases hk with rfl | rfl | rfl <;> decide
end
def bitLetter (n most : Int) (k : Nat) : Str := Txt.item (PySem.Str.ofString "xo") (Int.fmod (Int.fdiv (Int.fdiv n most) (2 ^ (0 + (k : Int)).toNat)) 2)
def wordOf (n most : Int) : Str := Txt.join (PySem.Str.ofString "") ((List.range (1 + Int.fmod n most).toNat).map (bitLetter n most))
theorem bitLetter_len (n most : Int) (k : Nat) : (bitLetter n most k).length = 1 := by unfold bitLetter Txt.item; rfl
theorem bit_snoc {n most : Int} {i : Nat} {ys : List Value} (h : StrsAre ys ((List.range i).map (bitLetter n most))) (t : Tok) : StrsAre (ys ++ [.str (bitLetter n most i) t]) ((List.range (i + 1)).map (bitLetter n most)) := by
  rw [List.range_succ, List.map_append]
  exact StrsAre.append' h (.cons _ _ .nil)
theorem join_step {prog : Program} {w : World} {A : Around} {E : Value → Shared → Prop} {s : Shared} {h₀ : Heap} {L D : Addr} {ys : List Value} {news : List (Addr × Obj)} {t : Tok} {n most : Int} {k : Nat} {Q : Value → Shared → Prop}
    (N : News h₀ L s.heap ((D, LCg.lst ys) :: news)) (hi : StrsAre ys ((List.range k).map (bitLetter n most))) (hk : k ≤ 3)
    (h : ∀ t' tk, Q (.str (Txt.join (PySem.Str.ofString "") ((List.range k).map (bitLetter n most))) t') { s with toks := tk }) :
    wpAny (model prog w) A (call (.builtin "str.join") ([.str (PySem.Str.ofString "") t] ++ [.ref D])) Q E s := by
  refine join_list (items := ys.toArray) ⟨_, (N _ (.head _)).1, rfl, _, rfl⟩ hi ?_ h
  rw [sumLen_of_ones _ (fun a ha => by obtain ⟨b, _, rfl⟩ := List.mem_map.mp ha; exact bitLetter_len n most b), List.length_map, List.length_range]
  have e0 : (PySem.Str.ofString "").length = 0 := by decide +kernel
  rw [e0]
  omega
set_option maxRecDepth 100000 in
set_option maxHeartbeats 300000 in
theorem word_c (w : World) (p : Program) (loose : List Str) (mean : ExcName → Option Value) (mg mb : Str → Option Value) (n : Int) (t : Tok) (most : Int) (t2 : Tok) (news : List (Addr × Obj)) :
   ClaimV w p loose mean mg mb 82 2 16 news (2 ≤ most ∧ most ≤ 3) [.int n t, .int most t2] (fun t => .str (wordOf n most) t) := by
  unfold ClaimV
  k_fill
  w_on
  k_with_none
  k_with "CompSrc!" => (k_extra "src")
  k_with "binaryOp Pow int int!" => ((with_reducible refine pow2_small (by omega) (by omega) ?_))
  k_with "binaryOp FloorDiv int int!" => ((with_reducible refine div2_small (by omega) (by omega) ?_))
  k_with "call builtin:str.join!" => ((k_here; k_dflt (refine join_step (by k_asm) (by assumption) (by omega) ?_; intro t9 tk9)))
  k_with "src" => k_here; k_dflt (refine LCg.CompSrc.range (n := (1 + Int.fmod n most).toNat) (by rfl) (by k_asm) (by k_asm) (by assumption) ?ra ?rb ?rc ?_)
  intros
  rename_i hpre _ _ hret
  have hm0 : 0 ≤ Int.fmod n most ∧ Int.fmod n most < most := ⟨Int.fmod_nonneg_of_pos _ (by omega), Int.fmod_lt_of_pos _ (by omega)⟩
  refine wpAny_call ?_
  k_dflt (refine' code_defC ?k1 ?k2 ?k3 ?k4 ?k5 ?kA ?kF ?kK ?k6 ?k7 ?k8 ?k9 ?kB ?kD ?_ ?c2 ?c3 ?c4; (case kA => exact rfl); (case kF => exact rfl); (case kK => assumption); (case k1 => k_asm); (case k2 => k_asm); (case k3 => k_asm); (case k4 => k_asm); (case k5 => k_asm); (case k6 => k_is); (case k7 => k_is); (case k8 => ktr_room); (case k9 => first | exact BindsTo.of_eq rfl); (case kB => exact rfl); (case kD => decide +kernel); (case c2 => exact rfl); (case c3 => exact rfl); (case c4 => exact rfl); k_whole; intro g' L' h' tk' cells' FG' F' N' Y' B' X' T' l1; (try k_lt l1); k_cells Y'; (try simp only [List.cons_append, List.nil_append] at N'); (try dsimp only); (try k_lift B'); (try k_fold))
  k_steps
  · have : Int.fmod n most = 0 ∨ Int.fmod n most = 1 ∨ Int.fmod n most = 2 := by omega
    rcases this with e | e | e <;> rw [e] <;> decide
  · have : Int.fmod n most = 0 ∨ Int.fmod n most = 1 ∨ Int.fmod n most = 2 := by omega
    rcases this with e | e | e <;> rw [e] <;> decide
  · rw [sizeLine_eq]; omega
  refine compRest_ind (fun i ys => StrsAre ys ((List.range i).map (bitLetter n most))) _ ?_ ?_ ?_
  · exact .nil
  · intro ys hys
    k_steps
    exact cb_retS hret rfl (by assumption) (cb_drop (by assumption) (fun _ h => .tail _ (.tail _ (.tail _ h))))
  · intro i ys hi hys v I oI C oC D m₂ h tk E' hv hC hx F N off ne
    obtain ⟨t9, rfl⟩ := hv
    k_steps
    exact compEnd_same F N off trivial ⟨rfl, bit_snoc hys _⟩
end Mine
end
section
open PySem PySem.W PyProof.Rows
set_option Elab.async false
namespace Mine
abbrev tup3 (x y z : UInt64) (t1 t2 t3 : Tok) : Obj := { cls := .type "tuple", data := .seq #[.float x t1, .float y t2, .float z t3] }
def Out3 (c : UInt64 × UInt64 × UInt64) (r : Value) (tl : List (Addr × Obj)) : Prop := ∃ a t1 t2 t3, r = .ref a ∧ tl = [(a, tup3 c.1 c.2.1 c.2.2 t1 t2 t3)]
theorem end3 {h₀ h' : Heap} {L D : Addr} {m : Str → Option Value} {news : List (Addr × Obj)} {s : Shared} {tk : Nat} {Q : Value → Shared → Prop} {c : UInt64 × UInt64 × UInt64} {x y z : UInt64} {t1 t2 t3 : Tok}
    (hret : ∀ (r : Value) (tl : List (Addr × Obj)) (h' : Heap) (tk' : Nat), Fr h₀ L h' m → News h₀ L h' (tl ++ news) → (∀ p ∈ tl, ∀ q ∈ news, q.1 < p.1) → Out3 c r tl → Q r { s with heap := h', toks := tk' })
    (F : Fr h₀ L h' m) (N : News h₀ L h' ((D, tup3 x y z t1 t2 t3) :: news)) (l1 : ∀ p ∈ news, p.1 < D) (e : c = (x, y, z)) : Q (.ref D) { s with heap := h', toks := tk } := by
  subst e
  exact hret _ [_] _ _ F N (fun p hp q hq => by rw [List.mem_singleton.mp hp]; exact l1 q hq) ⟨_, _, _, _, rfl, rfl⟩
def hsvI (h : UInt64) : Int := Flt.toInt Float64.truncOf (Float64.mul h 4618441417868443648)
def hsvF (h : UInt64) : UInt64 := Float64.sub (Float64.mul h 4618441417868443648) (Float64.ofInt (hsvI h))
def hsvP (s v : UInt64) : UInt64 := Float64.mul v (Float64.sub 4607182418800017408 s)
def hsvQ (h s v : UInt64) : UInt64 := Float64.mul v (Float64.sub 4607182418800017408 (Float64.mul s (hsvF h)))
def hsvU (h s v : UInt64) : UInt64 := Float64.mul v (Float64.sub 4607182418800017408 (Float64.mul s (Float64.sub 4607182418800017408 (hsvF h))))
def hsvT (h s v : UInt64) : UInt64 × UInt64 × UInt64 :=
  if Int.fmod (hsvI h) 6 = 0 then (v, hsvU h s v, hsvP s v) else if Int.fmod (hsvI h) 6 = 1 then (hsvQ h s v, v, hsvP s v) else if Int.fmod (hsvI h) 6 = 2 then (hsvP s v, v, hsvU h s v)
  else if Int.fmod (hsvI h) 6 = 3 then (hsvP s v, hsvQ h s v, v) else if Int.fmod (hsvI h) 6 = 4 then (hsvU h s v, hsvP s v, v) else (v, hsvP s v, hsvQ h s v)
/-- what keeps hsv_to_rgb from raising and off its grey arm -/
structure HsvOk (h s : UInt64) : Prop where
  colour : (Float64.cmp s 0 == some Ordering.eq) = false
  nan : Float64.isNaN (Float64.mul h 4618441417868443648) = false
  inf : Float64.isInf (Float64.mul h 4618441417868443648) = false
  small : ¬ 2 ^ 1024 - 2 ^ 970 ≤ Int.natAbs (hsvI h)
theorem fmod6 (x : Int) (h0 : Int.fmod x 6 ≠ 0) (h1 : Int.fmod x 6 ≠ 1) (h2 : Int.fmod x 6 ≠ 2) (h3 : Int.fmod x 6 ≠ 3) (h4 : Int.fmod x 6 ≠ 4) (h5 : Int.fmod x 6 ≠ 5) : False := by
  have a := Int.fmod_nonneg_of_pos x (b := 6) (by decide)
  have b := Int.fmod_lt_of_pos x (b := 6) (by decide)
  omega
section
variable {h s v : UInt64}
theorem hsv0 (e : Int.fmod (hsvI h) 6 = 0) : hsvT h s v = (v, hsvU h s v, hsvP s v) := by unfold hsvT; rw [if_pos e]
theorem hsv1 (e : Int.fmod (hsvI h) 6 = 1) : hsvT h s v = (hsvQ h s v, v, hsvP s v) := by unfold hsvT; rw [e]; rfl
theorem hsv2 (e : Int.fmod (hsvI h) 6 = 2) : hsvT h s v = (hsvP s v, v, hsvU h s v) := by unfold hsvT; rw [e]; rfl
theorem hsv3 (e : Int.fmod (hsvI h) 6 = 3) : hsvT h s v = (hsvP s v, hsvQ h s v, v) := by unfold hsvT; rw [e]; rfl
theorem hsv4 (e : Int.fmod (hsvI h) 6 = 4) : hsvT h s v = (hsvU h s v, hsvP s v, v) := by unfold hsvT; rw [e]; rfl
theorem hsv5 (e : Int.fmod (hsvI h) 6 = 5) : hsvT h s v = (v, hsvP s v, hsvQ h s v) := by unfold hsvT; rw [e]; rfl
end
set_option maxRecDepth 100000 in
set_option maxHeartbeats 2000000 in
theorem hsv_c (w : World) (p : Program) (loose : List Str) (mean : ExcName → Option Value) (mg mb : Str → Option Value) (h s v : UInt64) (t t2 t3 : Tok) (news : List (Addr × Obj)) :
    ClaimO w p loose mean mg mb 70 1 8 news (HsvOk h s) [.float h t, .float s t2, .float v t3] (Out3 (hsvT h s v)) := by
  unfold ClaimO
  k_fill
  w_on
  k_with_none
  intros
  rename_i hpre _ _ hret
  refine wpAny_call ?_
  k_dflt cell_enter
  k_steps
  · rename (Float64.cmp s 0 == some Ordering.eq) = true => q; rw [hpre.colour] at q; cases q
  · rename Float64.isNaN _ = true => q; rw [hpre.nan] at q; cases q
  · rename Float64.isInf _ = true => q; rw [hpre.inf] at q; cases q
  · rename 2 ^ 1024 - 2 ^ 970 ≤ _ => q; exact absurd q hpre.small
  · exact end3 hret (by assumption) (by assumption) (by assumption) (hsv0 (by assumption))
  · exact end3 hret (by assumption) (by assumption) (by assumption) (hsv1 (by assumption))
  · exact end3 hret (by assumption) (by assumption) (by assumption) (hsv2 (by assumption))
  · exact end3 hret (by assumption) (by assumption) (by assumption) (hsv3 (by assumption))
  · exact end3 hret (by assumption) (by assumption) (by assumption) (hsv4 (by assumption))
  · exact end3 hret (by assumption) (by assumption) (by assumption) (hsv5 (by assumption))
  · exact (fmod6 _ (by assumption) (by assumption) (by assumption) (by assumption) (by assumption) (by assumption)).elim
end Mine
end
section
open PySem PySem.W PyProof.Rows
set_option Elab.async false
namespace Mine
def fmax (a b : UInt64) : UInt64 := if (Float64.cmp b a == some Ordering.gt) = true then b else a
def fmin (a b : UInt64) : UInt64 := if (Float64.cmp b a == some Ordering.lt) = true then b else a
def max3 (a b c : UInt64) : UInt64 := fmax (fmax a b) c
def min3 (a b c : UInt64) : UInt64 := fmin (fmin a b) c
def fl3 (a b c : UInt64) (i : Nat) : UInt64 := if i = 0 then a else if i = 1 then b else c
theorem max3_args (a b c : Value) : argsOk "max" ⟨[a, b, c], []⟩ := by unfold argsOk; kernel_rfl
theorem min3_args (a b c : Value) : argsOk "min" ⟨[a, b, c], []⟩ := by unfold argsOk; kernel_rfl
theorem fl3_at {a b c : UInt64} {t u v : Tok} {i : Nat} {x : Value} (h : (#[Value.float a t, .float b u, .float c v] : Array Value)[i]? = some x) : ∃ t', x = .float (fl3 a b c i) t' := by
  match i, h with
  | 0, h => exact ⟨t, by simpa [fl3] using h.symm⟩
  | 1, h => exact ⟨u, by simpa [fl3] using h.symm⟩
  | 2, h => exact ⟨v, by simpa [fl3] using h.symm⟩
  | n + 3, h => simp at h
section
variable {prog : Program} {w : World} {A : Around} {E : Value → Shared → Prop} {s : Shared} {a b c : UInt64} {t u v : Tok}
theorem cmpGt {P : Nat → Value → Prop} {val : Nat → UInt64} (hv : ∀ i x, P i x → ∃ t, x = .float (val i) t) : CmpOf prog w A .Gt P (fun i j => Float64.cmp (val i) (val j) == some Ordering.gt) := fun i j x y s Q E hi hj h => by
  obtain ⟨t, rfl⟩ := hv i x hi
  obtain ⟨u, rfl⟩ := hv j y hj
  exact AutoFloatOps.gt_0 h
theorem cmpLt {P : Nat → Value → Prop} {val : Nat → UInt64} (hv : ∀ i x, P i x → ∃ t, x = .float (val i) t) : CmpOf prog w A .Lt P (fun i j => Float64.cmp (val i) (val j) == some Ordering.lt) := fun i j x y s Q E hi hj h => by
  obtain ⟨t, rfl⟩ := hv i x hi
  obtain ⟨u, rfl⟩ := hv j y hj
  exact AutoFloatOps.lt_0 h
theorem best_max : fl3 a b c (argBest (fun i j => Float64.cmp (fl3 a b c i) (fl3 a b c j) == some Ordering.gt) 2) = max3 a b c := by
  simp only [argBest, max3, fmax]
  by_cases h1 : (Float64.cmp b a == some Ordering.gt) = true
  · by_cases h2 : (Float64.cmp c b == some Ordering.gt) = true <;> simp [fl3, h1, h2]
  · by_cases h2 : (Float64.cmp c a == some Ordering.gt) = true <;> simp [fl3, h1, h2]
theorem best_min : fl3 a b c (argBest (fun i j => Float64.cmp (fl3 a b c i) (fl3 a b c j) == some Ordering.lt) 2) = min3 a b c := by
  simp only [argBest, min3, fmin]
  by_cases h1 : (Float64.cmp b a == some Ordering.lt) = true
  · by_cases h2 : (Float64.cmp c b == some Ordering.lt) = true <;> simp [fl3, h1, h2]
  · by_cases h2 : (Float64.cmp c a == some Ordering.lt) = true <;> simp [fl3, h1, h2]
/-- the walk over the tuple that max and min make of three arguments -/
theorem three_walks (hh : A.handled = none) {Q : Value → Shared → Prop} (R : ∀ (I : Addr) (fp : List Addr) (P : Nat → Value → Prop) (St : Nat → Heap → Prop) (s₂ : Shared), Walks prog w A I fp [I] 3 P St → St 0 s₂.heap → (∀ b ∈ fp, b < s₂.heap.objs.size) →
      (∀ i x, P i x → ∃ t', x = .float (fl3 a b c i) t') → (∀ d o, s.heap.get? d = some o → d ≠ I ∧ s₂.heap.get? d = some o) → s₂.gens = s.gens → s₂.drawn = s.drawn → s₂.os = s.os → Q (.ref I) s₂) :
    wpAny (model prog w) A (pyIter (.ref s.heap.objs.size)) Q E { s with heap := s.heap.push { cls := .type "tuple", data := .seq #[.float a t, .float b u, .float c v] } } := by
  have hT : (s.heap.push { cls := .type "tuple", data := .seq #[.float a t, .float b u, .float c v] }).IsTuple s.heap.objs.size #[.float a t, .float b u, .float c v] := ⟨_, Heap.get?_push_size _ rfl, rfl, 0, rfl⟩
  have hsz : (s.heap.push { cls := .type "tuple", data := .seq #[.float a t, .float b u, .float c v] }).objs.size = s.heap.objs.size + 1 := Heap.size_push ..
  refine wpAny_pyIter_tuple hT ?_
  refine R _ _ _ _ _ (Walks.tuple (A := A) hh _ s.heap.objs.size (by rw [hsz]; exact Nat.ne_of_lt (Nat.lt_succ_self _)) #[.float a t, .float b u, .float c v]) ⟨⟨_, Heap.get?_push_size _ rfl, rfl, rfl⟩, hT.push _⟩ (fun d hd => ?_) (fun i x hx => fl3_at hx) (fun d o e => ?_) rfl rfl rfl
  · show d < ((s.heap.push _).push _).objs.size
    rw [Heap.size_push, hsz]
    rcases List.mem_cons.mp hd with rfl | hd
    · rw [hsz]; exact Nat.lt_succ_self _
    · rw [List.mem_singleton.mp hd]; exact Nat.lt_succ_of_lt (Nat.lt_succ_self _)
  · have hd := Heap.lt_size e
    refine ⟨fun q => ?_, Heap.get?_push_of_some _ (Heap.get?_push_of_some _ e)⟩
    rw [q, hsz] at hd
    exact Nat.lt_irrefl _ (Nat.lt_of_succ_lt hd)
theorem max_three (hh : A.handled = none) {Q : Value → Shared → Prop} (h : ∀ h' tk t', (∀ d o, s.heap.get? d = some o → h'.get? d = some o) → Q (.float (max3 a b c) t') { s with heap := h', toks := tk }) :
    wpAny (model prog w) A (call (.builtin "max") [.float a t, .float b u, .float c v]) Q E s := by
  have hname : (toString "max" ++ toString ".loop" : String) = "max.loop" := by decide
  refine call_function_tree F.kind_max F.plain_max F.entry_max (max3_args _ _ _) ?_
  show wpAny _ A.in1 (Builtin.Builtins.bindParams "max" ["key", "default"] 0 ⟨[], []⟩ >>= _) _ _ s
  refine wpAny_bind (wpAny_of_eq (show Builtin.Builtins.bindParams "max" ["key", "default"] 0 ⟨[], []⟩ = pure [none, none] from rfl) ?_)
  show wpAny _ A.in1 (newTuple [.float a t, .float b u, .float c v] >>= _) _ _ s
  refine wpAny_bind (wpAny_newObj_type (wpAny_bind (three_walks (A := A.in1) hh fun I fp P St s₂ W hst hfp hval hold hg hdr hos => ?_)))
  refine wpAny_bind (wpAny_newObj_type ?_)
  have hSf : s₂.heap.objs.size ∉ fp := fun hm => Nat.lt_irrefl _ (hfp _ hm)
  rw [hname]
  refine wpAny_pure ⟨plainId_quiet F.plain_max_loop _, codeAny_max_loop_first W _ (cmpGt hval) s₂.heap.objs.size hSf (by decide) (W.frame _ _ _ hst fun d _ o e => Heap.get?_push_of_some _ e) (Heap.get?_push_size _ rfl) fun x h' tk hP hk => ?_⟩
  obtain ⟨t', rfl⟩ := hval _ _ hP
  have hb : fl3 a b c (argBest (fun i j => Float64.cmp (fl3 a b c i) (fl3 a b c j) == some Ordering.gt) (3 - 1)) = max3 a b c := best_max
  rw [hb]
  have := h h' tk t' fun d o e => hk d o (by simpa using (hold d o e).1) (Nat.ne_of_lt (Heap.lt_size (hold d o e).2)) (Heap.get?_push_of_some _ (hold d o e).2)
  obtain ⟨_, _, _, _, _⟩ := s₂
  obtain ⟨_, _, _, _, _⟩ := s
  cases hg; cases hdr; cases hos
  exact this
theorem min_three (hh : A.handled = none) {Q : Value → Shared → Prop} (h : ∀ h' tk t', (∀ d o, s.heap.get? d = some o → h'.get? d = some o) → Q (.float (min3 a b c) t') { s with heap := h', toks := tk }) :
    wpAny (model prog w) A (call (.builtin "min") [.float a t, .float b u, .float c v]) Q E s := by
  have hname : (toString "min" ++ toString ".loop" : String) = "min.loop" := by decide
  refine call_function_tree F.kind_min F.plain_min F.entry_min (min3_args _ _ _) ?_
  show wpAny _ A.in1 (Builtin.Builtins.bindParams "min" ["key", "default"] 0 ⟨[], []⟩ >>= _) _ _ s
  refine wpAny_bind (wpAny_of_eq (show Builtin.Builtins.bindParams "min" ["key", "default"] 0 ⟨[], []⟩ = pure [none, none] from rfl) ?_)
  show wpAny _ A.in1 (newTuple [.float a t, .float b u, .float c v] >>= _) _ _ s
  refine wpAny_bind (wpAny_newObj_type (wpAny_bind (three_walks (A := A.in1) hh fun I fp P St s₂ W hst hfp hval hold hg hdr hos => ?_)))
  refine wpAny_bind (wpAny_newObj_type ?_)
  have hSf : s₂.heap.objs.size ∉ fp := fun hm => Nat.lt_irrefl _ (hfp _ hm)
  rw [hname]
  refine wpAny_pure ⟨plainId_quiet F.plain_min_loop _, codeAny_min_loop_first W _ (cmpLt hval) s₂.heap.objs.size hSf (by decide) (W.frame _ _ _ hst fun d _ o e => Heap.get?_push_of_some _ e) (Heap.get?_push_size _ rfl) fun x h' tk hP hk => ?_⟩
  obtain ⟨t', rfl⟩ := hval _ _ hP
  have hb : fl3 a b c (argBest (fun i j => Float64.cmp (fl3 a b c i) (fl3 a b c j) == some Ordering.lt) (3 - 1)) = min3 a b c := best_min
  rw [hb]
  have := h h' tk t' fun d o e => hk d o (by simpa using (hold d o e).1) (Nat.ne_of_lt (Heap.lt_size (hold d o e).2)) (Heap.get?_push_of_some _ (hold d o e).2)
  obtain ⟨_, _, _, _, _⟩ := s₂
  obtain ⟨_, _, _, _, _⟩ := s
  cases hg; cases hdr; cases hos
  exact this
variable {h₀ : Heap} {L : Addr} {m : Str → Option Value} {news : List (Addr × Obj)}
theorem max_three_N (hh : A.handled = none) (F : Fr h₀ L s.heap m) (N : News h₀ L s.heap news) {Q : Value → Shared → Prop} (h : ∀ h' tk t', Fr h₀ L h' m → News h₀ L h' news → Q (.float (max3 a b c) t') { s with heap := h', toks := tk }) :
    wpAny (model prog w) A (call (.builtin "max") [.float a t, .float b u, .float c v]) Q E s := max_three hh fun h' tk t' hk => h h' tk t' (F.grownK hk) (N.grown hk)
theorem min_three_N (hh : A.handled = none) (F : Fr h₀ L s.heap m) (N : News h₀ L s.heap news) {Q : Value → Shared → Prop} (h : ∀ h' tk t', Fr h₀ L h' m → News h₀ L h' news → Q (.float (min3 a b c) t') { s with heap := h', toks := tk }) :
    wpAny (model prog w) A (call (.builtin "min") [.float a t, .float b u, .float c v]) Q E s := min_three hh fun h' tk t' hk => h h' tk t' (F.grownK hk) (N.grown hk)
end
end Mine
end
section
open PySem PySem.W PyProof.Rows
set_option Elab.async false
namespace Mine
structure HlsOk (r g b : UInt64) : Prop where
  sum : Float64.isZero (Float64.add (max3 r g b) (min3 r g b)) = false
  range : Float64.isZero (Float64.sub (max3 r g b) (min3 r g b)) = false
  top : Float64.isZero (Float64.sub (Float64.sub 4611686018427387904 (max3 r g b)) (min3 r g b)) = false
def hlsL (r g b : UInt64) : UInt64 := Float64.div (Float64.add (max3 r g b) (min3 r g b)) 4611686018427387904
def OutL (l : UInt64) (r : Value) (tl : List (Addr × Obj)) : Prop := ∃ a x z t1 t2 t3, r = .ref a ∧ tl = [(a, tup3 x l z t1 t2 t3)]
theorem endL {h₀ h' : Heap} {L D : Addr} {m : Str → Option Value} {news : List (Addr × Obj)} {s : Shared} {tk : Nat} {Q : Value → Shared → Prop} {x l z : UInt64} {t1 t2 t3 : Tok}
    (hret : ∀ (r : Value) (tl : List (Addr × Obj)) (h' : Heap) (tk' : Nat), Fr h₀ L h' m → News h₀ L h' (tl ++ news) → (∀ p ∈ tl, ∀ q ∈ news, q.1 < p.1) → OutL l r tl → Q r { s with heap := h', toks := tk' })
    (F : Fr h₀ L h' m) (N : News h₀ L h' ((D, tup3 x l z t1 t2 t3) :: news)) (l1 : ∀ p ∈ news, p.1 < D) : Q (.ref D) { s with heap := h', toks := tk } :=
  hret _ [_] _ _ F N (fun p hp q hq => by rw [List.mem_singleton.mp hp]; exact l1 q hq) ⟨_, _, _, _, _, _, rfl, rfl⟩
set_option maxRecDepth 100000 in
set_option maxHeartbeats 2000000 in
theorem hls_c (w : World) (p : Program) (loose : List Str) (mean : ExcName → Option Value) (mg mb : Str → Option Value) (h s v : UInt64) (t t2 t3 : Tok) (news : List (Addr × Obj)) :
    ClaimO w p loose mean mg mb 63 1 8 news (HlsOk h s v) [.float h t, .float s t2, .float v t3] (OutL (hlsL h s v)) := by
  unfold ClaimO
  k_fill
  w_on
  k_with_none
  k_with "call builtin:max!" => ((k_here; (with_reducible show wpAny _ _ (call (Value.builtin "max") [Value.float _ _, Value.float _ _, Value.float _ _]) _ _ _); k_dflt (refine' max_three_N ?k1 ?k2 ?k3 ?_; (case k1 => exact rfl); (case k2 => k_asm); (case k3 => k_asm); k_whole; intro h' tk' t' F' N'; (try dsimp only))))
  k_with "call builtin:min!" => ((k_here; (with_reducible show wpAny _ _ (call (Value.builtin "min") [Value.float _ _, Value.float _ _, Value.float _ _]) _ _ _); k_dflt (refine' min_three_N ?k1 ?k2 ?k3 ?_; (case k1 => exact rfl); (case k2 => k_asm); (case k3 => k_asm); k_whole; intro h' tk' t' F' N'; (try dsimp only))))
  intros
  rename_i hpre _ _ hret
  refine wpAny_call ?_
  k_dflt cell_enter
  k_steps
  · exact endL hret (by assumption) (by assumption) (by assumption)
  · rename Float64.isZero _ = true => q; rw [hpre.sum] at q; cases q
  · rename Float64.isZero _ = true => q; rw [hpre.range] at q; cases q
  · exact endL hret (by assumption) (by assumption) (by assumption)
  · exact endL hret (by assumption) (by assumption) (by assumption)
  · exact endL hret (by assumption) (by assumption) (by assumption)
  · rename Float64.isZero _ = true => q; rw [hpre.top] at q; cases q
  · rename Float64.isZero _ = true => q; rw [hpre.range] at q; cases q
  · exact endL hret (by assumption) (by assumption) (by assumption)
  · exact endL hret (by assumption) (by assumption) (by assumption)
  · exact endL hret (by assumption) (by assumption) (by assumption)
end Mine
end
section
open PySem PySem.W PyProof.Rows
open PySem.Builtin PySem.Builtin.Str
set_option Elab.async false
namespace Mine
def find4 (x y : Str) (i j : Int) : Int := match occurrences x y (fromIndex x.length i) (min (fromIndex x.length j) x.length) 1 with | k :: _ => (k : Int) | [] => -1
theorem gives_find4 (x y : Str) (i j : Int) (t u v v' : Tok) : Gives («str.find» ⟨[.str x t, .str y u, .int i v, .int j v'], []⟩) (.int (find4 x y i j)) := by
  unfold find4
  show Gives (match occurrences x y (fromIndex x.length i) (min (fromIndex x.length j) x.length) 1 with | k :: _ => retInt k | [] => (do rule "str.find.not-found"; retInt (-1))) _
  cases occurrences x y (fromIndex x.length i) (min (fromIndex x.length j) x.length) 1 with
  | nil => exact .rule (.of_eq rfl)
  | cons k _ => exact .of_eq rfl
section
variable {prog : Program} {w : World} {A : Around} {E : Value → Shared → Prop} {s : Shared} {x y : Str} {t u v v' : Tok} {i j : Int} {Q : Value → Shared → Prop}
theorem find4_step (hq : Q (.int (find4 x y i j) s.toks) { s with toks := s.toks + 1 }) : wpAny (model prog w) A (call (.builtin "str.find") [.str x t, .str y u, .int i v, .int j v']) Q E s :=
  call_gives F.slot_str_find (typeIs_str _ _ _) F.entry_str_find (F.args_str_find_4 _ _ _ _) (gives_find4 x y i j t u v v') hq
theorem split4_step {h₀ : Heap} {L : Addr} {m : Str → Option Value} {news : List (Addr × Obj)} {a b c d : Str} (F : Fr h₀ L s.heap m) (N : News h₀ L s.heap news) (hs : Txt.split x (PySem.Str.ofString "...") = [a, b, c, d]) (hsz : x.length ≤ 20)
    (h : ∀ D t1 t2 t3 t4 h' k, Fr h₀ L h' m → News h₀ L h' ((D, listOf #[.str a t1, .str b t2, .str c t3, .str d t4] 0) :: news) → (∀ p ∈ news, p.1 < D) → Q (.ref D) { s with heap := h', toks := k }) :
    wpAny (model prog w) A (call (.builtin "str.split") ([.str x t] ++ [.str (PySem.Str.ofString "...") u])) Q E s := by
  refine KSpl.split1 F N (by decide +kernel) (fun D l h' k e _ F' N' hlt => ?_) (by rw [sizeLine_eq]; omega)
  rw [hs] at e
  match l, e, N' with
  | [(_, t1), (_, t2), (_, t3), (_, t4)], e, N' =>
    simp only [List.map_cons, List.map_nil, List.cons.injEq, and_true] at e
    obtain ⟨rfl, rfl, rfl, rfl⟩ := e
    exact h D t1 t2 t3 t4 h' k F' N' hlt
end
def emGo (got : Str) (n : Int) : List Str → Int → Bool
  | [], _ => true
  | w :: ws, sp => if find4 got w sp n < 0 then false else emGo got n ws (find4 got w sp n + w.length)
def em (one other got : Str) : Bool := emGo got got.length [PySem.Str.ofString "", one, other, PySem.Str.ofString ""] 0
theorem emGo_no {got w : Str} {n sp : Int} {ws : List Str} (h : find4 got w sp n < 0) : false = emGo got n (w :: ws) sp := by simp only [emGo, if_pos h]
theorem emGo_on {b : Bool} {got w : Str} {n sp : Int} {ws : List Str} (h : ¬ find4 got w sp n < 0) (e : b = emGo got n ws (find4 got w sp n + w.length)) : b = emGo got n (w :: ws) sp := by simp only [emGo, if_neg h]; exact e
set_option maxRecDepth 100000 in
set_option maxHeartbeats 2000000 in
theorem em_c (w : World) (p : Program) (loose : List Str) (mean : ExcName → Option Value) (mg mb : Str → Option Value) (want got one other : Str) (t t2 : Tok) (news : List (Addr × Obj)) :
    ClaimV w p loose mean mg mb 77 1 8 news ((want.length ≤ 20 ∧ got.length ≤ 5) ∧ List.isEmpty (occurrences want (PySem.Str.ofString "...") 0 want.length 1) = false ∧ Txt.split want (PySem.Str.ofString "...") = [PySem.Str.ofString "", one, other, PySem.Str.ofString ""] ∧ one.length ≤ 3 ∧ other.length ≤ 3)
      [.str want t, .str got t2] (fun _ => .bool (em one other got)) := by
  unfold ClaimV
  k_fill
  w_on
  k_with_none
  k_with "call builtin:str.split!" => ((k_here; k_dflt (refine' split4_step ?k1 ?k2 ?k3 ?k4 ?_; (case k1 => k_asm); (case k2 => k_asm); (case k3 => assumption); (case k4 => assumption); k_whole; intro D' t1' t2' t3' t4' h' k' F' N' l1; (try k_lt l1); (try k_sweep))))
  k_with "call builtin:str.find!" => ((k_here; k_dflt (refine find4_step ?_)))
  intros
  rename_i hpre _ _ hret
  obtain ⟨⟨hl1, hl2⟩, hin, hsp, hl3, hl4⟩ := hpre
  refine wpAny_call ?_
  k_dflt (refine' code_def0 ?k1 ?k2 ?k3 ?k5 ?kA ?kF ?kK ?k6 ?k7 ?k8 ?k9 ?kB ?_ ?c2 ?c3 ?c4 ?c5; (case kA => exact rfl); (case kF => exact rfl); (case kK => assumption); (case k1 => k_asm); (case k2 => k_asm); (case k3 => k_asm); (case k5 => k_asm); (case k6 => k_is); (case k7 => k_is); (case k8 => ktr_room); (case k9 => exact BindsTo.of_eq rfl); (case c5 => decide); (case kB => exact locs rfl); (case c2 => exact rfl); (case c3 => exact rfl); (case c4 => exact rfl); k_whole; intro L' h' hL' F' N' B' X' T'; (try dsimp only); (try k_fold))
  k_steps
  · exact endV hret (by assumption) (by assumption) (by assumption) 0 (congrArg Value.bool (emGo_no (by assumption)))
  · exact endV hret (by assumption) (by assumption) (by assumption) 0 (congrArg Value.bool (emGo_on (by assumption) (emGo_no (by assumption))))
  · exact endV hret (by assumption) (by assumption) (by assumption) 0 (congrArg Value.bool (emGo_on (by assumption) (emGo_on (by assumption) (emGo_no (by assumption)))))
  · exact endV hret (by assumption) (by assumption) (by assumption) 0 (congrArg Value.bool (emGo_on (by assumption) (emGo_on (by assumption) (emGo_on (by assumption) (emGo_no (by assumption))))))
  · skip
    exact endV hret (by assumption) (by assumption) (by assumption) 0 (congrArg Value.bool (emGo_on (by assumption) (emGo_on (by assumption) (emGo_on (by assumption) (emGo_on (by assumption) rfl)))))
end Mine
end
section
open PySem PySem.W PyProof.Rows
set_option Elab.async false
namespace Mine
theorem flat_rep (D : Nat) (v : Value) : (List.replicate D [v]).flatten = List.replicate D v := by simp
section
variable {prog : Program} {w : World} {A : Around} {E : Value → Shared → Prop} {s : Shared} {h₀ : Heap} {L : Addr} {m : Str → Option Value} {news : List (Addr × Obj)} {l : Addr} {v : Value} {e D : Nat} {x : Int} {u : Tok} {Q : Value → Shared → Prop}
theorem mul_step (F : Fr h₀ L s.heap m) (N : News h₀ L s.heap news) (hm : (l, W.listOf #[v] e) ∈ news) (hx : x = (D : Int)) (hD : D ≤ 7)
    (h : ∀ l' h' vs, vs = List.replicate D v → Fr h₀ L h' m → News h₀ L h' ((l', W.listOf vs.toArray 0) :: news) → (∀ p ∈ news, p.1 < l') → Q (.ref l') { s with heap := h' }) : wpAny (model prog w) A (binaryOp .Mult (.ref l) (.int x u)) Q E s := by
  subst hx
  refine KMa.mul (vs := [v]) F N ⟨_, (N _ hm).1, rfl, _, rfl⟩ (by omega) (by omega) (by simp; omega) rfl ?_
  have : (Int.toNat (D : Int)) = D := rfl
  rw [this, flat_rep]
  exact fun D' h' => h D' h' _ rfl
theorem ints_rep (t : Tok) : ∀ D, IntsAre (List.replicate D (.int 0 t)) (List.replicate D 0)
  | 0 => .nil
  | D + 1 => .cons 0 t (ints_rep t D)
end
theorem nat_and_top (x k : Nat) : x &&& (x / 2 ^ k * 2 ^ k) = x / 2 ^ k * 2 ^ k := by
  rw [← Nat.shiftRight_eq_div_pow, ← Nat.shiftLeft_eq]
  apply Nat.eq_of_testBit_eq
  intro i
  simp only [Nat.testBit_and, Nat.testBit_shiftLeft, Nat.testBit_shiftRight]
  by_cases h : i ≥ k
  · have : k + (i - k) = i := by omega
    simp [h, this]
  · simp [h]
theorem fdiv_pow (x k : Nat) : Int.fdiv (x : Int) ((2 : Int) ^ k) = ((x / 2 ^ k : Nat) : Int) := by
  have : ((2 : Int) ^ k) = ((2 ^ k : Nat) : Int) := by simp
  rw [this, Int.fdiv_eq_ediv_of_nonneg _ (Int.natCast_nonneg _)]
  rfl
theorem up_ok {x B : Int} (k : Nat) (h : 0 ≤ x ∧ x < B) : 0 ≤ Int.fdiv x (2 ^ k) ∧ Int.fdiv x (2 ^ k) < B := by
  obtain ⟨n, rfl⟩ := Int.eq_ofNat_of_zero_le h.1
  rw [fdiv_pow]
  have h3 := Nat.div_le_self n (2 ^ k)
  generalize n / 2 ^ k = z at h3 ⊢
  omega
theorem lo_ok {x B : Int} (k : Nat) (h : 0 ≤ x ∧ x < B) : 0 ≤ Builtin.bitXor x (Int.fdiv x (2 ^ k) * 2 ^ k) ∧ Builtin.bitXor x (Int.fdiv x (2 ^ k) * 2 ^ k) < B := by
  obtain ⟨n, rfl⟩ := Int.eq_ofNat_of_zero_le h.1
  rw [fdiv_pow]
  have e : ((n / 2 ^ k : Nat) : Int) * (2 : Int) ^ k = ((n / 2 ^ k * 2 ^ k : Nat) : Int) := by simp
  rw [e, bitXor_and]
  have e2 : Builtin.bitAnd (n : Int) ((n / 2 ^ k * 2 ^ k : Nat) : Int) = ((n / 2 ^ k * 2 ^ k : Nat) : Int) := by
    unfold Builtin.bitAnd
    have h1 : decide (0 ≤ (n : Int)) = true := by simp
    have h2 : decide (0 ≤ ((n / 2 ^ k * 2 ^ k : Nat) : Int)) = true := decide_eq_true (Int.natCast_nonneg _)
    rw [h1, h2]
    show ((n &&& (n / 2 ^ k * 2 ^ k) : Nat) : Int) = _
    rw [nat_and_top]
  rw [e2]
  have h3 := Nat.div_mul_le_self n (2 ^ k)
  generalize n / 2 ^ k * 2 ^ k = z at h3 ⊢
  omega
theorem bits_of_lt {x : Int} (h : 0 ≤ x ∧ x < 2 ^ 200) : Builtin.Int.intBits x ≤ 200 := by
  refine intBits_le_iff.mpr ?_
  obtain ⟨n, rfl⟩ := Int.eq_ofNat_of_zero_le h.1
  have : ((n : Nat) : Int) < ((2 ^ 200 : Nat) : Int) := by simpa using h.2
  show n < 2 ^ 200
  exact_mod_cast this
theorem digits_pos {a n : Int} {D : Nat} (h : a ≠ 0) (hn : 1 ≤ n ∧ n ≤ 200) (hD : Int.fdiv ((Builtin.Int.intBits a : Int) + n - 1) n = (D : Int)) : 1 ≤ D := by
  have h1 : 1 ≤ Builtin.Int.intBits a := by
    rcases Nat.lt_or_ge 0 (Builtin.Int.intBits a) with q | q
    · exact q
    · have := intBits_le_iff.mp q
      simp at this
      exact absurd this h
  rw [Int.fdiv_eq_ediv_of_nonneg _ (by omega)] at hD
  have h2 : (1 : Int) ≤ ((Builtin.Int.intBits a : Int) + n - 1) / n := Int.le_ediv_of_mul_le (by omega) (by omega)
  omega
theorem mid_is (i j : Int) : 2 * Int.fdiv (i + j) (2 ^ (1 : Int).toNat) ≤ i + j ∧ i + j ≤ 2 * Int.fdiv (i + j) (2 ^ (1 : Int).toNat) + 1 := by
  have e : ((2 : Int) ^ (1 : Int).toNat) = 2 := by decide
  rw [e, Int.fdiv_eq_ediv_of_nonneg _ (by decide)]
  omega
theorem sh_ok {u n : Int} (hu : 0 ≤ u ∧ u ≤ 7) (hn : 1 ≤ n ∧ n ≤ 200) : 0 ≤ u * n ∧ u * n ≤ 1400 := by
  refine ⟨Int.mul_nonneg hu.1 (by omega), ?_⟩
  have : u * n ≤ 7 * 200 := Int.mul_le_mul hu.2 hn.2 (by omega) (by decide)
  omega
theorem shl_ok {x n : Int} {K : Nat} (h : 0 ≤ x ∧ x < 2 ^ 200) (h2 : n ≤ 1400) : (Builtin.Int.intBits (Int.fdiv x (2 ^ K)) : Int) + n ≤ 2 ^ 27 := by
  have := bits_of_lt (up_ok K h)
  have e : (2 : Int) ^ 27 = 134217728 := by decide
  rw [e]
  omega
/-- what inner leaves of the list ns -/
def putD (n : Int) : Nat → Int → Int → Int → List Int → List Int
  | 0, _, _, _, ns => ns
  | d + 1, x, i, j, ns => if i + 1 = j then ns.set i.toNat x else
      putD n d (x.fdiv (2 ^ (((i + j).fdiv (2 ^ (1 : Int).toNat) - i) * n).toNat)) ((i + j).fdiv (2 ^ (1 : Int).toNat)) j
        (putD n d (Builtin.bitXor x (x.fdiv (2 ^ (((i + j).fdiv (2 ^ (1 : Int).toNat) - i) * n).toNat) * 2 ^ (((i + j).fdiv (2 ^ (1 : Int).toNat) - i) * n).toNat)) i ((i + j).fdiv (2 ^ (1 : Int).toNat)) ns)
theorem putD_leaf {n x i j : Int} {d : Nat} {ns : List Int} (h : i + 1 = j) : putD n (d + 1) x i j ns = ns.set i.toNat x := by unfold putD; rw [if_pos h]
theorem putD_node {n x i j : Int} {d : Nat} {ns : List Int} (h : ¬ i + 1 = j) : putD n (d + 1) x i j ns = putD n d (x.fdiv (2 ^ (((i + j).fdiv (2 ^ (1 : Int).toNat) - i) * n).toNat)) ((i + j).fdiv (2 ^ (1 : Int).toNat)) j
        (putD n d (Builtin.bitXor x (x.fdiv (2 ^ (((i + j).fdiv (2 ^ (1 : Int).toNat) - i) * n).toNat) * 2 ^ (((i + j).fdiv (2 ^ (1 : Int).toNat) - i) * n).toNat)) i ((i + j).fdiv (2 ^ (1 : Int).toNat)) ns) := by
  conv => lhs; unfold putD
  rw [if_neg h]
theorem putD_len (n : Int) : ∀ d x i j ns, (putD n d x i j ns).length = ns.length
  | 0, _, _, _, _ => rfl
  | d + 1, x, i, j, ns => by
    unfold putD
    split
    · simp
    · rw [putD_len n d, putD_len n d]
theorem ints_rep' {vs : List Value} {D : Nat} {t : Tok} (h : vs = List.replicate D (.int 0 t)) : IntsAre vs (List.replicate D 0) := h ▸ ints_rep t D
theorem ints_leaf {n x i j : Int} {d : Nat} {ns : List Int} {vs : List Value} (h : i + 1 = j) (hi : IntsAre vs (ns.set i.toNat x)) : IntsAre vs (putD n (d + 1) x i j ns) := by rw [putD_leaf h]; exact hi
theorem ints_node {n x i j : Int} {d : Nat} {ns : List Int} {vs : List Value} (h : i + 1 ≠ j) (hi : IntsAre vs (putD n d (x.fdiv (2 ^ (((i + j).fdiv (2 ^ (1 : Int).toNat) - i) * n).toNat)) ((i + j).fdiv (2 ^ (1 : Int).toNat)) j
        (putD n d (Builtin.bitXor x (x.fdiv (2 ^ (((i + j).fdiv (2 ^ (1 : Int).toNat) - i) * n).toNat) * 2 ^ (((i + j).fdiv (2 ^ (1 : Int).toNat) - i) * n).toNat)) i ((i + j).fdiv (2 ^ (1 : Int).toNat)) ns))) : IntsAre vs (putD n (d + 1) x i j ns) := by rw [putD_node h]; exact hi
def i2d (a n : Int) (D : Nat) : List Int := if a = 0 then List.replicate D 0 else putD n D a 0 D (List.replicate D 0)
theorem ints_i2d0 {a n : Int} {D : Nat} {vs : List Value} (h : a = 0) (hi : IntsAre vs (List.replicate D 0)) : IntsAre vs (i2d a n D) := by unfold i2d; rw [if_pos h]; exact hi
theorem ints_i2d1 {a n : Int} {D : Nat} {vs : List Value} (h : a ≠ 0) (hi : IntsAre vs (putD n D a 0 D (List.replicate D 0))) : IntsAre vs (i2d a n D) := by unfold i2d; rw [if_neg h]; exact hi
abbrev innerName : Str := (PySem.Str.ofString "_int2digits" ++ PySem.Str.ofString ".<locals>.") ++ PySem.Str.ofString "inner"
abbrev tab30 (c1 : Addr) : Obj := tabObj (#[] ++ #[rawInt ((32 : Nat) : Int), rawInt ((4 : Nat) : Int), .ref c1])
theorem sub3 {a b c : Addr × Obj} {l : List (Addr × Obj)} (h1 : a ∈ l) (h2 : b ∈ l) (h3 : c ∈ l) : ∀ q ∈ [a, b, c], q ∈ l := fun q hq => by
  rcases List.mem_cons.mp hq with rfl | hq
  · exact h1
  · rcases List.mem_cons.mp hq with rfl | hq
    · exact h2
    · rw [List.mem_singleton.mp hq]; exact h3
theorem fresh_of {g h h' : Heap} {L D : Addr} {o : Obj} {own news : List (Addr × Obj)} (N : News g L h' news) (hm : (D, o) ∈ news) (S : Still own h g) (hD : D ∉ own.map (·.1)) : h.get? D = none := by
  cases e : h.get? D with
  | none => rfl
  | some o' => have := (N _ hm).2.2; rw [S D o' hD e] at this; cases this
theorem end_i2d1 {h₀ h' g : Heap} {L L' f c1 l : Addr} {m : Str → Option Value} {FN oc1 : Obj} {vs : List Value} {ns : List Int} {e3 e4 e5 e6 : Addr × Obj} {s : Shared} {tk : Nat} {vs1 : Array Value} {t1 : Tok} {Q : Value → Shared → Prop}
    (hret : ∀ (l c1 : Addr) (vs : List Value) (oc1 : Obj) (vs1 : Array Value) (t1 : Tok) (h' : Heap) (tk' : Nat), Fr h₀ L h' m → News h₀ L h' [(l, W.listOf vs.toArray 0), (c1, oc1), (30, tab30 c1)] → IntsAre vs ns → Still [(30, tabObj #[])] s.heap h' → s.heap.get? l = none → s.heap.get? c1 = none → l < c1 → 30 < l → oc1.data = .fields vs1 → vs1[1]? = some (.str innerName t1) → Q (.ref l) { s with heap := h', toks := tk' })
    (F : Fr h₀ L h' m) (N : News h₀ L h' [(f, FN), (c1, oc1), (l, W.listOf vs.toArray 0), e3, e4, e5, e6, (30, tab30 c1)]) (N' : News g L' h' [(f, FN), (c1, oc1), (l, W.listOf vs.toArray 0), e3, e4, e5, e6, (30, tab30 c1)]) (S : Still [(30, tabObj #[])] s.heap g)
    (hi : IntsAre vs ns) (S' : Still [(30, tabObj #[])] s.heap h') (h1 : l < c1) (h2 : 30 < l) (d1 : oc1.data = .fields vs1) (d2 : vs1[1]? = some (.str innerName t1)) : Q (.ref l) { s with heap := h', toks := tk } :=
  hret l c1 vs oc1 vs1 t1 h' tk F (fun q hq => N q (sub3 (.tail _ (.tail _ (.head _))) (.tail _ (.head _)) (.tail _ (.tail _ (.tail _ (.tail _ (.tail _ (.tail _ (.tail _ (.head _)))))))) q hq)) hi S'
    (fresh_of N' (.tail _ (.tail _ (.head _))) S (by simp only [List.map_cons, List.map_nil, List.mem_singleton]; exact Nat.ne_of_gt h2)) (fresh_of N' (.tail _ (.head _)) S (by simp only [List.map_cons, List.map_nil, List.mem_singleton]; exact Nat.ne_of_gt (Nat.lt_trans h2 h1))) h1 h2 d1 d2
theorem end_i2d2 {h₀ h' g : Heap} {L L' f c1 l : Addr} {m : Str → Option Value} {FN oc1 : Obj} {vs : List Value} {ns : List Int} {e3 e4 e5 e6 : Addr × Obj} {s : Shared} {tk : Nat} {Q : Value → Shared → Prop}
    (hret : ∀ (l : Addr) (vs : List Value) (h' : Heap) (tk' : Nat), Fr h₀ L h' m → News h₀ L h' [(l, W.listOf vs.toArray 0), (c1, oc1), (30, tab30 c1)] → IntsAre vs ns → Still [(c1, oc1), (30, tab30 c1)] s.heap h' → s.heap.get? l = none → c1 < l → 30 < l → Q (.ref l) { s with heap := h', toks := tk' })
    (F : Fr h₀ L h' m) (N : News h₀ L h' [(f, FN), (l, W.listOf vs.toArray 0), e3, e4, e5, e6, (c1, oc1), (30, tab30 c1)]) (N' : News g L' h' [(f, FN), (l, W.listOf vs.toArray 0), e3, e4, e5, e6, (c1, oc1), (30, tab30 c1)]) (S : Still [(c1, oc1), (30, tab30 c1)] s.heap g)
    (hi : IntsAre vs ns) (S' : Still [(c1, oc1), (30, tab30 c1)] s.heap h') (h1 : c1 < l) (h2 : 30 < l) : Q (.ref l) { s with heap := h', toks := tk } :=
  hret l vs h' tk F (fun q hq => N q (sub3 (.tail _ (.head _)) (.tail _ (.tail _ (.tail _ (.tail _ (.tail _ (.tail _ (.head _))))))) (.tail _ (.tail _ (.tail _ (.tail _ (.tail _ (.tail _ (.tail _ (.head _)))))))) q hq)) hi S'
    (fresh_of N' (.tail _ (.head _)) S (fun q => by rcases List.mem_cons.mp q with q | q; exact Nat.lt_irrefl _ (q ▸ h1); rw [List.map_cons, List.map_nil, List.mem_singleton] at q; exact Nat.lt_irrefl _ (q ▸ h2))) h1 h2
/-- inner, by how many places it has to fill -/
def InnerC (w : World) (p : Program) (loose : List Str) (mean : ExcName → Option Value) (mg mb : Str → Option Value) (f : Addr) (Led : List Value → List (Addr × Obj)) (n : Int) (d : Nat) : Prop :=
  ∀ (x i j : Int) (t1 t2 t3 : Tok) (vs : List Value) (ns : List Int) (dp un : Nat) (gd : Option (List Code)) (cnm : Str) (cs : Scope) (aa : Addr) (ccd : Value) (cl : List (Str × Addr)) (outer : List Env) (A₀ : Around) (base h₀ : Heap) (L : Addr) (m : Str → Option Value) (s : Shared) (Q E : Value → Shared → Prop),
    Below A₀ base outer h₀ → Fr h₀ L s.heap m → (hd.heap_39 w.params).In h₀ → News h₀ L s.heap (Led vs) → Top p loose mean mg mb h₀ → cs.kind = .function →
    IntsAre vs ns → (0 ≤ i ∧ i < j ∧ j ≤ ns.length ∧ j - i ≤ d ∧ ns.length ≤ 7) → (0 ≤ x ∧ x < 2 ^ 200) → dp + d < recursionLimit → un + 8 * d < cLine →
    (∀ (vs' : List Value) (h' : Heap) (tk' : Nat), Fr h₀ L h' m → News h₀ L h' (Led vs') → IntsAre vs' (putD n d x i j ns) → Q .none { s with heap := h', toks := tk' }) →
    wpAny (model (RowW.prog (OpenRow.toRowW (OpenLaw.row PySem.Challenge.rw_pe0204_01))) w) (ktrTop dp un gd cnm cs L aa ccd cl outer) (call (.ref f) [.int x t1, .int i t2, .int j t3]) Q E s
theorem innerC_all {w : World} {p : Program} {loose : List Str} {mean : ExcName → Option Value} {mg mb : Str → Option Value} {f : Addr} {Led : List Value → List (Addr × Obj)} {n : Int}
    (h : ∀ d, InnerC w p loose mean mg mb f Led n d → InnerC w p loose mean mg mb f Led n (d + 1)) :
    ∀ d, InnerC w p loose mean mg mb f Led n d := by
  intro d
  induction d with
  | zero => intro x i j t1 t2 t3 vs ns dp un gd cnm cs aa ccd cl outer A₀ base h₀ L m s Q E _ _ _ _ _ _ _ hb; exfalso; omega
  | succ d ih => exact h d ih
theorem innerC_use {w : World} {p : Program} {loose : List Str} {mean : ExcName → Option Value} {mg mb : Str → Option Value} {f : Addr} {Led : List Value → List (Addr × Obj)} {n : Int} {d : Nat}
    (C : InnerC w p loose mean mg mb f Led n d)
    {x i j : Int} {t1 t2 t3 : Tok} {vs : List Value} {ns : List Int} {dp un : Nat} {gd : Option (List Code)} {cnm : Str} {cs : Scope} {aa : Addr} {ccd : Value} {cl : List (Str × Addr)} {outer : List Env} {A₀ : Around} {base h₀ : Heap} {L : Addr} {m : Str → Option Value} {s : Shared} {Q E : Value → Shared → Prop}
    (B : Below A₀ base outer h₀) (F : Fr h₀ L s.heap m) (X : (hd.heap_39 w.params).In h₀) (N : News h₀ L s.heap (Led vs)) (T : Top p loose mean mg mb h₀) (hk : cs.kind = .function)
    (hi : IntsAre vs ns) (hb : 0 ≤ i ∧ i < j ∧ j ≤ ns.length ∧ j - i ≤ d ∧ ns.length ≤ 7) (hx : 0 ≤ x ∧ x < 2 ^ 200) (h1 : dp + d < recursionLimit) (h2 : un + 8 * d < cLine)
    (ret : ∀ (vs' : List Value) (h' : Heap) (tk' : Nat), Fr h₀ L h' m → News h₀ L h' (Led vs') → IntsAre vs' (putD n d x i j ns) → Q .none { s with heap := h', toks := tk' }) :
    wpAny (model (RowW.prog (OpenRow.toRowW (OpenLaw.row PySem.Challenge.rw_pe0204_01))) w) (ktrTop dp un gd cnm cs L aa ccd cl outer) (call (.ref f) [.int x t1, .int i t2, .int j t3]) Q E s :=
  C _ _ _ _ _ _ _ _ _ _ _ _ _ _ _ _ _ _ _ _ _ _ _ _ _ B F X N T hk hi hb hx h1 h2 ret
theorem innerC_use1 {w : World} {p : Program} {loose : List Str} {mean : ExcName → Option Value} {mg mb : Str → Option Value} {f l : Addr} {e1 e2 e3 e4 e5 e6 e7 : Addr × Obj} {n : Int} {d : Nat}
    (C : InnerC w p loose mean mg mb f (fun v => [e1, e2, (l, W.listOf v.toArray 0), e3, e4, e5, e6, e7]) n d)
    {x i j : Int} {t1 t2 t3 : Tok} {vs : List Value} {ns : List Int} {dp un : Nat} {gd : Option (List Code)} {cnm : Str} {cs : Scope} {aa : Addr} {ccd : Value} {cl : List (Str × Addr)} {outer : List Env} {A₀ : Around} {base h₀ : Heap} {L : Addr} {m : Str → Option Value} {s : Shared} {Q E : Value → Shared → Prop}
    (B : Below A₀ base outer h₀) (F : Fr h₀ L s.heap m) (X : (hd.heap_39 w.params).In h₀) (N : News h₀ L s.heap [e1, e2, (l, W.listOf vs.toArray 0), e3, e4, e5, e6, e7]) (T : Top p loose mean mg mb h₀) (hk : cs.kind = .function)
    (hi : IntsAre vs ns) (hb : 0 ≤ i ∧ i < j ∧ j ≤ ns.length ∧ j - i ≤ d ∧ ns.length ≤ 7) (hx : 0 ≤ x ∧ x < 2 ^ 200) (h1 : dp + d < recursionLimit) (h2 : un + 8 * d < cLine)
    (ret : ∀ (vs' : List Value) (h' : Heap) (tk' : Nat), Fr h₀ L h' m → News h₀ L h' [e1, e2, (l, W.listOf vs'.toArray 0), e3, e4, e5, e6, e7] → IntsAre vs' (putD n d x i j ns) → Q .none { s with heap := h', toks := tk' }) :
    wpAny (model (RowW.prog (OpenRow.toRowW (OpenLaw.row PySem.Challenge.rw_pe0204_01))) w) (ktrTop dp un gd cnm cs L aa ccd cl outer) (call (.ref f) [.int x t1, .int i t2, .int j t3]) Q E s :=
  innerC_use C B F X N T hk hi hb hx h1 h2 ret
theorem innerC_use2 {w : World} {p : Program} {loose : List Str} {mean : ExcName → Option Value} {mg mb : Str → Option Value} {f l : Addr} {e1 e2 e3 e4 e5 e6 e7 : Addr × Obj} {n : Int} {d : Nat}
    (C : InnerC w p loose mean mg mb f (fun v => [e1, (l, W.listOf v.toArray 0), e2, e3, e4, e5, e6, e7]) n d)
    {x i j : Int} {t1 t2 t3 : Tok} {vs : List Value} {ns : List Int} {dp un : Nat} {gd : Option (List Code)} {cnm : Str} {cs : Scope} {aa : Addr} {ccd : Value} {cl : List (Str × Addr)} {outer : List Env} {A₀ : Around} {base h₀ : Heap} {L : Addr} {m : Str → Option Value} {s : Shared} {Q E : Value → Shared → Prop}
    (B : Below A₀ base outer h₀) (F : Fr h₀ L s.heap m) (X : (hd.heap_39 w.params).In h₀) (N : News h₀ L s.heap [e1, (l, W.listOf vs.toArray 0), e2, e3, e4, e5, e6, e7]) (T : Top p loose mean mg mb h₀) (hk : cs.kind = .function)
    (hi : IntsAre vs ns) (hb : 0 ≤ i ∧ i < j ∧ j ≤ ns.length ∧ j - i ≤ d ∧ ns.length ≤ 7) (hx : 0 ≤ x ∧ x < 2 ^ 200) (h1 : dp + d < recursionLimit) (h2 : un + 8 * d < cLine)
    (ret : ∀ (vs' : List Value) (h' : Heap) (tk' : Nat), Fr h₀ L h' m → News h₀ L h' [e1, (l, W.listOf vs'.toArray 0), e2, e3, e4, e5, e6, e7] → IntsAre vs' (putD n d x i j ns) → Q .none { s with heap := h', toks := tk' }) :
    wpAny (model (RowW.prog (OpenRow.toRowW (OpenLaw.row PySem.Challenge.rw_pe0204_01))) w) (ktrTop dp un gd cnm cs L aa ccd cl outer) (call (.ref f) [.int x t1, .int i t2, .int j t3]) Q E s :=
  innerC_use C B F X N T hk hi hb hx h1 h2 ret
set_option maxRecDepth 100000 in
set_option maxHeartbeats 4000000 in
theorem i2d1_c (w : World) (p : Program) (loose : List Str) (mean : ExcName → Option Value) (mg mb : Str → Option Value) (a n : Int) (t t2 : Tok) (D : Nat) :
  ∀ (dp un : Nat) (gd : Option (List Code)) (cn : Str) (cs : Scope) (aa : Addr) (ccd : Value) (cl : List (Str × Addr)) (outer : List Env) (A₀ : Around) (base h₀ : Heap) (L : Addr) (m : Str → Option Value) (s : Shared) (Q E : Value → Shared → Prop),
    CodeHd base 34 30 →
    Below A₀ base outer h₀ → Fr h₀ L s.heap m → (hd.heap_39 w.params).In h₀ → News h₀ L s.heap [(30, tabObj #[])] → Top p loose mean mg mb h₀ → cs.kind = .function →
    ((1 ≤ n ∧ n ≤ 200) ∧ Int.fdiv ((Builtin.Int.intBits a : Int) + n - 1) n = (D : Int) ∧ D ≤ 7 ∧ (0 ≤ a ∧ a < 2 ^ 200)) → dp + 12 < recursionLimit → un + 100 < cLine →
    (∀ (l c1 : Addr) (vs : List Value) (oc1 : Obj) (vs1 : Array Value) (t1 : Tok) (h' : Heap) (tk' : Nat), Fr h₀ L h' m → News h₀ L h' [(l, W.listOf vs.toArray 0), (c1, oc1), (30, tab30 c1)] → IntsAre vs (i2d a n D) → Still [(30, tabObj #[])] s.heap h' → s.heap.get? l = none → s.heap.get? c1 = none → l < c1 → 30 < l → oc1.data = .fields vs1 → vs1[1]? = some (.str innerName t1) → Q (.ref l) { s with heap := h', toks := tk' }) →
    wpAny (model (RowW.prog (OpenRow.toRowW (OpenLaw.row PySem.Challenge.rw_pe0204_01))) w) (ktrTop dp un gd cn cs L aa ccd cl outer) (call (.ref 35) [.int a t, .int n t2]) Q E s := by
  k_fill
  w_on
  k_with_none
  k_with "binaryOp Mult ref int!" => ((k_here; k_dflt (refine' mul_step ?k1 ?k2 ?k3 ?k4 ?k5 ?_; (case k1 => k_asm); (case k2 => k_asm); (case k3 => k_mem); (case k4 => assumption); (case k5 => assumption); k_whole; intro l' h' vs' hvs' F' N' l1; (try k_lt l1); (try k_sweep))))
  k_with "call builtin:len!" => ((k_here; (with_reducible show wpAny _ _ (call (Value.builtin "len") [Value.ref _]) _ _ _); k_dflt (refine' kst_len ?k1 ?k2 ?k3 ?k4 ?_; (case k1 => k_asm); (case k2 => k_mem); (case k3 => (rename _ = List.replicate _ _ => hq9; rw [hq9, List.length_replicate])); (case k4 => omega); k_whole)))
  k_with "call ref!" => ((k_here; (rename InnerC _ _ _ _ _ _ _ _ _ _ => hIH); k_dflt (
  refine' innerC_use hIH ?k1 ?k2 ?k3 ?k4 ?k5 ?kK ?ki ?kb ?kx ?kd ?ku ?_
  (case ki => assumption)
  (case k1 => k_asm)
  (case k2 => k_asm)
  (case k3 => k_asm)
  (case k4 => k_asm)
  (case k5 => k_asm)
  (case kK => first | exact rfl | assumption)
  (case kb => ((try simp only [putD_len]); omega))
  (case kx => first | exact lo_ok _ (by assumption) | exact up_ok _ (by assumption))
  (case kd => ktr_room)
  (case ku => ktr_units)
  intro vs9 h9 tk9 F9 N9 hi9
  (try dsimp only)
  (try k_fold))))
  k_with "binaryOp RShift int int!" => ((k_here; refine rshift_int (by first | decide | exact (sh_ok (by omega) (by assumption)).1) ?_))
  k_with "binaryOp LShift int int!" => ((k_here; refine lshift_int (by first | decide | exact (sh_ok (by omega) (by assumption)).1) (by exact shl_ok (by assumption) (sh_ok (by omega) (by assumption)).2) ?_))
  k_with "my inner" => ((
  intro d hIH x i j t1 t2 t3 vs ns dp un gd cnm cs aa ccd cl outer A₀ base h₀ L m s Q E B F X N T hk hi hb hx hd1 hu1 hret
  obtain ⟨hb1, hb2, hb3, hb4, hb5⟩ := hb
  (try dsimp only at N)
  have hmid := mid_is i j
  refine wpAny_call ?_
  k_dflt (refine' code_nest ?k1 ?k2 ?k3 ?k4 ?k5 ?kA ?kF ?kK ?k6 ?k7 ?k8 ?k9 ?kB ?_ ?c2 ?c3 ?c4 ?c5; (case kA => exact rfl); (case kF => exact rfl); (case kK => assumption); (case k1 => k_asm); (case k2 => k_asm); (case k3 => k_asm); (case k4 => k_asm); (case k5 => k_asm); (case k6 => k_mem); (case k7 => exact codeRec_news (by k_asm) (by k_mem) (by assumption) (by assumption)); (case k8 => ktr_room); (case k9 => exact BindsTo.of_eq rfl); (case c5 => decide); (case kB => exact locs rfl); (case c2 => exact rfl); (case c3 => exact rfl); (case c4 => exact rfl); k_whole; intro g' L' h' FG' F' N' B' X' T'; (try dsimp only); (try k_lift B'); (try k_fold))
  k_steps
  all_goals first | exact hret _ _ _ (by assumption) (by assumption) (ints_leaf (by assumption) (by assumption)) | exact hret _ _ _ (by assumption) (by assumption) (ints_node (by assumption) (by assumption))))
  intros
  rename_i hpre _ _ hret0
  obtain ⟨hn, hD1, hD2, ha⟩ := hpre
  refine wpAny_call ?_
  k_dflt (refine' code_defCS ?k1 ?k2 ?k3 ?k4 ?k5 ?kA ?kF ?kK ?k6 ?k7 ?k8 ?k9 ?kB ?kD ?_ ?c2 ?c3 ?c4; (case kA => exact rfl); (case kF => exact rfl); (case kK => assumption); (case k1 => k_asm); (case k2 => k_asm); (case k3 => k_asm); (case k4 => k_asm); (case k5 => k_asm); (case k6 => k_is); (case k7 => k_is); (case k8 => ktr_room); (case k9 => first | exact BindsTo.of_eq rfl); (case kB => exact rfl); (case kD => decide +kernel); (case c2 => exact rfl); (case c3 => exact rfl); (case c4 => exact rfl); k_whole; intro g' L' h' tk' cells' FG' F' N' Y' B' X' T' l1 hSt; (try k_lt l1); k_cells Y'; (try simp only [List.cons_append, List.nil_append] at N'); (try dsimp only); (try k_lift B'); (try k_fold))
  k_steps
  · rename _ = List.replicate _ _ => hq9
    have hi0 := ints_rep' hq9
    have hD0 := digits_pos (by assumption) hn hD1
    k_dflt (
      refine' innerC_use1 (innerC_all (n := n) ?step D) ?k1 ?k2 ?k3 ?k4 ?k5 ?kK ?ki ?kb ?kx ?kd ?ku ?_
      (case ki => exact hi0)
      (case k1 => k_asm)
      (case k2 => k_asm)
      (case k3 => k_asm)
      (case k4 => k_asm)
      (case k5 => k_asm)
      (case kK => first | exact rfl | assumption)
      (case kb => (simp only [List.length_replicate]; omega))
      (case kx => assumption)
      (case kd => ktr_room)
      (case ku => ktr_units))
    · k_extra "my inner"
    · intro vs9 h9 tk9 F9 N9 hi9
      (try dsimp only)
      (try k_fold)
      k_steps
      exact end_i2d1 hret0 (by assumption) (by assumption) (by assumption) hSt (ints_i2d1 (by assumption) (by assumption)) (by assumption) (ltN (by omega)) (ltN (by omega)) (by assumption) (by assumption)
  · exact end_i2d1 hret0 (by assumption) (by assumption) (by assumption) hSt (ints_i2d0 (by assumption) (ints_rep' (by assumption))) (by assumption) (ltN (by omega)) (ltN (by omega)) (by assumption) (by assumption)
set_option maxRecDepth 100000 in
set_option maxHeartbeats 4000000 in
theorem i2d2_c (w : World) (p : Program) (loose : List Str) (mean : ExcName → Option Value) (mg mb : Str → Option Value) (a n : Int) (t t2 : Tok) (D : Nat) (c1 : Addr) (oc1 : Obj) (vs1 : Array Value) (t1 : Tok) :
  ∀ (dp un : Nat) (gd : Option (List Code)) (cn : Str) (cs : Scope) (aa : Addr) (ccd : Value) (cl : List (Str × Addr)) (outer : List Env) (A₀ : Around) (base h₀ : Heap) (L : Addr) (m : Str → Option Value) (s : Shared) (Q E : Value → Shared → Prop),
    c1 ≠ 30 → oc1.data = .fields vs1 → vs1[1]? = some (.str innerName t1) → CodeHd base 34 30 →
    Below A₀ base outer h₀ → Fr h₀ L s.heap m → (hd.heap_39 w.params).In h₀ → News h₀ L s.heap [(c1, oc1), (30, tab30 c1)] → Top p loose mean mg mb h₀ → cs.kind = .function →
    ((1 ≤ n ∧ n ≤ 200) ∧ Int.fdiv ((Builtin.Int.intBits a : Int) + n - 1) n = (D : Int) ∧ D ≤ 7 ∧ (0 ≤ a ∧ a < 2 ^ 200)) → dp + 12 < recursionLimit → un + 100 < cLine →
    (∀ (l : Addr) (vs : List Value) (h' : Heap) (tk' : Nat), Fr h₀ L h' m → News h₀ L h' [(l, W.listOf vs.toArray 0), (c1, oc1), (30, tab30 c1)] → IntsAre vs (i2d a n D) → Still [(c1, oc1), (30, tab30 c1)] s.heap h' → s.heap.get? l = none → c1 < l → 30 < l → Q (.ref l) { s with heap := h', toks := tk' }) →
    wpAny (model (RowW.prog (OpenRow.toRowW (OpenLaw.row PySem.Challenge.rw_pe0204_01))) w) (ktrTop dp un gd cn cs L aa ccd cl outer) (call (.ref 35) [.int a t, .int n t2]) Q E s := by
  k_fill
  w_on
  k_with_none
  k_with "binaryOp Mult ref int!" => ((k_here; k_dflt (refine' mul_step ?k1 ?k2 ?k3 ?k4 ?k5 ?_; (case k1 => k_asm); (case k2 => k_asm); (case k3 => k_mem); (case k4 => assumption); (case k5 => assumption); k_whole; intro l' h' vs' hvs' F' N' l1; (try k_lt l1); (try k_sweep))))
  k_with "call builtin:len!" => ((k_here; (with_reducible show wpAny _ _ (call (Value.builtin "len") [Value.ref _]) _ _ _); k_dflt (refine' kst_len ?k1 ?k2 ?k3 ?k4 ?_; (case k1 => k_asm); (case k2 => k_mem); (case k3 => (rename _ = List.replicate _ _ => hq9; rw [hq9, List.length_replicate])); (case k4 => omega); k_whole)))
  k_with "call ref!" => ((k_here; (rename InnerC _ _ _ _ _ _ _ _ _ _ => hIH); k_dflt (
  refine' innerC_use hIH ?k1 ?k2 ?k3 ?k4 ?k5 ?kK ?ki ?kb ?kx ?kd ?ku ?_
  (case ki => assumption)
  (case k1 => k_asm)
  (case k2 => k_asm)
  (case k3 => k_asm)
  (case k4 => k_asm)
  (case k5 => k_asm)
  (case kK => first | exact rfl | assumption)
  (case kb => ((try simp only [putD_len]); omega))
  (case kx => first | exact lo_ok _ (by assumption) | exact up_ok _ (by assumption))
  (case kd => ktr_room)
  (case ku => ktr_units)
  intro vs9 h9 tk9 F9 N9 hi9
  (try dsimp only)
  (try k_fold))))
  k_with "binaryOp RShift int int!" => ((k_here; refine rshift_int (by first | decide | exact (sh_ok (by omega) (by assumption)).1) ?_))
  k_with "binaryOp LShift int int!" => ((k_here; refine lshift_int (by first | decide | exact (sh_ok (by omega) (by assumption)).1) (by exact shl_ok (by assumption) (sh_ok (by omega) (by assumption)).2) ?_))
  k_with "my inner" => ((
  intro d hIH x i j t1 t2 t3 vs ns dp un gd cnm cs aa ccd cl outer A₀ base h₀ L m s Q E B F X N T hk hi hb hx hd1 hu1 hret
  obtain ⟨hb1, hb2, hb3, hb4, hb5⟩ := hb
  (try dsimp only at N)
  have hmid := mid_is i j
  refine wpAny_call ?_
  k_dflt (refine' code_nest ?k1 ?k2 ?k3 ?k4 ?k5 ?kA ?kF ?kK ?k6 ?k7 ?k8 ?k9 ?kB ?_ ?c2 ?c3 ?c4 ?c5; (case kA => exact rfl); (case kF => exact rfl); (case kK => assumption); (case k1 => k_asm); (case k2 => k_asm); (case k3 => k_asm); (case k4 => k_asm); (case k5 => k_asm); (case k6 => k_mem); (case k7 => exact codeRec_news (by k_asm) (by k_mem) (by assumption) (by assumption)); (case k8 => ktr_room); (case k9 => exact BindsTo.of_eq rfl); (case c5 => decide); (case kB => exact locs rfl); (case c2 => exact rfl); (case c3 => exact rfl); (case c4 => exact rfl); k_whole; intro g' L' h' FG' F' N' B' X' T'; (try dsimp only); (try k_lift B'); (try k_fold))
  k_steps
  all_goals first | exact hret _ _ _ (by assumption) (by assumption) (ints_leaf (by assumption) (by assumption)) | exact hret _ _ _ (by assumption) (by assumption) (ints_node (by assumption) (by assumption))))
  intros
  rename_i hpre _ _ hret0
  obtain ⟨hn, hD1, hD2, ha⟩ := hpre
  refine wpAny_call ?_
  k_dflt (refine' code_defCS ?k1 ?k2 ?k3 ?k4 ?k5 ?kA ?kF ?kK ?k6 ?k7 ?k8 ?k9 ?kB ?kD ?_ ?c2 ?c3 ?c4; (case kA => exact rfl); (case kF => exact rfl); (case kK => assumption); (case k1 => k_asm); (case k2 => k_asm); (case k3 => k_asm); (case k4 => k_asm); (case k5 => k_asm); (case k6 => k_is); (case k7 => k_is); (case k8 => ktr_room); (case k9 => first | exact BindsTo.of_eq rfl); (case kB => exact rfl); (case kD => decide +kernel); (case c2 => exact rfl); (case c3 => exact rfl); (case c4 => exact rfl); k_whole; intro g' L' h' tk' cells' FG' F' N' Y' B' X' T' l1 hSt; (try k_lt l1); k_cells Y'; (try simp only [List.cons_append, List.nil_append] at N'); (try dsimp only); (try k_lift B'); (try k_fold))
  k_steps
  · rename _ = List.replicate _ _ => hq9
    have hi0 := ints_rep' hq9
    have hD0 := digits_pos (by assumption) hn hD1
    k_dflt (
      refine' innerC_use2 (innerC_all (n := n) ?step D) ?k1 ?k2 ?k3 ?k4 ?k5 ?kK ?ki ?kb ?kx ?kd ?ku ?_
      (case ki => exact hi0)
      (case k1 => k_asm)
      (case k2 => k_asm)
      (case k3 => k_asm)
      (case k4 => k_asm)
      (case k5 => k_asm)
      (case kK => first | exact rfl | assumption)
      (case kb => (simp only [List.length_replicate]; omega))
      (case kx => assumption)
      (case kd => ktr_room)
      (case ku => ktr_units))
    · k_extra "my inner"
    · intro vs9 h9 tk9 F9 N9 hi9
      (try dsimp only)
      (try k_fold)
      k_steps
      exact end_i2d2 hret0 (by assumption) (by assumption) (by assumption) hSt (ints_i2d1 (by assumption) (by assumption)) (by assumption) (ltN (by omega)) (ltN (by omega))
  · exact end_i2d2 hret0 (by assumption) (by assumption) (by assumption) hSt (ints_i2d0 (by assumption) (ints_rep' (by assumption))) (by assumption) (ltN (by omega)) (ltN (by omega))
end Mine
end
section
open PySem PySem.W PyProof.Rows
set_option Elab.async false
namespace Mine
abbrev tup2 (x y : Int) (t1 t2 : Tok) : Obj := { cls := .type "tuple", data := .seq #[.int x t1, .int y t2] }
def Out2 (x y : Int) (r : Value) (tl : List (Addr × Obj)) : Prop := ∃ a t1 t2, r = .ref a ∧ tl = [(a, tup2 x y t1 t2)]
theorem noPy {x b : Int} (h : 0 < b ∧ b < 2 ^ 200) : Builtin.divisionGoesByPylong x b = false := by
  refine PyProof.noPylong_of_log2 ?_
  obtain ⟨n, rfl⟩ := Int.eq_ofNat_of_zero_le (Int.le_of_lt h.1)
  have h1 : n < 2 ^ 200 := by
    have : ((n : Nat) : Int) < ((2 ^ 200 : Nat) : Int) := by simpa using h.2
    exact_mod_cast this
  have h0 : n ≠ 0 := by intro q; subst q; simp at h
  show n.log2 < 9000
  have := (Nat.log2_lt h0).mpr h1
  omega
theorem divmod_step {prog : Program} {w : World} {A : Around} {E : Value → Shared → Prop} {s : Shared} {a b : Int} {t u : Tok} {Q : Value → Shared → Prop} {h₀ : Heap} {L : Addr} {m : Str → Option Value} {news : List (Addr × Obj)} (F : Fr h₀ L s.heap m) (N : News h₀ L s.heap news) (hb : 0 < b ∧ b < 2 ^ 200)
    (h : ∀ D t1 t2 h' tk, Fr h₀ L h' m → News h₀ L h' ((D, tup2 (a.fdiv b) (a.fmod b) t1 t2) :: news) → (∀ p ∈ news, p.1 < D) → Q (.ref D) { s with heap := h', toks := tk }) : wpAny (model prog w) A (call (.builtin "divmod") [.int a t, .int b u]) Q E s :=
  divmod_N F N (by omega) (fun h' F' N' => h _ _ _ h' _ F' N' fun p hp => Heap.lt_size (N p hp).1) (.inl (noPy hb))
theorem end2 {h₀ h' : Heap} {L D : Addr} {m : Str → Option Value} {news : List (Addr × Obj)} {s : Shared} {tk : Nat} {Q : Value → Shared → Prop} {x y : Int} {t1 t2 : Tok}
    (hret : ∀ (r : Value) (tl : List (Addr × Obj)) (h' : Heap) (tk' : Nat), Fr h₀ L h' m → News h₀ L h' (tl ++ news) → (∀ p ∈ tl, ∀ q ∈ news, q.1 < p.1) → Out2 x y r tl → Q r { s with heap := h', toks := tk' })
    (F : Fr h₀ L h' m) (N : News h₀ L h' ((D, tup2 x y t1 t2) :: news)) (l1 : ∀ p ∈ news, p.1 < D) : Q (.ref D) { s with heap := h', toks := tk } :=
  hret _ [_] _ _ F N (fun p hp q hq => by rw [List.mem_singleton.mp hp]; exact l1 q hq) ⟨_, _, _, rfl, rfl⟩
set_option maxRecDepth 100000 in
set_option maxHeartbeats 4000000 in
theorem div_c (w : World) (p : Program) (loose : List Str) (mean : ExcName → Option Value) (mg mb : Str → Option Value) (x b n : Int) (t t2 t3 : Tok) (news : List (Addr × Obj)) :
    ClaimO w p loose mean mg mb 21 1 8 news ((Builtin.Int.intBits x : Int) - n ≤ 4000 ∧ (0 < b ∧ b < 2 ^ 200)) [.int x t, .int b t2, .int n t3] (Out2 (x.fdiv b) (x.fmod b)) := by
  unfold ClaimO
  k_fill
  w_on
  k_with_none
  k_with "call builtin:divmod!" => ((k_here; k_dflt (refine' divmod_step ?k1 ?k2 ?k3 ?_; (case k1 => k_asm); (case k2 => k_asm); (case k3 => assumption); k_whole; intro D' t1' t2' h' tk' F' N' l1; (try k_lt l1); (try k_sweep))))
  intros
  rename_i hpre _ _ hret
  obtain ⟨hx, hb⟩ := hpre
  refine wpAny_call ?_
  k_dflt cell_enter
  k_steps
  exact end2 hret (by assumption) (by assumption) (by assumption)
end Mine
end
section
open PySem PySem.W PyProof.Rows PySem.Calls PySem.Spec
set_option Elab.async false
namespace Mine
theorem still_ne {own : List (Addr × Obj)} {h h' : Heap} {a l : Addr} {o : Obj} (e : h.get? a = some o) (q : h.get? l = none) : l ≠ a := fun z => by rw [z, e] at q; cases q
theorem use_i2d1 {w : World} {p : Program} {loose : List Str} {mean : ExcName → Option Value} {mg mb : Str → Option Value} {a n : Int} {t t2 : Tok} (D : Nat) {o37 : Obj}
    {dp un : Nat} {gd : Option (List Code)} {cn : Str} {cs : Scope} {aa : Addr} {ccd : Value} {cl : List (Str × Addr)} {outer : List Env} {A₀ : Around} {base h₀ : Heap} {L : Addr} {m : Str → Option Value} {s : Shared} {Q E : Value → Shared → Prop}
    (C : CodeHd base 34 30) (B : Below A₀ base outer h₀) (F : Fr h₀ L s.heap m) (X : (hd.heap_39 w.params).In h₀) (N : News h₀ L s.heap [(37, o37), (30, tabObj #[])]) (T : Top p loose mean mg mb h₀) (hk : cs.kind = .function)
    (hp : (1 ≤ n ∧ n ≤ 200) ∧ Int.fdiv ((Builtin.Int.intBits a : Int) + n - 1) n = (D : Int) ∧ D ≤ 7 ∧ (0 ≤ a ∧ a < 2 ^ 200)) (h1 : dp + 12 < recursionLimit) (h2 : un + 100 < cLine)
    (ret : ∀ (l c1 : Addr) (vs : List Value) (oc1 : Obj) (vs1 : Array Value) (t1 : Tok) (h' : Heap) (tk' : Nat), Fr h₀ L h' m → News h₀ L h' [(l, W.listOf vs.toArray 0), (c1, oc1), (37, o37), (30, tab30 c1)] → IntsAre vs (i2d a n D) → (@Ne Nat l 37 ∧ @Ne Nat c1 37 ∧ @LT.lt Nat _ l c1 ∧ @LT.lt Nat _ 30 l) → oc1.data = .fields vs1 → vs1[1]? = some (.str innerName t1) → Q (.ref l) { s with heap := h', toks := tk' }) :
    wpAny (model (RowW.prog (OpenRow.toRowW (OpenLaw.row PySem.Challenge.rw_pe0204_01))) w) (ktrTop dp un gd cn cs L aa ccd cl outer) (call (.ref 35) [.int a t, .int n t2]) Q E s := by
  refine i2d1_c w p loose mean mg mb a n t t2 D dp un gd cn cs aa ccd cl outer A₀ base h₀ L m s Q E C B F X (fun q hq => N q (.tail _ hq)) T hk hp h1 h2 ?_
  intro l c1 vs oc1 vs1 t1 h' tk' F' N' hi S hl hc hlt h30 d1 d2
  have e37 := (N _ (.head _)).1
  have n1 : l ≠ 37 := fun z => by rw [z, e37] at hl; cases hl
  have n2 : c1 ≠ 37 := fun z => by rw [z, e37] at hc; cases hc
  refine ret l c1 vs oc1 vs1 t1 h' tk' F' (fun q hq => ?_) hi ⟨n1, n2, hlt, h30⟩ d1 d2
  rcases List.mem_cons.mp hq with rfl | hq
  · exact N' _ (.head _)
  · rcases List.mem_cons.mp hq with rfl | hq
    · exact N' _ (.tail _ (.head _))
    · rcases List.mem_cons.mp hq with rfl | hq
      · exact ⟨S 37 o37 (by decide) e37, (N _ (.head _)).2⟩
      · rw [List.mem_singleton.mp hq]; exact N' _ (.tail _ (.tail _ (.head _)))
theorem i2d_len (a n : Int) (D : Nat) : (i2d a n D).length = D := by unfold i2d; split <;> simp [putD_len]
theorem digits_one {b : Int} (h : 0 < b ∧ b < 2 ^ 200) : 1 ≤ Builtin.Int.intBits b := by
  rcases Nat.lt_or_ge 0 (Builtin.Int.intBits b) with q | q
  · exact q
  · have := intBits_le_iff.mp q
    simp at this
    omega
theorem putD_all {n : Int} {B : Int} : ∀ d x i j ns, (0 ≤ x ∧ x < B) → (∀ v ∈ ns, 0 ≤ v ∧ v < B) → ∀ v ∈ putD n d x i j ns, 0 ≤ v ∧ v < B
  | 0, _, _, _, _, _, h => h
  | d + 1, x, i, j, ns, hx, h => by
    unfold putD
    split
    · intro v hv
      rcases List.mem_or_eq_of_mem_set hv with q | q
      · exact h v q
      · exact q ▸ hx
    · exact putD_all d _ _ _ _ (up_ok _ hx) (putD_all d _ _ _ _ (lo_ok _ hx) h)
theorem i2d_all {a n : Int} {D : Nat} (ha : 0 ≤ a ∧ a < 2 ^ 200) : ∀ v ∈ i2d a n D, 0 ≤ v ∧ v < 2 ^ 200 := by
  have h0 : ∀ v ∈ List.replicate D (0 : Int), 0 ≤ v ∧ v < 2 ^ 200 := fun v hv => by rw [List.eq_of_mem_replicate hv]; decide
  unfold i2d
  split
  · exact h0
  · exact putD_all _ _ _ _ _ ha h0
theorem fmod_ok {x b : Int} (hb : 0 < b ∧ b < 2 ^ 200) : 0 ≤ x.fmod b ∧ x.fmod b < 2 ^ 200 := ⟨Int.fmod_nonneg_of_pos _ hb.1, Int.lt_trans (Int.fmod_lt_of_pos _ hb.1) hb.2⟩
theorem zero_ok : (0 : Int) ≤ 0 ∧ (0 : Int) < 2 ^ 200 := by decide
theorem x_lt {r d n : Int} (hr : 0 ≤ r ∧ r < 2 ^ 200) (hd : 0 ≤ d ∧ d < 2 ^ 200) (hn : 1 ≤ n ∧ n ≤ 200) : 0 ≤ r * 2 ^ n.toNat + d ∧ r * 2 ^ n.toNat + d < 2 ^ 401 := by
  have h1 : (0 : Int) ≤ 2 ^ n.toNat := Int.pow_nonneg (by decide)
  have h2 : (2 : Int) ^ n.toNat ≤ 2 ^ 200 := by
    have : (2 : Nat) ^ n.toNat ≤ 2 ^ 200 := Nat.pow_le_pow_right (by decide) (by omega)
    exact_mod_cast this
  have h3 : 0 ≤ r * 2 ^ n.toNat := Int.mul_nonneg hr.1 h1
  have h4 : r * 2 ^ n.toNat ≤ 2 ^ 200 * 2 ^ 200 := Int.mul_le_mul (Int.le_of_lt hr.2) h2 h1 (by decide)
  have e1 : (2 : Int) ^ 200 * 2 ^ 200 = 2 ^ 400 := by decide +kernel
  have e2 : (2 : Int) ^ 401 = 2 ^ 400 + 2 ^ 400 := by decide +kernel
  have e3 : (2 : Int) ^ 200 ≤ 2 ^ 400 := by decide +kernel
  rw [e1] at h4
  rw [e2]
  generalize r * 2 ^ n.toNat = z at *
  generalize (2 : Int) ^ 400 = y at *
  generalize (2 : Int) ^ 200 = u at *
  omega
theorem bits_lt {x : Int} {B : Nat} (h : 0 ≤ x ∧ x < 2 ^ B) : Builtin.Int.intBits x ≤ B := by
  refine intBits_le_iff.mpr ?_
  obtain ⟨n, rfl⟩ := Int.eq_ofNat_of_zero_le h.1
  have : ((n : Nat) : Int) < ((2 ^ B : Nat) : Int) := by simpa using h.2
  show n < 2 ^ B
  exact_mod_cast this
theorem x_bits {r d n : Int} (hr : 0 ≤ r ∧ r < 2 ^ 200) (hd : 0 ≤ d ∧ d < 2 ^ 200) (hn : 1 ≤ n ∧ n ≤ 200) : (Builtin.Int.intBits (r * 2 ^ n.toNat + d) : Int) - n ≤ 4000 := by
  have := bits_lt (x_lt hr hd hn)
  omega
theorem sh_bits {r n : Int} {B : Nat} (hr : 0 ≤ r ∧ r < 2 ^ B) (hB : B ≤ 2000) (hn : n ≤ 1400) : (Builtin.Int.intBits r : Int) + n ≤ 2 ^ 27 := by
  have := bits_lt hr
  have e : (2 : Int) ^ 27 = 134217728 := by decide
  rw [e]
  omega
theorem fdiv_ok {x b : Int} {B : Nat} (hb : 0 < b ∧ b < 2 ^ 200) (hx : 0 ≤ x ∧ x < 2 ^ B) : 0 ≤ x.fdiv b ∧ x.fdiv b < 2 ^ B := by
  rw [Int.fdiv_eq_ediv_of_nonneg _ (Int.le_of_lt hb.1)]
  exact ⟨Int.ediv_nonneg hx.1 (Int.le_of_lt hb.1), Int.lt_of_le_of_lt (Int.ediv_le_self _ hx.1) hx.2⟩
theorem comb_ok {x y s : Int} (hx : 0 ≤ x ∧ x < 2 ^ 401) (hy : 0 ≤ y ∧ y < 2 ^ 401) (hs : 0 ≤ s ∧ s ≤ 1400) : 0 ≤ x * 2 ^ s.toNat + y ∧ x * 2 ^ s.toNat + y < 2 ^ 1802 := by
  have h1 : (0 : Int) ≤ 2 ^ s.toNat := Int.pow_nonneg (by decide)
  have h2 : (2 : Int) ^ s.toNat ≤ 2 ^ 1400 := by
    have : (2 : Nat) ^ s.toNat ≤ 2 ^ 1400 := Nat.pow_le_pow_right (by decide) (by omega)
    exact_mod_cast this
  have h3 : 0 ≤ x * 2 ^ s.toNat := Int.mul_nonneg hx.1 h1
  have h4 : x * 2 ^ s.toNat ≤ 2 ^ 401 * 2 ^ 1400 := Int.mul_le_mul (Int.le_of_lt hx.2) h2 h1 (by decide +kernel)
  have e1 : (2 : Int) ^ 401 * 2 ^ 1400 = 2 ^ 1801 := by decide +kernel
  have e2 : (2 : Int) ^ 1802 = 2 ^ 1801 + 2 ^ 1801 := by decide +kernel
  have e3 : (2 : Int) ^ 401 ≤ 2 ^ 1801 := by decide +kernel
  rw [e1] at h4
  rw [e2]
  generalize x * 2 ^ s.toNat = z at *
  generalize (2 : Int) ^ 1801 = y1 at *
  generalize (2 : Int) ^ 401 = u at *
  omega
def dmX (b r d : Int) : Int := r * 2 ^ ((Builtin.Int.intBits b : Int)).toNat + d
abbrev DmRet (h₀ : Heap) (L : Addr) (m : Str → Option Value) (s : Shared) (Q : Value → Shared → Prop) (q r : Int) : Prop :=
  ∀ (Dd c1 : Addr) (t1 t2 : Tok) (oc1 : Obj) (vs1 : Array Value) (t3 : Tok) (ps : Array Value) (h' : Heap) (tk' : Nat), Fr h₀ L h' m → News h₀ L h' [(Dd, tup2 q r t1 t2), (c1, oc1), (37, tabObj ps), (30, tab30 c1)] → Still [(37, tabObj #[]), (30, tabObj #[])] s.heap h' →
    s.heap.get? Dd = none → s.heap.get? c1 = none → (@LT.lt Nat _ c1 Dd ∧ @LT.lt Nat _ 37 Dd ∧ @LT.lt Nat _ 30 Dd ∧ @Ne Nat c1 37 ∧ @LT.lt Nat _ 30 c1) → oc1.data = .fields vs1 → vs1[1]? = some (.str innerName t3) → Q (.ref Dd) { s with heap := h', toks := tk' }
theorem end_dm {h₀ h' g : Heap} {L L' Dd c1 : Addr} {m : Str → Option Value} {led : List (Addr × Obj)} {q r : Int} {t1 t2 t3 : Tok} {oc1 : Obj} {vs1 ps : Array Value} {s : Shared} {tk : Nat} {Q : Value → Shared → Prop} (hret : DmRet h₀ L m s Q q r)
    (F : Fr h₀ L h' m) (N : News h₀ L h' led) (m1 : (Dd, tup2 q r t1 t2) ∈ led) (m2 : (c1, oc1) ∈ led) (m3 : (37, tabObj ps) ∈ led) (m4 : (30, tab30 c1) ∈ led) (N' : News g L' h' led) (S : Still [(37, tabObj #[]), (30, tabObj #[])] s.heap g) (S' : Still [(37, tabObj #[]), (30, tabObj #[])] s.heap h')
    (ho : @LT.lt Nat _ c1 Dd ∧ @LT.lt Nat _ 37 Dd ∧ @LT.lt Nat _ 30 Dd ∧ @Ne Nat c1 37 ∧ @LT.lt Nat _ 30 c1) (d1 : oc1.data = .fields vs1) (d2 : vs1[1]? = some (.str innerName t3)) : Q (.ref Dd) { s with heap := h', toks := tk } := by
  have nm : ∀ x : Nat, x ≠ 37 → x ≠ 30 → x ∉ [((37 : Addr), tabObj #[]), (30, tabObj #[])].map (·.1) := fun x h1 h2 hq => by
    rcases List.mem_cons.mp hq with e | hq
    · exact h1 e
    · exact h2 (List.mem_singleton.mp hq)
  refine hret Dd c1 t1 t2 oc1 vs1 t3 ps h' tk F (fun z hz => ?_) S' (fresh_of N' m1 S (nm _ (by omega) (by omega))) (fresh_of N' m2 S (nm _ (by omega) (by omega))) ho d1 d2
  rcases List.mem_cons.mp hz with rfl | hz
  · exact N _ m1
  · rcases List.mem_cons.mp hz with rfl | hz
    · exact N _ m2
    · rcases List.mem_cons.mp hz with rfl | hz
      · exact N _ m3
      · rw [List.mem_singleton.mp hz]; exact N _ m4
abbrev setS (x : String) (v : Option Value) (m : Str → Option Value) : Str → Option Value := fun y => if y = PySem.Str.ofString x then v else m y
theorem setS_id (x : String) (m : Str → Option Value) : setS x (m (PySem.Str.ofString x)) m = m := by
  funext y
  show (if _ then _ else _) = _
  split
  · rename_i h; rw [h]
  · rfl
theorem setS_setS (x : String) (u v : Option Value) (m : Str → Option Value) : setS x u (setS x v m) = setS x u m := by
  funext y
  show (if _ then _ else if _ then _ else _) = (if _ then _ else _)
  split <;> rfl
theorem setS_comm (x z : String) (h : PySem.Str.ofString x ≠ PySem.Str.ofString z) (u v : Option Value) (m : Str → Option Value) : setS x u (setS z v m) = setS z v (setS x u m) := by
  funext y
  show (if _ then _ else if _ then _ else _) = (if _ then _ else if _ then _ else _)
  by_cases h1 : y = PySem.Str.ofString x
  · subst h1; rw [if_pos rfl, if_neg h, if_pos rfl]
  · rw [if_neg h1, if_neg h1]

section
variable {prog : Program} {w : World} {A : Around} {E : Value → Shared → Prop} {s : Shared} {env : Env} {h₀ : Heap} {x : Str} {body : List Stmt} {Q : Flow → Shared → Prop}
theorem revRest_ind {I : Addr} {lp : Addr × Obj} {vs : List Value} {m₀ : Str → Option Value} {news : List (Addr × Obj)} (J : Nat → (Str → Option Value) → List (Addr × Obj) → Prop) (h0 : J 0 m₀ news)
    (hlp : ∀ i m nw, J i m nw → lp ∈ nw)
    (fin : ∀ m nw h tk, J vs.length m nw → Fr h₀ env.locals h m → News h₀ env.locals h nw → Q .next { s with heap := h, toks := tk })
    (step : ∀ i v m nw it h tk, vs[i]? = some v → J i m nw → (it.cls = .type "list_reverseiterator") → Fr h₀ env.locals h (fun y => if y = x then some v else m y) → News h₀ env.locals h ((I, it) :: nw) →
      wpAny (model prog w) A (execs body env) (UnrPost h₀ env.locals { s with heap := h, toks := tk } I it (J (i + 1)) Q) E { s with heap := h, toks := tk }) :
    RevRest prog w A E h₀ env x body Q s I lp vs m₀ news := by
  have all : ∀ r i m nw, i + r.length = vs.length → vs.drop i = r → J i m nw → RevRest prog w A E h₀ env x body Q s I lp r m nw := by
    intro r
    induction r with
    | nil => intro i m nw hi _ hj; exact fun h tk F N => fin m nw h tk (by rw [← hi]; exact hj) F N
    | cons v r ih =>
      intro i m nw hi hd hj
      have hv : vs[i]? = some v := by
        have : (vs.drop i)[0]? = some v := by rw [hd]; rfl
        rwa [List.getElem?_drop, Nat.add_zero] at this
      have hd' : vs.drop (i + 1) = r := by
        have : (vs.drop i).drop 1 = r := by rw [hd]; rfl
        rwa [List.drop_drop] at this
      rw [List.length_cons] at hi
      refine RevRest.succ fun it h tk hc F N => wpAny_mono (step i v m nw it h tk hv hj hc F N) (fun f s' hf => ?_) fun _ _ e => e
      have conv : UnrEnd h₀ env.locals { s with heap := h, toks := tk } I it (J (i + 1)) s' →
          UnrEnd h₀ env.locals { s with heap := h, toks := tk } I it (fun m' n' => lp ∈ n' ∧ RevRest prog w A E h₀ env x body Q s I lp r m' n') s' := by
        rintro ⟨h', tk', m', nw', e, F', N', off', hJ⟩
        exact ⟨h', tk', m', nw', e, F', N', off', hlp _ _ _ hJ, ih (i + 1) m' nw' (by omega) hd' hJ⟩
      cases f with
      | ret v => exact hf
      | brk => exact hf
      | next => exact conv hf
      | cont => exact conv hf
  exact all vs 0 m₀ news (by omega) rfl h0
end
def stR (b r d : Int) : Int := (dmX b r d).fmod b
def stQ (b r d : Int) : Int := (dmX b r d).fdiv b
def dmS (b : Int) (l : List Int) : Int × List Int := l.foldl (fun s d => (stR b s.1 d, s.2 ++ [stQ b s.1 d])) (0, [])
/-- what the inner def of _digits2int hands back -/
def valD (n : Int) (ns : List Int) : Nat → Int → Int → Int
  | 0, _, _ => 0
  | d + 1, i, j => if i + 1 = j then ns.getD i.toNat 0 else valD n ns d ((i + j).fdiv (2 ^ (1 : Int).toNat)) j * 2 ^ (((i + j).fdiv (2 ^ (1 : Int).toNat) - i) * n).toNat + valD n ns d i ((i + j).fdiv (2 ^ (1 : Int).toNat))
def d2iV (n : Int) (ns : List Int) : Int := if ns = [] then 0 else valD n ns ns.length 0 ns.length
def dmQ (b : Int) (ns : List Int) : Int × Int := (d2iV (Builtin.Int.intBits b : Int) (dmS b ns.reverse).2.reverse, (dmS b ns.reverse).1)
theorem dmS_snoc (b : Int) (l : List Int) (d : Int) : dmS b (l ++ [d]) = (stR b (dmS b l).1 d, (dmS b l).2 ++ [stQ b (dmS b l).1 d]) := by
  unfold dmS
  rw [List.foldl_append]
  rfl
theorem dmS_len (b : Int) (l : List Int) : (dmS b l).2.length = l.length := by
  unfold dmS
  suffices h : ∀ (l : List Int) (s : Int × List Int), (l.foldl (fun s d => (stR b s.1 d, s.2 ++ [stQ b s.1 d])) s).2.length = s.2.length + l.length by simpa using h l (0, [])
  intro l
  induction l with
  | nil => intro s; rfl
  | cons d l ih => intro s; rw [List.foldl_cons, ih]; simp; omega
theorem valD_leaf {n i j : Int} {ns : List Int} {d : Nat} (h : i + 1 = j) : valD n ns (d + 1) i j = ns.getD i.toNat 0 := by unfold valD; rw [if_pos h]
theorem valD_node {n i j : Int} {ns : List Int} {d : Nat} (h : ¬ i + 1 = j) : valD n ns (d + 1) i j = valD n ns d ((i + j).fdiv (2 ^ (1 : Int).toNat)) j * 2 ^ (((i + j).fdiv (2 ^ (1 : Int).toNat) - i) * n).toNat + valD n ns d i ((i + j).fdiv (2 ^ (1 : Int).toNat)) := by
  conv => lhs; unfold valD
  rw [if_neg h]
theorem dmS_bd {b : Int} (hb : 0 < b ∧ b < 2 ^ 200) (hn : (1 : Int) ≤ (Builtin.Int.intBits b : Int) ∧ (Builtin.Int.intBits b : Int) ≤ 200) (l : List Int) (hl : ∀ v ∈ l, 0 ≤ v ∧ v < 2 ^ 200) :
    (0 ≤ (dmS b l).1 ∧ (dmS b l).1 < 2 ^ 200) ∧ ∀ q ∈ (dmS b l).2, 0 ≤ q ∧ q < 2 ^ 401 := by
  unfold dmS
  suffices h : ∀ (l : List Int), (∀ v ∈ l, 0 ≤ v ∧ v < 2 ^ 200) → ∀ (s : Int × List Int), ((0 ≤ s.1 ∧ s.1 < 2 ^ 200) ∧ ∀ q ∈ s.2, 0 ≤ q ∧ q < 2 ^ 401) →
      (0 ≤ (l.foldl (fun s d => (stR b s.1 d, s.2 ++ [stQ b s.1 d])) s).1 ∧ (l.foldl (fun s d => (stR b s.1 d, s.2 ++ [stQ b s.1 d])) s).1 < 2 ^ 200) ∧ ∀ q ∈ (l.foldl (fun s d => (stR b s.1 d, s.2 ++ [stQ b s.1 d])) s).2, 0 ≤ q ∧ q < 2 ^ 401 from
    h l hl (0, []) ⟨zero_ok, fun q hq => nomatch hq⟩
  intro l
  induction l with
  | nil => intro _ s h; exact h
  | cons d l ih =>
    intro hl s h
    rw [List.foldl_cons]
    have hd := hl d (.head _)
    refine ih (fun v hv => hl v (.tail _ hv)) _ ⟨fmod_ok hb, fun q hq => ?_⟩
    rcases List.mem_append.mp hq with hq | hq
    · exact h.2 q hq
    · rw [List.mem_singleton.mp hq]
      exact fdiv_ok hb (x_lt h.1 hd hn)
theorem mid_ok {i j : Int} (hi : 0 ≤ i) (h : ¬ i + 1 = j) (hj : i < j) : i < (i + j).fdiv (2 ^ (1 : Int).toNat) ∧ (i + j).fdiv (2 ^ (1 : Int).toNat) < j := by
  have := mid_is i j
  omega
theorem comb_bd {x y s : Int} {B : Nat} (hx : 0 ≤ x ∧ x < 2 ^ B) (hy : 0 ≤ y ∧ y < 2 ^ B) (hs : 0 ≤ s ∧ s ≤ 1400) : 0 ≤ x * 2 ^ s.toNat + y ∧ x * 2 ^ s.toNat + y < 2 ^ (B + 1401) := by
  have h1 : (0 : Int) ≤ 2 ^ s.toNat := Int.pow_nonneg (by decide)
  have h2 : (2 : Int) ^ s.toNat ≤ 2 ^ 1400 := by
    have : (2 : Nat) ^ s.toNat ≤ 2 ^ 1400 := Nat.pow_le_pow_right (by decide) (by omega)
    exact_mod_cast this
  have h3 : 0 ≤ x * 2 ^ s.toNat := Int.mul_nonneg hx.1 h1
  have hB : (0 : Int) ≤ 2 ^ B := Int.pow_nonneg (by decide)
  have h4 : x * 2 ^ s.toNat ≤ 2 ^ B * 2 ^ 1400 := Int.mul_le_mul (Int.le_of_lt hx.2) h2 h1 hB
  have e1 : (2 : Int) ^ B * 2 ^ 1400 = 2 ^ (B + 1400) := by rw [Int.pow_add]
  have e2 : (2 : Int) ^ (B + 1401) = 2 ^ (B + 1400) + 2 ^ (B + 1400) := by
    have : B + 1401 = (B + 1400) + 1 := by omega
    rw [this, Int.pow_succ]; omega
  have e3 : (2 : Int) ^ B ≤ 2 ^ (B + 1400) := by
    have : (2 : Nat) ^ B ≤ 2 ^ (B + 1400) := Nat.pow_le_pow_right (by decide) (by omega)
    exact_mod_cast this
  rw [e1] at h4
  rw [e2]
  generalize x * 2 ^ s.toNat = z at *
  generalize (2 : Int) ^ (B + 1400) = y1 at *
  generalize (2 : Int) ^ B = u at *
  omega
theorem getD_bd {ns : List Int} {B : Nat} (hb : ∀ v ∈ ns, 0 ≤ v ∧ v < 2 ^ B) (k : Nat) : 0 ≤ ns.getD k 0 ∧ ns.getD k 0 < 2 ^ B := by
  rw [List.getD_eq_getElem?_getD]
  cases h : ns[k]? with
  | none => exact ⟨by decide, Int.pow_pos (by decide)⟩
  | some v => exact hb v (List.mem_of_getElem? h)
theorem pow_mono {x : Int} {B C : Nat} (h : 0 ≤ x ∧ x < 2 ^ B) (hBC : B ≤ C) : 0 ≤ x ∧ x < 2 ^ C := by
  refine ⟨h.1, Int.lt_of_lt_of_le h.2 ?_⟩
  have : (2 : Nat) ^ B ≤ 2 ^ C := Nat.pow_le_pow_right (by decide) hBC
  exact_mod_cast this
theorem valD_bd {n : Int} {ns : List Int} (hn : 1 ≤ n ∧ n ≤ 200) (hb : ∀ v ∈ ns, 0 ≤ v ∧ v < 2 ^ 401) : ∀ (d : Nat) (i j : Int), 0 ≤ i → i < j → j - i ≤ 7 → 0 ≤ valD n ns d i j ∧ valD n ns d i j < 2 ^ (401 + 1401 * d)
  | 0, _, _, _, _, _ => ⟨Int.le_refl _, Int.pow_pos (by decide)⟩
  | d + 1, i, j, h0, h1, h2 => by
    by_cases h : i + 1 = j
    · rw [valD_leaf h]
      exact pow_mono (getD_bd hb _) (by omega)
    · rw [valD_node h]
      have hm := mid_ok h0 h h1
      have e : 401 + 1401 * (d + 1) = (401 + 1401 * d) + 1401 := by omega
      rw [e]
      exact comb_bd (valD_bd hn hb d _ _ (by omega) hm.2 (by omega)) (valD_bd hn hb d _ _ h0 hm.1 (by omega)) (sh_ok (by omega) hn)
theorem valD_shl {n : Int} {ns : List Int} {d : Nat} {i j s : Int} (hn : 1 ≤ n ∧ n ≤ 200) (hb : ∀ v ∈ ns, 0 ≤ v ∧ v < 2 ^ 401) (hd : d ≤ 7) (h0 : 0 ≤ i) (h1 : i < j) (h2 : j - i ≤ 7) (hs : s ≤ 1400) : (Builtin.Int.intBits (valD n ns d i j) : Int) + s ≤ 2 ^ 27 := by
  have := bits_lt (valD_bd hn hb d i j h0 h1 h2)
  have e : (2 : Int) ^ 27 = 134217728 := by decide
  rw [e]
  omega
theorem shl_r {r n : Int} (hr : 0 ≤ r ∧ r < 2 ^ 200) (hn : 1 ≤ n ∧ n ≤ 200) : (Builtin.Int.intBits r : Int) + n ≤ 2 ^ 27 := sh_bits (B := 200) hr (by decide) (by omega)
/-- what holds between the turns of _divmod_pos -/
def DmJ (b : Int) (ns : List Int) (C : Addr) (fixed : List (Addr × Obj)) (m₀ : Str → Option Value) (i : Nat) (m₁ : Str → Option Value) (nw : List (Addr × Obj)) : Prop :=
  ∃ (vq : List Value) (e : Nat) (u0 u1 : Option Value) (tr : Tok), m₁ = setS "r" (some (.int (dmS b (ns.reverse.take i)).1 tr)) (setS "q_digit" u1 (setS "a_digit" u0 m₀)) ∧
    nw = (C, W.listOf vq.toArray e) :: fixed ∧ IntsAre vq (dmS b (ns.reverse.take i)).2
theorem dmJ0 {b : Int} {ns : List Int} {C : Addr} {fixed : List (Addr × Obj)} {m₀ : Str → Option Value} (hm : ∃ tr : Tok, m₀ (PySem.Str.ofString "r") = some (.int 0 tr)) : DmJ b ns C fixed m₀ 0 m₀ ((C, W.listOf #[] 0) :: fixed) := by
  obtain ⟨tr, hm⟩ := hm
  refine ⟨[], 0, m₀ (PySem.Str.ofString "a_digit"), m₀ (PySem.Str.ofString "q_digit"), tr, ?_, rfl, .nil⟩
  rw [setS_id "a_digit", setS_id "q_digit"]
  show m₀ = setS "r" (some (.int 0 tr)) m₀
  rw [← hm, setS_id "r"]
theorem dm_turn_map {m₀ : Str → Option Value} {v0 v1 v2 u0 u1 u2 : Option Value} :
    setS "r" v2 (setS "q_digit" v1 (setS "a_digit" v0 (setS "r" u2 (setS "q_digit" u1 (setS "a_digit" u0 m₀))))) = setS "r" v2 (setS "q_digit" v1 (setS "a_digit" v0 m₀)) := by
  funext y
  simp only [setS]
  by_cases h2 : y = PySem.Str.ofString "r"
  · simp only [if_pos h2]
  by_cases h1 : y = PySem.Str.ofString "q_digit"
  · simp only [if_neg h2, if_pos h1]
  by_cases h0 : y = PySem.Str.ofString "a_digit"
  · simp only [if_neg h2, if_neg h1, if_pos h0]
  · simp only [if_neg h2, if_neg h1, if_neg h0]
theorem dm_turn_end {b : Int} {ns : List Int} {C I L : Addr} {fixed X : List (Addr × Obj)} {m₀ : Str → Option Value} {i e tk : Nat} {v0 u0 u1 u2 : Option Value} {h₀ h' : Heap} {s₁ : Shared} {it : Obj} {vq : List Value} {d : Int} {t tr tq : Tok}
    (hd : ns.reverse[i]? = some d)
    (F : Fr h₀ L h' (setS "r" (some (.int (stR b (dmS b (ns.reverse.take i)).1 d) tr)) (setS "q_digit" (some (.int (stQ b (dmS b (ns.reverse.take i)).1 d) tq)) (setS "a_digit" v0 (setS "r" u2 (setS "q_digit" u1 (setS "a_digit" u0 m₀)))))))
    (N : News h₀ L h' X) (hI : (I, it) ∈ X) (hC : (C, W.listOf (vq ++ [Value.int (stQ b (dmS b (ns.reverse.take i)).1 d) t]).toArray e) ∈ X) (hf : ∀ p ∈ fixed, p ∈ X) (n1 : @Ne Nat C I) (n2 : ∀ p ∈ fixed, @Ne Nat p.1 I) (hs : IntsAre vq (dmS b (ns.reverse.take i)).2) :
    UnrEnd h₀ L s₁ I it (DmJ b ns C fixed m₀ (i + 1)) { s₁ with heap := h', toks := tk } := by
  rw [dm_turn_map] at F
  have ht : ns.reverse.take (i + 1) = ns.reverse.take i ++ [d] := by rw [List.take_add_one, hd]; rfl
  refine ⟨h', tk, _, (C, W.listOf (vq ++ [Value.int (stQ b (dmS b (ns.reverse.take i)).1 d) t]).toArray e) :: fixed, rfl, F, fun p hp => N p ?_, fun p hp => ?_, vq ++ [Value.int (stQ b (dmS b (ns.reverse.take i)).1 d) t], e, v0, some (.int (stQ b (dmS b (ns.reverse.take i)).1 d) tq), tr, ?_, rfl, ?_⟩
  · rcases List.mem_cons.mp hp with rfl | hp
    · exact hI
    · rcases List.mem_cons.mp hp with rfl | hp
      · exact hC
      · exact hf p hp
  · rcases List.mem_cons.mp hp with rfl | hp
    · exact n1
    · exact n2 p hp
  · rw [ht, dmS_snoc]
  · rw [ht, dmS_snoc]
    exact hs.append (.cons _ _ .nil)
theorem ints_get {vs : List Value} {ns : List Int} (h : IntsAre vs ns) : ∀ {i : Nat} {v : Value}, vs[i]? = some v → ∃ n t, v = Value.int n t ∧ ns[i]? = some n := by
  induction h with
  | nil => intro i v e; simp at e
  | cons n t _ ih =>
    intro i v e
    cases i with
    | zero => simp at e; exact ⟨n, t, e.symm, rfl⟩
    | succ i => simp at e; simpa using ih e
theorem dig_bd {a n : Int} {D i : Nat} {d : Int} (ha : 0 ≤ a ∧ a < 2 ^ 200) (h : (i2d a n D).reverse[i]? = some d) : 0 ≤ d ∧ d < 2 ^ 200 := i2d_all ha d (List.mem_reverse.mp (List.mem_of_getElem? h))
theorem rr_bd {a b n : Int} {D i : Nat} (hb : 0 < b ∧ b < 2 ^ 200) (hn : (1 : Int) ≤ (Builtin.Int.intBits b : Int) ∧ (Builtin.Int.intBits b : Int) ≤ 200) (ha : 0 ≤ a ∧ a < 2 ^ 200) :
    (0 ≤ (dmS b ((i2d a n D).reverse.take i)).1 ∧ (dmS b ((i2d a n D).reverse.take i)).1 < 2 ^ 200) ∧ ∀ q ∈ (dmS b ((i2d a n D).reverse.take i)).2, 0 ≤ q ∧ q < 2 ^ 401 :=
  dmS_bd hb hn _ fun v hv => i2d_all ha v (List.mem_reverse.mp (List.mem_of_mem_take hv))
theorem qlen {a b n : Int} {D i : Nat} : (dmS b ((i2d a n D).reverse.take i)).2.length ≤ D := by
  rw [dmS_len, List.length_take, List.length_reverse, i2d_len]
  exact Nat.min_le_right _ _
end Mine
end
section
open PySem PySem.W PyProof.Rows PySem.Calls PySem.Spec
set_option Elab.async false
namespace Mine
/-- the inner def of _digits2int, by how many places it takes -/
def In2C (w : World) (p : Program) (loose : List Str) (mean : ExcName → Option Value) (mg mb : Str → Option Value) (f : Addr) (news : List (Addr × Obj)) (n : Int) (ns : List Int) (d : Nat) : Prop :=
  ∀ (i j : Int) (t2 t3 : Tok) (dp un : Nat) (gd : Option (List Code)) (cnm : Str) (cs : Scope) (aa : Addr) (ccd : Value) (cl : List (Str × Addr)) (outer : List Env) (A₀ : Around) (base h₀ : Heap) (L : Addr) (m : Str → Option Value) (s : Shared) (Q E : Value → Shared → Prop),
    Below A₀ base outer h₀ → Fr h₀ L s.heap m → (hd.heap_39 w.params).In h₀ → News h₀ L s.heap news → Top p loose mean mg mb h₀ → cs.kind = .function →
    (0 ≤ i ∧ i < j ∧ j ≤ ns.length ∧ j - i ≤ d ∧ ns.length ≤ 7) → dp + d < recursionLimit → un + 8 * d < cLine →
    (∀ (t : Tok) (h' : Heap) (tk' : Nat), Fr h₀ L h' m → News h₀ L h' news → Q (.int (valD n ns d i j) t) { s with heap := h', toks := tk' }) →
    wpAny (model (RowW.prog (OpenRow.toRowW (OpenLaw.row PySem.Challenge.rw_pe0204_01))) w) (ktrTop dp un gd cnm cs L aa ccd cl outer) (call (.ref f) [.int i t2, .int j t3]) Q E s
theorem in2C_all {w : World} {p : Program} {loose : List Str} {mean : ExcName → Option Value} {mg mb : Str → Option Value} {f : Addr} {news : List (Addr × Obj)} {n : Int} {ns : List Int}
    (h : ∀ d, d < 7 → In2C w p loose mean mg mb f news n ns d → In2C w p loose mean mg mb f news n ns (d + 1)) : ∀ d, d ≤ 7 → In2C w p loose mean mg mb f news n ns d := by
  intro d
  induction d with
  | zero => intro _ i j t2 t3 dp un gd cnm cs aa ccd cl outer A₀ base h₀ L m s Q E _ _ _ _ _ _ hb; exfalso; omega
  | succ d ih => exact fun hd => h d (by omega) (ih (by omega))
theorem in2C_use {w : World} {p : Program} {loose : List Str} {mean : ExcName → Option Value} {mg mb : Str → Option Value} {f : Addr} {news : List (Addr × Obj)} {n : Int} {ns : List Int} {d : Nat}
    (C : In2C w p loose mean mg mb f news n ns d)
    {i j : Int} {t2 t3 : Tok} {dp un : Nat} {gd : Option (List Code)} {cnm : Str} {cs : Scope} {aa : Addr} {ccd : Value} {cl : List (Str × Addr)} {outer : List Env} {A₀ : Around} {base h₀ : Heap} {L : Addr} {m : Str → Option Value} {s : Shared} {Q E : Value → Shared → Prop}
    (B : Below A₀ base outer h₀) (F : Fr h₀ L s.heap m) (X : (hd.heap_39 w.params).In h₀) (N : News h₀ L s.heap news) (T : Top p loose mean mg mb h₀) (hk : cs.kind = .function)
    (hb : 0 ≤ i ∧ i < j ∧ j ≤ ns.length ∧ j - i ≤ d ∧ ns.length ≤ 7) (h1 : dp + d < recursionLimit) (h2 : un + 8 * d < cLine)
    (ret : ∀ (t : Tok) (h' : Heap) (tk' : Nat), Fr h₀ L h' m → News h₀ L h' news → Q (.int (valD n ns d i j) t) { s with heap := h', toks := tk' }) :
    wpAny (model (RowW.prog (OpenRow.toRowW (OpenLaw.row PySem.Challenge.rw_pe0204_01))) w) (ktrTop dp un gd cnm cs L aa ccd cl outer) (call (.ref f) [.int i t2, .int j t3]) Q E s :=
  C _ _ _ _ _ _ _ _ _ _ _ _ _ _ _ _ _ _ _ _ _ B F X N T hk hb h1 h2 ret
theorem item_at {prog : Program} {w : World} {A : Around} {E : Value → Shared → Prop} {s : Shared} {h₀ : Heap} {L l : Addr} {news : List (Addr × Obj)} {vs : List Value} {ns : List Int} {e : Nat} {k : Int} {u : Tok} {value slice : PySem.Expr} {Q : Value → Shared → Prop}
    (N : News h₀ L s.heap news) (hm : (l, W.listOf vs.toArray e) ∈ news) (hi : IntsAre vs ns) (h0 : 0 ≤ k) (h1 : k < ns.length) (h7 : ns.length ≤ 7) (h : ∀ t, Q (.int (ns.getD k.toNat 0) t) s)
    (hs : subscripted slice false (.ref l) (.int k u) = operate [.ref l, .int k u] (getItem (.ref l) (.int k u)) := by with_unfolding_all rfl) (hg : ∀ r, letTemporaryGo value (.ref l) r = pure () := by intro _; with_unfolding_all rfl) :
    wpAny (model prog w) A (subscriptTail value slice (.ref l) (.int k u)) Q E s :=
  item_list_ints ⟨_, (N _ hm).1, rfl, _, rfl⟩ hi h0 h1 (by omega) h hs hg
theorem truth_two {prog : Program} {w : World} {A : Around} {E : Value → Shared → Prop} {s : Shared} {h₀ : Heap} {L l : Addr} {news : List (Addr × Obj)} {vs : List Value} {ns : List Int} {e : Nat} {Q : Bool → Shared → Prop}
    (N : News h₀ L s.heap news) (hm : (l, W.listOf vs.toArray e) ∈ news) (hi : IntsAre vs ns) (h7 : ns.length ≤ 7) (h0 : ns = [] → Q false { s with toks := s.toks + 1 + 1 }) (h1 : ns ≠ [] → Q true { s with toks := s.toks + 1 + 1 }) : wpAny (model prog w) A (truthy (.ref l)) Q E s := by
  refine wpAny_truthy_list (items := vs.toArray) ⟨_, (N _ hm).1, rfl, _, rfl⟩ (by rw [List.size_toArray, hi.length]; omega) ?_
  cases hi with
  | nil => exact h0 rfl
  | cons n t r => exact h1 (fun q => nomatch q)
theorem len_any {prog : Program} {w : World} {A : Around} {E : Value → Shared → Prop} {s : Shared} {h₀ : Heap} {L l : Addr} {news : List (Addr × Obj)} {vs : List Value} {ns : List Int} {e : Nat} {Q : Value → Shared → Prop}
    (N : News h₀ L s.heap news) (hm : (l, W.listOf vs.toArray e) ∈ news) (hi : IntsAre vs ns) (hn : ns.length ≤ 7) (h : ∀ t' tk, Q (.int (ns.length : Int) t') { s with toks := tk }) : wpAny (model prog w) A (call (.builtin "len") [.ref l]) Q E s :=
  kst_len N hm (by rw [hi.length]) (by omega) (h _ _)
section
variable {h₀ h' : Heap} {L : Addr} {m : Str → Option Value} {news : List (Addr × Obj)} {s : Shared} {tk : Nat} {Q : Value → Shared → Prop} {n i j : Int} {ns : List Int} {d : Nat} {t : Tok}
theorem ret_leaf (hret : ∀ (t : Tok) (h' : Heap) (tk' : Nat), Fr h₀ L h' m → News h₀ L h' news → Q (.int (valD n ns (d + 1) i j) t) { s with heap := h', toks := tk' }) (h : i + 1 = j) (F : Fr h₀ L h' m) (N : News h₀ L h' news) : Q (.int (ns.getD i.toNat 0) t) { s with heap := h', toks := tk } := by
  have := hret t h' tk F N
  rwa [valD_leaf h] at this
theorem ret_node (hret : ∀ (t : Tok) (h' : Heap) (tk' : Nat), Fr h₀ L h' m → News h₀ L h' news → Q (.int (valD n ns (d + 1) i j) t) { s with heap := h', toks := tk' }) (h : ¬ i + 1 = j) (F : Fr h₀ L h' m) (N : News h₀ L h' news) :
    Q (.int (valD n ns d ((i + j).fdiv (2 ^ (1 : Int).toNat)) j * 2 ^ (((i + j).fdiv (2 ^ (1 : Int).toNat) - i) * n).toNat + valD n ns d i ((i + j).fdiv (2 ^ (1 : Int).toNat))) t) { s with heap := h', toks := tk } := by
  have := hret t h' tk F N
  rwa [valD_node h] at this
end
theorem d2iV_ne {n : Int} {ns : List Int} {D : Nat} (h : ns ≠ []) (hl : ns.length = D) : d2iV n ns = valD n ns D 0 (ns.length : Int) := by subst hl; unfold d2iV; rw [if_neg h]
theorem d2iV_nil {n : Int} {ns : List Int} (h : ns = []) : d2iV n ns = 0 := by unfold d2iV; rw [if_pos h]
theorem qs_len {a b n : Int} {D : Nat} : (dmS b (i2d a n D).reverse).2.reverse.length = D := by
  rw [List.length_reverse, dmS_len, List.length_reverse, i2d_len]
theorem qs_bd {a b n : Int} {D : Nat} (hb : 0 < b ∧ b < 2 ^ 200) (hn : (1 : Int) ≤ (Builtin.Int.intBits b : Int) ∧ (Builtin.Int.intBits b : Int) ≤ 200) (ha : 0 ≤ a ∧ a < 2 ^ 200) : ∀ q ∈ (dmS b (i2d a n D).reverse).2.reverse, 0 ≤ q ∧ q < 2 ^ 401 :=
  fun q hq => (dmS_bd hb hn _ fun v hv => i2d_all ha v (List.mem_reverse.mp hv)).2 q (List.mem_reverse.mp hq)
set_option maxRecDepth 100000 in
set_option maxHeartbeats 4000000 in
theorem dm_cg (w : World) (p : Program) (loose : List Str) (mean : ExcName → Option Value) (mg mb : Str → Option Value) (a b : Int) (t t2 : Tok) (D : Nat) (hD3 : D ≤ 3) :
  ∀ (dp un : Nat) (gd : Option (List Code)) (cn : Str) (cs : Scope) (aa : Addr) (ccd : Value) (cl : List (Str × Addr)) (outer : List Env) (A₀ : Around) (base h₀ : Heap) (L : Addr) (m : Str → Option Value) (s : Shared) (Q E : Value → Shared → Prop),
    CodeHd base 41 37 → CodeHd base 34 30 →
    Below A₀ base outer h₀ → Fr h₀ L s.heap m → (hd.heap_39 w.params).In h₀ → News h₀ L s.heap [(37, tabObj #[]), (30, tabObj #[])] → Top p loose mean mg mb h₀ → cs.kind = .function →
    ((0 < b ∧ b < 2 ^ 200) ∧ Int.fdiv ((Builtin.Int.intBits a : Int) + (Builtin.Int.intBits b : Int) - 1) (Builtin.Int.intBits b : Int) = (D : Int) ∧ (0 ≤ a ∧ a < 2 ^ 200)) → dp + 20 < recursionLimit → un + 200 < cLine →
    DmRet h₀ L m s Q (dmQ b (i2d a (Builtin.Int.intBits b : Int) D)).1 (dmQ b (i2d a (Builtin.Int.intBits b : Int) D)).2 →
    wpAny (model (RowW.prog (OpenRow.toRowW (OpenLaw.row PySem.Challenge.rw_pe0204_01))) w) (ktrTop dp un gd cn cs L aa ccd cl outer) (call (.ref 56) [.int a t, .int b t2]) Q E s := by
  k_fill
  w_on
  k_with_none
  k_with "call ref!" => first
    | ((k_here; k_extra "inner"))
    | ((k_here; (with_reducible show wpAny _ _ (call (Value.ref 21) _ _) _ _ _); k_extra "div"))
    | ((k_here; (with_reducible show wpAny _ _ (call (Value.ref 35) _ _) _ _ _); k_extra "i2d"))
    | ((k_here; (with_reducible show wpAny _ _ (call (Value.ref 49) _ _) _ _ _); k_dflt (refine wpAny_call ?_; (refine' code_def ?k1 ?k2 ?k3 ?k4 ?k5 ?kA ?kF ?kK ?k6 ?k7 ?k8 ?k9 ?kB ?_ ?c2 ?c3 ?c4 ?c5; (case kA => exact rfl); (case kF => exact rfl); (case kK => exact rfl); (case k1 => k_asm); (case k2 => k_asm); (case k3 => k_asm); (case k4 => k_asm); (case k5 => k_asm); (case k6 => k_is); (case k7 => k_is); (case k8 => ktr_room); (case k9 => exact BindsTo.of_eq rfl); (case c5 => decide); (case kB => exact locs rfl); (case c2 => exact rfl); (case c3 => exact rfl); (case c4 => exact rfl); k_whole; intro g' L' h' FG' F' N' B' X' T'; (try dsimp only); (try k_lift B'); (try k_fold)))))
    | ((k_here; (with_reducible show wpAny _ _ (call (Value.ref 42) _ _) _ _ _); k_dflt (refine wpAny_call ?_; (refine' code_defC ?k1 ?k2 ?k3 ?k4 ?k5 ?kA ?kF ?kK ?k6 ?k7 ?k8 ?k9 ?kB ?kD ?_ ?c2 ?c3 ?c4; (case kA => exact rfl); (case kF => exact rfl); (case kK => exact rfl); (case k1 => k_asm); (case k2 => k_asm); (case k3 => k_asm); (case k4 => k_asm); (case k5 => k_asm); (case k6 => k_is); (case k7 => k_is); (case k8 => ktr_room); (case k9 => exact BindsTo.of_eq rfl); (case kB => exact rfl); (case kD => decide +kernel); (case c2 => exact rfl); (case c3 => exact rfl); (case c4 => exact rfl); k_whole; intro g' L' h' tk' cells' FG' F' N' Y' B' X' T' l1; (try k_lt l1); k_cells Y'; (try simp only [List.cons_append, List.nil_append] at N'); (try dsimp only); (try k_lift B'); (try k_fold)))))
  k_with "truthy ref!" => ((k_here; k_extra "truth"))
  k_with "call builtin:len!" => ((k_here; k_extra "len"))
  k_with "subscriptTail Name Name ref int!" => ((k_here; k_extra "item"))
  k_with "pyIter ref!" => (k_extra "loop")
  k_with "call type:reversed!" => ((k_here; k_extra "revd"))
  k_with "call builtin:list.append!" => ((k_here; k_extra "app"))
  k_with "binaryOp LShift int int!" => ((k_here; k_extra "shl"))
  k_with "call builtin:list.reverse!" => ((k_here; k_extra "turn"))
  k_with "i2d" => k_dflt (
    refine' use_i2d1 D ?kC ?k1 ?k2 ?k3 ?k4 ?k5 ?kK ?kp ?kd ?ku ?_
    (case kC => assumption)
    (case k1 => k_asm)
    (case k2 => k_asm)
    (case k3 => k_asm)
    (case k4 => k_asm)
    (case k5 => k_asm)
    (case kK => first | exact rfl | assumption)
    (case kp => exact ⟨hnb, hD, by omega, ha⟩)
    (case kd => ktr_room)
    (case ku => ktr_units)
    intro l9 c9 vs9 oc9 vs19 t19 h9 tk9 F9 N9 hi9 hne9 d19 d29
    (try dsimp only)
    (try k_fold))
  k_with "revd" => k_dflt (
    refine' krv_reversed ?rF ?rN ?rl ?_
    (case rF => k_asm)
    (case rN => k_asm)
    (case rl => exact ⟨_, (‹News _ _ _ _› _ (.tail _ (.head _))).1, rfl, _, rfl⟩)
    intro I9 hI9' FI9 NI9 hI9
    have lI9 := hI9
    k_lt lI9)
  k_with "loop" => k_dflt (
    refine' iter_revUnr (vs := vs9) ?l1 ?l2 ?l3 ?l4 ?l5 ?l6 ?l7 ?_
    (case l1 => exact rfl)
    (case l2 => k_asm)
    (case l3 => k_asm)
    (case l4 => k_offL)
    (case l5 => k_mem)
    (case l6 => exact rfl)
    (case l7 => exact rfl)
    refine' revRest_ind (DmJ b (i2d a (Builtin.Int.intBits b : Int) D) _ _ _) ?h0 ?hlp ?fin ?step
    (case h0 => (refine' dmJ0 ?hm0; exact ⟨_, rfl⟩))
    (case hlp => (intro i9 m9 nw9 hJ9; obtain ⟨_, _, _, _, _, _, rfl, _⟩ := hJ9; exact .tail _ (.head _)))
    (case' fin => (intro m9 nw9 h9 tk9 hJ9 F9 N9; obtain ⟨vq9, e9, u0, u1, tr9, rfl, rfl, hq9⟩ := hJ9; rw [List.take_of_length_le (by rw [List.length_reverse, List.length_reverse, hi9.length]; exact Nat.le_refl _)] at F9 hq9))
    (case' step => (intro i9 v9 m9 nw9 it9 h9 tk9 hv9 hJ9 hit9 F9 N9; obtain ⟨vq9, e9, u0, u1, tr9, rfl, rfl, hq9⟩ := hJ9; obtain ⟨d9, td9, rfl, hd9⟩ := ints_get hi9.reverse hv9; have hdb := dig_bd ha hd9; have hrb := (rr_bd (n := (Builtin.Int.intBits b : Int)) (D := D) (i := i9) hb hnb ha).1)))
  k_with "shl" => first
    | k_dflt (refine lshift_int (by omega) (shl_r hrb hnb) ?_)
    | k_dflt (refine lshift_int (sh_ok (by omega) hnb).1 (valD_shl hnb hqb (by omega) (by omega) (by omega) (by omega) (sh_ok (by omega) hnb).2) ?_)
  k_with "truth" => k_dflt (
    refine' truth_two ?tr1 ?tr2 hqr ?tr3 ?tr4 ?tr5
    (case tr1 => k_asm)
    (case tr2 => k_mem)
    (case tr3 => omega)
    (case' tr4 => intro hnil)
    (case' tr5 => intro hnil))
  k_with "len" => k_dflt (
    refine' len_any ?le1 ?le2 hqr ?le3 ?_
    (case le1 => k_asm)
    (case le2 => k_mem)
    (case le3 => omega)
    intro tl9 tkl9)
  k_with "item" => k_dflt (
    refine' item_at ?it1 ?it2 hqr ?it3 ?it4 ?it5 ?_ ?it6 ?it7
    (case it1 => k_asm)
    (case it2 => k_mem)
    (case it3 => omega)
    (case it4 => omega)
    (case it5 => omega)
    (case it6 => with_unfolding_all rfl)
    (case it7 => kmk_pure)
    intro ti9)
  k_with "inner" => (
    (rename In2C _ _ _ _ _ _ _ _ _ _ _ => hIH)
    k_dflt (
    refine' in2C_use hIH ?in1 ?in2 ?in3 ?in4 ?in5 ?in6 ?in7 ?in8 ?in9 ?_
    (case in1 => k_asm)
    (case in2 => k_asm)
    (case in3 => k_asm)
    (case in4 => k_asm)
    (case in5 => k_asm)
    (case in6 => first | exact rfl | assumption)
    (case in7 => omega)
    (case in8 => ktr_room)
    (case in9 => ktr_units)
    intro tn9 hn9 tkn9 Fn9 Nn9
    (try dsimp only)
    (try k_fold)))
  k_with "div" => k_dflt (
    refine' useO (div_c _ _ _ _ _ _ _ _ _ _ _ _ _) ?v1 ?v2 ?v3 ?v4 ?v5 ?vK ?vp ?vd ?vu ?_
    (case v1 => k_asm)
    (case v2 => k_asm)
    (case v3 => k_asm)
    (case v4 => k_asm)
    (case v5 => k_asm)
    (case vK => first | exact rfl | assumption)
    (case vp => exact ⟨x_bits hrb hdb hnb, hb⟩)
    (case vd => ktr_room)
    (case vu => ktr_units)
    intro r8 tl8 h8 tk8 F8 N8 hl8 ho8
    obtain ⟨a8, t18, t28, rfl, rfl⟩ := ho8
    simp only [List.cons_append, List.nil_append] at N8
    have lt8 := hl8 _ (.head _)
    clear hl8
    dsimp only at lt8
    (try k_lt lt8)
    (try dsimp only)
    (try k_fold))
  k_with "app" => k_dflt (
    refine' append_K ?p1 ?p2 ?p3 ?_ ?p4
    (case p1 => k_asm)
    (case p2 => k_asm)
    (case p3 => k_upd)
    (case p4 => (have q1 := qlen (a := a) (b := b) (n := (Builtin.Int.intBits b : Int)) (D := D) (i := i9); rw [List.size_toArray, hq9.length, sizeLine_eq]; omega))
    intro h7 F7 N7
    rw [List.push_toArray] at N7)
  k_with "turn" => k_dflt (
    refine' kl_reverse (its := vq9.toArray) ?u1 ?u2 ?u3 ?u4 ?u5 ?_
    (case u1 => k_asm)
    (case u2 => k_asm)
    (case u3 => exact rfl)
    (case u4 => k_upd)
    (case u5 => (rw [show vq9.toArray.toList = vq9 from rfl, hq9.length, sizeLine_eq]; rw [List.length_reverse] at hql; omega))
    intro h7 F7 N7
    have hqr := hq9.reverse)
  intros
  rename_i hpre _ _ hret0
  obtain ⟨hb, hD, ha⟩ := hpre
  have hb0 : b ≠ 0 := by omega
  have hb1 : 0 < b := by omega
  have hnb : (1 : Int) ≤ (Builtin.Int.intBits b : Int) ∧ (Builtin.Int.intBits b : Int) ≤ 200 := ⟨by have := digits_one hb; omega, by have := bits_of_lt ⟨Int.le_of_lt hb.1, hb.2⟩; omega⟩
  have hql := qs_len (a := a) (b := b) (n := (Builtin.Int.intBits b : Int)) (D := D)
  have hqb := qs_bd (n := (Builtin.Int.intBits b : Int)) (D := D) hb hnb ha
  refine wpAny_call ?_
  k_dflt (refine' code_defS ?k1 ?k2 ?k3 ?k4 ?k5 ?kA ?kF ?kK ?k6 ?k7 ?k8 ?k9 ?kB ?_ ?c2 ?c3 ?c4 ?c5; (case kA => exact rfl); (case kF => exact rfl); (case kK => assumption); (case k1 => k_asm); (case k2 => k_asm); (case k3 => k_asm); (case k4 => k_asm); (case k5 => k_asm); (case k6 => k_is); (case k7 => k_is); (case k8 => ktr_room); (case k9 => exact BindsTo.of_eq rfl); (case c5 => decide); (case kB => exact locs rfl); (case c2 => exact rfl); (case c3 => exact rfl); (case c4 => exact rfl); k_whole; intro g' L' h' FG' F' N' B' X' T' hSt; (try dsimp only); (try k_lift B'); (try k_fold))
  k_steps
  · exact absurd (by assumption) hb0
  · refine' dm_turn_end hd9 F7 N7 ?ea ?eb ?ec ?ed ?ee hq9
    case ea => k_mem
    case eb => k_mem
    case ec => exact fun p hp => by repeat (first | exact hp | apply List.Mem.tail)
    case ed => exact Nat.ne_of_lt (hI9 _ (.head _))
    case ee => exact fun p hp => Nat.ne_of_lt (hI9 p (.tail _ hp))
  · k_dflt (
      refine' in2C_use (in2C_all (n := (Builtin.Int.intBits b : Int)) (ns := (dmS b (i2d a (Builtin.Int.intBits b : Int) D).reverse).2.reverse) ?zstep D ?zz0) ?zz1 ?zz2 ?zz3 ?zz4 ?zz5 ?zz6 ?zz7 ?zz8 ?zz9 ?_
      (case zz0 => omega)
      (case zz1 => k_asm)
      (case zz2 => k_asm)
      (case zz3 => k_asm)
      (case zz4 => k_asm)
      (case zz5 => k_asm)
      (case zz6 => first | exact rfl | assumption)
      (case zz7 => (have hpos := List.length_pos_iff.mpr hnil; omega))
      (case zz8 => ktr_room)
      (case zz9 => ktr_units))
    · intro d hd7 hIH i j t2 t3 dp un gd cnm cs aa ccd cl outer A₀ base h₀ L m s Q E B F X N T hk hb2 hd1 hu1 hret
      have hmid := mid_is i j
      refine wpAny_call ?_
      k_dflt (refine' code_nest ?yk1 ?yk2 ?yk3 ?yk4 ?yk5 ?ykA ?ykF ?ykK ?yk6 ?yk7 ?yk8 ?yk9 ?ykB ?_ ?yc2 ?yc3 ?yc4 ?yc5; (case ykA => exact rfl); (case ykF => exact rfl); (case ykK => assumption); (case yk1 => k_asm); (case yk2 => k_asm); (case yk3 => k_asm); (case yk4 => k_asm); (case yk5 => k_asm); (case yk6 => k_mem); (case yk7 => exact codeRec_news (by k_asm) (by k_mem) (by assumption) (by assumption)); (case yk8 => ktr_room); (case yk9 => exact BindsTo.of_eq rfl); (case yc5 => decide); (case ykB => exact locs rfl); (case yc2 => exact rfl); (case yc3 => exact rfl); (case yc4 => exact rfl); k_whole; intro g2 L2 h2 FG2 F2 N2 B2 X2 T2; (try dsimp only); (try k_lift B2); (try k_fold))
      k_steps
      · exact ret_leaf hret (by assumption) (by assumption) (by assumption)
      · exact ret_node hret (by assumption) (by assumption) (by assumption)
    · intro tv9 hv9' tkv9 Fv9 Nv9
      (try dsimp only)
      (try k_fold)
      k_steps
      have hq0 : (dmQ b (i2d a (Builtin.Int.intBits b : Int) D)).1 = _ := d2iV_ne hnil hql
      rw [hq0] at hret0
      exact end_dm (c1 := c9) (oc1 := oc9) hret0 (by assumption) (by assumption) (by k_mem) (by k_mem) (by k_mem) (by k_mem) (by assumption) hSt (by assumption) (by omega) d19 d29
  · have hq0 : (dmQ b (i2d a (Builtin.Int.intBits b : Int) D)).1 = 0 := d2iV_nil hnil
    rw [hq0] at hret0
    exact end_dm (c1 := c9) (oc1 := oc9) hret0 (by assumption) (by assumption) (by k_mem) (by k_mem) (by k_mem) (by k_mem) (by assumption) hSt (by assumption) (by omega) d19 d29
end Mine
end
section
open PySem PySem.W PyProof.Rows PySem.Calls PySem.Spec
open LCg LCp
set_option Elab.async false
set_option maxHeartbeats 2000000
namespace Mine
section
variable {prog : Program} {w : World} {A : Around} {E : Value → Shared → Prop} {s : Shared} {h₀ : Heap} {L : Addr} {m : Str → Option Value} {env : Env}
/-- one item of the list: a pair on the ledger; what its test and its element make of the new list -/
def PairStep (prog : Program) (w : World) (A : Around) (h₀ : Heap) (L : Addr) (m : Str → Option Value) (env : Env) (ct elt : PySem.Expr) (x x₂ : Str) (scope : Scope) (cl : List (Str × Addr)) (s : Shared) (news : List (Addr × Obj)) (J : Nat → List Value → Prop) (i : Nat) (v : Value) (ys : List Value) : Prop :=
  ∃ (t : Addr) (ot : Obj) (v₁ v₂ : Value) (nt : Nat), v = .ref t ∧ (t, ot) ∈ news ∧ ot.cls = .type "tuple" ∧ ot.data = .seq #[v₁, v₂] nt ∧
    ∀ I oI C oC D m₂ h tk (E' : Value → Shared → Prop), NsObj oC m₂ → m₂ x = some v₁ → m₂ x₂ = some v₂ → Fr h₀ L h m → News h₀ L h ((I, oI) :: (C, oC) :: (D, lst ys) :: news) → Off3 I C D news → ((@Ne Nat I C) ∧ (@Ne Nat I D) ∧ (@Ne Nat C D)) →
      wpAny (model prog w) A (isTrue ct (compEnvC scope cl C env) (eval ct (compEnvC scope cl C env))) (fun ok s' => if ok = true then
        wpAny (model prog w) A (eval elt (compEnvC scope cl C env)) (CompEnd h₀ L m { s with heap := h, toks := tk } I oI C oC D (lst ys) (fun _ => True) (fun y news' => news' = news ∧ J (i + 1) (ys ++ [y]))) E' s'
        else CompEnd h₀ L m { s with heap := h, toks := tk } I oI C oC D (lst ys) (fun _ => True) (fun _ news' => news' = news ∧ J (i + 1) ys) Value.none s') E' { s with heap := h, toks := tk }
theorem block_PT {ct elt iter : PySem.Expr} {x x₂ : Str} {px px₂ tp : Pos} {tk : Nat} {scope : Scope} {cl : List (Str × Addr)} {pos : Pos} {s₂ : Shared} {I ax : Addr} {its : Array Value} {news : List (Addr × Obj)} {J : Nat → List Value → Prop}
    {RR : Value → Addr → Result → Shared → Prop} (hh : A.handled = none) (hax : (ax, W.listOf its 0) ∈ news ∨ ∃ k, (ax, W.listOf its k) ∈ news) (hsz : its.size ≤ sizeLine)
    (hcell : ∀ y ∈ scope.names, y.2 ≠ .cell) (hkind : scope.kind = .function) (hx : scope.names.lookup x = some .local) (hx₂ : scope.names.lookup x₂ = some .local) (hxx : x ≠ x₂)
    (hit : s₂.heap.IsListIter I ax 0) (F : Fr h₀ L s₂.heap m) (N : News h₀ L s₂.heap news) (hIL : L ≠ I) (hI₀ : h₀.get? I = none) (off : ∀ p ∈ news, p.1 ≠ I)
    (h0 : J 0 []) (step : ∀ i v ys, its[i]? = some v → J i ys → PairStep prog w A h₀ L m env ct elt x x₂ scope cl s₂ news J i v ys)
    (hRR : ∀ D C h tk m' ys, Fr h₀ L h m → News h₀ L h ((D, lst ys) :: news) → Off1 D news → h.Ns C m' → h₀.get? C = none → h₀.get? D = none → C ≠ L → D ≠ L → C ≠ D → (∀ p ∈ news, p.1 ≠ C) → J its.size ys → RR (.ref D) C (.ok .next) { s₂ with heap := h, toks := tk }) :
    wpAny (model prog w) A (newList []) (fun acc s₃ => wpAny (model prog w) A (newFunctionEnv scope env.globals cl [] env.qual none .none (some env)) (fun cenv s₄ =>
      codeAny (model prog w) A (.compStart (.ListComp elt [⟨.Tuple [.Name x px, .Name x₂ px₂] tk tp, iter, [ct], 0⟩] scope pos) 0 (.ref I) acc { cenv with scope := relabel scope env }) (RR acc cenv.locals) s₄) E s₃) E s₂ := by
  obtain ⟨kk, hax⟩ : ∃ k, (ax, W.listOf its k) ∈ news := hax.elim (fun h => ⟨0, h⟩) id
  refine wpAny_newObj_type (wpAny_newFunctionEnv hcell (by intro y hy; simp at hy) (fun h₁ hns₁ hsb₁ => ?_) hkind)
  dsimp only at hns₁ hsb₁ ⊢
  generalize hH2 : s₂.heap.push { cls := .type "list", dict := none, data := .seq ([] : List Value).toArray } = H2 at hns₁ hsb₁ ⊢
  have hC : H2.objs.size = s₂.heap.objs.size + 1 := by rw [← hH2, Heap.size_push]
  have hDC : s₂.heap.objs.size ≠ H2.objs.size := by rw [hC]; exact Nat.ne_of_lt (Nat.lt_succ_self _)
  have below : ∀ b, b < s₂.heap.objs.size → b ≠ H2.objs.size ∧ b ≠ s₂.heap.objs.size := fun b hb => ⟨by rw [hC]; exact Nat.ne_of_lt (Nat.lt_succ_of_lt hb), Nat.ne_of_lt hb⟩
  have hIlt : I < s₂.heap.objs.size := by obtain ⟨_, e, _⟩ := hit; exact Heap.lt_size e
  have old : ∀ b o, s₂.heap.get? b = some o → h₁.get? b = some o := fun b o e => hsb₁.extBut b o (below b (Heap.lt_size e)).1 (Heap.get?_push_of_some _ (hH2 ▸ Heap.get?_push_of_some _ e))
  have hacc : h₁.get? s₂.heap.objs.size = some (lst []) := hsb₁.extBut _ _ hDC (Heap.get?_push_of_some _ (hH2 ▸ Heap.get?_push_size _ rfl))
  have fresh₀ : ∀ a, s₂.heap.objs.size ≤ a → h₀.get? a = none := fun a ha => by
    cases e : h₀.get? a with
    | none => rfl
    | some o' => exact absurd (Heap.lt_size (F.keep a o' e)) (Nat.not_lt.mpr ha)
  have hD₀ : h₀.get? s₂.heap.objs.size = none := fresh₀ _ (Nat.le_refl _)
  have hC₀ : h₀.get? H2.objs.size = none := fresh₀ _ (by rw [hC]; exact Nat.le_succ _)
  have hLlt : L < s₂.heap.objs.size := F.ns.lt
  have hDL : s₂.heap.objs.size ≠ L := Ne.symm (below L hLlt).2
  have hCL : H2.objs.size ≠ L := Ne.symm (below L hLlt).1
  have hCI : I ≠ H2.objs.size := (below I hIlt).1
  have hDI : I ≠ s₂.heap.objs.size := (below I hIlt).2
  have off3' : ∀ p ∈ news, p.1 ≠ I ∧ p.1 ≠ H2.objs.size ∧ p.1 ≠ s₂.heap.objs.size := fun p hp => ⟨off p hp, (below _ (Heap.lt_size (N p hp).1)).1, (below _ (Heap.lt_size (N p hp).1)).2⟩
  have off₀ : Off3 I H2.objs.size s₂.heap.objs.size news := Off3.of off3'
  have hne : ax ≠ I := off _ hax
  have W := Walks.list (prog := prog) (w := w) (A := A) hh I ax hne its
  have hst₁ : h₁.IsListIter I ax 0 ∧ h₁.IsList ax its := ⟨by obtain ⟨o, e, r⟩ := hit; exact ⟨o, old _ _ e, r⟩, ⟨_, old _ _ (N _ hax).1, rfl, _, rfl⟩⟩
  have loop : ∀ s₃ : Shared, s₃ = { s₂ with heap := h₁, toks := s₂.toks + ([] : List (Str × Value)).length } →
      codeAny (model prog w) A (.compLoop (.ListComp elt [⟨.Tuple [.Name x px, .Name x₂ px₂] tk tp, iter, [ct], 0⟩] scope pos) 0 (.ref I) (.ref s₂.heap.objs.size) (compEnvC scope cl H2.objs.size env))
        (RR (.ref s₂.heap.objs.size) H2.objs.size) s₃ := by
    rintro s₃ rfl
    refine kct_loop
      (fun k s' => ∃ h' tk i ys m', s' = { s₂ with heap := h', toks := tk } ∧ i ≤ its.size ∧ k = its.size + 1 - i ∧ ys.length ≤ i ∧ h'.IsListIter I ax i ∧ Fr h₀ L h' m ∧ h'.Ns H2.objs.size m' ∧ News h₀ L h' ((s₂.heap.objs.size, lst ys) :: news) ∧ J i ys) ?_ (its.size + 1)
      ⟨h₁, _, 0, [], _, rfl, Nat.zero_le _, rfl, Nat.le_refl _, hst₁.1, F.keeps old, hns₁, fun p hp => ?_, h0⟩
    · rintro k s' ⟨h', tk', i, ys, m', rfl, hi, rfl, hyl, hit', F', hn', N', hJ⟩
      have hL' : h'.IsList ax its := ⟨_, (N' _ (List.mem_cons_of_mem _ hax)).1, rfl, _, rfl⟩
      have offD : ∀ p ∈ (s₂.heap.objs.size, lst ys) :: news, p.1 ≠ I := fun p hp => by
        rcases List.mem_cons.mp hp with rfl | hp
        · exact Ne.symm hDI
        · exact (off3' p hp).1
      by_cases hlt : i < its.size
      · refine W.item i _ _ _ hlt ⟨hit', hL'⟩ fun v h₂ tk₂ hPv hst₂ hk₂ => ?_
        obtain ⟨t, ot, v₁, v₂, nt, rfl, hmt, hct, hdt, R''⟩ := step i v ys hPv hJ
        have N₂ : News h₀ L h₂ ((s₂.heap.objs.size, lst ys) :: news) := news_but N' hk₂ offD
        have ht : IsTup h₂ t #[v₁, v₂] := ⟨ot, (N₂ _ (List.mem_cons_of_mem _ hmt)).1, hct, nt, hdt⟩
        refine wpAny_letOwnedTupleGo_listiter hst₂.1 ?_
        refine assign_Tuple_tuple hh ht rfl rfl fun h₅ he => ?_
        have he' : ∀ b o, h₂.get? b = some o → h₅.get? b = some o := fun b o e => he b o (Nat.ne_of_lt (Heap.lt_size e)) e
        refine assignInOrder_cons (wpAny_assign_Name (wpAny_storeName_local (lookup_relabel_local hx) ((hn'.at' fun o e => hk₂ _ o (by simpa using Ne.symm hCI) e).at' fun o e => he' _ o e) (fun h₆ hn₆ hs₆ => ?_) (by simp [compEnvC, relabel, hkind])))
        refine assignInOrder_cons (wpAny_assign_Name (wpAny_storeName_local (lookup_relabel_local hx₂) hn₆ (fun h₃ hn₃ hs₃ => ?_) (by simp [compEnvC, relabel, hkind])))
        refine assignInOrder_nil ?_
        have old3 : ∀ b o, b ≠ H2.objs.size → h₂.get? b = some o → h₃.get? b = some o := fun b o hb e => hs₃.extBut b o hb (hs₆.extBut b o hb (he' b o e))
        have hI₃ : h₃.IsListIter I ax (i + 1) := by obtain ⟨o, e, r⟩ := hst₂.1; exact ⟨o, old3 _ _ hCI e, r⟩
        obtain ⟨oI, heI, rI⟩ := id hI₃
        obtain ⟨oC, heC, hoC⟩ := ns_obj hn₃
        have F₃ : Fr h₀ L h₃ m := (((fr_but F' hk₂ hIL hI₀).keeps he').change hs₆ hCL hC₀).change hs₃ hCL hC₀
        have N₃ : News h₀ L h₃ ((I, oI) :: (H2.objs.size, oC) :: (s₂.heap.objs.size, lst ys) :: news) := fun p hp => by
          rcases List.mem_cons.mp hp with rfl | hp
          · exact ⟨heI, Ne.symm hIL, hI₀⟩
          · rcases List.mem_cons.mp hp with rfl | hp
            · exact ⟨heC, hCL, hC₀⟩
            · have z := N₂ p hp
              refine ⟨old3 _ _ ?_ z.1, z.2⟩
              rcases List.mem_cons.mp hp with rfl | hp
              · exact hDC
              · exact (off3' p hp).2.1
        refine wpAny_mono (R'' I oI H2.objs.size oC s₂.heap.objs.size _ h₃ _ _ hoC (by simp [hxx]) (by simp) F₃ N₃ off₀ ⟨hCI, hDI, Ne.symm hDC⟩) (fun ok s₄ h₄ => ?_) fun _ _ e => e
        cases ok with
        | true =>
          simp only [if_true] at h₄ ⊢
          refine wpAny_mono h₄ (fun y s₅ h₅ => ?_) fun _ _ e => e
          obtain ⟨h₄, tk₄, news₄, rfl, F₄, N₄, off₄, _, rfl, R₄⟩ := h₅
          have zI := (N₄ (I, oI) List.mem_cons_self).1
          have zC := (N₄ (H2.objs.size, oC) (List.mem_cons_of_mem _ List.mem_cons_self)).1
          have zD := (N₄ (s₂.heap.objs.size, lst ys) (List.mem_cons_of_mem _ (List.mem_cons_of_mem _ List.mem_cons_self))).1
          refine append_at (hsz := by show ys.toArray.size ≤ sizeLine; rw [List.size_toArray]; exact Nat.le_trans (Nat.le_trans hyl hi) hsz) zD fun h₅ hs₅ hD₅ => ?_
          refine ⟨its.size + 1 - (i + 1), by omega, h₅, tk₄, i + 1, ys ++ [y], _, rfl, hlt, rfl, by rw [List.length_append, List.length_singleton]; exact Nat.succ_le_succ hyl, ⟨oI, hs₅.extBut _ _ hDI zI, rI⟩, F₄.change hs₅ hDL hD₀,
            (hoC.ns zC).sameBut hs₅ (Ne.symm hDC), fun p hp => ?_, R₄⟩
          rcases List.mem_cons.mp hp with rfl | hp
          · exact ⟨hD₅.trans (congrArg some (lst_snoc ys y)), hDL, hD₀⟩
          · have z := N₄ p (List.mem_cons_of_mem _ (List.mem_cons_of_mem _ (List.mem_cons_of_mem _ hp)))
            exact ⟨hs₅.extBut _ _ (off3' p hp).2.2 z.1, z.2⟩
        | false =>
          simp only [Bool.false_eq_true, if_false] at h₄ ⊢
          obtain ⟨h₅, tk₄, news₄, rfl, F₄, N₄, off₄, _, rfl, R₄⟩ := h₄
          have zI := (N₄ (I, oI) List.mem_cons_self).1
          have zC := (N₄ (H2.objs.size, oC) (List.mem_cons_of_mem _ List.mem_cons_self)).1
          exact ⟨its.size + 1 - (i + 1), by omega, h₅, tk₄, i + 1, ys, _, rfl, hlt, rfl, Nat.le_succ_of_le hyl, ⟨oI, zI, rI⟩, F₄, hoC.ns zC, fun p hp => N₄ p (List.mem_cons_of_mem _ (List.mem_cons_of_mem _ hp)), R₄⟩
      · obtain rfl : i = its.size := Nat.le_antisymm hi (Nat.not_lt.mp hlt)
        refine W.done _ _ _ ⟨hit', hL'⟩ fun h₂ tk₂ hk₂ => ?_
        exact hRR _ _ h₂ tk₂ _ ys (fr_but F' hk₂ hIL hI₀) (news_but N' hk₂ offD) off₀.one (hn'.at' fun o e => hk₂ _ o (by simpa using Ne.symm hCI) e) hC₀ hD₀ hCL hDL (Ne.symm hDC) (fun p hp => (off3' p hp).2.1) hJ
    · rcases List.mem_cons.mp hp with rfl | hp
      · exact ⟨hacc, hDL, hD₀⟩
      · exact ⟨old _ _ (N p hp).1, (N p hp).2⟩
  exact codeAny_compStart_list (loop _ rfl) (W.self 0 _ _ _ hst₁ (loop _ rfl))
/-- [elt for x, x₂ in iter if ct] over a list of pairs on the ledger -/
theorem listComp_PT {ct elt iter : PySem.Expr} {x x₂ : Str} {px px₂ tp : Pos} {tk : Nat} {scope : Scope} {cl : List (Str × Addr)} {pos : Pos} {Q : Value → Shared → Prop} (hh : A.handled = none)
    (hclos : closureFor scope env = pure cl) (hcell : ∀ y ∈ scope.names, y.2 ≠ .cell) (hkind : scope.kind = .function)
    (hnames : ∀ y ∈ scope.names, y.2 = .local → scope.names.lookup y.1 = some .local) (hx : scope.names.lookup x = some .local) (hx₂ : scope.names.lookup x₂ = some .local) (hxx : x ≠ x₂)
    (h : wpAny (model prog w) A (eval iter env) (fun xv s₁ => ∃ ax its k news J, xv = .ref ax ∧ Fr h₀ L s₁.heap m ∧ News h₀ L s₁.heap news ∧ (ax, W.listOf its k) ∈ news ∧ its.size ≤ sizeLine ∧ J 0 [] ∧
      (∀ g i v ys, its[i]? = some v → J i ys → PairStep prog w A h₀ L m env ct elt x x₂ scope cl { s₁ with heap := g } news J i v ys) ∧
      ∀ ys D h tk, J its.size ys → Fr h₀ L h m → News h₀ L h ((D, lst ys) :: news) → Off1 D news → Q (.ref D) { s₁ with heap := h, toks := tk }) E s)
    (hs : ∀ x, foldedSetIterable iter env x = pure x := by intro _; rfl) :
    wpAny (model prog w) A (eval (.ListComp elt [⟨.Tuple [.Name x px, .Name x₂ px₂] tk tp, iter, [ct], 0⟩] scope pos) env) Q E s := by
  rw [eval_ListComp]
  refine wpAny_comprehension_free (use := none) rfl hs hclos hkind hnames (wpAny_mono h (fun xv s₁ h₁ => ?_) fun _ _ e => e)
  obtain ⟨ax, its, k, news, J, rfl, F, N, hm, hsz, h0, step, fin⟩ := h₁
  have hl : s₁.heap.IsList ax its := ⟨_, (N _ hm).1, rfl, _, rfl⟩
  refine wpAny_pyIter_list hl ?_
  have up : ∀ b o, s₁.heap.get? b = some o → (s₁.heap.push { cls := .type "list_iterator", data := .fields #[.ref ax, .int 0 0] }).get? b = some o := fun b o e => Heap.get?_push_of_some _ e
  refine block_PT (J := J) hh (.inr ⟨k, hm⟩) hsz hcell hkind hx hx₂ hxx ⟨_, Heap.get?_push_size _ rfl, rfl, rfl⟩ (F.keeps up) (N.grown up) (Nat.ne_of_lt F.ns.lt) (next_is_new F) (fun p hp => Nat.ne_of_lt (Heap.lt_size (N p hp).1)) h0 (step _) ?_
  intro D C h tk m' ys F' N' o1 hn hC₀ hD₀ hCL hDL hCD offC fJ
  refine ⟨m', hn, fun h'' hs'' => fin ys D h'' tk fJ (F'.change hs'' hCL hC₀) (fun p hp => ?_) o1⟩
  refine ⟨hs''.extBut _ _ ?_ (N' p hp).1, (N' p hp).2⟩
  rcases List.mem_cons.mp hp with rfl | hp
  · exact Ne.symm hCD
  · exact offC p hp
end
end Mine
end
section
open PySem PySem.W PyProof.Rows PySem.Calls PySem.Spec
open LCg LCp
set_option Elab.async false
set_option maxHeartbeats 2000000
namespace Mine
abbrev tupSI (t : Str) (k : Int) (t1 t2 : Tok) (e : Nat) : Obj := { cls := .type "tuple", data := .seq #[.str t t1, .int k t2] e }
/-- a list's values are pairs of a text and an int that the ledger bears -/
inductive RowsIn (news : List (Addr × Obj)) : List Value → List (Str × Int) → Prop where
  | nil : RowsIn news [] []
  | cons {a : Addr} {t : Str} {k : Int} {t1 t2 : Tok} {e : Nat} {vs : List Value} {rs : List (Str × Int)} : (a, tupSI t k t1 t2 e) ∈ news → RowsIn news vs rs → RowsIn news (.ref a :: vs) ((t, k) :: rs)
theorem RowsIn.mono {news news' : List (Addr × Obj)} {vs : List Value} {rs : List (Str × Int)} (h : RowsIn news vs rs) (hs : ∀ p ∈ news, p ∈ news') : RowsIn news' vs rs := by
  induction h with
  | nil => exact .nil
  | cons hm _ ih => exact .cons (hs _ hm) ih
theorem RowsIn.length {news : List (Addr × Obj)} {vs : List Value} {rs : List (Str × Int)} (h : RowsIn news vs rs) : vs.length = rs.length := by
  induction h with
  | nil => rfl
  | cons _ _ ih => rw [List.length_cons, List.length_cons, ih]
theorem RowsIn.append {news : List (Addr × Obj)} {vs vs' : List Value} {rs rs' : List (Str × Int)} (h : RowsIn news vs rs) (h' : RowsIn news vs' rs') : RowsIn news (vs ++ vs') (rs ++ rs') := by
  induction h with
  | nil => exact h'
  | cons hm _ ih => exact .cons hm ih
theorem RowsIn.at {news : List (Addr × Obj)} {vs : List Value} {rs : List (Str × Int)} (h : RowsIn news vs rs) : ∀ {i : Nat} {v : Value}, vs[i]? = some v → ∃ a t k t1 t2 e, v = .ref a ∧ (a, tupSI t k t1 t2 e) ∈ news ∧ rs[i]? = some (t, k) := by
  induction h with
  | nil => intro i v e; simp at e
  | cons hm _ ih =>
    rename_i a t k t1 t2 e vs rs _
    intro i v q
    cases i with
    | zero => simp at q; exact ⟨a, t, k, t1, t2, e, q.symm, hm, rfl⟩
    | succ i => simp at q; exact ih q
section
variable {prog : Program} {w : World} {A : Around} {E : Value → Shared → Prop} {s : Shared} {h₀ : Heap} {L : Addr} {m : Str → Option Value} {env : Env}
theorem compRestP_ind {elt : PySem.Expr} {x x₂ : Str} {scope : Scope} {cl : List (Str × Addr)} {S : List (Addr × Obj) → Prop} {P : Nat → Value → Prop} {Fin : List Value → List (Addr × Obj) → Prop} {news : List (Addr × Obj)}
    (J : Nat → List Value → List (Addr × Obj) → Prop) (n : Nat) (h0 : J 0 [] news) (hfin : ∀ ys nw, J n ys nw → Fin ys nw)
    (step : ∀ i ys nw v, i < n → J i ys nw → P i v → ∃ (t : Addr) (ot : Obj) (v₁ v₂ : Value) (nt : Nat), v = .ref t ∧ (t, ot) ∈ nw ∧ ot.cls = .type "tuple" ∧ ot.data = .seq #[v₁, v₂] nt ∧
      ∀ I oI C oC D m₂ h tk (E' : Value → Shared → Prop), NsObj oC m₂ → m₂ x = some v₁ → m₂ x₂ = some v₂ → Fr h₀ L h m → News h₀ L h ((I, oI) :: (C, oC) :: (D, lst ys) :: nw) → Off3 I C D nw → ((@Ne Nat I C) ∧ (@Ne Nat I D) ∧ (@Ne Nat C D)) →
      wpAny (model prog w) A (eval elt (compEnvC scope cl C env)) (CompEnd h₀ L m { s with heap := h, toks := tk } I oI C oC D (lst ys) S (fun y nw' => J (i + 1) (ys ++ [y]) nw')) E' { s with heap := h, toks := tk }) :
    CompRestP prog w A h₀ L m env elt x x₂ scope cl s S P Fin n 0 [] news := by
  have all : ∀ k i ys nw, i + k = n → J i ys nw → CompRestP prog w A h₀ L m env elt x x₂ scope cl s S P Fin k i ys nw := by
    intro k
    induction k with
    | zero => intro i ys nw hi hj; exact hfin ys nw (by rw [← hi]; exact hj)
    | succ k ih =>
      intro i ys nw hi hj
      refine CompRestP.succ fun v hv => ?_
      obtain ⟨t, ot, v₁, v₂, nt, e, hm, hc, hd, R⟩ := step i ys nw v (by omega) hj hv
      refine ⟨t, ot, v₁, v₂, nt, e, hm, hc, hd, fun I oI C oC D m₂ h tk E' hC hx hx₂ F N off ne => wpAny_mono (R I oI C oC D m₂ h tk E' hC hx hx₂ F N off ne) (fun y s' hy => ?_) fun _ _ e => e⟩
      obtain ⟨h', tk', nw', e', F', N', off', hS, hJ⟩ := hy
      exact ⟨h', tk', nw', e', F', N', off', hS, ih (i + 1) _ _ (by omega) hJ⟩
  exact all n 0 [] news (by omega) h0
end
def rowsAt (light : Int) : Nat → List (Str × Int)
  | 0 => [(PySem.Str.ofString "", 1)]
  | k + 1 => (rowsAt light k).map (fun r => (r.1 ++ PySem.Str.ofString "x", r.2 * light)) ++ (rowsAt light k).map (fun r => (r.1 ++ PySem.Str.ofString "o", r.2 * (5 - light)))
def cntAt (one other : Str) (light : Int) (k : Nat) : Int := (((rowsAt light k).filter fun r => em one other r.1).map (·.2)).sum
theorem rowsAt_len (light : Int) : ∀ k, (rowsAt light k).length = 2 ^ k
  | 0 => rfl
  | k + 1 => by rw [rowsAt, List.length_append, List.length_map, List.length_map, rowsAt_len light k, Nat.pow_succ]; omega
theorem rowsAt_text (light : Int) : ∀ k, ∀ r ∈ rowsAt light k, r.1.length = k
  | 0, r, h => by rw [List.mem_singleton.mp h]; decide +kernel
  | k + 1, r, h => by
    have hx : (PySem.Str.ofString "x").length = 1 := by decide +kernel
    have ho : (PySem.Str.ofString "o").length = 1 := by decide +kernel
    rw [rowsAt] at h
    rcases List.mem_append.mp h with h | h
    · obtain ⟨q, hq, rfl⟩ := List.mem_map.mp h
      show (q.1 ++ _).length = _
      rw [Str.length_append, rowsAt_text light k q hq, hx]
    · obtain ⟨q, hq, rfl⟩ := List.mem_map.mp h
      show (q.1 ++ _).length = _
      rw [Str.length_append, rowsAt_text light k q hq, ho]
end Mine
end
section
open PySem PySem.W PyProof.Rows PySem.Calls PySem.Spec
open PySem.Builtin PySem.Builtin.Str
set_option Elab.async false
namespace Mine
section
variable {prog : Program} {w : World} {A : Around} {E : Value → Shared → Prop} {s : Shared} {env : Env} {h₀ : Heap} {x : Str} {body : List Stmt} {Q : Flow → Shared → Prop}
theorem rangeRest_ind {I : Addr} {a : Int} {n : Nat} {m₀ : Str → Option Value} {news : List (Addr × Obj)} (J : Nat → (Str → Option Value) → List (Addr × Obj) → Prop) (h0 : J 0 m₀ news) (off0 : ∀ p ∈ news, p.1 ≠ I)
    (fin : ∀ m nw h tk, J n m nw → Fr h₀ env.locals h m → News h₀ env.locals h nw → Q .next { s with heap := h, toks := tk })
    (step : ∀ i m nw t h tk o, i < n → J i m nw → (∀ p ∈ nw, p.1 ≠ I) → Fr h₀ env.locals h (fun y => if y = x then some (.int (a + (i : Int)) t) else m y) → News h₀ env.locals h ((I, o) :: nw) →
      wpAny (model prog w) A (execs body env) (UnrPost h₀ env.locals { s with heap := h, toks := tk } I o (J (i + 1)) Q) E { s with heap := h, toks := tk }) :
    RangeRest prog w A E h₀ env x body Q s I a n n 0 m₀ news := by
  have all : ∀ k i m nw, i + k = n → J i m nw → (∀ p ∈ nw, p.1 ≠ I) → RangeRest prog w A E h₀ env x body Q s I a n k i m nw := by
    intro k
    induction k with
    | zero => intro i m nw hi hj _; exact fun h tk F N => fin m nw h tk (by rw [← hi]; exact hj) F N
    | succ k ih =>
      intro i m nw hi hj off
      refine RangeRest.succ fun t h tk F N => wpAny_mono (step i m nw t h tk _ (by omega) hj off F N) (fun f s' hf => ?_) fun _ _ e => e
      have conv : UnrEnd h₀ env.locals { s with heap := h, toks := tk } I (itR (a + ((i + 1 : Nat) : Int)) ((n : Int) - ((i + 1 : Nat) : Int))) (J (i + 1)) s' →
          UnrEnd h₀ env.locals { s with heap := h, toks := tk } I (itR (a + ((i + 1 : Nat) : Int)) ((n : Int) - ((i + 1 : Nat) : Int))) (RangeRest prog w A E h₀ env x body Q s I a n k (i + 1)) s' := by
        rintro ⟨h', tk', m', nw', e, F', N', off', hJ⟩
        exact ⟨h', tk', m', nw', e, F', N', off', ih (i + 1) m' nw' (by omega) hJ off'⟩
      cases f with
      | ret v => exact hf
      | brk => exact hf
      | next => exact conv hf
      | cont => exact conv hf
  exact all n 0 m₀ news (by omega) h0 off0
end
structure CntPre (want one other : Str) (longest : Nat) (light : Int) : Prop where
  light : 0 ≤ light ∧ light ≤ 5
  longest : longest ≤ 5
  len : want.length ≤ 20
  dots : List.isEmpty (occurrences want (PySem.Str.ofString "...") 0 want.length 1) = false
  split : Txt.split want (PySem.Str.ofString "...") = [PySem.Str.ofString "", one, other, PySem.Str.ofString ""]
  one : one.length ≤ 3
  other : other.length ≤ 3
theorem rng_small {n : Nat} (h : n ≤ 5) : Builtin.Range.small 0 ((n : Int) + 1) 1 = true := by
  have : n = 0 ∨ n = 1 ∨ n = 2 ∨ n = 3 ∨ n = 4 ∨ n = 5 := by omega
  rcases this with rfl | rfl | rfl | rfl | rfl | rfl <;> decide
theorem rng_size {n : Nat} (h : n ≤ 5) : Builtin.Range.rangeSize 0 ((n : Int) + 1) 1 = ((n + 1 : Nat) : Int) := by
  have : n = 0 ∨ n = 1 ∨ n = 2 ∨ n = 3 ∨ n = 4 ∨ n = 5 := by omega
  rcases this with rfl | rfl | rfl | rfl | rfl | rfl <;> decide
/-- what holds between the turns of the loop of _law_counts -/
def CntJ (one other : Str) (light : Int) (longest : Nat) (C : Addr) (c1 c2 : Addr × Obj) (m₀ : Str → Option Value) (i : Nat) (m₁ : Str → Option Value) (nw : List (Addr × Obj)) : Prop :=
  ∃ (R : Addr) (rs cs : List Value) (e e' : Nat) (rl : List (Addr × Obj)) (u : Option Value), m₁ = (fun y => if y = PySem.Str.ofString "rows" then some (.ref R) else if y = PySem.Str.ofString "size" then u else m₀ y) ∧
    nw = (C, W.listOf cs.toArray e) :: (R, W.listOf rs.toArray e') :: c1 :: c2 :: rl ∧ IntsAre cs ((List.range i).map (cntAt one other light)) ∧ RowsIn rl rs (rowsAt light (min i longest)) ∧ (@Ne Nat R C ∧ @Ne Nat c1.1 C ∧ @Ne Nat c2.1 C ∧ ∀ p ∈ rl, p.1 ≠ C)
theorem perm5 {h₀ h : Heap} {L : Addr} {a b c d e : Addr × Obj} (N : News h₀ L h [a, b, c, d, e]) : News h₀ L h [c, a, d, e, b] := fun p hp => N p (by
  simp only [List.mem_cons, List.not_mem_nil, or_false] at hp ⊢
  rcases hp with h | h | h | h | h <;> simp [h])
theorem cntJ0 {one other : Str} {light : Int} {longest : Nat} {C R T : Addr} {c1 c2 : Addr × Obj} {m₀ : Str → Option Value} {t1 t2 : Tok} (hm : m₀ (PySem.Str.ofString "rows") = some (.ref R)) (hne : @Ne Nat R C ∧ @Ne Nat c1.1 C ∧ @Ne Nat c2.1 C ∧ @Ne Nat T C) :
    CntJ one other light longest C c1 c2 m₀ 0 m₀ [(C, W.listOf #[] 0), (R, W.listOf #[.ref T] 0), c1, c2, (T, tupSI (PySem.Str.ofString "") 1 t1 t2 0)] := by
  refine ⟨R, [.ref T], [], 0, 0, [(T, tupSI (PySem.Str.ofString "") 1 t1 t2 0)], m₀ (PySem.Str.ofString "size"), ?_, rfl, .nil, ?_, hne.1, hne.2.1, hne.2.2.1, fun p hp => ?_⟩
  · funext y
    split
    · rename_i h; rw [h, hm]
    · split
      · rename_i h; rw [h]
      · rfl
  · rw [Nat.zero_min]
    exact .cons (.head _) .nil
  · rw [List.mem_singleton.mp hp]; exact hne.2.2.2
theorem app_step {prog : Program} {w : World} {A : Around} {E : Value → Shared → Prop} {s : Shared} {h₀ : Heap} {L C D I : Addr} {m : Str → Option Value} {cs : List Value} {e : Nat} {oD oI : Obj} {rest : List (Addr × Obj)} {v : Value} {Q : Value → Shared → Prop}
    (F : Fr h₀ L s.heap m) (N : News h₀ L s.heap ((D, oD) :: (I, oI) :: (C, W.listOf cs.toArray e) :: rest)) (h1 : I ≠ C) (h2 : ∀ p ∈ rest, p.1 ≠ C) (hsz : cs.length ≤ 100)
    (h : ∀ h', Fr h₀ L h' m → News h₀ L h' ((I, oI) :: (C, W.listOf (cs ++ [v]).toArray (e + 1)) :: rest) → Q .none { s with heap := h' }) :
    wpAny (model prog w) A (call (.builtin "list.append") [.ref C, v]) Q E s := by
  refine append_K F (fun p hp => N p (.tail _ hp)) (.tail h1 (.head h2)) (fun h' F' N' => ?_) (by rw [List.size_toArray, sizeLine_eq]; omega)
  rw [List.push_toArray] at N'
  exact h h' F' N'
theorem take_y {rows : List (Str × Int)} {P : Str × Int → Bool} {j : Nat} {r : Str × Int} {ys : List Value} {t : Tok} (hr : rows[j]? = some r) (hp : P r = true) (h : IntsAre ys (((rows.take j).filter P).map (·.2))) :
    IntsAre (ys ++ [.int r.2 t]) (((rows.take (j + 1)).filter P).map (·.2)) := by
  rw [List.take_add_one, hr, Option.toList_some, List.filter_append, List.map_append, List.filter_cons_of_pos hp]
  exact h.append (.cons _ _ .nil)
theorem take_n {rows : List (Str × Int)} {P : Str × Int → Bool} {j : Nat} {r : Str × Int} {ys : List Value} (hr : rows[j]? = some r) (hp : P r = false) (h : IntsAre ys (((rows.take j).filter P).map (·.2))) :
    IntsAre ys (((rows.take (j + 1)).filter P).map (·.2)) := by
  rw [List.take_add_one, hr, Option.toList_some, List.filter_append, List.map_append, List.filter_cons_of_neg (by rw [hp]; decide)]
  simpa using h
def fx (light : Int) (r : Str × Int) : Str × Int := (r.1 ++ PySem.Str.ofString "x", r.2 * light)
def fo (light : Int) (r : Str × Int) : Str × Int := (r.1 ++ PySem.Str.ofString "o", r.2 * (5 - light))
/-- what a building comprehension has made of the first i rows -/
def BuildJ (f : Str × Int → Str × Int) (rows : List (Str × Int)) (pre rl0 : List (Addr × Obj)) (i : Nat) (ys : List Value) (nw : List (Addr × Obj)) : Prop :=
  ∃ tl, nw = pre ++ (tl ++ rl0) ∧ RowsIn tl ys ((rows.take i).map f) ∧ ∀ p ∈ tl, ∀ q ∈ pre, @Ne Nat q.1 p.1
theorem buildJ5 {f : Str × Int → Str × Int} {rows : List (Str × Int)} {a b c d e : Addr × Obj} {rl0 : List (Addr × Obj)} : BuildJ f rows [a, b, c, d, e] rl0 0 [] (a :: b :: c :: d :: e :: rl0) := ⟨[], rfl, by rw [List.take_zero]; exact .nil, fun _ h => nomatch h⟩
theorem buildJ6 {f : Str × Int → Str × Int} {rows : List (Str × Int)} {a b c d e g : Addr × Obj} {rl0 : List (Addr × Obj)} : BuildJ f rows [a, b, c, d, e, g] rl0 0 [] (a :: b :: c :: d :: e :: g :: rl0) := ⟨[], rfl, by rw [List.take_zero]; exact .nil, fun _ h => nomatch h⟩
theorem build_end {f : Str × Int → Str × Int} {rows : List (Str × Int)} {pre rl0 tl : List (Addr × Obj)} {i : Nat} {ys : List Value} {r : Str × Int} {a I C D L ax : Addr} {its : Array Value} {oI oC oD : Obj} {t1 t2 : Tok} {e tk : Nat} {h₀ h' : Heap} {m : Str → Option Value} {s₁ : Shared}
    (F : Fr h₀ L h' m) (N : News h₀ L h' ((a, tupSI (f r).1 (f r).2 t1 t2 e) :: (I, oI) :: (C, oC) :: (D, oD) :: (pre ++ (tl ++ rl0)))) (l : ∀ p ∈ (I, oI) :: (C, oC) :: (D, oD) :: (pre ++ (tl ++ rl0)), p.1 < a)
    (off : LCg.Off3 I C D (pre ++ (tl ++ rl0))) (hS : LCg.SrcAt h₀ ax its pre) (hR : RowsIn tl ys ((rows.take i).map f)) (hd : ∀ p ∈ tl, ∀ q ∈ pre, @Ne Nat q.1 p.1) (hr : rows[i]? = some r) :
    LCg.CompEnd h₀ L m s₁ I oI C oC D oD (LCg.SrcAt h₀ ax its) (fun y nw' => BuildJ f rows pre rl0 (i + 1) (ys ++ [y]) nw') (.ref a) { s₁ with heap := h', toks := tk } := by
  refine ⟨h', tk, pre ++ ((a, tupSI (f r).1 (f r).2 t1 t2 e) :: (tl ++ rl0)), rfl, F, fun p hp => N p ?_, LCg.Off3.of fun p hp => ?_, ?_, (a, tupSI (f r).1 (f r).2 t1 t2 e) :: tl, rfl, ?_, fun p hp q hq => ?_⟩
  · simp only [List.mem_cons, List.mem_append] at hp ⊢
    rcases hp with h | h | h | h | h | h | h
    · exact .inr (.inl h)
    · exact .inr (.inr (.inl h))
    · exact .inr (.inr (.inr (.inl h)))
    · exact .inr (.inr (.inr (.inr (.inl h))))
    · exact .inl h
    · exact .inr (.inr (.inr (.inr (.inr (.inl h)))))
    · exact .inr (.inr (.inr (.inr (.inr (.inr h)))))
  · have o3 := off.mem p
    simp only [List.mem_cons, List.mem_append] at hp o3
    rcases hp with h | h | h | h
    · exact o3 (.inl h)
    · subst h
      exact ⟨Nat.ne_of_gt (l _ (.head _)), Nat.ne_of_gt (l _ (.tail _ (.head _))), Nat.ne_of_gt (l _ (.tail _ (.tail _ (.head _))))⟩
    · exact o3 (.inr (.inl h))
    · exact o3 (.inr (.inr h))
  · rcases hS with h | ⟨o, h, q⟩
    · exact .inl h
    · exact .inr ⟨o, List.mem_append_left _ h, q⟩
  · rw [List.take_add_one, hr, Option.toList_some, List.map_append]
    exact (hR.mono fun _ h => .tail _ h).append (.cons (.head _) .nil)
  · rcases List.mem_cons.mp hp with rfl | hp
    · exact Nat.ne_of_lt (l q (.tail _ (.tail _ (.tail _ (List.mem_append_left _ hq)))))
    · exact hd p hp q hq
theorem addL_step {prog : Program} {w : World} {A : Around} {E : Value → Shared → Prop} {s : Shared} {h₀ : Heap} {L l b : Addr} {m : Str → Option Value} {vs ws : List Value} {o1 o2 : Nat} {news : List (Addr × Obj)} {Q : Value → Shared → Prop}
    (F : Fr h₀ L s.heap m) (N : News h₀ L s.heap news) (h1 : (l, W.listOf vs.toArray o1) ∈ news) (h2 : (b, W.listOf ws.toArray o2) ∈ news) (hsz : vs.length + ws.length ≤ 100)
    (h : ∀ D h', Fr h₀ L h' m → News h₀ L h' ((D, W.listOf (vs ++ ws).toArray 0) :: news) → (∀ p ∈ news, p.1 < D) → Q (.ref D) { s with heap := h' }) : wpAny (model prog w) A (binaryOp .Add (.ref l) (.ref b)) Q E s :=
  add_lists (hsz := by rw [sizeLine_eq]; omega) F N ⟨_, (N _ h1).1, rfl, _, rfl⟩ ⟨_, (N _ h2).1, rfl, _, rfl⟩ fun h' F' N' => h _ h' F' N' fun p hp => Heap.lt_size (N p hp).1
theorem map_end1 {R R9 : Addr} {v u9 : Option Value} {m₀ : Str → Option Value} : (fun y => if y = PySem.Str.ofString "rows" then some (Value.ref R) else if y = PySem.Str.ofString "size" then v else if y = PySem.Str.ofString "rows" then some (Value.ref R9) else if y = PySem.Str.ofString "size" then u9 else m₀ y)
    = fun y => if y = PySem.Str.ofString "rows" then some (Value.ref R) else if y = PySem.Str.ofString "size" then v else m₀ y := by
  funext y
  by_cases h1 : y = PySem.Str.ofString "rows"
  · rw [if_pos h1, if_pos h1]
  · by_cases h2 : y = PySem.Str.ofString "size"
    · rw [if_neg h1, if_pos h2, if_neg h1, if_pos h2]
    · rw [if_neg h1, if_neg h2, if_neg h1, if_neg h2, if_neg h1, if_neg h2]
theorem map_end2 {R9 : Addr} {v u9 : Option Value} {m₀ : Str → Option Value} : (fun y => if y = PySem.Str.ofString "size" then v else if y = PySem.Str.ofString "rows" then some (Value.ref R9) else if y = PySem.Str.ofString "size" then u9 else m₀ y)
    = fun y => if y = PySem.Str.ofString "rows" then some (Value.ref R9) else if y = PySem.Str.ofString "size" then v else m₀ y := by
  have hne : PySem.Str.ofString "rows" ≠ PySem.Str.ofString "size" := by decide +kernel
  funext y
  by_cases h1 : y = PySem.Str.ofString "rows"
  · have h2 : y ≠ PySem.Str.ofString "size" := h1 ▸ hne
    rw [if_neg h2, if_pos h1, if_pos h1]
  · by_cases h2 : y = PySem.Str.ofString "size"
    · rw [if_pos h2, if_neg h1, if_pos h2]
    · rw [if_neg h2, if_neg h1, if_neg h2, if_neg h1, if_neg h2]
theorem cnt_snoc {one other : Str} {light : Int} {longest i : Nat} {cs : List Value} {t : Tok} (hi : i < longest + 1) (h : IntsAre cs ((List.range i).map (cntAt one other light))) :
    IntsAre (cs ++ [Value.int ((((rowsAt light (min i longest)).filter fun r => em one other r.1).map (·.2)).sum) t]) ((List.range (i + 1)).map (cntAt one other light)) := by
  rw [List.range_succ, List.map_append, Nat.min_eq_left (by omega)]
  exact h.append (.cons _ _ .nil)
theorem cnt_end1 {one other : Str} {light : Int} {longest i : Nat} {C R R9 I L : Addr} {o : Obj} {c1 c2 : Addr × Obj} {m₀ : Str → Option Value} {v u9 : Option Value} {h₀ h' : Heap} {s₁ : Shared} {tk e e' : Nat} {X tl tl2 : List (Addr × Obj)} {cs ys ys2 : List Value} {t : Tok}
    (hi : (0 : Int) + (i : Int) < (longest : Int))
    (F : Fr h₀ L h' (fun y => if y = PySem.Str.ofString "rows" then some (Value.ref R) else if y = PySem.Str.ofString "size" then v else if y = PySem.Str.ofString "rows" then some (Value.ref R9) else if y = PySem.Str.ofString "size" then u9 else m₀ y))
    (N : News h₀ L h' X) (hI : (I, o) ∈ X) (hC : (C, W.listOf (cs ++ [Value.int ((((rowsAt light (min i longest)).filter fun r => em one other r.1).map (·.2)).sum) t]).toArray e) ∈ X) (hRX : (R, W.listOf (ys ++ ys2).toArray e') ∈ X) (h1 : c1 ∈ X) (h2 : c2 ∈ X) (ht1 : ∀ p ∈ tl, p ∈ X) (ht2 : ∀ p ∈ tl2, p ∈ X)
    (hcs : IntsAre cs ((List.range i).map (cntAt one other light))) (hR1 : RowsIn tl ys ((rowsAt light (min i longest)).map (fx light))) (hR2 : RowsIn tl2 ys2 ((rowsAt light (min i longest)).map (fo light)))
    (n1 : @Ne Nat R C) (n2 : @Ne Nat c1.1 C) (n3 : @Ne Nat c2.1 C) (n4 : ∀ p ∈ tl, @Ne Nat C p.1) (n5 : ∀ p ∈ tl2, @Ne Nat C p.1)
    (i1 : @Ne Nat R I) (i2 : @Ne Nat c1.1 I) (i3 : @Ne Nat c2.1 I) (i4 : ∀ p ∈ tl, @Ne Nat I p.1) (i5 : ∀ p ∈ tl2, @Ne Nat I p.1) (i6 : @Ne Nat C I) :
    UnrEnd h₀ L s₁ I o (CntJ one other light longest C c1 c2 m₀ (i + 1)) { s₁ with heap := h', toks := tk } := by
  rw [map_end1] at F
  refine ⟨h', tk, _, (C, W.listOf (cs ++ [Value.int ((((rowsAt light (min i longest)).filter fun r => em one other r.1).map (·.2)).sum) t]).toArray e) :: (R, W.listOf (ys ++ ys2).toArray e') :: c1 :: c2 :: (tl ++ tl2), rfl, F, fun p hp => N p ?_, fun p hp => ?_, R, ys ++ ys2, _, e, e', tl ++ tl2, v, rfl, rfl, cnt_snoc (by omega) hcs, ?_, n1, n2, n3, fun p hp => ?_⟩
  · simp only [List.mem_cons, List.mem_append] at hp
    rcases hp with rfl | rfl | rfl | rfl | rfl | h | h
    · exact hI
    · exact hC
    · exact hRX
    · exact h1
    · exact h2
    · exact ht1 p h
    · exact ht2 p h
  · simp only [List.mem_cons, List.mem_append] at hp
    rcases hp with rfl | rfl | rfl | rfl | h | h
    · exact i6
    · exact i1
    · exact i2
    · exact i3
    · exact Ne.symm (i4 p h)
    · exact Ne.symm (i5 p h)
  · have e1 : min i longest = i := Nat.min_eq_left (by omega)
    have e2 : min (i + 1) longest = i + 1 := Nat.min_eq_left (by omega)
    rw [e1] at hR1 hR2
    rw [e2, rowsAt]
    exact (hR1.mono fun p h => List.mem_append_left _ h).append (hR2.mono fun p h => List.mem_append_right _ h)
  · rcases List.mem_append.mp hp with h | h
    · exact Ne.symm (n4 p h)
    · exact Ne.symm (n5 p h)
theorem cnt_end2 {one other : Str} {light : Int} {longest i : Nat} {C R9 I L : Addr} {o : Obj} {c1 c2 : Addr × Obj} {m₀ : Str → Option Value} {v u9 : Option Value} {h₀ h' : Heap} {s₁ : Shared} {tk e e' : Nat} {rl : List (Addr × Obj)} {cs rs : List Value} {t : Tok}
    (hi : ¬ (0 : Int) + (i : Int) < (longest : Int)) (hi2 : i < longest + 1)
    (F : Fr h₀ L h' (fun y => if y = PySem.Str.ofString "size" then v else if y = PySem.Str.ofString "rows" then some (Value.ref R9) else if y = PySem.Str.ofString "size" then u9 else m₀ y))
    (N : News h₀ L h' ((I, o) :: (C, W.listOf (cs ++ [Value.int ((((rowsAt light (min i longest)).filter fun r => em one other r.1).map (·.2)).sum) t]).toArray e) :: (R9, W.listOf rs.toArray e') :: c1 :: c2 :: rl))
    (hcs : IntsAre cs ((List.range i).map (cntAt one other light))) (hR : RowsIn rl rs (rowsAt light (min i longest)))
    (hn : @Ne Nat R9 C ∧ @Ne Nat c1.1 C ∧ @Ne Nat c2.1 C ∧ ∀ p ∈ rl, p.1 ≠ C) (i6 : @Ne Nat C I) (i7 : ∀ p ∈ (R9, W.listOf rs.toArray e') :: c1 :: c2 :: rl, p.1 ≠ I) :
    UnrEnd h₀ L s₁ I o (CntJ one other light longest C c1 c2 m₀ (i + 1)) { s₁ with heap := h', toks := tk } := by
  rw [map_end2] at F
  refine ⟨h', tk, _, _, rfl, F, N, fun p hp => ?_, R9, rs, _, e, e', rl, v, rfl, rfl, cnt_snoc hi2 hcs, ?_, hn⟩
  · rcases List.mem_cons.mp hp with rfl | hp
    · exact i6
    · exact i7 p hp
  · have e1 : min i longest = longest := Nat.min_eq_right (by omega)
    have e2 : min (i + 1) longest = longest := Nat.min_eq_right (by omega)
    rw [e1] at hR
    rw [e2]
    exact hR
theorem cnt_ret {h₀ g h' : Heap} {L L' l : Addr} {m : Str → Option Value} {s : Shared} {ns : List Int} {vs : List Value} {e tk : Nat} {rest rest' : List (Addr × Obj)} {Q : Value → Shared → Prop}
    (hret : ∀ (l : Addr) (vs : List Value) (e : Nat) (h' : Heap) (tk' : Nat), Fr h₀ L h' m → News h₀ L h' [(l, W.listOf vs.toArray e)] → IntsAre vs ns → Still [] s.heap h' → s.heap.get? l = none → Q (.ref l) { s with heap := h', toks := tk' })
    (F : Fr h₀ L h' m) (N : News h₀ L h' ((l, W.listOf vs.toArray e) :: rest)) (N9 : News g L' h' ((l, W.listOf vs.toArray e) :: rest')) (hSt : Still [] s.heap g) (hcs : IntsAre vs ns) (sZ : Still [] s.heap h') : Q (.ref l) { s with heap := h', toks := tk } := by
  refine hret l vs e h' tk F (fun p hp => N p (by rw [List.mem_singleton.mp hp]; exact .head _)) hcs sZ ?_
  cases q : s.heap.get? l with
  | none => rfl
  | some o => have := hSt l o (by simp) q; rw [(N9 _ (.head _)).2.2] at this; cases this
theorem mulL {want one other : Str} {longest : Nat} {light : Int} (h : CntPre want one other longest light) (c : Int) : IntMulOk c light := IntMulOk.of_right (intBits_le_64 (by have := h.light; omega) (by have := h.light; omega))
theorem mulL5 {want one other : Str} {longest : Nat} {light : Int} (h : CntPre want one other longest light) (c : Int) : IntMulOk c (5 - light) := IntMulOk.of_right (intBits_le_64 (by have := h.light; omega) (by have := h.light; omega))
theorem add_ok {x : Str} (h : x.length ≤ 5) : x.length + (PySem.Str.ofString "x").length ≤ sizeLine ∧ x.length + (PySem.Str.ofString "o").length ≤ sizeLine := by
  have e1 : (PySem.Str.ofString "x").length = 1 := by decide +kernel
  have e2 : (PySem.Str.ofString "o").length = 1 := by decide +kernel
  rw [sizeLine_eq, e1, e2]; omega
theorem rows_room {rl : List (Addr × Obj)} {rs : List Value} {light : Int} {k : Nat} (h : RowsIn rl rs (rowsAt light k)) (hk : k ≤ 5) : rs.length ≤ 32 := by
  rw [h.length, rowsAt_len]
  exact Nat.pow_le_pow_right (n := 2) (by decide) hk
theorem rows_size {rl : List (Addr × Obj)} {rs : List Value} {light : Int} {i longest : Nat} (h : RowsIn rl rs (rowsAt light (min i longest))) (hk : longest ≤ 5) : rs.toArray.size ≤ sizeLine := by
  have := rows_room h (Nat.le_trans (Nat.min_le_right _ _) hk)
  rw [List.size_toArray, sizeLine_eq]; omega
theorem rows_all {rl : List (Addr × Obj)} {rs : List Value} {rows : List (Str × Int)} (h : RowsIn rl rs rows) : rows.length ≤ rs.toArray.size := by rw [List.size_toArray, h.length]; exact Nat.le_refl _
theorem rows_made {f : Str × Int → Str × Int} {rl tl : List (Addr × Obj)} {rs ys : List Value} {rows : List (Str × Int)} (h : RowsIn rl rs rows) (h2 : RowsIn tl ys ((rows.take rs.toArray.size).map f)) : RowsIn tl ys (rows.map f) := by
  rwa [List.take_of_length_le (rows_all h)] at h2
theorem made_len {f : Str × Int → Str × Int} {tl : List (Addr × Obj)} {ys : List Value} {light : Int} {i longest : Nat} (h : RowsIn tl ys ((rowsAt light (min i longest)).map f)) (hk : longest ≤ 5) : ys.length ≤ 32 := by
  rw [h.length, List.length_map, rowsAt_len]
  exact Nat.pow_le_pow_right (n := 2) (by decide) (Nat.le_trans (Nat.min_le_right _ _) hk)
theorem row_len {light : Int} {k j : Nat} {r : Str × Int} (hk : k ≤ 5) (h : (rowsAt light k)[j]? = some r) : r.1.length ≤ 5 := by
  rw [rowsAt_text light k r (List.mem_of_getElem? h)]; exact hk
set_option maxRecDepth 100000 in
set_option maxHeartbeats 600000 in
theorem counts_t (w : World) (p : Program) (loose : List Str) (mean : ExcName → Option Value) (mg mb : Str → Option Value) (want one other : Str) (longest : Nat) (light : Int) (t t2 t3 : Tok) :
  ∀ (dp un : Nat) (gd : Option (List Code)) (cn : Str) (cs : Scope) (aa : Addr) (ccd : Value) (cl : List (Str × Addr)) (outer : List Env) (A₀ : Around) (base h₀ : Heap) (L : Addr) (m : Str → Option Value) (s : Shared) (Q E : Value → Shared → Prop),
    Below A₀ base outer h₀ → Fr h₀ L s.heap m → (hd.heap_39 w.params).In h₀ → Top p loose mean mg mb h₀ → cs.kind = .function →
    CntPre want one other longest light → dp + 4 < recursionLimit → un + 40 < cLine →
    (∀ (l : Addr) (vs : List Value) (e : Nat) (h' : Heap) (tk' : Nat), Fr h₀ L h' m → News h₀ L h' [(l, W.listOf vs.toArray e)] → IntsAre vs ((List.range (longest + 1)).map (cntAt one other light)) → Still [] s.heap h' → s.heap.get? l = none → Q (.ref l) { s with heap := h', toks := tk' }) →
    wpAny (model (RowW.prog (OpenRow.toRowW (OpenLaw.row PySem.Challenge.rw_pe0204_01))) w) (ktrTop dp un gd cn cs L aa ccd cl outer) (call (.ref 101) [.str want t, .int longest t2, .int light t3]) Q E s := by
  k_fill
  w_on
  k_with_none
  k_with "call ref!" => ((k_here; (with_reducible show wpAny _ _ (call (Value.ref 77) _ _) _ _ _); k_extra "em"))
  k_with "call builtin:sum!" => ((k_here; k_extra "sum"))
  k_with "CompEnd!" => (k_extra "cend")
  k_with "call builtin:list.append!" => ((k_here; k_extra "app"))
  k_with "mul_fits!" => (first | exact mulL (by assumption) _ | exact mulL5 (by assumption) _)
  k_with "eval ListComp!" => (first
  | ((with_reducible show wpAny _ _ (eval (PySem.Expr.ListComp _ [PySem.Comprehension.mk _ _ [_] _] _ _) _) _ _ _); k_extra "comp1")
  | ((with_reducible show wpAny _ _ (eval (PySem.Expr.ListComp (PySem.Expr.Tuple [PySem.Expr.BinOp _ _ (PySem.Expr.Constant (PySem.Const.str (PySem.Str.ofString "x")) _ _) _, _] _ _) [PySem.Comprehension.mk _ _ [] _] _ _) _) _ _ _); k_extra "xcomp")
  | ((with_reducible show wpAny _ _ (eval (PySem.Expr.ListComp (PySem.Expr.Tuple [PySem.Expr.BinOp _ _ (PySem.Expr.Constant (PySem.Const.str (PySem.Str.ofString "o")) _ _) _, _] _ _) [PySem.Comprehension.mk _ _ [] _] _ _) _) _ _ _); k_extra "ocomp"))
  k_with "newTuple!" => ((k_here; k_extra "tup"))
  k_with "binaryOp Add str str!" => ((k_here; k_extra "addS"))
  k_with "binaryOp Add ref ref!" => ((k_here; k_extra "addL"))
  k_with "pyIter ref!" => (k_extra "loop")
  k_with "xcomp" => k_dflt (
    refine' LCp.ListComp_P ?xF0 ?xa2 ?xa3 ?xa4 ?xa5 ?xa6 ?xa7 ?xa8 ?xmain ?xhs
    (case xF0 => k_asm)
    (case xa2 => with_unfolding_all rfl)
    (case xa3 => decide)
    (case xa4 => exact rfl)
    (case xa5 => decide)
    (case xa6 => exact rfl)
    (case xa7 => exact rfl)
    (case xa8 => decide)
    (case xhs => (intro _; rfl))
    (case' xmain => (refine' wpAny_Name (wpAny_loadName_local (by rfl) (by rfl) (Fr.ns (by k_asm)) (by rfl) ?_) (by decide); refine' LCp.SrcLP.ledger ?xc1 ?xc2 ?xc3 ?xc4 ?xc5 ?xcm))
    (case xc1 => exact rfl)
    (case xc2 => k_asm)
    (case xc3 => k_asm)
    (case xc4 => k_mem)
    (case xc5 => exact rows_size hrs hpre.longest)
    (case' xcm => (intro g8; refine' compRestP_ind (BuildJ (fx light) (rowsAt light (min i9 longest)) _ _) _ ?xj0 ?xjf ?xjs))
    (case xj0 => exact buildJ5)
    (case' xjf => (intro ysx nw8 hJ8; obtain ⟨tlx, rfl, hRx, hdx⟩ := hJ8; have hRx := rows_made hrs hRx; unfold LCg.FinE; intro Dx hx tkx Fx Nx offx; simp only [List.cons_append, List.nil_append] at Nx; (try dsimp only)))
    (case' xjs => (intro j8 ys8 nw8 v8 hj8 hJ8 hv8; obtain ⟨a8, tt8, k8, t18, t28, e18, rfl, hm8, hr8⟩ := RowsIn.at hrs (by simpa using hv8); obtain ⟨tl8, rfl, hR8, hd8⟩ := hJ8; refine ⟨a8, _, _, _, _, rfl, (by repeat (first | assumption | apply List.mem_append_right)), rfl, rfl, ?_⟩; intro I8 oI8 C8 oC8 D8 m8 h8 tk8 E8 hC8 hx8 hx28 F8 N8 off8 ne8; simp only [List.cons_append, List.nil_append] at N8)))
  k_with "ocomp" => k_dflt (
    refine' LCp.ListComp_P ?oF0 ?oa2 ?oa3 ?oa4 ?oa5 ?oa6 ?oa7 ?oa8 ?omain ?ohs
    (case oF0 => k_asm)
    (case oa2 => with_unfolding_all rfl)
    (case oa3 => decide)
    (case oa4 => exact rfl)
    (case oa5 => decide)
    (case oa6 => exact rfl)
    (case oa7 => exact rfl)
    (case oa8 => decide)
    (case ohs => (intro _; rfl))
    (case' omain => (refine' wpAny_Name (wpAny_loadName_local (by rfl) (by rfl) (Fr.ns (by k_asm)) (by rfl) ?_) (by decide); refine' LCp.SrcLP.ledger ?oc1 ?oc2 ?oc3 ?oc4 ?oc5 ?ocm))
    (case oc1 => exact rfl)
    (case oc2 => k_asm)
    (case oc3 => k_asm)
    (case oc4 => k_mem)
    (case oc5 => exact rows_size hrs hpre.longest)
    (case' ocm => (intro g8; refine' compRestP_ind (BuildJ (fo light) (rowsAt light (min i9 longest)) _ _) _ ?oj0 ?ojf ?ojs))
    (case oj0 => exact buildJ6)
    (case' ojf => (intro yso nw8 hJ8; obtain ⟨tlo, rfl, hRo, hdo⟩ := hJ8; have hRo := rows_made hrs hRo; unfold LCg.FinE; intro Do ho tko Fo No offo; simp only [List.cons_append, List.nil_append] at No; (try dsimp only)))
    (case' ojs => (intro j8 ys8 nw8 v8 hj8 hJ8 hv8; obtain ⟨a8, tt8, k8, t18, t28, e18, rfl, hm8, hr8⟩ := RowsIn.at hrs (by simpa using hv8); obtain ⟨tl8, rfl, hR8, hd8⟩ := hJ8; refine ⟨a8, _, _, _, _, rfl, (by repeat (first | assumption | apply List.mem_append_right)), rfl, rfl, ?_⟩; intro I8 oI8 C8 oC8 D8 m8 h8 tk8 E8 hC8 hx8 hx28 F8 N8 off8 ne8; simp only [List.cons_append, List.nil_append] at N8)))
  k_with "tup" => k_dflt (
    (with_reducible rename LCg.Off3 _ _ _ _ => off7)
    refine' kup_newTuple ?tF ?tN ?_ ?tz
    (case tF => k_asm)
    (case tN => k_asm)
    (case tz => kmk_size)
    intro a7 h7 F7 N7 l7)
  k_with "addS" => k_dflt (refine add_str (hsz := ?asz) ?_; (case asz => first | exact (add_ok (row_len (Nat.le_trans (Nat.min_le_right _ _) hpre.longest) hr8)).1 | exact (add_ok (row_len (Nat.le_trans (Nat.min_le_right _ _) hpre.longest) hr8)).2); intro t7 tk7)
  k_with "addL" => k_dflt (
    refine' addL_step ?lF ?lN ?l1 ?l2 ?l3 ?_
    (case lF => k_asm)
    (case lN => k_asm)
    (case l1 => k_mem)
    (case l2 => k_mem)
    (case l3 => (have := made_len hRx hpre.longest; have := made_len hRo hpre.longest; omega))
    intro R7 h7 F7 N7 l7)
  k_with "comp1" => k_dflt (
    refine' listComp_PT ?a1 ?a2 ?a3 ?a4 ?a5 ?a6 ?a7 ?a8 ?main ?hs
    (case a1 => exact rfl)
    (case a2 => with_unfolding_all rfl)
    (case a3 => decide)
    (case a4 => exact rfl)
    (case a5 => decide)
    (case a6 => exact rfl)
    (case a7 => exact rfl)
    (case a8 => decide)
    (case hs => (intro _; rfl))
    (case' main => (refine' wpAny_Name (wpAny_loadName_local (by rfl) (by rfl) (Fr.ns (by k_asm)) (by rfl) ?_) (by decide); refine' ⟨_, _, _, _, fun j ys => IntsAre ys ((((rowsAt light (min i9 longest)).take j).filter fun r => em one other r.1).map (·.2)), rfl, ?b1, ?b2, ?b3, ?b4, ?b5, ?b6, ?b7⟩))
    (case b1 => k_asm)
    (case b2 => k_asm)
    (case b3 => k_mem)
    (case b4 => exact rows_size hrs hpre.longest)
    (case b5 => exact .nil)
    (case' b6 => (intro g8 j8 v8 ys8 hv8 hJ8; obtain ⟨a8, tt8, k8, t18, t28, e18, rfl, hm8, hr8⟩ := RowsIn.at hrs (by simpa using hv8); refine ⟨a8, _, _, _, _, rfl, (by repeat (first | assumption | apply List.Mem.tail)), rfl, rfl, ?_⟩; intro I8 oI8 C8 oC8 D8 m8 h8 tk8 E8 hC8 hx8 hx28 F8 N8 off8 ne8))
    (case' b7 => (intro ys8 D8 h8 tk8 hJ8 F8 N8 off8; rw [List.take_of_length_le (rows_all hrs)] at hJ8)))
  k_with "em" => k_dflt (
    refine' useV (em_c _ _ _ _ _ _ want _ one other _ _ _) ?k1 ?k2 ?k3 ?k4 ?k5 ?kK ?kp ?kd ?ku ?_
    (case k1 => k_asm)
    (case k2 => k_asm)
    (case k3 => k_asm)
    (case k4 => k_asm)
    (case k5 => k_asm)
    (case kK => first | exact rfl | assumption)
    (case kp => exact ⟨⟨hpre.len, row_len (Nat.le_trans (Nat.min_le_right _ _) hpre.longest) hr8⟩, hpre.dots, hpre.split, hpre.one, hpre.other⟩)
    (case kd => ktr_room)
    (case ku => ktr_units)
    intro t7 h7 tk7 F7 N7
    (try dsimp only)
    (try k_fold))
  k_with "cend" => first
    | (exact build_end (f := fx light) (r := (tt8, k8)) F7 N7 l7 off7 (.inr ⟨_, (by k_mem), rfl, _, rfl⟩) hR8 hd8 hr8)
    | (exact build_end (f := fo light) (r := (tt8, k8)) F7 N7 l7 off7 (.inr ⟨_, (by k_mem), rfl, _, rfl⟩) hR8 hd8 hr8)
    | exact compEnd_same (by assumption) (by assumption) off8 trivial ⟨rfl, take_y (P := fun r => em one other r.1) hr8 (by assumption) hJ8⟩
    | exact compEnd_same (by assumption) (by assumption) off8 trivial ⟨rfl, take_n (P := fun r => em one other r.1) hr8 (by assumption) hJ8⟩
  k_with "app" => k_dflt (
    refine' app_step ?k1 ?k2 ?k3 ?k4 ?k5 ?_
    (case k1 => k_asm)
    (case k2 => k_asm)
    (case k3 => exact Ne.symm (off9 _ (.head _)))
    (case k4 => (intro p hp; rcases List.mem_cons.mp hp with rfl | hp; exact hne9.1; rcases List.mem_cons.mp hp with rfl | hp; exact hne9.2.1; rcases List.mem_cons.mp hp with rfl | hp; exact hne9.2.2.1; exact hne9.2.2.2 p hp))
    (case k5 => (have := hcs.length; rw [List.length_map, List.length_range] at this; have := hpre.longest; omega))
    intro h6 F6 N6)
  k_with "sum" => k_dflt (
    refine' sumK ?k0 ?k1 ?k2 ?k3 ?k4 ?_
    (case k0 => exact rfl)
    (case k1 => k_asm)
    (case k2 => k_asm)
    (case k3 => exact ⟨_, (‹News _ _ _ _› _ (.head _)).1, rfl, _, rfl⟩)
    (case k4 => exact hJ8)
    intro h7 tk7 t7 F7 N7)
  k_with "loop" => k_dflt (
    refine' iter_rangeUnr (n := longest + 1) ?k0 ?k1 ?k2 ?k3 ?k4 ?k5 ?_
    (case k0 => exact rfl)
    (case k1 => assumption)
    (case k2 => exact rng_small hpre.longest)
    (case k3 => exact rng_size hpre.longest)
    (case k4 => k_asm)
    (case k5 => exact perm5 (by k_asm))
    intro I9 hI9
    refine' rangeRest_ind (CntJ one other light longest _ _ _ _) ?h0 ?off ?fin ?step
    (case h0 => (refine cntJ0 ?hm9 ?hn9; (case hm9 => exact rfl); (case hn9 => (dsimp only; omega))))
    (case off => exact fun p hp => Nat.ne_of_lt (hI9 p hp))
    (case' fin => (intro m9 nw9 h9 tk9 hJ9 F9 N9; obtain ⟨R9, rs9, cs9, e9, e'9, rl9, u9, rfl, rfl, hcs, hrs, hne9⟩ := hJ9))
    (case' step => (intro i9 m9 nw9 t9 h9 tk9 o9 hi9 hJ9 off9 F9 N9; obtain ⟨R9, rs9, cs9, e9, e'9, rl9, u9, rfl, rfl, hcs, hrs, hne9⟩ := hJ9)))
  intros
  rename_i hpre _ _ hret0
  refine wpAny_call ?_
  k_dflt (refine' code_defCS (own := []) ?k1 ?k2 ?k3 ?k4 ?k5 ?kA ?kF ?kK ?k6 ?k7 ?k8 ?k9 ?kB ?kD ?_ ?c2 ?c3 ?c4; (case kA => exact rfl); (case kF => exact rfl); (case kK => assumption); (case k1 => k_asm); (case k2 => k_asm); (case k3 => k_asm); (case k4 => exact News.nil); (case k5 => k_asm); (case k6 => k_is); (case k7 => k_is); (case k8 => ktr_room); (case k9 => first | exact BindsTo.of_eq rfl); (case kB => exact rfl); (case kD => decide +kernel); (case c2 => exact rfl); (case c3 => exact rfl); (case c4 => exact rfl); k_whole; intro g' L' h' tk' cells' FG' F' N' Y' B' X' T' l1 hSt; (try k_lt l1); k_cells Y'; (try simp only [List.cons_append, List.nil_append] at N'); (try dsimp only); (try k_lift B'); (try k_fold))
  k_steps
  · rename (0 : Int) + (i9 : Int) < (longest : Int) => hlt
    rename News _ _ _ _ => NZ
    rename Fr _ _ _ _ => FZ
    have hdo := hdo
    have hdx := hdx
    have l7 := l7
    refine' cnt_end1 (tl := tlx) (tl2 := tlo) (R := R7) (ys := ysx) (ys2 := yso) hlt FZ NZ ?m1 ?m2 ?m3 ?m4 ?m5 ?m6 ?m7 hcs hRx hRo ?q1 hne9.2.1 hne9.2.2.1 ?q4 ?q5 ?q6 ?q7 ?q8 ?q9 ?q10 ?q11
    case m1 => k_mem
    case m2 => k_mem
    case m3 => k_mem
    case m4 => k_mem
    case m5 => k_mem
    case m6 => exact fun p hp => by repeat (first | exact List.mem_append_left _ hp | apply List.mem_append_right | apply List.Mem.tail)
    case m7 => exact fun p hp => by repeat (first | exact List.mem_append_left _ hp | apply List.mem_append_right | apply List.Mem.tail)
    case q1 => exact Nat.ne_of_gt (l7 _ (.tail _ (.tail _ (.tail _ (.head _)))))
    case q4 => exact fun p hp => hdx p hp _ (.tail _ (.head _))
    case q5 => exact fun p hp => hdo p hp _ (.tail _ (.tail _ (.head _)))
    case q6 => exact Nat.ne_of_gt (l7 _ (.tail _ (.tail _ (.head _))))
    case q7 => exact off9 _ (.tail _ (.tail _ (.head _)))
    case q8 => exact off9 _ (.tail _ (.tail _ (.tail _ (.head _))))
    case q9 => exact fun p hp => hdx p hp _ (.head _)
    case q10 => exact fun p hp => hdo p hp _ (.tail _ (.head _))
    case q11 => exact off9 _ (.head _)
  · rename ¬ (0 : Int) + (i9 : Int) < (longest : Int) => hlt
    exact cnt_end2 hlt hi9 F6 N6 hcs hrs hne9 (off9 _ (.head _)) (fun p hp => off9 p (.tail _ hp))
  · rename News _ _ _ _ => NZ
    rename Fr _ _ _ _ => FZ
    rename Still [] _ h9 => sZ
    exact cnt_ret hret0 FZ NZ N9 hSt hcs sZ
end Mine
end
section
open PySem PySem.W PyProof.Rows
set_option Elab.async false
namespace Mine
def fdv (a b : Int) : UInt64 := Float64.ofFrac (decide (a < 0) != decide (b < 0)) a.natAbs b.natAbs
def hsvB (h s : UInt64) : Bool := !(Float64.cmp s 0 == some Ordering.eq) && !(Float64.isNaN (Float64.mul h 4618441417868443648)) && !(Float64.isInf (Float64.mul h 4618441417868443648)) && decide (Int.natAbs (hsvI h) < 100)
def hlsB (r g b : UInt64) : Bool := !(Float64.isZero (Float64.add (max3 r g b) (min3 r g b))) && !(Float64.isZero (Float64.sub (max3 r g b) (min3 r g b))) && !(Float64.isZero (Float64.sub (Float64.sub 4611686018427387904 (max3 r g b)) (min3 r g b)))
def colB (h s v : Int) : Bool :=
  let c := hsvT (fdv h 16) (fdv s 8) (fdv v 8)
  hsvB (fdv h 16) (fdv s 8) && hlsB c.1 c.2.1 c.2.2 && (Float64.cmp (hlsL c.1 c.2.1 c.2.2) (fdv (v * (16 - s)) 128) == some Ordering.eq)
/-- x worked out to a number ahead of k: the kernel works no term out twice -/
noncomputable def forceU (x : UInt64) (k : UInt64 → Bool) : Bool := @Nat.rec (fun _ => Bool) (k 0) (fun n _ => k (UInt64.ofNat (n + 1))) x.toNat
theorem forceU_eq (x : UInt64) (k : UInt64 → Bool) : forceU x k = k x := by
  unfold forceU
  have h : ∀ n : Nat, n = x.toNat → @Nat.rec (fun _ => Bool) (k 0) (fun n _ => k (UInt64.ofNat (n + 1))) n = k (UInt64.ofNat n) := fun n _ => by cases n <;> rfl
  rw [h _ rfl, UInt64.ofNat_toNat]
def evenB (i : Int) : Bool := decide (i = 0) || decide (i = 2) || decide (i = 4)
def midF (h s v : UInt64) : UInt64 := Float64.mul v (Float64.sub 4607182418800017408 (Float64.mul s (if evenB (Int.fmod (hsvI h) 6) = true then Float64.sub 4607182418800017408 (hsvF h) else hsvF h)))
def hsvS (i : Int) (v p u : UInt64) : UInt64 × UInt64 × UInt64 :=
  if i = 0 then (v, u, p) else if i = 1 then (u, v, p) else if i = 2 then (p, v, u) else if i = 3 then (p, u, v) else if i = 4 then (u, p, v) else (v, p, u)
theorem hsvT_S (h s v : UInt64) : hsvT h s v = hsvS (Int.fmod (hsvI h) 6) v (hsvP s v) (midF h s v) := by
  unfold hsvT hsvS midF hsvU hsvQ
  have h0 := Int.fmod_nonneg_of_pos (hsvI h) (b := 6) (by decide)
  have h1 := Int.fmod_lt_of_pos (hsvI h) (b := 6) (by decide)
  generalize Int.fmod (hsvI h) 6 = i at *
  have hi : i = 0 ∨ i = 1 ∨ i = 2 ∨ i = 3 ∨ i = 4 ∨ i = 5 := by omega
  rcases hi with rfl | rfl | rfl | rfl | rfl | rfl <;> rfl
noncomputable def endF (x n : UInt64) (l : UInt64) : Bool :=
  (!(Float64.isZero (Float64.add x n)) && !(Float64.isZero (Float64.sub x n)) && !(Float64.isZero (Float64.sub (Float64.sub 4611686018427387904 x) n))) && (Float64.cmp (Float64.div (Float64.add x n) 4611686018427387904) l == some Ordering.eq)
noncomputable def colF (h s v : Int) : Bool :=
  forceU (fdv h 16) fun h' => forceU (fdv s 8) fun s' => forceU (fdv v 8) fun v' => hsvB h' s' &&
    (forceU (Float64.sub 4607182418800017408 s') fun a => forceU (Float64.mul v' a) fun p => forceU (hsvF h') fun f =>
      forceU (if evenB (Int.fmod (hsvI h') 6) = true then Float64.sub 4607182418800017408 f else f) fun g => forceU (Float64.mul s' g) fun c => forceU (Float64.sub 4607182418800017408 c) fun d => forceU (Float64.mul v' d) fun u =>
      forceU (hsvS (Int.fmod (hsvI h') 6) v' p u).1 fun r => forceU (hsvS (Int.fmod (hsvI h') 6) v' p u).2.1 fun g => forceU (hsvS (Int.fmod (hsvI h') 6) v' p u).2.2 fun b => forceU (max3 r g b) fun x => forceU (min3 r g b) fun n =>
      forceU (fdv (v * (16 - s)) 128) fun l => endF x n l)
theorem colF_eq (h s v : Int) : colF h s v = colB h s v := by
  unfold colF colB hlsB hlsL endF
  simp only [forceU_eq, Bool.and_assoc, hsvT_S, hsvP, midF]
theorem colRow0 : ∀ h : Fin 4, ∀ s v : Fin 8, colF (h.val + 0) (s.val + 1) (v.val + 1) = true := by decide +kernel
theorem colRow1 : ∀ h : Fin 4, ∀ s v : Fin 8, colF (h.val + 4) (s.val + 1) (v.val + 1) = true := by decide +kernel
theorem colRow2 : ∀ h : Fin 4, ∀ s v : Fin 8, colF (h.val + 8) (s.val + 1) (v.val + 1) = true := by decide +kernel
theorem colRow3 : ∀ h : Fin 4, ∀ s v : Fin 8, colF (h.val + 12) (s.val + 1) (v.val + 1) = true := by decide +kernel
theorem colAll (h : Fin 16) (s v : Fin 8) : colB h.val (s.val + 1) (v.val + 1) = true := by
  obtain ⟨h, hh⟩ := h
  rw [← colF_eq]
  show colF (h : Int) _ _ = true
  have hc : h < 4 ∨ (4 ≤ h ∧ h < 8) ∨ (8 ≤ h ∧ h < 12) ∨ (12 ≤ h ∧ h < 16) := by omega
  rcases hc with q | q | q | q
  · have t := colRow0 ⟨h - 0, by omega⟩ s v
    have e : (((h - 0 : Nat) : Int) + 0) = (h : Int) := by omega
    dsimp only at t
    rwa [e] at t
  · have t := colRow1 ⟨h - 4, by omega⟩ s v
    have e : (((h - 4 : Nat) : Int) + 4) = (h : Int) := by omega
    dsimp only at t
    rwa [e] at t
  · have t := colRow2 ⟨h - 8, by omega⟩ s v
    have e : (((h - 8 : Nat) : Int) + 8) = (h : Int) := by omega
    dsimp only at t
    rwa [e] at t
  · have t := colRow3 ⟨h - 12, by omega⟩ s v
    have e : (((h - 12 : Nat) : Int) + 12) = (h : Int) := by omega
    dsimp only at t
    rwa [e] at t
theorem hsvB_ok {h s : UInt64} (e : hsvB h s = true) : HsvOk h s := by
  simp only [hsvB, Bool.and_eq_true, Bool.not_eq_true', decide_eq_true_eq] at e
  obtain ⟨⟨⟨e1, e2⟩, e3⟩, e4⟩ := e
  refine ⟨e1, e2, e3, fun q => ?_⟩
  have : (100 : Nat) ≤ 2 ^ 1024 - 2 ^ 970 := by decide +kernel
  exact absurd (Nat.le_trans this q) (Nat.not_le.mpr e4)
theorem hlsB_ok {r g b : UInt64} (e : hlsB r g b = true) : HlsOk r g b := by
  simp only [hlsB, Bool.and_eq_true, Bool.not_eq_true'] at e
  exact ⟨e.1.1, e.1.2, e.2⟩
/-- a colour number's three figures -/
def cH (n : Int) : Int := n.fmod 16
def cS (n : Int) : Int := (n.fdiv 16).fmod 8 + 1
def cV (n : Int) : Int := (n.fdiv 128).fmod 8 + 1
def cC (n : Int) : UInt64 × UInt64 × UInt64 := hsvT (fdv (cH n) 16) (fdv (cS n) 8) (fdv (cV n) 8)
theorem col_ok (n : Int) : colB (cH n) (cS n) (cV n) = true := by
  have h0 := Int.fmod_nonneg_of_pos n (b := 16) (by decide)
  have h1 := Int.fmod_lt_of_pos n (b := 16) (by decide)
  have s0 := Int.fmod_nonneg_of_pos (n.fdiv 16) (b := 8) (by decide)
  have s1 := Int.fmod_lt_of_pos (n.fdiv 16) (b := 8) (by decide)
  have v0 := Int.fmod_nonneg_of_pos (n.fdiv 128) (b := 8) (by decide)
  have v1 := Int.fmod_lt_of_pos (n.fdiv 128) (b := 8) (by decide)
  unfold cH cS cV
  generalize n.fmod 16 = h at *
  generalize (n.fdiv 16).fmod 8 = s at *
  generalize (n.fdiv 128).fmod 8 = v at *
  obtain ⟨h, rfl⟩ := Int.eq_ofNat_of_zero_le h0
  obtain ⟨s, rfl⟩ := Int.eq_ofNat_of_zero_le s0
  obtain ⟨v, rfl⟩ := Int.eq_ofNat_of_zero_le v0
  exact colAll ⟨h, by omega⟩ ⟨s, by omega⟩ ⟨v, by omega⟩
theorem col_hsv (n : Int) : HsvOk (fdv (cH n) 16) (fdv (cS n) 8) := by
  have := col_ok n
  simp only [colB, Bool.and_eq_true] at this
  exact hsvB_ok this.1.1
theorem col_hls (n : Int) : HlsOk (cC n).1 (cC n).2.1 (cC n).2.2 := by
  have := col_ok n
  simp only [colB, Bool.and_eq_true] at this
  exact hlsB_ok this.1.2
theorem col_eq (n : Int) : (Float64.cmp (hlsL (cC n).1 (cC n).2.1 (cC n).2.2) (fdv (cV n * (16 - cS n)) 128) == some Ordering.eq) = true := by
  have := col_ok n
  simp only [colB, Bool.and_eq_true] at this
  exact this.2
theorem cS_bd (n : Int) : 1 ≤ cS n ∧ cS n ≤ 8 := by
  have s0 := Int.fmod_nonneg_of_pos (n.fdiv 16) (b := 8) (by decide)
  have s1 := Int.fmod_lt_of_pos (n.fdiv 16) (b := 8) (by decide)
  unfold cS; omega
theorem cV_bd (n : Int) : 1 ≤ cV n ∧ cV n ≤ 8 := by
  have s0 := Int.fmod_nonneg_of_pos (n.fdiv 128) (b := 8) (by decide)
  have s1 := Int.fmod_lt_of_pos (n.fdiv 128) (b := 8) (by decide)
  unfold cV; omega
theorem cH_bd (n : Int) : 0 ≤ cH n ∧ cH n < 16 := ⟨Int.fmod_nonneg_of_pos n (by decide), Int.fmod_lt_of_pos n (by decide)⟩
end Mine
end
section
open PySem PySem.W PyProof.Rows
open PySem.Builtin PySem.Builtin.Str PySem.StrLaws
set_option Elab.async false
namespace Mine
def textsL : Nat → List (List Nat)
  | 0 => [[]]
  | k + 1 => (textsL k).map (fun l => l ++ [120]) ++ (textsL k).map (fun l => l ++ [111])
def strL (l : List Nat) : Str := ⟨l.toArray⟩
def wl (light : Int) (l : List Nat) : Int := l.foldl (fun a c => a * (if c = 120 then light else 5 - light)) 1
theorem o_is : PySem.Str.ofString "o" = Str.mk #[111] := by decide +kernel
theorem e_is : PySem.Str.ofString "" = Str.mk #[] := by decide +kernel
theorem strL_append (l : List Nat) (c : Nat) : strL l ++ Str.mk #[c] = strL (l ++ [c]) := by
  unfold strL
  show Str.mk (l.toArray ++ #[c]) = _
  simp
theorem rowsAt_texts (light : Int) : ∀ k, rowsAt light k = (textsL k).map fun l => (strL l, wl light l)
  | 0 => by rw [rowsAt, e_is]; rfl
  | k + 1 => by
    rw [rowsAt, textsL, List.map_append, List.map_map, List.map_map, rowsAt_texts light k, List.map_map, List.map_map]
    congr 1
    · refine List.map_congr_left fun l _ => ?_
      simp only [Function.comp]
      rw [x_is, strL_append]
      simp [wl]
    · refine List.map_congr_left fun l _ => ?_
      simp only [Function.comp]
      rw [o_is, strL_append]
      simp [wl]
theorem cntAt_texts (one other : Str) (light : Int) (k : Nat) : cntAt one other light k = (((textsL k).filter fun l => em one other (strL l)).map (wl light)).sum := by
  unfold cntAt
  rw [rowsAt_texts, List.filter_map, List.map_map]
  rfl
/-- where y first stands in x, from i on, m places tried -/
def fst1 (x y : List Nat) (hi : Nat) : Nat → Nat → Option Nat
  | _, 0 => none
  | i, m + 1 => if decide (i + y.length ≤ hi) && ((x.drop i).take y.length == y) then some i else fst1 x y hi (i + 1) m
theorem occ_full (s sub : Str) (hi : Nat) : ∀ (l : List Nat) (st : Array Nat × Nat), 1 ≤ st.fst.size → (forIn l st (occBody s sub hi 1)).run.fst = st.fst
  | [], _, _ => rfl
  | a :: l, st, h => by
    rw [List.forIn_cons]
    unfold occBody
    have c : ¬ (((st.fst.size < 1 ∧ st.snd ≤ a) ∧ a + sub.length ≤ hi) ∧ subAt s sub a = true) := fun q => by have := q.1.1.1; omega
    rw [if_neg c]
    exact occ_full s sub hi l (st.fst, st.snd) h
theorem occ_run1 (s sub : Str) (hi : Nat) : ∀ (m i free : Nat), free ≤ i → (forIn (List.range' i m) ((#[] : Array Nat), free) (occBody s sub hi 1)).run.fst.toList = (fst1 s.cps.toList sub.cps.toList hi i m).toList
  | 0, _, _, _ => rfl
  | m + 1, i, free, hf => by
    rw [List.range'_succ, List.forIn_cons]
    unfold occBody
    unfold fst1
    have hl : sub.cps.toList.length = sub.length := by simp [Str.length]
    have hsub := subAt_eq s sub i
    by_cases hc : i + sub.length ≤ hi ∧ subAt s sub i = true
    · rw [if_pos ⟨⟨⟨by simp, hf⟩, hc.1⟩, hc.2⟩]
      have : (decide (i + sub.cps.toList.length ≤ hi) && ((s.cps.toList.drop i).take sub.cps.toList.length == sub.cps.toList)) = true := by
        rw [hl, Bool.and_eq_true, decide_eq_true_eq]
        exact ⟨hc.1, by rw [← hsub]; exact hc.2⟩
      rw [if_pos this]
      show (forIn (List.range' (i + 1) m) _ (occBody s sub hi 1)).run.fst.toList = _
      rw [occ_full s sub hi _ _ (by simp)]
      rfl
    · rw [if_neg (fun q => hc ⟨q.1.2, q.2⟩)]
      have : ¬ (decide (i + sub.cps.toList.length ≤ hi) && ((s.cps.toList.drop i).take sub.cps.toList.length == sub.cps.toList)) = true := by
        rw [hl, Bool.and_eq_true, decide_eq_true_eq]
        exact fun q => hc ⟨q.1, by rw [hsub]; exact q.2⟩
      rw [if_neg this]
      exact occ_run1 s sub hi m (i + 1) free (by omega)
theorem occ_first (s sub : Str) (lo hi : Nat) : occurrences s sub lo hi 1 = (fst1 s.cps.toList sub.cps.toList hi lo (hi + 1 - lo)).toList := by
  rw [occ_eq]
  exact occ_run1 s sub hi _ lo lo (Nat.le_refl _)
def goF (got : List Nat) : List (List Nat) → Nat → Bool
  | [], _ => true
  | w :: ws, sp => match fst1 got w got.length sp (got.length + 1 - sp) with | some k => goF got ws (k + w.length) | none => false
theorem strL_len (l : List Nat) : (strL l).length = l.length := by simp [strL, Str.length]
theorem find4_fst (got w : List Nat) (sp : Nat) : find4 (strL got) (strL w) (sp : Int) (got.length : Int) = match fst1 got w got.length sp (got.length + 1 - sp) with | some k => (k : Int) | none => -1 := by
  have e1 : fromIndex (strL got).length (sp : Int) = sp := by unfold fromIndex; rw [if_neg (by omega)]; omega
  have e2 : min (fromIndex (strL got).length (got.length : Int)) (strL got).length = got.length := by
    unfold fromIndex; rw [if_neg (by omega), strL_len]; omega
  unfold find4
  rw [e1, e2, occ_first]
  show (match (fst1 got w got.length sp (got.length + 1 - sp)).toList with | k :: _ => (k : Int) | [] => -1) = _
  cases fst1 got w got.length sp (got.length + 1 - sp) <;> rfl
theorem emGo_goF (got : List Nat) : ∀ (ws : List (List Nat)) (sp : Nat), emGo (strL got) (got.length : Int) (ws.map strL) (sp : Int) = goF got ws sp
  | [], _ => rfl
  | w :: ws, sp => by
    rw [List.map_cons, emGo, goF, find4_fst]
    cases h : fst1 got w got.length sp (got.length + 1 - sp) with
    | none => rfl
    | some k =>
      have : ¬ ((k : Int) < 0) := by omega
      show (if (k : Int) < 0 then false else emGo (strL got) (got.length : Int) (ws.map strL) ((k : Int) + ((strL w).length : Int))) = _
      rw [if_neg this, strL_len, ← Int.natCast_add]
      exact emGo_goF got ws (k + w.length)
theorem em_goF (one other got : List Nat) : em (strL one) (strL other) (strL got) = goF got [[], one, other, []] 0 := by
  unfold em
  rw [strL_len, e_is]
  exact emGo_goF got [[], one, other, []] 0
def isPre : List Nat → List Nat → Bool
  | [], _ => true
  | _ :: _, [] => false
  | a :: w, b :: l => Nat.beq a b && isPre w l
/-- what stands behind the first w in l -/
def findR (w : List Nat) : List Nat → Option (List Nat)
  | [] => if isPre w [] then some ([].drop w.length) else none
  | b :: l => if isPre w (b :: l) then some ((b :: l).drop w.length) else findR w l
theorem isPre_iff : ∀ (w l : List Nat), isPre w l = (decide (w.length ≤ l.length) && (l.take w.length == w))
  | [], l => by simp [isPre]
  | a :: w, [] => by simp [isPre]
  | a :: w, b :: l => by
    rw [isPre, isPre_iff w l, List.length_cons, List.length_cons, List.take_succ_cons]
    have e1 : decide (w.length + 1 ≤ l.length + 1) = decide (w.length ≤ l.length) := by simp
    have e2 : (b :: l.take w.length == a :: w) = (Nat.beq a b && (l.take w.length == w)) := by
      rw [List.cons_beq_cons]
      congr 1
      rw [Bool.eq_iff_iff, beq_iff_eq, Nat.beq_eq]
      exact eq_comm
    rw [e1, e2]
    cases decide (w.length ≤ l.length) <;> cases Nat.beq a b <;> simp
theorem cond_eq (x y : List Nat) {i : Nat} (hi : i ≤ x.length) : (decide (i + y.length ≤ x.length) && ((x.drop i).take y.length == y)) = isPre y (x.drop i) := by
  rw [isPre_iff, List.length_drop]
  congr 1
  have : (i + y.length ≤ x.length) ↔ (y.length ≤ x.length - i) := by omega
  simp only [this]
theorem fst1_findR (x y : List Nat) : ∀ (m i : Nat), i + m = x.length → findR y (x.drop i) = (fst1 x y x.length i (m + 1)).map fun k => x.drop (k + y.length) := by
  intro m
  induction m with
  | zero =>
    intro i hi
    have hd : x.drop i = [] := List.drop_eq_nil_of_le (by omega)
    rw [fst1, cond_eq x y (by omega), hd, findR, fst1]
    split
    · rw [Option.map_some, ← List.drop_drop, hd]
    · rfl
  | succ m ih =>
    intro i hi
    have hlt : i < x.length := by omega
    have hd : x.drop i = x[i] :: x.drop (i + 1) := List.drop_eq_getElem_cons hlt
    rw [fst1, cond_eq x y (by omega)]
    by_cases h : isPre y (x.drop i) = true
    · rw [if_pos h, Option.map_some]
      rw [hd] at h
      rw [hd, findR, if_pos h, ← hd, List.drop_drop]
    · rw [if_neg h, ← ih (i + 1) (by omega)]
      rw [hd] at h
      rw [hd, findR, if_neg h]
def twoF (one other l : List Nat) : Bool := match findR one l with | some r => (findR other r).isSome | none => false
theorem fst1_le (x y : List Nat) (hi : Nat) : ∀ (m i k : Nat), fst1 x y hi i m = some k → k + y.length ≤ hi
  | 0, _, _, h => by cases h
  | m + 1, i, k, h => by
    unfold fst1 at h
    split at h
    · rename_i hc
      rw [Bool.and_eq_true, decide_eq_true_eq] at hc
      injection h with h
      subst h
      exact hc.1
    · exact fst1_le x y hi m (i + 1) k h
theorem fst1_nil (x : List Nat) {i : Nat} (hi : i ≤ x.length) : fst1 x [] x.length i (x.length + 1 - i) = some i := by
  have e : x.length + 1 - i = (x.length - i) + 1 := by omega
  rw [e, fst1, if_pos (by simp; exact hi)]
theorem goF_two (one other l : List Nat) : goF l [[], one, other, []] 0 = twoF one other l := by
  unfold twoF
  have a1 := fst1_nil l (Nat.zero_le l.length)
  rw [goF, a1]
  show goF l [one, other, []] (0 + 0) = _
  have f1 := fst1_findR l one l.length 0 (by omega)
  rw [List.drop_zero] at f1
  rw [f1, goF]
  show (match fst1 l one l.length 0 (l.length + 1) with | some k => goF l [other, []] (k + one.length) | none => false) = _
  cases h1 : fst1 l one l.length 0 (l.length + 1) with
  | none => rfl
  | some k =>
    have hk := fst1_le l one l.length _ _ _ h1
    show goF l [other, []] (k + one.length) = (findR other (l.drop (k + one.length))).isSome
    have e : l.length + 1 - (k + one.length) = (l.length - (k + one.length)) + 1 := by omega
    rw [fst1_findR l other (l.length - (k + one.length)) (k + one.length) (by omega), goF, e]
    cases h2 : fst1 l other l.length (k + one.length) (l.length - (k + one.length) + 1) with
    | none => rfl
    | some j =>
      have hj := fst1_le l other l.length _ _ _ h2
      show goF l [[]] (j + other.length) = true
      rw [goF, fst1_nil l hj]
      rfl
def textsT : Nat → List (List Nat)
  | 0 => [[]]
  | 1 => [[120], [111]]
  | 2 => [[120, 120], [111, 120], [120, 111], [111, 111]]
  | 3 => [[120, 120, 120], [111, 120, 120], [120, 111, 120], [111, 111, 120], [120, 120, 111], [111, 120, 111], [120, 111, 111], [111, 111, 111]]
  | 4 => [[120, 120, 120, 120], [111, 120, 120, 120], [120, 111, 120, 120], [111, 111, 120, 120], [120, 120, 111, 120], [111, 120, 111, 120], [120, 111, 111, 120], [111, 111, 111, 120], [120, 120, 120, 111], [111, 120, 120, 111], [120, 111, 120, 111], [111, 111, 120, 111], [120, 120, 111, 111], [111, 120, 111, 111], [120, 111, 111, 111], [111, 111, 111, 111]]
  | 5 => [[120, 120, 120, 120, 120], [111, 120, 120, 120, 120], [120, 111, 120, 120, 120], [111, 111, 120, 120, 120], [120, 120, 111, 120, 120], [111, 120, 111, 120, 120], [120, 111, 111, 120, 120], [111, 111, 111, 120, 120], [120, 120, 120, 111, 120], [111, 120, 120, 111, 120], [120, 111, 120, 111, 120], [111, 111, 120, 111, 120], [120, 120, 111, 111, 120], [111, 120, 111, 111, 120], [120, 111, 111, 111, 120], [111, 111, 111, 111, 120], [120, 120, 120, 120, 111], [111, 120, 120, 120, 111], [120, 111, 120, 120, 111], [111, 111, 120, 120, 111], [120, 120, 111, 120, 111], [111, 120, 111, 120, 111], [120, 111, 111, 120, 111], [111, 111, 111, 120, 111], [120, 120, 120, 111, 111], [111, 120, 120, 111, 111], [120, 111, 120, 111, 111], [111, 111, 120, 111, 111], [120, 120, 111, 111, 111], [111, 120, 111, 111, 111], [120, 111, 111, 111, 111], [111, 111, 111, 111, 111]]
  | _ => []
theorem textsT_ok : ∀ k : Fin 6, textsL k.val = textsT k.val := by decide +kernel
def cntF (one other : List Nat) (light : Int) (k : Nat) : Int := (((textsT k).filter fun l => twoF one other l).map (wl light)).sum
theorem cntAt_F (one other : List Nat) (light : Int) {k : Nat} (hk : k ≤ 5) : cntAt (strL one) (strL other) light k = cntF one other light k := by
  rw [cntAt_texts, textsT_ok ⟨k, by omega⟩]
  unfold cntF
  simp only [em_goF, goF_two]
end Mine
end
section
open PySem PySem.W PyProof.Rows
set_option Elab.async false
namespace Mine
def abv (one other : Str) (light : Int) (longest : Nat) : Int := wt light one * wt light other * 16384 ^ (longest + 1)
def blw (one other : Str) (light : Int) : Int := (16384 - 5) * fac light one * fac light other
def dDz (a b : Int) : Int := Int.fdiv ((Builtin.Int.intBits a : Int) + (Builtin.Int.intBits b : Int) - 1) (Builtin.Int.intBits b : Int)
def quo (a b : Int) : Int := (dmQ b (i2d a (Builtin.Int.intBits b : Int) (dDz a b).toNat)).1
def dEz (q : Int) : Int := Int.fdiv ((Builtin.Int.intBits q : Int) + 14 - 1) 14
def digs (q : Int) : List Int := i2d q 14 (dEz q).toNat
def cnts (one other : Str) (light : Int) (longest : Nat) : List Int := (List.range (longest + 1)).map (cntAt one other light)
def numB (one other : Str) (light : Int) (longest : Nat) : Bool :=
  let a := abv one other light longest
  let b := blw one other light
  let q := quo a b
  decide (0 ≤ a) && decide (a < 2 ^ 200) && decide (0 < b) && decide (b < 2 ^ 200) && decide (0 ≤ dDz a b) && decide (dDz a b ≤ 3) && decide (0 ≤ q) && decide (q < 2 ^ 200) && decide (0 ≤ dEz q) && decide (dEz q ≤ longest + 1)
def W2 : List (List Nat) := [[120], [111], [120, 120], [120, 111], [111, 120], [111, 111]]
def W3 : List (List Nat) := W2 ++ [[120, 120, 120], [120, 120, 111], [120, 111, 120], [120, 111, 111], [111, 120, 120], [111, 120, 111], [111, 111, 120], [111, 111, 111]]
end Mine
end
section
open PySem PySem.W PyProof.Rows
open PySem.Builtin PySem.Builtin.Str PySem.StrLaws
set_option Elab.async false
namespace Mine
def wantS (one other : Str) : Str := PySem.Str.ofString "..." ++ one ++ PySem.Str.ofString "..." ++ other ++ PySem.Str.ofString "..."
theorem d_is : PySem.Str.ofString "..." = strL [46, 46, 46] := by decide +kernel
theorem strL_app (a b : List Nat) : strL a ++ strL b = strL (a ++ b) := by
  unfold strL
  show Str.mk (a.toArray ++ b.toArray) = _
  simp
def wantL (one other : List Nat) : List Nat := [46, 46, 46] ++ one ++ [46, 46, 46] ++ other ++ [46, 46, 46]
theorem want_is (one other : List Nat) : wantS (strL one) (strL other) = strL (wantL one other) := by
  unfold wantS wantL
  rw [d_is, strL_app, strL_app, strL_app, strL_app]
/-- where y stands in x, one behind the other, the first «limit» places -/
def occG (x y : List Nat) (hi limit : Nat) : Nat → Nat → Nat → Nat → List Nat
  | 0, _, _, _ => []
  | m + 1, i, c, free => if (((Nat.blt c limit && Nat.ble free i) && Nat.ble (i + y.length) hi) && isPre y (x.drop i)) = true then i :: occG x y hi limit m (i + 1) (c + 1) (i + y.length) else occG x y hi limit m (i + 1) c free
theorem cond_pre (x y : List Nat) {i : Nat} (hi : i + y.length ≤ x.length) : ((x.drop i).take y.length == y) = isPre y (x.drop i) := by
  rw [isPre_iff, List.length_drop]
  have : y.length ≤ x.length - i := by omega
  simp [this]
theorem occ_runG (s sub : Str) (hi limit : Nat) (hl : hi ≤ s.length) : ∀ (m i : Nat) (st : Array Nat × Nat), (forIn (List.range' i m) st (occBody s sub hi limit)).run.fst.toList = st.fst.toList ++ occG s.cps.toList sub.cps.toList hi limit m i st.fst.size st.snd
  | 0, _, _ => (List.append_nil _).symm
  | m + 1, i, st => by
    rw [List.range'_succ, List.forIn_cons]
    unfold occBody
    unfold occG
    have hsl : sub.cps.toList.length = sub.length := by simp [Str.length]
    have hxl : s.cps.toList.length = s.length := by simp [Str.length]
    have hsub := subAt_eq s sub i
    by_cases hc : ((st.fst.size < limit ∧ st.snd ≤ i) ∧ i + sub.length ≤ hi) ∧ subAt s sub i = true
    · rw [if_pos hc]
      have : (((Nat.blt st.fst.size limit && Nat.ble st.snd i) && Nat.ble (i + sub.cps.toList.length) hi) && isPre sub.cps.toList (s.cps.toList.drop i)) = true := by
        simp only [Bool.and_eq_true, Nat.blt_eq, Nat.ble_eq]
        refine ⟨⟨⟨hc.1.1.1, hc.1.1.2⟩, by rw [hsl]; exact hc.1.2⟩, ?_⟩
        rw [← cond_pre _ _ (by rw [hsl, hxl]; omega), hsl, ← hsub]
        exact hc.2
      rw [if_pos this]
      show (forIn (List.range' (i + 1) m) (st.fst.push i, i + sub.length) (occBody s sub hi limit)).run.fst.toList = _
      rw [occ_runG s sub hi limit hl m (i + 1) (st.fst.push i, i + sub.length)]
      simp [hsl]
    · rw [if_neg hc]
      have : ¬ (((Nat.blt st.fst.size limit && Nat.ble st.snd i) && Nat.ble (i + sub.cps.toList.length) hi) && isPre sub.cps.toList (s.cps.toList.drop i)) = true := by
        simp only [Bool.and_eq_true, Nat.blt_eq, Nat.ble_eq]
        rintro ⟨⟨⟨q1, q2⟩, q3⟩, q4⟩
        rw [hsl] at q3
        refine hc ⟨⟨⟨q1, q2⟩, q3⟩, ?_⟩
        rw [hsub]
        rw [← cond_pre _ _ (by rw [hsl, hxl]; omega), hsl] at q4
        exact q4
      rw [if_neg this]
      exact occ_runG s sub hi limit hl m (i + 1) (st.fst, st.snd)
theorem occ_G (s sub : Str) (limit : Nat) : occurrences s sub 0 s.length limit = occG s.cps.toList sub.cps.toList s.length limit (s.length + 1) 0 0 0 := by
  rw [occ_eq, occ_runG s sub s.length limit (Nat.le_refl _)]
  rfl
def occL (l : List Nat) (limit : Nat) : List Nat := occG l [46, 46, 46] l.length limit (l.length + 1) 0 0 0
theorem occ_L (l : List Nat) (limit : Nat) : occurrences (strL l) (strL [46, 46, 46]) 0 (strL l).length limit = occL l limit := by
  rw [occ_G, strL_len]; rfl
def preB (one other : List Nat) : Bool :=
  decide ((wantL one other).length ≤ 20) && (!(List.isEmpty (occL (wantL one other) 1))) && !(decide ((wantL one other).length < 3) || decide (strKind (strL (wantL one other)) < strKind (strL [46, 46, 46]))) &&
  !(List.isEmpty (occL (wantL one other) ((wantL one other).length + 1))) && decide (partsBetween (strL (wantL one other)) (occL (wantL one other) ((wantL one other).length + 1)) 3 = [strL [], strL one, strL other, strL []]) && decide (one.length ≤ 3) && decide (other.length ≤ 3)
theorem preB_ok {one other : List Nat} (h : preB one other = true) {longest : Nat} {light : Int} (hl : 0 ≤ light ∧ light ≤ 5) (hn : longest ≤ 5) : CntPre (wantS (strL one) (strL other)) (strL one) (strL other) longest light := by
  simp only [preB, Bool.and_eq_true, decide_eq_true_eq, Bool.not_eq_true'] at h
  obtain ⟨⟨⟨⟨⟨⟨h1, h2⟩, h3⟩, h4⟩, h5⟩, h6⟩, h7⟩ := h
  have hw := strL_len (wantL one other)
  refine ⟨hl, hn, ?_, ?_, ?_, ?_, ?_⟩
  · rw [want_is, hw]; exact h1
  · rw [want_is, d_is, occ_L]; exact h2
  · rw [want_is, d_is, e_is]
    unfold Txt.split
    rw [occ_L, hw, strL_len, h4]
    have : ((decide ((wantL one other).length < [46, 46, 46].length) || decide (strKind (strL (wantL one other)) < strKind (strL [46, 46, 46]))) = true) ↔ False := by
      show ((decide ((wantL one other).length < 3) || _) = true) ↔ False
      rw [h3]; simp
    rw [if_neg (by rw [this]; exact fun q => q), if_neg (by decide)]
    exact h5
  · rw [strL_len]; exact h6
  · rw [strL_len]; exact h7
end Mine
end
section
open PySem PySem.W PyProof.Rows
set_option Elab.async false
namespace Mine
def cntsF (one other : List Nat) (light : Int) (longest : Nat) : List Int := (List.range (longest + 1)).map (cntF one other light)
theorem cnts_F (one other : List Nat) (light : Int) {longest : Nat} (h : longest ≤ 5) : cnts (strL one) (strL other) light longest = cntsF one other light longest := by
  unfold cnts cntsF
  refine List.map_congr_left fun k hk => ?_
  have := List.mem_range.mp hk
  exact cntAt_F one other light (by omega)
def dueOf (q : Int) (longest : Nat) : List Int := digs q ++ List.replicate (longest + 1 - (digs q).length) 0
def lastB (l : List Int) : Bool := match l.getLast? with | some v => !(decide (v = 0)) | none => true
structure Good (one other : Str) (light : Int) (longest : Nat) : Prop where
  a : 0 ≤ abv one other light longest ∧ abv one other light longest < 2 ^ 200
  b : 0 < blw one other light ∧ blw one other light < 2 ^ 200
  d : 0 ≤ dDz (abv one other light longest) (blw one other light) ∧ dDz (abv one other light longest) (blw one other light) ≤ 3
  q : 0 ≤ quo (abv one other light longest) (blw one other light) ∧ quo (abv one other light longest) (blw one other light) < 2 ^ 200
  e : 0 ≤ dEz (quo (abv one other light longest) (blw one other light)) ∧ dEz (quo (abv one other light longest) (blw one other light)) ≤ (longest : Int) + 1
  last : lastB (digs (quo (abv one other light longest) (blw one other light))) = true
  c1 : (cnts one other light longest).reverse = dueOf (quo (abv one other light longest) (blw one other light)) longest
  c2 : (cnts other one light longest).reverse = dueOf (quo (abv one other light longest) (blw one other light)) longest
def goodB (one other : List Nat) (light : Int) (longest : Nat) : Bool :=
  let a := abv (strL one) (strL other) light longest
  let b := blw (strL one) (strL other) light
  let q := quo a b
  decide (0 ≤ a) && decide (a < 2 ^ 200) && decide (0 < b) && decide (b < 2 ^ 200) && decide (0 ≤ dDz a b) && decide (dDz a b ≤ 3) && decide (0 ≤ q) && decide (q < 2 ^ 200) && decide (0 ≤ dEz q) && decide (dEz q ≤ (longest : Int) + 1) &&
    lastB (digs q) && decide ((cntsF one other light longest).reverse = dueOf q longest) && decide ((cntsF other one light longest).reverse = dueOf q longest)
theorem goodB_ok {one other : List Nat} {light : Int} {longest : Nat} (hn : longest ≤ 5) (h : goodB one other light longest = true) : Good (strL one) (strL other) light longest := by
  simp only [goodB, Bool.and_eq_true, decide_eq_true_eq] at h
  obtain ⟨⟨⟨⟨⟨⟨⟨⟨⟨⟨⟨⟨a1, a2⟩, b1⟩, b2⟩, d1⟩, d2⟩, q1⟩, q2⟩, e1⟩, e2⟩, l⟩, c1⟩, c2⟩ := h
  exact ⟨⟨a1, a2⟩, ⟨b1, b2⟩, ⟨d1, d2⟩, ⟨q1, q2⟩, ⟨e1, e2⟩, l, by rw [cnts_F _ _ _ hn]; exact c1, by rw [cnts_F _ _ _ hn]; exact c2⟩
def goodRow (one : List Nat) : Bool := W2.all fun other => [4, 5].all fun n => [0, 1, 2, 3, 4, 5].all fun light => goodB one other light n
theorem good_a : goodRow [120] = true := by decide +kernel
theorem good_b : goodRow [111] = true := by decide +kernel
theorem good_c : goodRow [120, 120] = true := by decide +kernel
theorem good_d : goodRow [120, 111] = true := by decide +kernel
theorem good_e : goodRow [111, 120] = true := by decide +kernel
theorem good_f : goodRow [111, 111] = true := by decide +kernel
theorem good_g : goodRow [120, 120, 120] = true := by decide +kernel
theorem good_h : goodRow [120, 120, 111] = true := by decide +kernel
theorem good_i : goodRow [120, 111, 120] = true := by decide +kernel
theorem good_j : goodRow [120, 111, 111] = true := by decide +kernel
theorem good_k : goodRow [111, 120, 120] = true := by decide +kernel
theorem good_l : goodRow [111, 120, 111] = true := by decide +kernel
theorem good_m : goodRow [111, 111, 120] = true := by decide +kernel
theorem good_n : goodRow [111, 111, 111] = true := by decide +kernel
theorem good_tab : (W3.all goodRow) = true := by
  have e : W3 = [[120], [111], [120, 120], [120, 111], [111, 120], [111, 111], [120, 120, 120], [120, 120, 111], [120, 111, 120], [120, 111, 111], [111, 120, 120], [111, 120, 111], [111, 111, 120], [111, 111, 111]] := rfl
  rw [e]
  simp only [List.all_cons, List.all_nil, Bool.and_true, good_a, good_b, good_c, good_d, good_e, good_f, good_g, good_h, good_i, good_j, good_k, good_l, good_m, good_n]
theorem pre_tab : (W3.all fun one => W2.all fun other => preB one other && preB other one) = true := by decide +kernel
theorem good_all {one other : Str} {light : Int} {longest : Nat} (h1 : one ∈ W3.map strL) (h2 : other ∈ W2.map strL) (hl : 0 ≤ light ∧ light ≤ 5) (hn : longest = 4 ∨ longest = 5) : Good one other light longest := by
  obtain ⟨a, ha, rfl⟩ := List.mem_map.mp h1
  obtain ⟨b, hb, rfl⟩ := List.mem_map.mp h2
  have t := List.all_eq_true.mp (List.all_eq_true.mp good_tab a ha) b hb
  have hlm : light ∈ ([0, 1, 2, 3, 4, 5] : List Int) := by
    have : light = 0 ∨ light = 1 ∨ light = 2 ∨ light = 3 ∨ light = 4 ∨ light = 5 := by omega
    rcases this with rfl | rfl | rfl | rfl | rfl | rfl <;> decide
  have hnm : longest ∈ [4, 5] := by rcases hn with rfl | rfl <;> decide
  exact goodB_ok (by omega) (List.all_eq_true.mp (List.all_eq_true.mp t longest hnm) light hlm)
theorem pre_all {one other : Str} {light : Int} {longest : Nat} (h1 : one ∈ W3.map strL) (h2 : other ∈ W2.map strL) (hl : 0 ≤ light ∧ light ≤ 5) (hn : longest ≤ 5) :
    CntPre (wantS one other) one other longest light ∧ CntPre (wantS other one) other one longest light := by
  obtain ⟨a, ha, rfl⟩ := List.mem_map.mp h1
  obtain ⟨b, hb, rfl⟩ := List.mem_map.mp h2
  have t := List.all_eq_true.mp (List.all_eq_true.mp pre_tab a ha) b hb
  rw [Bool.and_eq_true] at t
  exact ⟨preB_ok t.1 hl hn, preB_ok t.2 hl hn⟩
theorem len_all3 {one : Str} (h : one ∈ W3.map strL) : one.length ≤ 3 := by
  obtain ⟨a, ha, rfl⟩ := List.mem_map.mp h
  rw [strL_len]
  have : (W3.all fun a => decide (a.length ≤ 3)) = true := by decide +kernel
  exact of_decide_eq_true (List.all_eq_true.mp this a ha)
theorem len_all2 {other : Str} (h : other ∈ W2.map strL) : other.length ≤ 3 := by
  obtain ⟨a, ha, rfl⟩ := List.mem_map.mp h
  rw [strL_len]
  have : (W2.all fun a => decide (a.length ≤ 3)) = true := by decide +kernel
  exact of_decide_eq_true (List.all_eq_true.mp this a ha)
theorem bit_xo (n most : Int) (k : Nat) : bitLetter n most k = strL [120] ∨ bitLetter n most k = strL [111] := by
  unfold bitLetter
  have h0 := Int.fmod_nonneg_of_pos (Int.fdiv (Int.fdiv n most) (2 ^ (0 + (k : Int)).toNat)) (b := 2) (by decide)
  have h1 := Int.fmod_lt_of_pos (Int.fdiv (Int.fdiv n most) (2 ^ (0 + (k : Int)).toNat)) (b := 2) (by decide)
  generalize Int.fmod (Int.fdiv (Int.fdiv n most) (2 ^ (0 + (k : Int)).toNat)) 2 = v at *
  have : v = 0 ∨ v = 1 := by omega
  rcases this with rfl | rfl
  · exact .inl (by decide +kernel)
  · exact .inr (by decide +kernel)
def joinB (ls : List (List Nat)) : List (List Nat) → Bool := fun tab => decide (Txt.join (strL []) (ls.map strL) ∈ tab.map strL)
theorem join1 : ([[120], [111]].all fun a => joinB [a] W2 && joinB [a] W3) = true := by decide +kernel
theorem join2 : ([[120], [111]].all fun a => [[120], [111]].all fun b => joinB [a, b] W2 && joinB [a, b] W3) = true := by decide +kernel
theorem join3 : ([[120], [111]].all fun a => [[120], [111]].all fun b => [[120], [111]].all fun c => joinB [a, b, c] W3) = true := by decide +kernel
theorem xo_mem (n most : Int) (k : Nat) : ∃ a ∈ [[120], [111]], bitLetter n most k = strL a := by
  rcases bit_xo n most k with h | h
  · exact ⟨[120], by decide, h⟩
  · exact ⟨[111], by decide, h⟩
theorem word_m3 (n : Int) : wordOf n 3 ∈ W3.map strL := by
  unfold wordOf
  rw [e_is]
  show Txt.join (strL []) _ ∈ _
  have h0 := Int.fmod_nonneg_of_pos n (b := 3) (by decide)
  have h1 := Int.fmod_lt_of_pos n (b := 3) (by decide)
  obtain ⟨a, ha, ea⟩ := xo_mem n 3 0
  obtain ⟨b, hb, eb⟩ := xo_mem n 3 1
  obtain ⟨c, hc, ec⟩ := xo_mem n 3 2
  have h : Int.fmod n 3 = 0 ∨ Int.fmod n 3 = 1 ∨ Int.fmod n 3 = 2 := by omega
  rcases h with h | h | h
  · rw [h]
    show Txt.join (strL []) [bitLetter n 3 0] ∈ _
    have t := List.all_eq_true.mp join1 a ha
    rw [Bool.and_eq_true] at t
    rw [ea]; exact of_decide_eq_true t.2
  · rw [h]
    show Txt.join (strL []) [bitLetter n 3 0, bitLetter n 3 1] ∈ _
    have t := List.all_eq_true.mp (List.all_eq_true.mp join2 a ha) b hb
    rw [Bool.and_eq_true] at t
    rw [ea, eb]; exact of_decide_eq_true t.2
  · rw [h]
    show Txt.join (strL []) [bitLetter n 3 0, bitLetter n 3 1, bitLetter n 3 2] ∈ _
    have t := List.all_eq_true.mp (List.all_eq_true.mp (List.all_eq_true.mp join3 a ha) b hb) c hc
    rw [ea, eb, ec]; exact of_decide_eq_true t
theorem word_m2 (n : Int) : wordOf n 2 ∈ W2.map strL := by
  unfold wordOf
  rw [e_is]
  show Txt.join (strL []) _ ∈ _
  have h0 := Int.fmod_nonneg_of_pos n (b := 2) (by decide)
  have h1 := Int.fmod_lt_of_pos n (b := 2) (by decide)
  obtain ⟨a, ha, ea⟩ := xo_mem n 2 0
  obtain ⟨b, hb, eb⟩ := xo_mem n 2 1
  have h : Int.fmod n 2 = 0 ∨ Int.fmod n 2 = 1 := by omega
  rcases h with h | h
  · rw [h]
    show Txt.join (strL []) [bitLetter n 2 0] ∈ _
    have t := List.all_eq_true.mp join1 a ha
    rw [Bool.and_eq_true] at t
    rw [ea]; exact of_decide_eq_true t.1
  · rw [h]
    show Txt.join (strL []) [bitLetter n 2 0, bitLetter n 2 1] ∈ _
    have t := List.all_eq_true.mp (List.all_eq_true.mp join2 a ha) b hb
    rw [Bool.and_eq_true] at t
    rw [ea, eb]; exact of_decide_eq_true t.1
end Mine
end
section
open PySem PySem.W PyProof.Rows PySem.Calls PySem.Spec
set_option Elab.async false
namespace Mine
section
variable {prog : Program} {w : World} {A : Around} {E : Value → Shared → Prop} {s : Shared} {env : Env} {h₀ : Heap} {x : Str} {body : List Stmt} {Q : Flow → Shared → Prop}
theorem listRest_ind {I : Addr} {lp : Addr × Obj} {vs : List Value} {m₀ : Str → Option Value} {news : List (Addr × Obj)} (J : Nat → (Str → Option Value) → List (Addr × Obj) → Prop) (h0 : J 0 m₀ news)
    (hlp : ∀ i m nw, J i m nw → lp ∈ nw)
    (fin : ∀ m nw h tk, J vs.length m nw → Fr h₀ env.locals h m → News h₀ env.locals h nw → Q .next { s with heap := h, toks := tk })
    (step : ∀ i v m nw it h tk, vs[i]? = some v → J i m nw → (it.cls = .type "list_iterator") → Fr h₀ env.locals h (fun y => if y = x then some v else m y) → News h₀ env.locals h ((I, it) :: nw) →
      wpAny (model prog w) A (execs body env) (UnrPost h₀ env.locals { s with heap := h, toks := tk } I it (J (i + 1)) Q) E { s with heap := h, toks := tk }) :
    ListRest prog w A E h₀ env x body Q s I lp vs m₀ news := by
  have all : ∀ r i m nw, i + r.length = vs.length → vs.drop i = r → J i m nw → ListRest prog w A E h₀ env x body Q s I lp r m nw := by
    intro r
    induction r with
    | nil => intro i m nw hi _ hj; exact fun h tk F N => fin m nw h tk (by rw [← hi]; exact hj) F N
    | cons v r ih =>
      intro i m nw hi hd hj
      have hv : vs[i]? = some v := by
        have : (vs.drop i)[0]? = some v := by rw [hd]; rfl
        rwa [List.getElem?_drop, Nat.add_zero] at this
      have hd' : vs.drop (i + 1) = r := by
        have : (vs.drop i).drop 1 = r := by rw [hd]; rfl
        rwa [List.drop_drop] at this
      rw [List.length_cons] at hi
      refine ListRest.succ fun it h tk hc F N => wpAny_mono (step i v m nw it h tk hv hj hc F N) (fun f s' hf => ?_) fun _ _ e => e
      have conv : UnrEnd h₀ env.locals { s with heap := h, toks := tk } I it (J (i + 1)) s' →
          UnrEnd h₀ env.locals { s with heap := h, toks := tk } I it (fun m' n' => lp ∈ n' ∧ ListRest prog w A E h₀ env x body Q s I lp r m' n') s' := by
        rintro ⟨h', tk', m', nw', e, F', N', off', hJ⟩
        exact ⟨h', tk', m', nw', e, F', N', off', hlp _ _ _ hJ, ih (i + 1) m' nw' (by omega) hd' hJ⟩
      cases f with
      | ret v => exact hf
      | brk => exact hf
      | next => exact conv hf
      | cont => exact conv hf
  exact all vs 0 m₀ news (by omega) rfl h0
end
/-- what holds between the turns of the law's loop -/
def LetJ (C : Addr) (fixed : List (Addr × Obj)) (m₀ : Str → Option Value) (i : Nat) (m₁ : Str → Option Value) (nw : List (Addr × Obj)) : Prop :=
  ∃ (ls : List Value) (ss : List Str) (e : Nat) (u0 u1 u2 u3 u4 u5 u6 u7 : Option Value),
    m₁ = setS "lightness" u7 (setS "blue" u6 (setS "green" u5 (setS "red" u4 (setS "hue" u1 (setS "share" u2 (setS "level" u3 (setS "number" u0 m₀))))))) ∧
    nw = (C, W.listOf ls.toArray e) :: fixed ∧ StrsAre ls ss ∧ ss.length = i
theorem letJ0 {C : Addr} {fixed : List (Addr × Obj)} {m₀ : Str → Option Value} : LetJ C fixed m₀ 0 m₀ ((C, W.listOf #[] 0) :: fixed) := by
  refine ⟨[], [], 0, m₀ (PySem.Str.ofString "number"), m₀ (PySem.Str.ofString "hue"), m₀ (PySem.Str.ofString "share"), m₀ (PySem.Str.ofString "level"), m₀ (PySem.Str.ofString "red"), m₀ (PySem.Str.ofString "green"), m₀ (PySem.Str.ofString "blue"), m₀ (PySem.Str.ofString "lightness"), ?_, rfl, .nil, rfl⟩
  rw [setS_id "number", setS_id "level", setS_id "share", setS_id "hue", setS_id "red", setS_id "green", setS_id "blue", setS_id "lightness"]
theorem map_turn {m₀ : Str → Option Value} {v0 v1 v2 v3 v4 v5 v6 v7 u0 u1 u2 u3 u4 u5 u6 u7 : Option Value} :
    setS "lightness" v7 (setS "blue" v6 (setS "green" v5 (setS "red" v4 (setS "hue" v1 (setS "share" v2 (setS "level" v3 (setS "number" v0
      (setS "lightness" u7 (setS "blue" u6 (setS "green" u5 (setS "red" u4 (setS "hue" u1 (setS "share" u2 (setS "level" u3 (setS "number" u0 m₀))))))))))))))) =
    setS "lightness" v7 (setS "blue" v6 (setS "green" v5 (setS "red" v4 (setS "hue" v1 (setS "share" v2 (setS "level" v3 (setS "number" v0 m₀))))))) := by
  funext y
  simp only [setS]
  by_cases h7 : y = PySem.Str.ofString "lightness"
  · simp only [if_pos h7]
  by_cases h6 : y = PySem.Str.ofString "blue"
  · simp only [if_neg h7, if_pos h6]
  by_cases h5 : y = PySem.Str.ofString "green"
  · simp only [if_neg h7, if_neg h6, if_pos h5]
  by_cases h4 : y = PySem.Str.ofString "red"
  · simp only [if_neg h7, if_neg h6, if_neg h5, if_pos h4]
  by_cases h1 : y = PySem.Str.ofString "hue"
  · simp only [if_neg h7, if_neg h6, if_neg h5, if_neg h4, if_pos h1]
  by_cases h2 : y = PySem.Str.ofString "share"
  · simp only [if_neg h7, if_neg h6, if_neg h5, if_neg h4, if_neg h1, if_pos h2]
  by_cases h3 : y = PySem.Str.ofString "level"
  · simp only [if_neg h7, if_neg h6, if_neg h5, if_neg h4, if_neg h1, if_neg h2, if_pos h3]
  by_cases h0 : y = PySem.Str.ofString "number"
  · simp only [if_neg h7, if_neg h6, if_neg h5, if_neg h4, if_neg h3, if_neg h2, if_neg h1, if_pos h0]
  · simp only [if_neg h7, if_neg h6, if_neg h5, if_neg h4, if_neg h3, if_neg h2, if_neg h1, if_neg h0]
theorem let_end {C I L : Addr} {fixed X : List (Addr × Obj)} {m₀ : Str → Option Value} {i e tk : Nat} {v0 v1 v2 v3 v4 v5 v6 v7 u0 u1 u2 u3 u4 u5 u6 u7 : Option Value} {h₀ h' : Heap} {s₁ : Shared} {it : Obj} {ls : List Value} {ss : List Str} {k : Str} {t : Tok}
    (F : Fr h₀ L h' (setS "lightness" v7 (setS "blue" v6 (setS "green" v5 (setS "red" v4 (setS "hue" v1 (setS "share" v2 (setS "level" v3 (setS "number" v0
      (setS "lightness" u7 (setS "blue" u6 (setS "green" u5 (setS "red" u4 (setS "hue" u1 (setS "share" u2 (setS "level" u3 (setS "number" u0 m₀)))))))))))))))))
    (N : News h₀ L h' X) (hI : (I, it) ∈ X) (hC : (C, W.listOf (ls ++ [Value.str k t]).toArray e) ∈ X) (hf : ∀ p ∈ fixed, p ∈ X) (n1 : @Ne Nat C I) (n2 : ∀ p ∈ fixed, @Ne Nat p.1 I) (hs : StrsAre ls ss) (hl : ss.length = i) :
    UnrEnd h₀ L s₁ I it (LetJ C fixed m₀ (i + 1)) { s₁ with heap := h', toks := tk } := by
  rw [map_turn] at F
  refine ⟨h', tk, _, (C, W.listOf (ls ++ [Value.str k t]).toArray e) :: fixed, rfl, F, fun p hp => N p ?_, fun p hp => ?_, ls ++ [Value.str k t], ss ++ [k], e, v0, v1, v2, v3, v4, v5, v6, v7, rfl, rfl, StrsAre.append' hs (.cons _ _ .nil), by simp [hl]⟩
  · rcases List.mem_cons.mp hp with rfl | hp
    · exact hI
    · rcases List.mem_cons.mp hp with rfl | hp
      · exact hC
      · exact hf p hp
  · rcases List.mem_cons.mp hp with rfl | hp
    · exact n1
    · exact n2 p hp
section
variable {prog : Program} {w : World} {A : Around} {E : Value → Shared → Prop} {s : Shared} {a b : Int} {t u : Tok} {Q : Value → Shared → Prop}
theorem div_small (hA : A.handled = none) (h0 : 0 ≤ a ∧ a ≤ 128) (hb : b ≠ 0) (h : Q (.float (fdv a b) s.toks) { s with toks := s.toks + 1 }) : wpAny (model prog w) A (binaryOp .Div (.int a t) (.int b u)) Q E s :=
  Flt.div_ii_fits hA (by
    have h1 : a.natAbs ≤ 128 := by omega
    exact Nat.lt_of_le_of_lt h1 (by decide +kernel)) (fun q => absurd q hb) (fun _ _ => h)
end
theorem ne_same {prog : Program} {w : World} {A : Around} {E : Value → Shared → Prop} {s : Shared} {a b : UInt64} {t u : Tok} {Q : Value → Shared → Prop} (e : (Float64.cmp a b == some Ordering.eq) = true) (h : Q (.bool false) s) : wpAny (model prog w) A (compareOp .NotEq (.float a t) (.float b u)) Q E s := by
  refine PySem.AutoFloatOps.ne_0 ?_
  have : (Float64.cmp a b != some Ordering.eq) = false := by rw [bne, e]; rfl
  rw [this]
  exact h
theorem prod_bd {s v : Int} (hs : 1 ≤ s ∧ s ≤ 8) (hv : 1 ≤ v ∧ v ≤ 8) : 0 ≤ v * (16 - s) ∧ v * (16 - s) ≤ 128 := by
  refine ⟨Int.mul_nonneg (by omega) (by omega), ?_⟩
  have : v * (16 - s) ≤ 8 * 16 := Int.mul_le_mul hv.2 (by omega) (by omega) (by decide)
  omega
theorem prod_ok {s v : Int} (hv : 1 ≤ v ∧ v ≤ 8) : IntMulOk v (16 - s) := IntMulOk.of_left (intBits_le_64 (by omega) (by omega))
theorem at_lt {vs : List Value} {ns : List Int} {i : Nat} {v : Value} (h : IntsAre vs ns) (e : vs[i]? = some v) : i < ns.length := by
  rw [← h.length]
  exact (List.getElem?_eq_some_iff.mp e).1
theorem strs_len {vs : List Value} {ss : List Str} (h : StrsAre vs ss) : vs.length = ss.length := by
  induction h with
  | nil => rfl
  | cons _ _ _ ih => rw [List.length_cons, List.length_cons, ih]
theorem fl_half : (4602678819172646912 : UInt64) = fdv 1 2 := by decide +kernel
end Mine
end
section
open PySem PySem.W PyProof.Rows PySem.Calls PySem.Spec
set_option Elab.async false
namespace Mine
theorem countIn_bd (k : Str) : ∀ ys : List Str, 0 ≤ PySem.Spec.countIn (.str k) (ys.map PyData.str) ∧ PySem.Spec.countIn (.str k) (ys.map PyData.str) ≤ (ys.length : Int)
  | [] => ⟨Int.le_refl _, Int.le_refl _⟩
  | y :: ys => by
    have ih := countIn_bd k ys
    rw [List.map_cons, PySem.Spec.countIn, List.length_cons]
    split <;> omega
theorem count_step {prog : Program} {w : World} {A : Around} {E : Value → Shared → Prop} {s : Shared} {h₀ : Heap} {L l : Addr} {news : List (Addr × Obj)} {vs : List Value} {ys : List Str} {e : Nat} {k : Str} {t : Tok} {Q : Value → Shared → Prop}
    (N : News h₀ L s.heap news) (hm : (l, W.listOf vs.toArray e) ∈ news) (hi : StrsAre vs ys) (hn : ys.length ≤ 5)
    (h : ∀ (light : Int) (t : Tok) (tk : Nat), 0 ≤ light ∧ light ≤ 5 → Q (.int light t) { s with toks := tk }) : wpAny (model prog w) A (call (.builtin "list.count") [.ref l, .str k t]) Q E s := by
  refine count_list_strs ⟨_, (N _ hm).1, rfl, _, rfl⟩ hi ?_
  have := countIn_bd k ys
  exact h _ _ _ ⟨this.1, by omega⟩
section
variable {w : World} {p : Program} {loose : List Str} {mean : ExcName → Option Value} {mg mb : Str → Option Value}
  {dp un : Nat} {gd : Option (List Code)} {cn : Str} {cs : Scope} {aa : Addr} {ccd : Value} {cl : List (Str × Addr)} {outer : List Env} {A₀ : Around} {base h₀ : Heap} {L : Addr} {m : Str → Option Value} {s : Shared} {Q E : Value → Shared → Prop} {news : List (Addr × Obj)}
theorem use_word3 {n : Int} {t t2 : Tok} (B : Below A₀ base outer h₀) (F : Fr h₀ L s.heap m) (X : (hd.heap_39 w.params).In h₀) (N : News h₀ L s.heap news) (T : Top p loose mean mg mb h₀) (hk : cs.kind = .function) (h1 : dp + 2 < recursionLimit) (h2 : un + 16 < cLine)
    (ret : ∀ (one : Str) (t : Tok) (h' : Heap) (tk' : Nat), one ∈ W3.map strL → one.length ≤ 3 → Fr h₀ L h' m → News h₀ L h' news → Q (.str one t) { s with heap := h', toks := tk' }) :
    wpAny (model (RowW.prog (OpenRow.toRowW (OpenLaw.row PySem.Challenge.rw_pe0204_01))) w) (ktrTop dp un gd cn cs L aa ccd cl outer) (call (.ref 82) [.int n t, .int 3 t2]) Q E s :=
  useV (word_c w p loose mean mg mb n t 3 t2 news) B F X N T hk (by decide) h1 h2 fun t h' tk' F' N' => ret _ t h' tk' (word_m3 n) (len_all3 (word_m3 n)) F' N'
theorem use_word2 {n : Int} {t t2 : Tok} (B : Below A₀ base outer h₀) (F : Fr h₀ L s.heap m) (X : (hd.heap_39 w.params).In h₀) (N : News h₀ L s.heap news) (T : Top p loose mean mg mb h₀) (hk : cs.kind = .function) (h1 : dp + 2 < recursionLimit) (h2 : un + 16 < cLine)
    (ret : ∀ (other : Str) (t : Tok) (h' : Heap) (tk' : Nat), other ∈ W2.map strL → other.length ≤ 3 → Fr h₀ L h' m → News h₀ L h' news → Q (.str other t) { s with heap := h', toks := tk' }) :
    wpAny (model (RowW.prog (OpenRow.toRowW (OpenLaw.row PySem.Challenge.rw_pe0204_01))) w) (ktrTop dp un gd cn cs L aa ccd cl outer) (call (.ref 82) [.int n t, .int 2 t2]) Q E s :=
  useV (word_c w p loose mean mg mb n t 2 t2 news) B F X N T hk (by decide) h1 h2 fun t h' tk' F' N' => ret _ t h' tk' (word_m2 n) (len_all2 (word_m2 n)) F' N'
theorem dm_any {a b q : Int} {t t2 : Tok} (C1 : CodeHd base 41 37) (C2 : CodeHd base 34 30) (B : Below A₀ base outer h₀) (F : Fr h₀ L s.heap m) (X : (hd.heap_39 w.params).In h₀) (N : News h₀ L s.heap [(37, tabObj #[]), (30, tabObj #[])]) (T : Top p loose mean mg mb h₀) (hk : cs.kind = .function)
    (hb : 0 < b ∧ b < 2 ^ 200) (ha : 0 ≤ a ∧ a < 2 ^ 200) (hD : 0 ≤ dDz a b ∧ dDz a b ≤ 3) (hq : q = quo a b) (h1 : dp + 20 < recursionLimit) (h2 : un + 200 < cLine)
    (ret : ∀ r, DmRet h₀ L m s Q q r) :
    wpAny (model (RowW.prog (OpenRow.toRowW (OpenLaw.row PySem.Challenge.rw_pe0204_01))) w) (ktrTop dp un gd cn cs L aa ccd cl outer) (call (.ref 56) [.int a t, .int b t2]) Q E s := by
  subst hq
  exact dm_cg w p loose mean mg mb a b t t2 (dDz a b).toNat (by omega) dp un gd cn cs aa ccd cl outer A₀ base h₀ L m s Q E C1 C2 B F X N T hk ⟨hb, by rw [Int.toNat_of_nonneg hD.1]; rfl, ha⟩ h1 h2 (ret _)
/-- the law's division: three objects of its own stand ahead of the two tables -/
theorem use_dm {a b : Int} {t t2 : Tok} {x1 x2 x3 : Addr × Obj} (C1 : CodeHd base 41 37) (C2 : CodeHd base 34 30) (B : Below A₀ base outer h₀) (F : Fr h₀ L s.heap m) (X : (hd.heap_39 w.params).In h₀) (N : News h₀ L s.heap [x1, x2, x3, (37, tabObj #[]), (30, tabObj #[])]) (T : Top p loose mean mg mb h₀) (hk : cs.kind = .function)
    (hx : @LT.lt Nat _ 37 x1.1 ∧ @LT.lt Nat _ 30 x1.1 ∧ @LT.lt Nat _ 37 x2.1 ∧ @LT.lt Nat _ 30 x2.1 ∧ @LT.lt Nat _ 37 x3.1 ∧ @LT.lt Nat _ 30 x3.1)
    (hb : 0 < b ∧ b < 2 ^ 200) (ha : 0 ≤ a ∧ a < 2 ^ 200) (hD : 0 ≤ dDz a b ∧ dDz a b ≤ 3) (h1 : dp + 20 < recursionLimit) (h2 : un + 200 < cLine)
    (ret : ∀ (q r : Int), q = quo a b → ∀ (Dd c1 : Addr) (t1 t2 : Tok) (oc1 : Obj) (vs1 : Array Value) (t3 : Tok) (ps : Array Value) (h' : Heap) (tk' : Nat), Fr h₀ L h' m → News h₀ L h' [(Dd, tup2 q r t1 t2), (c1, oc1), x1, x2, x3, (37, tabObj ps), (30, tab30 c1)] →
      (@LT.lt Nat _ 30 c1) → oc1.data = .fields vs1 → vs1[1]? = some (.str innerName t3) → Q (.ref Dd) { s with heap := h', toks := tk' }) :
    wpAny (model (RowW.prog (OpenRow.toRowW (OpenLaw.row PySem.Challenge.rw_pe0204_01))) w) (ktrTop dp un gd cn cs L aa ccd cl outer) (call (.ref 56) [.int a t, .int b t2]) Q E s := by
  refine dm_any C1 C2 B F X (fun z hz => N z (.tail _ (.tail _ (.tail _ hz)))) T hk hb ha hD rfl h1 h2 fun r => ?_
  intro Dd c1 t1 t2 oc1 vs1 t3 ps h' tk' F' N' S hDd hc1 ho d1 d2
  have nm : ∀ x : Nat, 37 < x → 30 < x → x ∉ [((37 : Addr), tabObj #[]), (30, tabObj #[])].map (·.1) := fun x h1 h2 hq => by
    rcases List.mem_cons.mp hq with e | hq
    · exact Nat.ne_of_gt h1 e
    · exact Nat.ne_of_gt h2 (List.mem_singleton.mp hq)
  refine ret _ r rfl Dd c1 t1 t2 oc1 vs1 t3 ps h' tk' F' (fun z hz => ?_) ho.2.2.2.2 d1 d2
  rcases List.mem_cons.mp hz with rfl | hz
  · exact N' _ (.head _)
  rcases List.mem_cons.mp hz with rfl | hz
  · exact N' _ (.tail _ (.head _))
  rcases List.mem_cons.mp hz with rfl | hz
  · have := N z (.head _); exact ⟨S _ _ (nm _ hx.1 hx.2.1) this.1, this.2⟩
  rcases List.mem_cons.mp hz with rfl | hz
  · have := N z (.tail _ (.head _)); exact ⟨S _ _ (nm _ hx.2.2.1 hx.2.2.2.1) this.1, this.2⟩
  rcases List.mem_cons.mp hz with rfl | hz
  · have := N z (.tail _ (.tail _ (.head _))); exact ⟨S _ _ (nm _ hx.2.2.2.2.1 hx.2.2.2.2.2) this.1, this.2⟩
  rcases List.mem_cons.mp hz with rfl | hz
  · exact N' _ (.tail _ (.tail _ (.head _)))
  · rw [List.mem_singleton.mp hz]; exact N' _ (.tail _ (.tail _ (.tail _ (.head _))))
/-- the law's second split into digits -/
theorem use_i2d2 {q : Int} {t t2 t1 : Tok} {c1 : Addr} {oc1 : Obj} {vs1 : Array Value} {all : List (Addr × Obj)} (hc : @LT.lt Nat _ 30 c1) (d1 : oc1.data = .fields vs1) (d2 : vs1[1]? = some (.str innerName t1)) (C : CodeHd base 34 30)
    (B : Below A₀ base outer h₀) (F : Fr h₀ L s.heap m) (X : (hd.heap_39 w.params).In h₀) (N : News h₀ L s.heap all) (m1 : (c1, oc1) ∈ all) (m2 : (30, tab30 c1) ∈ all) (T : Top p loose mean mg mb h₀) (hk : cs.kind = .function)
    (hq : 0 ≤ q ∧ q < 2 ^ 200) (he : 0 ≤ dEz q ∧ dEz q ≤ 7) (h1 : dp + 12 < recursionLimit) (h2 : un + 100 < cLine)
    (ret : ∀ (l : Addr) (vs : List Value) (h' : Heap) (tk' : Nat), Fr h₀ L h' m → News h₀ L h' ((l, W.listOf vs.toArray 0) :: all) → IntsAre vs (digs q) → Q (.ref l) { s with heap := h', toks := tk' }) :
    wpAny (model (RowW.prog (OpenRow.toRowW (OpenLaw.row PySem.Challenge.rw_pe0204_01))) w) (ktrTop dp un gd cn cs L aa ccd cl outer) (call (.ref 35) [.int q t, .int 14 t2]) Q E s := by
  have own : News h₀ L s.heap [(c1, oc1), (30, tab30 c1)] := fun z hz => by
    rcases List.mem_cons.mp hz with rfl | hz
    · exact N _ m1
    · rw [List.mem_singleton.mp hz]; exact N _ m2
  refine i2d2_c w p loose mean mg mb q 14 t t2 (dEz q).toNat c1 oc1 vs1 t1 dp un gd cn cs aa ccd cl outer A₀ base h₀ L m s Q E (Nat.ne_of_gt hc) d1 d2 C B F X own T hk ⟨by decide, by rw [Int.toNat_of_nonneg he.1]; rfl, by omega, hq⟩ h1 h2 ?_
  intro l vs h' tk' F' N' hi S hl _ _
  refine ret l vs h' tk' F' (fun z hz => ?_) hi
  rcases List.mem_cons.mp hz with rfl | hz
  · exact N' _ (.head _)
  by_cases e1 : z.1 = c1
  · have h1 := (N _ hz).1
    rw [e1, (N _ m1).1] at h1
    have : z = (c1, oc1) := Prod.ext e1 (Option.some.inj h1).symm
    rw [this]; exact N' _ (.tail _ (.head _))
  by_cases e2 : z.1 = 30
  · have h1 := (N _ hz).1
    rw [e2, (N _ m2).1] at h1
    have : z = (30, tab30 c1) := Prod.ext e2 (Option.some.inj h1).symm
    rw [this]; exact N' _ (.tail _ (.tail _ (.head _)))
  refine ⟨S _ _ (fun hq => ?_) (N _ hz).1, (N _ hz).2⟩
  rcases List.mem_cons.mp hq with e | hq
  · exact e1 e
  · exact e2 (List.mem_singleton.mp hq)
theorem use_counts {want one other : Str} {x light : Int} {longest : Nat} {t t2 t3 : Tok} {all : List (Addr × Obj)} (hx : x = (longest : Int)) (B : Below A₀ base outer h₀) (F : Fr h₀ L s.heap m) (X : (hd.heap_39 w.params).In h₀) (N : News h₀ L s.heap all) (T : Top p loose mean mg mb h₀) (hk : cs.kind = .function)
    (hp : CntPre want one other longest light) (h1 : dp + 4 < recursionLimit) (h2 : un + 40 < cLine)
    (ret : ∀ (l : Addr) (vs : List Value) (e : Nat) (h' : Heap) (tk' : Nat), Fr h₀ L h' m → News h₀ L h' ((l, W.listOf vs.toArray e) :: all) → IntsAre vs (cnts one other light longest) → Q (.ref l) { s with heap := h', toks := tk' }) :
    wpAny (model (RowW.prog (OpenRow.toRowW (OpenLaw.row PySem.Challenge.rw_pe0204_01))) w) (ktrTop dp un gd cn cs L aa ccd cl outer) (call (.ref 101) [.str want t, .int x t2, .int light t3]) Q E s := by
  subst hx
  refine counts_t w p loose mean mg mb want one other longest light t t2 t3 dp un gd cn cs aa ccd cl outer A₀ base h₀ L m s Q E B F X T hk hp h1 h2 ?_
  intro l vs e h' tk' F' N' hi S hl
  refine ret l vs e h' tk' F' (fun z hz => ?_) hi
  rcases List.mem_cons.mp hz with rfl | hz
  · exact N' _ (.head _)
  · exact ⟨S _ _ (fun hq => nomatch hq) (N _ hz).1, (N _ hz).2⟩
end
section
variable {prog : Program} {w : World} {A : Around} {E : Value → Shared → Prop} {s : Shared} {h₀ : Heap} {L l : Addr} {m : Str → Option Value} {news : List (Addr × Obj)} {x : Int} {k : Nat} {t u : Tok} {Q : Value → Shared → Prop}
theorem add4_step (h : ∀ (k : Nat) (t' : Tok), (k = 4 ∨ k = 5) → Q (.int (k : Int) t') { s with toks := s.toks + 1 }) : wpAny (model prog w) A (binaryOp .Add (.int 4 t) (.int (Int.fmod x 2) u)) Q E s := by
  refine add_int ?_
  have h0 := Int.fmod_nonneg_of_pos x (b := 2) (by decide)
  have h1 := Int.fmod_lt_of_pos x (b := 2) (by decide)
  have e : 4 + Int.fmod x 2 = ((4 + (Int.fmod x 2).toNat : Nat) : Int) := by omega
  rw [e]
  exact h _ _ (by omega)
theorem pow14_step (h : ∀ t', Q (.int 16384 t') { s with toks := s.toks + 1 }) : wpAny (model prog w) A (binaryOp .Pow (.int 2 t) (.int 14 u)) Q E s := by
  refine pow_int (by decide) (by decide +kernel) ?_
  have : ((2 : Int) ^ (14 : Int).toNat) = 16384 := by decide +kernel
  rw [this]
  exact h _
theorem powb_step (hk : k = 4 ∨ k = 5) (h : ∀ t', Q (.int (16384 ^ (k + 1)) t') { s with toks := s.toks + 1 }) : wpAny (model prog w) A (binaryOp .Pow (.int 16384 t) (.int ((k : Int) + 1) u)) Q E s := by
  refine pow_int (by omega) ?_ ?_
  · have : Builtin.Int.intBits 16384 = 15 := by decide +kernel
    rw [this]
    have e : (2 : Int) ^ 27 = 134217728 := by decide
    rw [e]; omega
  · have : ((k : Int) + 1).toNat = k + 1 := by omega
    rw [this]
    exact h _
theorem len_step {vs : List Value} {ns : List Int} {e : Nat} (N : News h₀ L s.heap news) (hm : (l, W.listOf vs.toArray e) ∈ news) (hi : IntsAre vs ns) (hn : ns.length ≤ 7) (h : ∀ t' tk, Q (.int (ns.length : Int) t') { s with toks := tk }) : wpAny (model prog w) A (call (.builtin "len") [.ref l]) Q E s :=
  kst_len N hm (by rw [hi.length]) (by omega) (h _ _)
end
section
variable {prog : Program} {w : World} {A : Around} {E : Value → Shared → Prop} {s : Shared} {h₀ : Heap} {L a b : Addr} {news : List (Addr × Obj)} {vs us : List Value} {ns ms : List Int} {e1 e2 : Nat} {Q : Value → Shared → Prop}
theorem ne_nil (N : News h₀ L s.heap news) (h1 : (a, W.listOf vs.toArray e1) ∈ news) (h2 : (b, W.listOf #[] e2) ∈ news) (hi : IntsAre vs ns) (hu : A.units + 64 < cLine)
    (hF : ns = [] → Q (.bool false) s) (hT : ns ≠ [] → Q (.bool true) s) : wpAny (model prog w) A (compareOp .NotEq (.ref a) (.ref b)) Q E s := by
  refine ne_intsK (vs := vs) (us := []) (ns := ns) (ms := []) ⟨_, (N _ h1).1, rfl, _, rfl⟩ hi ⟨_, (N _ h2).1, rfl, _, rfl⟩ .nil hu ?_
  by_cases h : ns = []
  · rw [decide_eq_true h]; exact hF h
  · rw [decide_eq_false h]; exact hT h
theorem ne_same_list (N : News h₀ L s.heap news) (h1 : (a, W.listOf vs.toArray e1) ∈ news) (h2 : (b, W.listOf us.toArray e2) ∈ news) (hi : IntsAre vs ns) (hi' : IntsAre us ms) (he : ns = ms) (hu : A.units + 64 < cLine)
    (h : Q (.bool false) s) : wpAny (model prog w) A (compareOp .NotEq (.ref a) (.ref b)) Q E s := by
  refine ne_intsK ⟨_, (N _ h1).1, rfl, _, rfl⟩ hi ⟨_, (N _ h2).1, rfl, _, rfl⟩ hi' hu ?_
  rw [decide_eq_true he]; exact h
theorem eq_same_list (N : News h₀ L s.heap news) (h1 : (a, W.listOf vs.toArray e1) ∈ news) (h2 : (b, W.listOf us.toArray e2) ∈ news) (hi : IntsAre vs ns) (hi' : IntsAre us ms) (he : ns = ms) (hu : A.units + 64 < cLine)
    (h : Q (.bool true) s) : wpAny (model prog w) A (compareOp .Eq (.ref a) (.ref b)) Q E s := by
  refine eq_intsK ⟨_, (N _ h1).1, rfl, _, rfl⟩ hi ⟨_, (N _ h2).1, rfl, _, rfl⟩ hi' hu ?_
  rw [decide_eq_true he]; exact h
theorem last_of {vs : List Value} {ns : List Int} (hi : IntsAre vs ns) (hne : ns ≠ []) (hl : lastB ns = true) : ∃ v t, vs.toArray[((-1 : Int) + vs.toArray.size).toNat]? = some (.int v t) ∧ v ≠ 0 ∧ 1 ≤ vs.length := by
  have hlen := hi.length
  have hpos : 0 < ns.length := List.length_pos_iff.mpr hne
  have hk : ((-1 : Int) + vs.toArray.size).toNat = ns.length - 1 := by rw [List.size_toArray]; omega
  rw [hk]
  have hlt : ns.length - 1 < vs.length := by omega
  have hv : vs[ns.length - 1]? = some vs[ns.length - 1] := List.getElem?_eq_getElem hlt
  have key : ∀ {vs : List Value} {ns : List Int}, IntsAre vs ns → ∀ (i : Nat) (v : Value), vs[i]? = some v → ∃ n t, v = Value.int n t ∧ ns[i]? = some n := by
    intro vs ns h
    induction h with
    | nil => intro i v e; simp at e
    | cons n t _ ih =>
      intro i v e
      cases i with
      | zero => simp at e; exact ⟨n, t, e.symm, rfl⟩
      | succ i => simp at e; simpa using ih i v e
  obtain ⟨n, t, e, hn⟩ := key hi _ _ hv
  refine ⟨n, t, ?_, ?_, by omega⟩
  · rw [List.getElem?_toArray, hv, e]
  · have : ns.getLast? = some n := by rw [List.getLast?_eq_getElem?]; exact hn
    unfold lastB at hl
    rw [this] at hl
    simpa using hl
theorem last_step {value slice : PySem.Expr} {u : Tok} (N : News h₀ L s.heap news) (h1 : (a, W.listOf vs.toArray e1) ∈ news) (hi : IntsAre vs ns) (hne : ns ≠ []) (hl : lastB ns = true) (h : ∀ v t, v ≠ 0 → Q (.int v t) s)
    (hs : subscripted slice false (.ref a) (.int (-1) u) = operate [.ref a, .int (-1) u] (getItem (.ref a) (.int (-1) u)) := by with_unfolding_all rfl) (hg : ∀ r, letTemporaryGo value (.ref a) r = pure () := by intro _; with_unfolding_all rfl) :
    wpAny (model prog w) A (subscriptTail value slice (.ref a) (.int (-1) u)) Q E s := by
  obtain ⟨v, t, hv, h0, hp⟩ := last_of hi hne hl
  have hL : s.heap.IsList a vs.toArray := ⟨_, (N _ h1).1, rfl, _, rfl⟩
  exact subscriptTail_builtin hL.typeIs slot_list_getitem.lookup (wpAny_getItem_list_neg hL (by decide) (by rw [List.size_toArray]; omega) (by decide) hv (h v t h0)) hs hg
end
theorem mul_ww {one other : Str} {light : Int} (h : 0 ≤ light ∧ light ≤ 5) (h1 : one.length ≤ 3) : IntMulOk (wt light one) (wt light other) := by
  obtain ⟨a, b⟩ := wt_bound h one h1
  exact IntMulOk.of_left (intBits_le_64 (by omega) (by omega))
theorem mul_wwp {one other : Str} {light c : Int} (h : 0 ≤ light ∧ light ≤ 5) (h1 : one.length ≤ 3) (h2 : other.length ≤ 3) : IntMulOk (wt light one * wt light other) c := by
  obtain ⟨a, b⟩ := wt_bound h one h1
  obtain ⟨a', b'⟩ := wt_bound h other h2
  have h0 : 0 ≤ wt light one * wt light other := Int.mul_nonneg a a'
  have h3 : wt light one * wt light other ≤ 125 * 125 := Int.mul_le_mul b b' a' (by decide)
  exact IntMulOk.of_left (intBits_le_64 (by omega) (by omega))
def facB (one : List Nat) (light : Int) : Bool := decide (0 ≤ fac light (strL one)) && decide (fac light (strL one) < 2 ^ 60)
theorem fac_tab : (W3.all fun one => [0, 1, 2, 3, 4, 5].all fun light => facB one light) = true := by decide +kernel
theorem fac_bd {one : Str} {light : Int} (h1 : one ∈ W3.map strL) (hl : 0 ≤ light ∧ light ≤ 5) : 0 ≤ fac light one ∧ fac light one < 2 ^ 60 := by
  obtain ⟨a, ha, rfl⟩ := List.mem_map.mp h1
  have hlm : light ∈ ([0, 1, 2, 3, 4, 5] : List Int) := by
    have : light = 0 ∨ light = 1 ∨ light = 2 ∨ light = 3 ∨ light = 4 ∨ light = 5 := by omega
    rcases this with rfl | rfl | rfl | rfl | rfl | rfl <;> decide
  have t := List.all_eq_true.mp (List.all_eq_true.mp fac_tab a ha) light hlm
  simp only [facB, Bool.and_eq_true, decide_eq_true_eq] at t
  exact t
theorem mul_bf {c : Int} : IntMulOk (16384 - 5) c := IntMulOk.of_left (intBits_le_64 (by decide) (by decide))
theorem mul_bff {f c : Int} (h : 0 ≤ f ∧ f < 2 ^ 60) (hc : IntMulOk (16384 - 5) f) (h2 : 0 ≤ c ∧ c < 2 ^ 60) : IntMulOk ((16384 - 5) * f) c := by
  have e : (2 : Int) ^ 60 = 1152921504606846976 := by decide
  rw [e] at h2
  exact IntMulOk.of_right (intBits_le_64 (by omega) (by omega))
theorem w2_w3 {other : Str} (h : other ∈ W2.map strL) : other ∈ W3.map strL := by
  unfold W3
  rw [List.map_append]
  exact List.mem_append_left _ h
theorem digs_len {q : Int} : (digs q).length = (dEz q).toNat := i2d_len _ _ _
theorem dots_len : (PySem.Str.ofString "...").length = 3 := by decide +kernel
theorem cnts_len (one other : Str) (light : Int) (longest : Nat) : (cnts one other light longest).length = longest + 1 := by rw [cnts, List.length_map, List.length_range]
theorem eq_zero_no {prog : Program} {w : World} {A : Around} {E : Value → Shared → Prop} {s : Shared} {v : Int} {t u : Tok} {Q : Value → Shared → Prop} (h : v ≠ 0) (hq : Q (.bool false) s) : wpAny (model prog w) A (compareOp .Eq (.int v t) (.int 0 u)) Q E s := by
  refine eq_int ?_
  rw [beq_false_of_ne h]
  exact hq
theorem post_true (x : WData) : (OpenRow.toRowW (OpenLaw.row PySem.Challenge.rw_pe0204_01)).claim.post [x] (.bool true) [x] = true := by with_unfolding_all rfl
theorem no_raise (x : List WData) (k : ExcName) : (OpenRow.toRowW (OpenLaw.row PySem.Challenge.rw_pe0204_01)).claim.raises x k = false := by rfl
/-- what stands behind the test that the last digit is no nought: it is not so, and nothing but heap and tokens has moved -/
def Mid (h₀ : Heap) (L : Addr) (m : Str → Option Value) (news : List (Addr × Obj)) (s : Shared) (c : Bool) (s' : Shared) : Prop :=
  c = false ∧ ∃ h' tk', s' = { s with heap := h', toks := tk' } ∧ Fr h₀ L h' m ∧ News h₀ L h' news
theorem mid_step {M : Model} {A : Around} {x : Sem Bool} {Q : Bool → Shared → Prop} {E : Value → Shared → Prop} {s : Shared} {h₀ : Heap} {L : Addr} {m : Str → Option Value} {all : List (Addr × Obj)} {a b c : Addr × Obj} (F : Fr h₀ L s.heap m) (N : News h₀ L s.heap all) (m1 : a ∈ all) (m2 : b ∈ all) (m3 : c ∈ all)
    (h1 : wpAny M A x (Mid h₀ L m [a, b, c] s) E s) (h2 : ∀ h' tk', Fr h₀ L h' m → News h₀ L h' [a, b, c] → Q false { s with heap := h', toks := tk' }) : wpAny M A x Q E s := by
  refine wpAny_mono h1 (fun c s' hm => ?_) fun _ _ e => e
  obtain ⟨rfl, h', tk', rfl, F', N'⟩ := hm
  exact h2 h' tk' F' N'
theorem mid_end {s : Shared} {h₀ h' : Heap} {L : Addr} {m : Str → Option Value} {all : List (Addr × Obj)} {a b c : Addr × Obj} {tk : Nat} (F : Fr h₀ L h' m) (N : News h₀ L h' all) (m1 : a ∈ all) (m2 : b ∈ all) (m3 : c ∈ all) : Mid h₀ L m [a, b, c] s false { s with heap := h', toks := tk } :=
  ⟨rfl, h', tk, rfl, F, fun p hp => N p (sub3 m1 m2 m3 p hp)⟩
end Mine
end
section
open PySem PySem.W PyProof.Rows PySem.Calls PySem.Spec
set_option Elab.async false
namespace Mine
theorem ints8 {vs : List Value} {ns : List Int} (h : IntsAre vs ns) (hl : ns.length = 8) : ∃ n0 n1 n2 n3 n4 n5 n6 n7 t0 t1 t2 t3 t4 t5 t6 t7, vs = [.int n0 t0, .int n1 t1, .int n2 t2, .int n3 t3, .int n4 t4, .int n5 t5, .int n6 t6, .int n7 t7] := by
  cases h with
  | nil => cases hl
  | cons n0 t0 h => cases h with
    | nil => cases hl
    | cons n1 t1 h => cases h with
      | nil => cases hl
      | cons n2 t2 h => cases h with
        | nil => cases hl
        | cons n3 t3 h => cases h with
          | nil => cases hl
          | cons n4 t4 h => cases h with
            | nil => cases hl
            | cons n5 t5 h => cases h with
              | nil => cases hl
              | cons n6 t6 h => cases h with
                | nil => cases hl
                | cons n7 t7 h => cases h with
                  | nil => exact ⟨n0, n1, n2, n3, n4, n5, n6, n7, t0, t1, t2, t3, t4, t5, t6, t7, rfl⟩
                  | cons n8 t8 h => simp at hl
theorem add8_step {prog : Program} {w : World} {A : Around} {E : Value → Shared → Prop} {s : Shared} {h₀ : Heap} {L l b : Addr} {m : Str → Option Value} {vs ws : List Value} {ns ms : List Int} {o1 o2 : Nat} {news : List (Addr × Obj)} {Q : Value → Shared → Prop}
    (F : Fr h₀ L s.heap m) (N : News h₀ L s.heap news) (h1 : (l, W.listOf vs.toArray o1) ∈ news) (h2 : (b, W.listOf ws.toArray o2) ∈ news) (hv : IntsAre vs ns) (hw : IntsAre ws ms) (hl : ns.length + ms.length = 8)
    (h : ∀ D n0 n1 n2 n3 n4 n5 n6 n7 t0 t1 t2 t3 t4 t5 t6 t7 h', Fr h₀ L h' m → News h₀ L h' ((D, W.listOf #[.int n0 t0, .int n1 t1, .int n2 t2, .int n3 t3, .int n4 t4, .int n5 t5, .int n6 t6, .int n7 t7] 0) :: news) → (∀ p ∈ news, p.1 < D) → Q (.ref D) { s with heap := h' }) : wpAny (model prog w) A (binaryOp .Add (.ref l) (.ref b)) Q E s := by
  obtain ⟨n0, n1, n2, n3, n4, n5, n6, n7, t0, t1, t2, t3, t4, t5, t6, t7, e⟩ := ints8 (hv.append hw) (by rw [List.length_append]; exact hl)
  refine addL_step F N h1 h2 (by rw [hv.length, hw.length]; omega) fun D h' F' N' lt => ?_
  rw [e] at N'
  exact h D n0 n1 n2 n3 n4 n5 n6 n7 t0 t1 t2 t3 t4 t5 t6 t7 h' F' N' lt
theorem trim9 {h₀ h : Heap} {L : Addr} {a b c d e f g x y : Addr × Obj} (N : News h₀ L h [a, b, c, d, e, f, g, x, y]) : News h₀ L h [b, a, c, x, y] := fun p hp => N p (by
  simp only [List.mem_cons, List.not_mem_nil, or_false] at hp ⊢
  rcases hp with h | h | h | h | h <;> simp [h])
theorem ints_at {vs : List Value} {ns : List Int} (h : IntsAre vs ns) : ∀ {i : Nat} {v : Value}, vs[i]? = some v → ∃ n t, v = .int n t := by
  induction h with
  | nil => intro i v e; simp at e
  | cons n t _ ih =>
    intro i v e
    cases i with
    | zero => simp at e; exact ⟨_, _, e.symm⟩
    | succ i => simp at e; exact ih e
theorem cut_len {ns : List Int} {x : Int} (h : x = ((ns.take 8).length : Int)) : (ns.take 8).length + (([1, 2, 0, 200, 45, 700, 130, 999] : List Int).drop x.toNat).length = 8 := by
  subst h
  rw [List.length_drop, Int.toNat_natCast, List.length_take]
  simp only [List.length_cons, List.length_nil]
  omega
set_option maxRecDepth 100000 in
set_option maxHeartbeats 8000000 in
theorem law_t : PySem.Challenge.rw_pe0204_01.Holds := hd (by
  w_on
  k_with_none
  k_with "my stop" => ((first | (k_unfold; (try dsimp only)) | (k_end; wrow_close) | walk1 | (dsimp only; walk1) | (leave1; walk_say "STEP leave1"; try dsimp only) | fail "no step"))
  k_with "subscriptTail List Slice ref ref!" => ((k_here; k_extra "cut8"))
  k_with "binaryOp Add ref ref!" => ((k_here; first | k_extra "addD" | k_extra "add8"))
  k_with "subscriptTail Name Slice ref ref!" => ((k_here; k_extra "cut3"))
  k_with "pyIter ref!" => (k_extra "loop")
  k_with "call ref!" => first
    | ((k_here; (with_reducible show wpAny _ _ (call (Value.ref 101) _ _) _ _ _); first | k_extra "cnt1" | k_extra "cnt2"))
    | ((k_here; (with_reducible show wpAny _ _ (call (Value.ref 35) _ _) _ _ _); k_extra "i2d"))
    | ((k_here; (with_reducible show wpAny _ _ (call (Value.ref 56) _ _) _ _ _); k_extra "dm"))
    | ((k_here; (with_reducible show wpAny _ _ (call (Value.ref 96) _ _) _ _ _); first | k_extra "factor1" | k_extra "factor2"))
    | ((k_here; (with_reducible show wpAny _ _ (call (Value.ref 89) _ _) _ _ _); first | k_extra "weight1" | k_extra "weight2"))
    | ((k_here; (with_reducible show wpAny _ _ (call (Value.ref 82) _ _) _ _ _); first | k_extra "word3" | k_extra "word2"))
    | ((k_here; (with_reducible show wpAny _ _ (call (Value.ref 63) _ _) _ _ _); k_extra "hls"))
    | ((k_here; (with_reducible show wpAny _ _ (call (Value.ref 70) _ _) _ _ _); k_extra "hsv"))
  k_with "exec For Name Subscript cons nil!" => ((k_here; (rename Fr _ _ _ _ => lF'); (with_unfolding_all refine' For_invVF lF' ?k1 ?k2 ?_; (case k1 => exact rfl); (case k2 => exact rfl); k_whole)))
  k_with "binaryOp Div int int!" => ((k_here; k_dflt (refine div_small rfl (by first | omega | exact prod_bd (by assumption) (by assumption)) (by decide) ?_)))
  k_with "mul_fits!" => first
    | (first | exact mul_ww (by assumption) (by assumption) | exact mul_wwp (by assumption) (by assumption) (by assumption) | exact mul_bf | exact mul_bff (by assumption) mul_bf (by assumption))
    | (exact prod_ok (by assumption))
  k_with "compareOp NotEq float float!" => ((k_here; k_extra "ne"))
  k_with "call builtin:list.append!" => ((k_here; k_extra "app"))
  k_with "call builtin:list.count!" => ((k_here; k_extra "count"))
  k_with "binaryOp Add int int!" => ((k_here; (with_reducible show wpAny _ _ (binaryOp _ (Value.int 4 _) (Value.int (Int.fmod _ 2) _)) _ _ _); k_extra "add4"))
  k_with "binaryOp Pow int int!" => ((k_here; first | ((with_reducible show wpAny _ _ (binaryOp _ (Value.int 2 _) (Value.int 14 _)) _ _ _); k_extra "pow14") | ((with_reducible show wpAny _ _ (binaryOp _ (Value.int 16384 _) (Value.int _ _)) _ _ _); k_extra "powb")))
  k_with "call builtin:len!" => ((k_here; k_extra "len"))
  k_with "binaryOp Mult ref int!" => ((k_here; k_extra "mul"))
  k_with "compareOp NotEq ref ref!" => ((k_here; first | k_extra "neR" | k_extra "neD"))
  k_with "compareOp Eq ref ref!" => ((k_here; k_extra "eqR"))
  k_with "subscriptTail Call Name cons nil Slice ref ref!" => ((k_here; k_extra "rev"))
  k_with "binaryOp Add str str!" => ((k_here; k_extra "addS"))
  k_with "subscriptTail Name UnaryOp ref int!" => ((k_here; k_extra "last"))
  k_with "compareOp Eq int int!" => ((k_here; (with_reducible show wpAny _ _ (compareOp _ (Value.int _ _) (Value.int 0 _)) _ _ _); k_extra "eqL"))
  k_with "And!" => (((with_reducible show GoodW _ _ _ _ _ (Except.ok (Flow.ret (Value.bool true))) _ ∧ _); k_extra "end"))
  k_with "isTrue BoolOp!" => ((k_here; (with_reducible show wpAny _ _ (isTrue (PySem.Expr.BoolOp _ [_, _] _) _ _) _ _ _); (fail_if_success (with_reducible show wpAny _ _ _ (Mid _ _ _ _ _) _ _)); k_extra "mid"))
  k_with "cut8" => k_dflt (
    refine kba_turn (value' := PySem.Expr.Name (PySem.Str.ofString "_") ⟨0, 0, 0, 0⟩) (fun _ => rfl) ?_
    refine' kmk_slice_ints (ns := [1, 2, 0, 200, 45, 700, 130, 999]) ?cF ?cN ?cl ?cp ?cq ?ci ?cm ?cc ?_ ?cs ?ct ?cz
    (case cF => k_asm)
    (case cN => k_asm)
    (case cl => kmk_list)
    (case cp => kmk_part)
    (case cq => kmk_part)
    (case ci => exact .cons _ _ (.cons _ _ (.cons _ _ (.cons _ _ (.cons _ _ (.cons _ _ (.cons _ _ (.cons _ _ .nil))))))))
    (case cm => exact kmk_from (.cons _ _ (.cons _ _ (.cons _ _ (.cons _ _ (.cons _ _ (.cons _ _ (.cons _ _ (.cons _ _ .nil)))))))) (by omega))
    (case cc => exact rfl)
    (case cs => with_unfolding_all rfl)
    (case ct => kmk_pure)
    (case cz => exact Nat.le_of_ble_eq_true rfl)
    intro D5 ws5 h5 F5 N5 l5 hI5 hC5 hL5
    (try dsimp only))
  k_with "cut3" => k_dflt (
    refine kba_turn (value' := PySem.Expr.Name (PySem.Str.ofString "_") ⟨0, 0, 0, 0⟩) (fun _ => rfl) ?_
    refine' kmk_slice_ints (ns := [n0, n1, n2, n3, n4, n5, n6, n7]) ?dF ?dN ?dl ?dp ?dq ?di ?dm ?dc ?_ ?ds ?dt ?dz
    (case dF => k_asm)
    (case dN => k_asm)
    (case dl => kmk_list)
    (case dp => kmk_part)
    (case dq => kmk_part)
    (case di => exact .cons _ _ (.cons _ _ (.cons _ _ (.cons _ _ (.cons _ _ (.cons _ _ (.cons _ _ (.cons _ _ .nil))))))))
    (case dm => exact kmk_from (.cons _ _ (.cons _ _ (.cons _ _ (.cons _ _ (.cons _ _ (.cons _ _ (.cons _ _ (.cons _ _ .nil)))))))) (by omega))
    (case dc => exact rfl)
    (case ds => with_unfolding_all rfl)
    (case dt => kmk_pure)
    (case dz => exact Nat.le_of_ble_eq_true rfl)
    intro S5 vs5 hS5 FS5 NS5 lS5 hSI5 hSC5 hSL5
    k_lt lS5
    (try dsimp only))
  k_with "loop" => k_dflt (
    refine' iter_listUnr (vs := vs5) ?k1 ?k2 (trim9 ?k3) ?k4 ?k5 ?k6 ?_
    (case k1 => exact rfl)
    (case k2 => k_asm)
    (case k3 => k_asm)
    (case k4 => exact .tail _ (.head _))
    (case k5 => exact rfl)
    (case k6 => exact rfl)
    intro I9 hI9
    have lI9 := hI9
    k_lt lI9
    refine' listRest_ind (LetJ _ _ _) ?h0 ?hlp ?fin ?step
    (case h0 => exact letJ0)
    (case hlp => (intro i9 m9 nw9 hJ9; obtain ⟨_, _, _, _, _, _, _, _, _, _, _, _, rfl, _, _⟩ := hJ9; exact .tail _ (.head _)))
    (case' fin => (intro m9 nw9 h9 tk9 hJ9 F9 N9; obtain ⟨ls9, ss9, e9, u0, u1, u2, u3, u4, u5, u6, u7, rfl, rfl, hs9, hl9⟩ := hJ9))
    (case' step => (intro i9 v9 m9 nw9 it9 h9 tk9 hv9 hJ9 hit9 F9 N9; obtain ⟨ls9, ss9, e9, u0, u1, u2, u3, u4, u5, u6, u7, rfl, rfl, hs9, hl9⟩ := hJ9; obtain ⟨n9, t9, rfl⟩ := ints_at hSI5 hv9; have hH9 : 0 ≤ n9.fmod 16 ∧ n9.fmod 16 < 16 := cH_bd n9; have hS9 : 1 ≤ (n9.fdiv 16).fmod 8 + 1 ∧ (n9.fdiv 16).fmod 8 + 1 ≤ 8 := cS_bd n9; have hV9 : 1 ≤ (n9.fdiv 128).fmod 8 + 1 ∧ (n9.fdiv 128).fmod 8 + 1 ≤ 8 := cV_bd n9)))
  k_with "hsv" => k_dflt (
    refine' useO (hsv_c _ _ _ _ _ _ _ _ _ _ _ _ _) ?hs1 ?hs2 ?hs3 ?hs4 ?hs5 ?hsK ?hsp ?hsd ?hsu ?_
    (case hs1 => k_asm)
    (case hs2 => k_asm)
    (case hs3 => k_asm)
    (case hs4 => k_asm)
    (case hs5 => k_asm)
    (case hsK => first | exact rfl | assumption)
    (case hsp => exact col_hsv n9)
    (case hsd => ktr_room)
    (case hsu => ktr_units)
    intro r7 tl7 h7 tk7 F7 N7 hl7 ho7
    obtain ⟨a7, t17, t27, t37, rfl, rfl⟩ := ho7
    simp only [List.cons_append, List.nil_append] at N7
    have lt7 := hl7 _ (.head _)
    clear hl7
    dsimp only at lt7
    (try k_lt lt7)
    (try dsimp only)
    (try k_fold))
  k_with "ne" => k_dflt (refine ne_same (col_eq n9) ?_)
  k_with "app" => k_dflt (
    refine' append_K ?pF ?pN ?pu ?_ ?pz
    (case pF => k_asm)
    (case pN => k_asm)
    (case pu => k_upd)
    (case pz => (have q1 := strs_len hs9; have q2 := at_lt hSI5 hv9; simp at q2; rw [List.size_toArray, sizeLine_eq]; omega))
    intro h6 F6 N6
    rw [List.push_toArray] at N6)
  k_with "hls" => k_dflt (
    refine' useO (hls_c _ _ _ _ _ _ _ _ _ _ _ _ _) ?hl1 ?hl2 ?hl3 ?hl4 ?hl5 ?hlK ?hlp ?hld ?hlu ?_
    (case hl1 => k_asm)
    (case hl2 => k_asm)
    (case hl3 => k_asm)
    (case hl4 => k_asm)
    (case hl5 => k_asm)
    (case hlK => first | exact rfl | assumption)
    (case hlp => exact col_hls n9)
    (case hld => ktr_room)
    (case hlu => ktr_units)
    intro r8 tl8 h8 tk8 F8 N8 hl8 ho8
    obtain ⟨a8, x8, z8, t18, t28, t38, rfl, rfl⟩ := ho8
    simp only [List.cons_append, List.nil_append] at N8
    have lt8 := hl8 _ (.head _)
    clear hl8
    dsimp only at lt8
    (try k_lt lt8)
    (try dsimp only)
    (try k_fold))
  k_with "count" => k_dflt (
    refine' count_step ?ct1 ?ct2 hs9 ?ct3 ?_
    (case ct1 => k_asm)
    (case ct2 => k_mem)
    (case ct3 => (rw [hl9, hSI5.length]; exact Nat.le_refl 5))
    intro light lt9 tk6 hlight)
  k_with "word3" => k_dflt (
    refine' use_word3 ?wa1 ?wa2 ?wa3 ?wa4 ?wa5 ?wa6 ?wa7 ?wa8 ?_
    (case wa1 => k_asm)
    (case wa2 => k_asm)
    (case wa3 => k_asm)
    (case wa4 => k_asm)
    (case wa5 => k_asm)
    (case wa6 => first | exact rfl | assumption)
    (case wa7 => ktr_room)
    (case wa8 => ktr_units)
    intro one to9 hw9 tkw9 hone hone3 Fw9 Nw9)
  k_with "word2" => k_dflt (
    refine' use_word2 ?wb1 ?wb2 ?wb3 ?wb4 ?wb5 ?wb6 ?wb7 ?wb8 ?_
    (case wb1 => k_asm)
    (case wb2 => k_asm)
    (case wb3 => k_asm)
    (case wb4 => k_asm)
    (case wb5 => k_asm)
    (case wb6 => first | exact rfl | assumption)
    (case wb7 => ktr_room)
    (case wb8 => ktr_units)
    intro other tt9 hx9 tkx9 hother hother3 Fx9 Nx9
    have hf1 := fac_bd hone hlight
    have hf2 := fac_bd (w2_w3 hother) hlight)
  k_with "weight1" => k_dflt (
    refine' useV (weight_c _ _ _ _ _ _ one _ light _ _) ?va1 ?va2 ?va3 ?va4 ?va5 ?va6 ?va9 ?va7 ?va8 ?_
    (case va1 => k_asm)
    (case va2 => k_asm)
    (case va3 => k_asm)
    (case va4 => k_asm)
    (case va5 => k_asm)
    (case va6 => first | exact rfl | assumption)
    (case va7 => ktr_room)
    (case va8 => ktr_units)
    (case va9 => exact hlight)
    intro t7 h7 tk7 F7 N7)
  k_with "weight2" => k_dflt (
    refine' useV (weight_c _ _ _ _ _ _ other _ light _ _) ?vb1 ?vb2 ?vb3 ?vb4 ?vb5 ?vb6 ?vb9 ?vb7 ?vb8 ?_
    (case vb1 => k_asm)
    (case vb2 => k_asm)
    (case vb3 => k_asm)
    (case vb4 => k_asm)
    (case vb5 => k_asm)
    (case vb6 => first | exact rfl | assumption)
    (case vb7 => ktr_room)
    (case vb8 => ktr_units)
    (case vb9 => exact hlight)
    intro t7 h7 tk7 F7 N7)
  k_with "factor1" => k_dflt (
    refine' useV (factor_c _ _ _ _ _ _ one _ light _ _ _ _) ?fa1 ?fa2 ?fa3 ?fa4 ?fa5 ?fa6 ?fa9 ?fa7 ?fa8 ?_
    (case fa1 => k_asm)
    (case fa2 => k_asm)
    (case fa3 => k_asm)
    (case fa4 => k_asm)
    (case fa5 => k_asm)
    (case fa6 => first | exact rfl | assumption)
    (case fa7 => ktr_room)
    (case fa8 => ktr_units)
    (case fa9 => exact ⟨hlight, hone3, rfl⟩)
    intro t7 h7 tk7 F7 N7)
  k_with "factor2" => k_dflt (
    refine' useV (factor_c _ _ _ _ _ _ other _ light _ _ _ _) ?fb1 ?fb2 ?fb3 ?fb4 ?fb5 ?fb6 ?fb9 ?fb7 ?fb8 ?_
    (case fb1 => k_asm)
    (case fb2 => k_asm)
    (case fb3 => k_asm)
    (case fb4 => k_asm)
    (case fb5 => k_asm)
    (case fb6 => first | exact rfl | assumption)
    (case fb7 => ktr_room)
    (case fb8 => ktr_units)
    (case fb9 => exact ⟨hlight, hother3, rfl⟩)
    intro t7 h7 tk7 F7 N7)
  k_with "add4" => k_dflt (
    refine add4_step ?_
    intro k9 tk9' hk9
    have hG := good_all hone hother hlight hk9
    have hP := pre_all (longest := k9) hone hother hlight (by omega))
  k_with "pow14" => k_dflt (refine pow14_step ?_; intro tp9)
  k_with "powb" => k_dflt (refine powb_step hk9 ?_; intro tp8)
  k_with "dm" => k_dflt (
    refine' use_dm (a := abv one other light k9) (b := blw one other light) ?da1 ?da2 ?da3 ?da4 ?da5 ?da6 ?da7 ?da8 ?da9 ?db1 ?db2 ?db3 ?db4 ?db5 ?_
    (case da1 => assumption)
    (case da2 => assumption)
    (case da3 => k_asm)
    (case da4 => k_asm)
    (case da5 => k_asm)
    (case da6 => k_asm)
    (case da7 => k_asm)
    (case da8 => first | exact rfl | assumption)
    (case da9 => (dsimp only; omega))
    (case db1 => exact hG.b)
    (case db2 => exact hG.a)
    (case db3 => exact hG.d)
    (case db4 => ktr_room)
    (case db5 => ktr_units)
    intro q9 r9 hq9 Dd9 c9 td1 td2 oc9 vs19 td3 o37 hd9 tkd9 Fd9 Nd9 hc9 dd1 dd2
    have hQ := hG.q
    have hE := hG.e
    have hL := hG.last
    have hC1 := hG.c1
    have hC2 := hG.c2
    rw [← hq9] at hQ hE hL hC1 hC2
    unfold dueOf at hC1 hC2)
  k_with "i2d" => k_dflt (
    refine' use_i2d2 hc9 dd1 dd2 ?ia1 ?ia2 ?ia3 ?ia4 ?ia5 ?ia6 ?ia7 ?ia8 ?ia9 ?ib1 ?ib2 ?ib3 ?ib4 ?_
    (case ia1 => assumption)
    (case ia2 => k_asm)
    (case ia3 => k_asm)
    (case ia4 => k_asm)
    (case ia5 => k_asm)
    (case ia6 => k_mem)
    (case ia7 => k_mem)
    (case ia8 => k_asm)
    (case ia9 => first | exact rfl | assumption)
    (case ib1 => exact hQ)
    (case ib2 => omega)
    (case ib3 => ktr_room)
    (case ib4 => ktr_units)
    intro ld9 vsd9 hi9 tki9 Fi9 Ni9 hdig)
  k_with "len" => k_dflt (
    refine' len_step ?le1 ?le2 hdig ?le3 ?_
    (case le1 => k_asm)
    (case le2 => k_mem)
    (case le3 => (rw [digs_len]; omega))
    intro tl9 tkl9)
  k_with "mul" => k_dflt (
    refine' mul_step (D := k9 + 1 - (digs q9).length) ?mu1 ?mu2 ?mu3 ?mu4 ?mu5 ?_
    (case mu1 => k_asm)
    (case mu2 => k_asm)
    (case mu3 => k_mem)
    (case mu4 => (have := digs_len (q := q9); omega))
    (case mu5 => omega)
    intro lm9 hm9 vsm9 hvm9 Fm9 Nm9 lm9'
    have him9 := ints_rep' hvm9)
  k_with "addD" => k_dflt (
    refine' addL_step (vs := vsd9) (ws := vsm9) ?ad1 ?ad2 ?ad3 ?ad4 ?ad5 ?_
    (case ad1 => k_asm)
    (case ad2 => k_asm)
    (case ad3 => k_mem)
    (case ad4 => k_mem)
    (case ad5 => (rw [hdig.length, him9.length, List.length_replicate, digs_len]; omega))
    intro Du9 hu9 Fu9 Nu9 lu9
    have hdue := hdig.append him9)
  k_with "neD" => k_dflt (
    refine' ne_nil ?ne1 ?ne2 ?ne3 hdig ?ne4 ?ne5 ?ne6
    (case ne1 => k_asm)
    (case ne2 => k_mem)
    (case ne3 => k_mem)
    (case ne4 => units_room)
    (case' ne5 => intro hdn9)
    (case' ne6 => intro hdn9))
  k_with "last" => k_dflt (
    refine' last_step ?la1 ?la2 hdig hdn9 hL ?_ ?la3 ?la4
    (case la1 => k_asm)
    (case la2 => k_mem)
    (case la3 => with_unfolding_all rfl)
    (case la4 => kmk_pure)
    intro vl9 tl8 hvl9)
  k_with "addS" => k_dflt (refine add_str (hsz := ?asz) ?_; (case asz => (have e3 := dots_len; simp only [Str.length_append, e3, sizeLine_eq]; omega)))
  k_with "cnt1" => k_dflt (
    refine' use_counts (one := one) (other := other) (longest := k9) ?ca1 ?ca2 ?ca3 ?ca4 ?ca5 ?ca6 ?ca7 hP.1 ?ca8 ?ca9 ?_
    (case ca1 => exact rfl)
    (case ca2 => k_asm)
    (case ca3 => k_asm)
    (case ca4 => k_asm)
    (case ca5 => k_asm)
    (case ca6 => k_asm)
    (case ca7 => first | exact rfl | assumption)
    (case ca8 => ktr_room)
    (case ca9 => ktr_units)
    intro lc9 vsc9 ec9 hc9' tkc9 Fc9 Nc9 hcnt)
  k_with "cnt2" => k_dflt (
    refine' use_counts (one := other) (other := one) (longest := k9) ?cb1 ?cb2 ?cb3 ?cb4 ?cb5 ?cb6 ?cb7 hP.2 ?cb8 ?cb9 ?_
    (case cb1 => exact rfl)
    (case cb2 => k_asm)
    (case cb3 => k_asm)
    (case cb4 => k_asm)
    (case cb5 => k_asm)
    (case cb6 => k_asm)
    (case cb7 => first | exact rfl | assumption)
    (case cb8 => ktr_room)
    (case cb9 => ktr_units)
    intro lc9 vsc9 ec9 hc9' tkc9 Fc9 Nc9 hcnt)
  k_with "rev" => k_dflt (
    refine kba_turn (value' := PySem.Expr.Name (PySem.Str.ofString "_") ⟨0, 0, 0, 0⟩) (fun _ => rfl) ?_
    refine' krv_ints ?re1 ?re2 ?re3 ?re4 hcnt ?_ ?re5 ?re6 ?re7
    (case re1 => k_asm)
    (case re2 => k_asm)
    (case re3 => kmk_list)
    (case re4 => exact IsPart.int _ _)
    (case re5 => with_unfolding_all rfl)
    (case re6 => kmk_pure)
    (case re7 => (rw [List.size_toArray, hcnt.length, cnts_len, sizeLine_eq]; omega))
    intro Dr9 wr9 hr9 Fr9 Nr9 lr9 hR9 hC9
    (try dsimp only))
  k_with "neR" => k_dflt (
    refine' ne_same_list ?nr1 ?nr2 ?nr3 hR9 hdue hC1 ?nr4 ?_
    (case nr1 => k_asm)
    (case nr2 => k_mem)
    (case nr3 => k_mem)
    (case nr4 => units_room))
  k_with "eqR" => k_dflt (
    refine' eq_same_list ?nr1 ?nr2 ?nr3 hR9 hdue hC2 ?nr4 ?_
    (case nr1 => k_asm)
    (case nr2 => k_mem)
    (case nr3 => k_mem)
    (case nr4 => units_room))
  k_with "eqL" => k_dflt (refine eq_zero_no hvl9 ?_)
  k_with "mid" => k_dflt (
    refine' mid_step (a := (Du9, W.listOf (vsd9 ++ vsm9).toArray 0)) (b := (37, tabObj o37)) (c := (30, tab30 c9)) ?md1 ?md2 ?md3 ?md4 ?md5 ?md6 ?_
    (case md1 => k_asm)
    (case md2 => k_asm)
    (case md3 => k_mem)
    (case md4 => k_mem)
    (case md5 => k_mem)
    (case md6 => repeat' (first | ((with_reducible show Mid _ _ _ _ _ _ _); exact mid_end (by assumption) (by k_asm) (by k_mem) (by k_mem) (by k_mem)) | k_extra "my stop"))
    intro hmd tmd Fmd Nmd
    (try dsimp only))
  k_with "end" => (
    refine And.intro ?_ ?_
    · exact goodW_bool (by k_asm) (by assumption) (no_raise _) (post_true _) (by rfl)
    · walk_at "GrownAll")
  k_with "add8" => k_dflt (
    refine' add8_step ?aF ?aN ?a1 ?a2 ?a3 ?a4 ?a5 ?_
    (case aF => k_asm)
    (case aN => k_asm)
    (case a1 => k_mem)
    (case a2 => k_mem)
    (case a3 => assumption)
    (case a4 => assumption)
    (case a5 => exact cut_len rfl)
    intro D6 n0 n1 n2 n3 n4 n5 n6 n7 t0 t1 t2 t3 t4 t5 t6 t7 h6 F6 N6 l6
    k_lt l6)
  k_go0
  (all_goals try k_fold)
  iterate 49 (k_extra "my stop")
  k_extra "cut8"
  iterate 20 (k_extra "my stop")
  k_extra "loop"
  · k_steps
    all_goals
      refine' let_end F6 N6 ?ea ?eb ?ec ?ed ?ee hs9 hl9
      case ea => k_mem
      case eb => k_mem
      case ec => exact fun p hp => by repeat (first | exact hp | apply List.Mem.tail)
      case ed => exact Nat.ne_of_lt (hI9 _ (.head _))
      case ee => exact fun p hp => Nat.ne_of_lt (hI9 p (.tail _ hp))
  · skip
    dsimp only
    k_steps)
end Mine
end
set_option maxRecDepth 100000 in
theorem PySem.Challenge.cw_pe0204_01_holds : PySem.Challenge.rw_pe0204_01.Holds :=
  Mine.law_t
