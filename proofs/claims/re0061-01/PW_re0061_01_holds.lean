import PyProof.Rows.All
import Wide.All
import OpenK.AllK
import Wide.FinOn
import Lean
import PySem.Challenge.RW_re0061_01
open PySem PySem.W PyProof.Rows
set_option Elab.async false
set_option maxRecDepth 100000

/- Top1 -/
namespace Mine
set_option maxHeartbeats 8000000
open_top hd for PySem.Challenge.rw_re0061_01
end Mine

/- Sre1 -/
namespace Mine
set_option maxHeartbeats 2000000
open PySem.Builtin.Re

theorem plain_pat : PlainAttrs "re.Pattern" :=
  ⟨⟨"object.__getattribute__", by rw [typeLookup_type, builtinLookup_eq_fast]; kernel_rfl, by decide +kernel⟩, by rw [typeLookup_type, builtinLookup_eq_fast]; kernel_rfl⟩
theorem slot_search : Slot "re.Pattern" "search" "re.Pattern.search" :=
  .of (owner := "re.Pattern") (n := "search") (by rw [typeLookup_type, builtinLookup_eq_fast]; kernel_rfl) (by decide +kernel) (by decide +kernel) (by decide +kernel)
    (by first | exact .inl (by decide +kernel) | exact .inr (by decide +kernel)) (by rw [isSubtype_type]; kernel_rfl)
theorem type_search : typeOf (.builtin "re.Pattern.search") = pure (.type "method_descriptor") := by kernel_rfl
theorem entry_search : entryFor table "re.Pattern.search" = some Builtin.«re.Pattern.search» := entryFor_of_tree (by kernel_rfl)
theorem args_search (a b : Value) : argsOk "re.Pattern.search" ⟨[a, b], []⟩ := by unfold argsOk; kernel_rfl

def drv : Nat → Sre.M → Option Sre.M
  | 0, _ => none
  | k + 1, m => if (m.runFor reTurnSteps).outcome.isSome then some (m.runFor reTurnSteps) else drv k (m.runFor reTurnSteps)

section
variable {M : Model} {A : Around} {E : Value → Shared → Prop} {s : Shared}
theorem drive_ok {Q : Sre.M → Shared → Prop} : ∀ (k turns : Nat) (m m' : Sre.M), drv k m = some m' → k ≤ turns → Q m' s → wpAny M A (reDrive turns m) Q E s
  | 0, _, _, _, h, _, _ => by cases h
  | k + 1, 0, _, _, _, h, _ => by omega
  | k + 1, t + 1, m, m', h, hk, hq => by
    unfold reDrive
    unfold drv at h
    dsimp only
    by_cases hc : (m.runFor reTurnSteps).outcome.isSome = true
    · rw [if_pos hc] at h ⊢
      cases h
      exact wpAny_pure hq
    · rw [if_neg hc] at h ⊢
      exact wpAny_bind (wpAny_rule (drive_ok k t _ _ h (by omega) hq))
theorem rules_ok {Q : PUnit → Shared → Prop} (p : Nat → Bool) (n : Nat → String) (h : Q ⟨⟩ s) : ∀ l : List Nat, wpAny M A (forIn l PUnit.unit fun i _ =>
    if p i = true then do
      rule (n i)
      pure (ForInStep.yield PUnit.unit)
    else pure (ForInStep.yield PUnit.unit)) Q E s
  | [] => wpAny_pure h
  | i :: l => by
    rw [List.forIn_cons]
    refine wpAny_bind ?_
    by_cases hc : p i = true
    · rw [if_pos hc]; exact wpAny_bind (wpAny_rule (wpAny_pure (rules_ok p n h l)))
    · rw [if_neg hc]; exact wpAny_pure (rules_ok p n h l)
theorem end_ok {Q : Option Sre.M → Shared → Prop} {m m' : Sre.M} (hd : drv 200 m = some m') (h : match m'.outcome with | some .matched => Q (some m') s | some .failed => Q none s | _ => False) : wpAny M A (reRunToEnd m) Q E s := by
  unfold reRunToEnd
  refine wpAny_bind (drive_ok 200 _ m m' hd (by decide) ?_)
  refine wpAny_bind (rules_ok (fun i => m'.seen.has i) (fun i => Sre.names.getD i "") ?_ _)
  cases ho : m'.outcome with
  | none => rw [ho] at h; exact h.elim
  | some x =>
    rw [ho] at h
    cases x with
    | matched => exact wpAny_pure h
    | failed => exact wpAny_pure h
    | stuck => exact h.elim
end

def codeN : Array Nat := #[14, 8, 1, 2, 4294967295, 1, 1, 46, 0, 16, 46, 24, 9, 1, 4294967295, 13, 4, 8, 0, 0, 1, 6, 5, 1]
def codeV : Array Value := #[.int 14 0, .int 8 0, .int 1 0, .int 2 0, .int 4294967295 0, .int 1 0, .int 1 0, .int 46 0, .int 0 0, .int 16 0, .int 46 0, .int 24 0, .int 9 0, .int 1 0, .int 4294967295 0, .int 13 0, .int 4 0, .int 8 0, .int 0 0, .int 0 0, .int 1 0, .int 6 0, .int 5 0, .int 1 0]
def startM (x : Str) : Sre.M := Sre.forSearch codeN x.cps 0 (min (0 : Int).toNat x.cps.size) (min (2 ^ 63 - 1 : Int).toNat x.cps.size) false
/-- what the search says of a text: found, not found, or no word -/
def ipish (x : Str) : Option Bool := match drv 200 (startM x) with
  | some m => (match m.outcome with | some .matched => some true | some .failed => some false | _ => none)
  | none => none

section
variable {prog : Program} {w : World} {A : Around} {E : Value → Shared → Prop} {s : Shared}
theorem named_one (v : Value) : reNamed "re.Pattern.search" "search" ["string", "pos", "endpos"] 1 [v] [] = pure [some v, none, none] := by rfl
theorem rawItems_ok {C : Addr} {o : Obj} {xs : Array Value} {n : Nat} {Q : Array Int → Shared → Prop} (ho : s.heap.get? C = some o) (hd : o.data = .seq xs n) (h : Q (xs.map reRawOf) s) : wpAny (model prog w) A (reRawItems (.ref C)) Q E s := by
  unfold reRawItems seqItems?
  refine wpAny_bind (wpAny_bind (wpAny_load ho ?_))
  rw [hd]
  exact wpAny_pure (wpAny_pure h)
theorem search_call {P C : Addr} {oP oC : Obj} {x : Str} {t : Tok} {pat : Value} {t1 n : Nat} {b : Bool} {Q : Value → Shared → Prop}
    (hP : s.heap.get? P = some oP) (hPc : oP.cls = .type "re.Pattern") (hPd : oP.data = .fields #[pat, .int 256 t1, .int 0 0, .none, .none, .ref C, .int 0 0])
    (hC : s.heap.get? C = some oC) (hCd : oC.data = .seq codeV n) (hx : ipish x = some b)
    (h1 : b = true → ∀ v h', (∀ c o, s.heap.get? c = some o → h'.get? c = some o) → s.heap.objs.size ≤ v → (∃ o, h'.get? v = some o ∧ o.cls = .type "re.Match") → Q (.ref v) { s with heap := h' })
    (h2 : b = false → Q .none s) :
    wpAny (model prog w) A (call (.builtin "re.Pattern.search") [.ref P, .str x t]) Q E s := by
  refine wpAny_call_entry slot_search ⟨oP, hP, hPc⟩ entry_search ?_ (args_search _ _)
  unfold Builtin.«re.Pattern.search» reTarget
  dsimp only
  rw [named_one]
  refine wpAny_bind (wpAny_bind (wpAny_pure ?_))
  dsimp only
  refine wpAny_bind (wpAny_pure (wpAny_bind (wpAny_pure ?_)))
  refine wpAny_bind (wpAny_fieldsOf hP hPd ?_)
  refine wpAny_bind (wpAny_of_eq (show reTextOf (.str x t) = pure (x.cps, 0) from rfl) ?_)
  dsimp only
  split
  · rename_i h; exact absurd (show false = true from h) Bool.false_ne_true
  split
  · rename_i h; exact absurd (show false = true from h) Bool.false_ne_true
  refine wpAny_bind (wpAny_of_eq (show reNoCollectionInside (.str x t) 0 = pure () from rfl) ?_)
  refine wpAny_bind (rawItems_ok hC hCd (wpAny_pure ?_))
  dsimp only
  rw [show Array.map (fun x : Int => x.toNat) (Array.map reRawOf codeV) = codeN from by decide +kernel]
  show wpAny _ _ (reAnswer _ (startM x)) _ _ _
  unfold reAnswer
  unfold ipish at hx
  cases hd : drv 200 (startM x) with
  | none => rw [hd] at hx; cases hx
  | some m =>
    rw [hd] at hx
    dsimp only at hx
    refine wpAny_bind (end_ok (m' := m) hd ?_)
    cases ho : m.outcome with
    | none => rw [ho] at hx; cases hx
    | some y =>
      rw [ho] at hx
      cases y with
      | stuck => cases hx
      | failed => 
        dsimp only at hx ⊢
        exact wpAny_pure ⟨_, rfl, h2 (Option.some.inj hx).symm⟩
      | matched =>
        dsimp only at hx ⊢
        unfold reNewMatch
        dsimp only
        show wpAny _ _ (do ret (← (do newFields "re.Match" [.str x t, .ref P, rawInt _, rawInt _, rawInt m.lastindex, ← newTuple (rawInt m.start :: rawInt m.handed :: [])]))) _ _ _
        refine wpAny_bind (wpAny_bind (wpAny_newTuple (wpAny_newObj_type (wpAny_pure ⟨_, rfl, h1 (Option.some.inj hx).symm _ _ ?_ ?_ ?_⟩))))
        · intro c o e
          exact Heap.get?_push_of_some _ (Heap.get?_push_of_some _ e)
        · rw [Heap.size_push]; omega
        · exact ⟨_, Heap.get?_push_size _ rfl, rfl⟩
theorem nb_match : typeLookup (.type "re.Match") "__bool__" = pure none := by rw [typeLookup_type, builtinLookup_eq_fast]; kernel_rfl
theorem nl_match : typeLookup (.type "re.Match") "__len__" = pure none := by rw [typeLookup_type, builtinLookup_eq_fast]; kernel_rfl
theorem truthy_match {v : Addr} {o : Obj} {Q : Bool → Shared → Prop} (ho : s.heap.get? v = some o) (hc : o.cls = .type "re.Match") (h : Q true s) : wpAny (model prog w) A (truthy (.ref v)) Q E s := by
  unfold truthy
  have hT : s.TypeIs (.ref v) "re.Match" := ⟨o, ho, hc⟩
  refine wpAny_bind ?_
  unfold callSpecial?
  refine wpAny_bind (wpAny_specialOf hT nb_match ?_)
  refine wpAny_pure ?_
  dsimp only
  refine wpAny_bind (wpAny_specialOf hT nl_match ?_)
  exact wpAny_pure h
end
-- the texts
def mkS (x : String) : Str := Str.ofString x
def tails : List String := ["", "x.", "y.x.", "x.x."]
def domsL : List Str := (["local", "x.local", "y.x.local", "x.x.local", "7", "x.7", "y.x.7", "x.x.7"] : List String).map Str.ofString ++ ([".local", ".x.local", ".y.x.local", ".x.x.local", ".7", ".x.7", ".y.x.7", ".x.x.7"] : List String).map Str.ofString
def qsL : List Str := (["q.local", "q.x.local", "q.y.x.local", "q.x.x.local", "q.7", "q.x.7", "q.y.x.7", "q.x.x.7"] : List String).map Str.ofString
theorem ip_known : ∀ x ∈ domsL ++ qsL, ipish x = some (x.endsWith ".7") := by decide +kernel
end Mine

/- C1 -/
namespace Mine
set_option maxHeartbeats 8000000
abbrev Row := PySem.Challenge.rw_re0061_01
abbrev Led := List (Addr × Obj)
/-- a def's contract: it hands back r, the ledger grows by tl -/
abbrev Spec (w : World) (lv : Nat) (f : Addr) (vs : List Value) (Pre : Led → Prop) (Out : Led → Value → Prop) : Prop :=
  ∀ (p : Program) (loose : List Str) (mean : ExcName → Option Value) (mg mb : Str → Option Value) (dp un : Nat) (gd : Option (List Code)) (cn : Str) (cs : Scope) (a : Addr) (ccd : Value) (cl : List (Str × Addr)) (outer : List Env) (A₀ : Around) (base h₀ : Heap) (L : Addr) (m : Str → Option Value)
    (news : Led) (s : Shared) (Q E : Value → Shared → Prop),
    Below A₀ base outer h₀ → Fr h₀ L s.heap m → (hd.heap_39 w.params).In h₀ → News h₀ L s.heap news → Top p loose mean mg mb h₀ → cs.kind = .function →
    Pre news → dp + lv < recursionLimit → un + 20 * lv < cLine →
    (∀ r tl h' tk', Fr h₀ L h' m → News h₀ L h' (tl ++ news) → (∀ q ∈ news, ∀ p ∈ tl, q.1 < p.1) → Out tl r → Q r { s with heap := h', toks := tk' }) →
    wpAny (model Row.prog w) (ktrTop dp un gd cn cs L a ccd cl outer) (call (.ref f) vs) Q E s
/-- a def's contract where the answer is a plain value -/
abbrev SpecV (w : World) (lv : Nat) (f : Addr) (vs : List Value) (Pre : Led → Prop) (R : Tok → Value) : Prop :=
  ∀ (p : Program) (loose : List Str) (mean : ExcName → Option Value) (mg mb : Str → Option Value) (dp un : Nat) (gd : Option (List Code)) (cn : Str) (cs : Scope) (a : Addr) (ccd : Value) (cl : List (Str × Addr)) (outer : List Env) (A₀ : Around) (base h₀ : Heap) (L : Addr) (m : Str → Option Value)
    (news : Led) (s : Shared) (Q E : Value → Shared → Prop),
    Below A₀ base outer h₀ → Fr h₀ L s.heap m → (hd.heap_39 w.params).In h₀ → News h₀ L s.heap news → Top p loose mean mg mb h₀ → cs.kind = .function →
    Pre news → dp + lv < recursionLimit → un + 20 * lv < cLine →
    (∀ t h' tk', Fr h₀ L h' m → News h₀ L h' news → Q (R t) { s with heap := h', toks := tk' }) →
    wpAny (model Row.prog w) (ktrTop dp un gd cn cs L a ccd cl outer) (call (.ref f) vs) Q E s
section
variable {w : World} {lv : Nat} {f : Addr} {vs : List Value} {Pre : Led → Prop} {Out : Led → Value → Prop} {R : Tok → Value} {p : Program} {loose : List Str} {mean : ExcName → Option Value} {mg mb : Str → Option Value} {dp un : Nat} {gd : Option (List Code)} {cn : Str} {cs : Scope} {a : Addr} {ccd : Value} {cl : List (Str × Addr)} {outer : List Env} {A₀ : Around} {base h₀ : Heap} {L : Addr} {m : Str → Option Value}
    {news : Led} {s : Shared} {Q E : Value → Shared → Prop}
theorem use_spec (S : Spec w lv f vs Pre Out) (B : Below A₀ base outer h₀) (F : Fr h₀ L s.heap m) (X : (hd.heap_39 w.params).In h₀) (N : News h₀ L s.heap news) (T : Top p loose mean mg mb h₀) (hk : cs.kind = .function)
    (hp : Pre news) (hd : dp + lv < recursionLimit) (hu : un + 20 * lv < cLine)
    (k : ∀ r tl h' tk', Fr h₀ L h' m → News h₀ L h' (tl ++ news) → (∀ q ∈ news, ∀ p ∈ tl, q.1 < p.1) → Out tl r → Q r { s with heap := h', toks := tk' }) :
    wpAny (model Row.prog w) (ktrTop dp un gd cn cs L a ccd cl outer) (call (.ref f) vs) Q E s :=
  S p loose mean mg mb dp un gd cn cs a ccd cl outer A₀ base h₀ L m news s Q E B F X N T hk hp hd hu k
theorem use_specV (S : SpecV w lv f vs Pre R) (B : Below A₀ base outer h₀) (F : Fr h₀ L s.heap m) (X : (hd.heap_39 w.params).In h₀) (N : News h₀ L s.heap news) (T : Top p loose mean mg mb h₀) (hk : cs.kind = .function)
    (hp : Pre news) (hd : dp + lv < recursionLimit) (hu : un + 20 * lv < cLine)
    (k : ∀ t h' tk', Fr h₀ L h' m → News h₀ L h' news → Q (R t) { s with heap := h', toks := tk' }) :
    wpAny (model Row.prog w) (ktrTop dp un gd cn cs L a ccd cl outer) (call (.ref f) vs) Q E s :=
  S p loose mean mg mb dp un gd cn cs a ccd cl outer A₀ base h₀ L m news s Q E B F X N T hk hp hd hu k
end
end Mine

/- U1 -/
namespace Mine
set_option maxHeartbeats 8000000
set_option pp.deepTerms false
set_option pp.deepTerms.threshold 8
set_option linter.unusedVariables false
theorem fresh_U1 : True := by
  w_top off
  trivial
theorem fill2 (w : World) : hd.heap_39 w.params = hd.heap_39 w.params ∧ PySem.Challenge.rw_re0061_01 = PySem.Challenge.rw_re0061_01 := by
  k_fill
  exact ⟨rfl, rfl⟩
section
variable {prog : Program} {w : World} {A : Around} {E : Value → Shared → Prop} {s : Shared} {h₀ : Heap} {L : Addr} {m : Str → Option Value} {news : List (Addr × Obj)}
theorem pat_at {h : Heap} (X : (hd.heap_39 w.params).In h) : ∃ t0 t1, h.get? 78 = some ({ cls := .type "re.Pattern", data := .fields #[.str (Str.ofString "\\.\\d+$") t0, .int 256 t1, .int 0 0, .none, .none, .ref 77, .int 0 0] } : Obj) :=
  ⟨_, _, X 78 _ rfl⟩
theorem code_at {h : Heap} (X : (hd.heap_39 w.params).In h) : h.get? 77 = some ({ cls := .type "tuple", data := .seq codeV 0 } : Obj) := X 77 _ rfl
theorem search_method {pl : Sem Bool} {Q : Value × List Value → Shared → Prop} (F : Fr h₀ L s.heap m) (X : (hd.heap_39 w.params).In h₀) (h : Q (.builtin "re.Pattern.search", [.ref 78]) s) :
    wpAny (model prog w) A (getMethod (.ref 78) "search" pl) Q E s := by
  obtain ⟨t0, t1, hp⟩ := pat_at (X.keeps F.keep)
  exact getMethod_builtin (T := "re.Pattern") ⟨_, hp, rfl⟩ plain_pat slot_search type_search (fun a e => by cases e; exact ⟨_, hp, rfl⟩) h
theorem search_step {x : Str} {t : Tok} {Q : Value → Shared → Prop} (F : Fr h₀ L s.heap m) (N : News h₀ L s.heap news) (X : (hd.heap_39 w.params).In h₀) (hx : x ∈ domsL ++ qsL)
    (h1 : x.endsWith ".7" = true → ∀ v o h', Fr h₀ L h' m → News h₀ L h' ((v, o) :: news) → (∀ q ∈ news, q.1 < v) → o.cls = .type "re.Match" → Q (.ref v) { s with heap := h' })
    (h2 : x.endsWith ".7" = false → Q .none s) :
    wpAny (model prog w) A (call (.builtin "re.Pattern.search") [.ref 78, .str x t]) Q E s := by
  obtain ⟨t0, t1, hp⟩ := pat_at (X.keeps F.keep)
  refine search_call hp rfl rfl (code_at (X.keeps F.keep)) rfl (ip_known x hx) (fun hb v h' keep hsz hv => ?_) h2
  obtain ⟨o, ho, hc⟩ := hv
  refine h1 hb v o h' ⟨F.ns.keeps keep, fun b o' e => keep b o' (F.keep b o' e), F.above⟩ ?_ ?_ hc
  · intro p hp'
    rcases List.mem_cons.mp hp' with rfl | hp'
    · refine ⟨ho, ?_, ?_⟩
      · intro e
        exact absurd (Nat.lt_of_lt_of_le F.ns.lt ((show v = L from e) ▸ hsz)) (Nat.lt_irrefl _)
      · cases q : h₀.get? v with
        | none => rfl
        | some o' => exact absurd (Nat.lt_of_lt_of_le (Heap.lt_size (F.keep _ _ q)) hsz) (Nat.lt_irrefl _)
    · exact ⟨keep _ _ (N p hp').1, (N p hp').2⟩
  · intro q hq
    exact Nat.lt_of_lt_of_le (Heap.lt_size (N q hq).1) hsz
theorem truthy_step {v : Addr} {o : Obj} {Q : Bool → Shared → Prop} (N : News h₀ L s.heap news) (hm : (v, o) ∈ news) (hc : o.cls = .type "re.Match") (h : Q true s) : wpAny (model prog w) A (truthy (.ref v)) Q E s :=
  truthy_match (N _ hm).1 hc h
end
local macro_rules | `(tactic| walk_at "getMethod ref") => `(tactic| ((with_reducible show wpAny _ _ (getMethod (Value.ref 78) (PySem.Str.ofString "search") _) _ _ _); refine' search_method ?F ?X ?_; (case F => k_asm); (case X => k_asm)))
local macro_rules | `(tactic| walk_at "call builtin:re.Pattern.search") => `(tactic| (refine' search_step ?F ?N ?X ?hx ?h1 ?h2; (case F => k_asm); (case N => k_asm); (case X => k_asm); (case hx => assumption); (case' h1 => (intro hb' v' o' h' F' N' l1 hc'; (try k_lt l1); (try k_sweep))); (case' h2 => intro hb')))
local macro_rules | `(tactic| walk_at "truthy ref") => `(tactic| (refine' truthy_step ?N ?M ?C ?_; (case N => k_asm); (case M => k_mem); (case C => assumption)))
def hostsL : List Str := (["local", "x.local", "y.x.local", "x.x.local", "7", "x.7", "y.x.7", "x.x.7"] : List String).map Str.ofString ++ qsL
theorem hosts_sub : ∀ x ∈ hostsL, x ∈ domsL ++ qsL := by decide +kernel
theorem doms_sub : ∀ x ∈ domsL, x ∈ domsL ++ qsL := fun _ h => List.mem_append_left _ h
theorem short : ∀ x ∈ domsL ++ qsL, x.length ≤ 20 := by decide +kernel
theorem noDotEnds : ∀ x ∈ hostsL, 1 ≤ x.length ∧ (x == Str.ofString "") = false ∧ (Txt.item x 0 == Str.ofString ".") = false ∧ (Txt.item x (-1) == Str.ofString ".") = false := by decide +kernel
theorem lhdn_spec (w : World) (x : Str) (tx : Tok) (hx : x ∈ domsL ++ qsL) : SpecV w 3 92 [.str x tx] (fun _ => True) (fun _ => .bool (!x.endsWith ".7")) := by
  intro p loose mean mg mb dp un gd cn cs a ccd cl outer A₀ base h₀ L m news s Q E B F X N T hk hpre hd hu hret
  refine wpAny_call ?_
  k_dflt ktr_enter
  k_steps
  all_goals (refine cb_retB (Q := Q) hret ?_ (by k_asm) (by first | k_asm | (refine' cb_drop ?cbN ?cbS; (case cbN => assumption); (case cbS => kcj_all))))
  all_goals simp_all
theorem hdn_spec (w : World) (x : Str) (tx : Tok) (hx : x ∈ hostsL) : SpecV w 3 85 [.str x tx] (fun _ => True) (fun _ => .bool (!x.endsWith ".7")) := by
  have hx' := hosts_sub x hx
  have hlen := short x hx'
  obtain ⟨f0, f1, f2, f3⟩ := noDotEnds x hx
  intro p loose mean mg mb dp un gd cn cs a ccd cl outer A₀ base h₀ L m news s Q E B F X N T hk hpre hd hu hret
  refine wpAny_call ?_
  k_dflt ktr_enter
  k_steps
  all_goals (refine cb_retB (Q := Q) hret ?_ (by k_asm) (by first | k_asm | (refine' cb_drop ?cbN ?cbS; (case cbN => assumption); (case cbS => kcj_all))))
  all_goals simp_all
local macro_rules | `(tactic| walk_at "call ref") => `(tactic| ((with_reducible show wpAny _ _ (call (Value.ref 85) [Value.str _ _]) _ _ _); k_dflt (refine' use_specV (hdn_spec _ _ _ ?hx) ?k1 ?k2 ?k3 ?k4 ?k5 ?kK ?kp ?kd ?ku ?_); (case hx => assumption); (case k1 => k_asm); (case k2 => k_asm); (case k3 => k_asm); (case k4 => k_asm); (case k5 => k_asm); (case kK => first | exact rfl | assumption); (case kp => trivial); (case kd => ktr_room); (case ku => ktr_units); intro t9 h9 tk9 F9 N9; (try dsimp only); (try k_sweep)))
def afterDot (x : Str) : Str := Txt.slice x (some (Txt.find x (Str.ofString ".") + 1)) none
def reachF (x : Str) : Str := if 0 ≤ Txt.find x (Str.ofString ".") ∧ x.endsWith ".7" = false ∧ (0 ≤ Txt.find (afterDot x) (Str.ofString ".") ∨ (afterDot x == Str.ofString "local") = true) then Str.ofString "." ++ afterDot x else x
theorem reach_spec (w : World) (x : Str) (tx : Tok) (hx : x ∈ hostsL) : SpecV w 5 106 [.str x tx] (fun _ => True) (fun t => .str (reachF x) t) := by
  have hx' := hosts_sub x hx
  have hlen := short x hx'
  intro p loose mean mg mb dp un gd cn cs a ccd cl outer A₀ base h₀ L m news s Q E B F X N T hk hpre hd hu hret
  refine wpAny_call ?_
  k_dflt ktr_enter
  k_steps
  all_goals (refine cb_retS (Q := Q) hret ?_ (by k_asm) (by k_asm))
  all_goals (unfold reachF afterDot; first
    | (rw [if_pos ⟨by assumption, by assumption, .inl (by assumption)⟩]; done)
    | (rw [if_pos ⟨by assumption, by assumption, .inr (by assumption)⟩]; done)
    | (rw [if_neg]; intro hc; rcases hc with ⟨c1, c2, c3 | c3⟩ <;> (first | (exact absurd c1 (by assumption)) | (exact absurd c3 (by assumption)) | (simp_all; done))))
local macro_rules | `(tactic| walk_at "call ref") => `(tactic| ((with_reducible show wpAny _ _ (call (Value.ref 92) [Value.str _ _]) _ _ _); k_dflt (refine' use_specV (lhdn_spec _ _ _ ?hx) ?k1 ?k2 ?k3 ?k4 ?k5 ?kK ?kp ?kd ?ku ?_); (case hx => assumption); (case k1 => k_asm); (case k2 => k_asm); (case k3 => k_asm); (case k4 => k_asm); (case k5 => k_asm); (case kK => first | exact rfl | assumption); (case kp => trivial); (case kd => ktr_room); (case ku => ktr_units); intro t9 h9 tk9 F9 N9; (try dsimp only); (try k_sweep)))
/-- what user_domain_match says, of texts in small letters -/
def udmF (a b : Str) : Bool :=
  if a.endsWith ".7" = true ∨ b.endsWith ".7" = true then a == b
  else if Txt.startswith b (Str.ofString ".") = true then Txt.endswith a b else a == b
theorem udm_spec (w : World) (x y : Str) (tx ty : Tok) (hx : Txt.lower x ∈ hostsL) (hl : x.length ≤ 20) (hl' : (Txt.lower x).length ≤ 20) (hy : y ∈ domsL) (hy2 : Txt.lower y ∈ domsL ++ qsL) (hly : y.length ≤ 20) : SpecV w 6 99 [.str x tx, .str y ty] (fun _ => True) (fun _ => .bool (udmF (Txt.lower x) (Txt.lower y))) := by
  have hx' := hosts_sub _ hx
  intro p loose mean mg mb dp un gd cn cs a ccd cl outer A₀ base h₀ L m news s Q E B F X N T hk hpre hd hu hret
  refine wpAny_call ?_
  k_dflt ktr_enter
  k_steps
  all_goals (refine cb_retB (Q := Q) hret ?_ (by k_asm) (by k_asm))
  all_goals (unfold udmF; simp only [*, if_true, if_false, or_true, true_or, or_self, Bool.false_eq_true])
end Mine

/- V1 -/
namespace Mine
set_option maxHeartbeats 1000000
set_option pp.deepTerms false
set_option pp.deepTerms.threshold 8
set_option linter.unusedVariables false
local macro_rules | `(tactic| walk_at "pad") => `(tactic| skip)
local macro_rules | `(tactic| walk_at "pad") => `(tactic| skip)
local macro_rules | `(tactic| walk_at "pad") => `(tactic| skip)
local macro_rules | `(tactic| walk_at "pad") => `(tactic| skip)
local macro_rules | `(tactic| walk_at "pad") => `(tactic| skip)
local macro_rules | `(tactic| walk_at "pad") => `(tactic| skip)
theorem fresh_V1 : True := by
  w_top off
  trivial
def PairIn (led : Led) (v : Value) (d : Str) (b : Bool) : Prop := ∃ a t n, v = .ref a ∧ (a, W.listOf #[.str d t, .bool b] n) ∈ led
theorem PairIn.mono {led led' : Led} {v : Value} {d : Str} {b : Bool} (h : PairIn led v d b) (hs : ∀ p ∈ led, p ∈ led') : PairIn led' v d b :=
  let ⟨a, t, n, e, hm⟩ := h; ⟨a, t, n, e, hs _ hm⟩
theorem PairIn.head' {a : Addr} {t n : Nat} {l : Led} {d d' : Str} {b b' : Bool} (h1 : d = d') (h2 : b = b') : PairIn ((a, W.listOf #[.str d t, .bool b] n) :: l) (.ref a) d' b' := by
  subst h1 h2; exact ⟨a, t, n, rfl, .head _⟩
@[irreducible] def pickS (a b c d : Str) (k : Int) : Str := if k = 0 then a else if k = 1 then b else if k = 2 then c else d
def bareOf (x : Int) : Str := pickS (Str.ofString "") (Str.ofString "x.") (Str.ofString "y.x.") (Str.ofString "x.x.") ((x.fdiv 4).fmod 4) ++ (if (x.fdiv 16).fmod 4 = 3 then Str.ofString "7" else Str.ofString "local")
def domOf (x : Int) : Str := if x.fmod 2 = 0 then Str.ofString "." ++ bareOf x else bareOf x
def verOf (x : Int) : Bool := (x.fdiv 2).fmod 2 == 1
section
variable {prog : Program} {w : World} {A : Around} {E : Value → Shared → Prop} {s : Shared} {h₀ : Heap} {L : Addr} {m : Str → Option Value} {news : Led}
theorem pick4 {value slice : PySem.Expr} {l : Addr} {a b c d : Str} {t0 t1 t2 t3 u : Tok} {n : Nat} {k : Int} {Q : Value → Shared → Prop} (N : News h₀ L s.heap news) (hm : (l, W.listOf #[.str a t0, .str b t1, .str c t2, .str d t3] n) ∈ news)
    (h0 : 0 ≤ k) (h1 : k < 4) (hl : a.length ≤ 20 ∧ b.length ≤ 20 ∧ c.length ≤ 20 ∧ d.length ≤ 20) (h : ∀ t, (pickS a b c d k).length ≤ 20 → Q (.str (pickS a b c d k) t) s)
    (hs : subscripted slice false (.ref l) (.int k u) = operate [.ref l, .int k u] (getItem (.ref l) (.int k u)) := by with_unfolding_all rfl) :
    wpAny (model prog w) A (subscriptTail value slice (.ref l) (.int k u)) Q E s := by
  have hlist : s.heap.IsList l ([.str a t0, .str b t1, .str c t2, .str d t3] : List Value).toArray := ⟨_, (N _ hm).1, rfl, n, rfl⟩
  refine pickK hlist h0 (by simpa using h1) (by omega) ?_ hs
  refine ⟨fun e => ?_, fun e => ?_, fun e => ?_, fun e => ?_, trivial⟩
  · have := h t0; unfold pickS at this; simp only [e, if_true] at this; exact this hl.1
  · have := h t1; unfold pickS at this; simp [e] at this; exact this hl.2.1
  · have := h t2; unfold pickS at this; simp [e] at this; exact this hl.2.2.1
  · have := h t3; unfold pickS at this; simp [e] at this; exact this hl.2.2.2
end
local macro_rules | `(tactic| walk_at "subscriptTail") => `(tactic| ((with_reducible show wpAny _ _ (subscriptTail _ _ (Value.ref _) (Value.int (Int.fmod _ 4) _)) _ _ _); k_dflt (refine' pick4 ?N ?M ?h0 ?h1 ?hl ?_ ?hs); (case N => k_asm); (case M => k_mem); (case h0 => exact Int.fmod_nonneg_of_pos _ (by decide)); (case h1 => exact Int.fmod_lt_of_pos _ (by decide)); (case hl => decide +kernel); (case hs => with_unfolding_all rfl); k_whole; intro t' hlen'; (try dsimp only)))
local macro_rules | `(tactic| walk_at "my steps") => `(tactic| repeat' (first | (k_unfold; (try dsimp only)) | (k_end; wrow_close) | ((try dsimp only); walk1) | (leave1; walk_say "STEP leave1"; try dsimp only) | fail "no step"))
theorem allLt_mem {d : Addr} : ∀ {l : Led}, AllLt d l → ∀ q ∈ l, q.1 < d
  | [], _, _, hq => by cases hq
  | p :: r, h, q, hq => by
    rcases List.mem_cons.mp hq with rfl | hq
    · exact h.1
    · exact allLt_mem h.2 q hq
theorem lt_nil {news : Led} : ∀ q ∈ news, ∀ p ∈ ([] : Led), q.1 < p.1 := fun _ _ _ h => nomatch h
theorem lt_cons {news tl : Led} {x : Addr} {o : Obj} (h : ∀ q ∈ news, q.1 < x) (r : ∀ q ∈ news, ∀ p ∈ tl, q.1 < p.1) : ∀ q ∈ news, ∀ p ∈ (x, o) :: tl, q.1 < p.1 := fun q hq p hp => by
  rcases List.mem_cons.mp hp with rfl | hp
  · exact h q hq
  · exact r q hq p hp
local macro_rules | `(tactic| walk_at "my lt") => `(tactic| first | exact lt_nil | (refine lt_cons ?_ ?_; (first | assumption | (refine allLt_mem ?_; first | assumption | exact And.right (by assumption) | exact And.right (And.right (by assumption)) | exact And.right (And.right (And.right (by assumption))))); walk_at "my lt"))
theorem drawn_spec (w : World) (x : Int) (tx : Tok) : Spec w 3 113 [.int x tx] (fun _ => True) (fun led r => PairIn led r (domOf x) (verOf x)) := by
  intro p loose mean mg mb dp un gd cn cs a ccd cl outer A₀ base h₀ L m news s Q E B F X N T hk hpre hd hu hret
  refine wpAny_call ?_
  k_dflt ktr_enter
  walk_at "my steps"
  all_goals (refine hret _ [_, _] _ _ (by k_asm) (by k_asm) ?_ ?_)
  all_goals first | (walk_at "my lt"; done) | (refine PairIn.head' ?_ rfl; unfold domOf bareOf; simp only [*, if_true, if_false])
end Mine

/- Lp -/
namespace Mine
set_option maxHeartbeats 1000000
def TurnEnd (h₀ : Heap) (L I : Addr) (oI : Obj) (l : Addr) (ol : Obj) (Jn : (Str → Option Value) → List (Addr × Obj) → Prop) (s₁ s₂ : Shared) : Prop :=
  ∃ h' tk m' news', s₂ = { s₁ with heap := h', toks := tk } ∧ Fr h₀ L h' m' ∧ News h₀ L h' ((I, oI) :: (l, ol) :: news') ∧ (∀ p ∈ news', p.1 ≠ I) ∧ Jn m' news'
def TurnPost (h₀ : Heap) (L I : Addr) (oI : Obj) (l : Addr) (ol : Obj) (Jn : (Str → Option Value) → List (Addr × Obj) → Prop) (s₁ : Shared) (Q : Flow → Shared → Prop) (f : Flow) (s₂ : Shared) : Prop :=
  match f with
  | .ret v => Q (.ret v) s₂
  | .brk => Q .next s₂
  | _ => TurnEnd h₀ L I oI l ol Jn s₁ s₂
section
variable {prog : Program} {w : World} {A : Around} {E : Value → Shared → Prop} {s : Shared} {env : Env} {h₀ : Heap} {x : Str} {body : List Stmt} {Q : Flow → Shared → Prop} {m : Str → Option Value} {news : List (Addr × Obj)}
theorem loop_led {I l : Addr} {ol : Obj} {n : Nat} {P : Nat → Value → Prop} {St : Nat → Heap → Prop} (W : Walks prog w A I [I, l] [I] n P St) (hIL : I ≠ env.locals) (hI0 : h₀.get? I = none) (live : ∀ i h, St i h → ∃ o, h.get? I = some o)
    (hst : St 0 s.heap) (F : Fr h₀ env.locals s.heap m) (N : News h₀ env.locals s.heap ((l, ol) :: news)) (hlI : l ≠ I) (hnI : ∀ p ∈ news, p.1 ≠ I) (J : Nat → (Str → Option Value) → List (Addr × Obj) → Prop) (h0 : J 0 m news)
    (turn : ∀ i v m₁ news₁ h tk oI, P i v → J i m₁ news₁ → (∀ p ∈ news₁, p.1 ≠ I) → Fr h₀ env.locals h (fun y => if y = x then some v else m₁ y) → News h₀ env.locals h ((I, oI) :: (l, ol) :: news₁) →
      wpAny (model prog w) A (execs body env) (TurnPost h₀ env.locals I oI l ol (J (i + 1)) { s with heap := h, toks := tk } Q) E { s with heap := h, toks := tk })
    (done : ∀ h' tk m' news', Fr h₀ env.locals h' m' → News h₀ env.locals h' ((l, ol) :: news') → J n m' news' → Q .next { s with heap := h', toks := tk }) :
    LoopAtV prog w A h₀ env x body Q E (.ref I) s := by
  have hl := N (l, ol) (.head _)
  refine ⟨I, [I, l], [I], n, P, St, m, (l, ol) :: news, fun i m' nw => ∃ nw', nw = (l, ol) :: nw' ∧ (∀ p ∈ nw', p.1 ≠ I) ∧ J i m' nw', rfl, W, ?_, ?_, ?_, hst, F, N, ⟨news, rfl, hnI, h0⟩, ?_, ?_⟩
  · intro hm
    rcases List.mem_cons.mp hm with e | hm
    · exact hIL e.symm
    · exact hl.2.1 (List.mem_singleton.mp hm).symm
  · intro b hb; rw [List.mem_singleton.mp hb]; exact hI0
  · intro p hp hI
    have hI := List.mem_singleton.mp hI
    rcases List.mem_cons.mp hp with rfl | hp
    · exact hlI hI
    · exact hnI p hp hI
  · rintro i v m₁ nw s₁ own ⟨h, tk, rfl⟩ hi hP ⟨nw', rfl, hn', hJ⟩ hoff hsub hget hall hst₁ F₁ N₁
    obtain ⟨oI, hoI⟩ := live _ _ hst₁
    have hl1 := N₁ (l, ol) (List.mem_append_right _ (.head _))
    have N₂ : News h₀ env.locals h ((I, oI) :: (l, ol) :: nw') := by
      intro p hp
      rcases List.mem_cons.mp hp with rfl | hp
      · exact ⟨hoI, hIL, hI0⟩
      · exact N₁ p (List.mem_append_right _ hp)
    have sub : ∀ p ∈ own, p ∈ (I, oI) :: (l, ol) :: nw' := by
      intro p hp
      have e1 := hget p hp
      rcases List.mem_cons.mp (hsub p hp) with e | e
      · have e2 := hoI
        rw [← e] at e2
        have e3 : some p.2 = some oI := e1.symm.trans e2
        cases e3
        rw [show p = (I, p.2) from by rw [← e]]
        exact .head _
      · have e := List.mem_singleton.mp e
        have e2 := hl1.1
        simp only at e2
        rw [← e] at e2
        have e3 : some p.2 = some ol := e1.symm.trans e2
        cases e3
        rw [show p = (l, p.2) from by rw [← e]]
        exact .tail _ (.head _)
    refine wpAny_mono (turn i v m₁ nw' h tk oI hP hJ hn' F₁ N₂) (fun f s₂ hf => ?_) fun _ _ e => e
    have fin : TurnEnd h₀ env.locals I oI l ol (J (i + 1)) { s with heap := h, toks := tk } s₂ → LoopStepU h₀ env.locals [I] own (fun m' nw => ∃ nw', nw = (l, ol) :: nw' ∧ (∀ p ∈ nw', p.1 ≠ I) ∧ J (i + 1) m' nw') { s with heap := h, toks := tk } .next s₂ := by
      rintro ⟨h', tk', m', news', e, F', N', hnI', hJ'⟩
      refine ⟨rfl, h', tk', m', (l, ol) :: news', e, F', ?_, ?_, news', rfl, hnI', hJ'⟩
      · intro p hp
        rcases List.mem_append.mp hp with hp | hp
        · have hs := sub p hp
          rcases List.mem_cons.mp hs with rfl | hs
          · exact N' _ (.head _)
          · rcases List.mem_cons.mp (hsub p hp) with e | e
            · rcases List.mem_cons.mp hs with rfl | hs
              · exact absurd e hlI
              · exact absurd e (hn' p hs)
            · have e := List.mem_singleton.mp e
              have e1 := hget p hp
              have e2 := hl1.1
              simp only at e2
              rw [← e] at e2
              have e3 : some p.2 = some ol := e1.symm.trans e2
              cases e3
              rw [show p = (l, p.2) from by rw [← e]]
              exact N' _ (.tail _ (.head _))
        · exact N' p (.tail _ hp)
      · intro p hp hI
        have hI := List.mem_singleton.mp hI
        rcases List.mem_cons.mp hp with rfl | hp
        · exact hlI hI
        · exact hnI' p hp hI
    cases f with
    | ret v => exact .ret hf
    | brk => exact .brk hf
    | next => exact .next (fin hf)
    | cont => exact .cont (fin hf)
  · rintro h' tk m' nw F' N' _ ⟨nw', rfl, _, hJ⟩
    exact done h' tk m' nw' F' N' hJ
theorem iter_led {l : Addr} {vs : List Value} {n : Nat} (J : Nat → (Str → Option Value) → List (Addr × Obj) → Prop) (hh : A.handled = none) (F : Fr h₀ env.locals s.heap m) (N : News h₀ env.locals s.heap news) (hm : (l, W.listOf vs.toArray n) ∈ news) (h0 : J 0 m news)
    (turn : ∀ i v m₁ news₁ h tk I oI, vs[i]? = some v → J i m₁ news₁ → (∀ p ∈ news, p.1 < I) → (∀ p ∈ news₁, p.1 ≠ I) → l ≠ I → Fr h₀ env.locals h (fun y => if y = x then some v else m₁ y) → News h₀ env.locals h ((I, oI) :: (l, W.listOf vs.toArray n) :: news₁) →
      wpAny (model prog w) A (execs body env) (TurnPost h₀ env.locals I oI l (W.listOf vs.toArray n) (J (i + 1)) { s with heap := h, toks := tk } Q) E { s with heap := h, toks := tk })
    (done : ∀ h' tk m' news', Fr h₀ env.locals h' m' → News h₀ env.locals h' ((l, W.listOf vs.toArray n) :: news') → J vs.length m' news' → Q .next { s with heap := h', toks := tk }) :
    wpAny (model prog w) A (pyIter (.ref l)) (fun it s₂ => LoopAtV prog w A h₀ env x body Q E it s₂) E s := by
  have hlo := N _ hm
  have hls : s.heap.IsList l vs.toArray := ⟨_, hlo.1, rfl, n, rfl⟩
  have hne : l ≠ s.heap.objs.size := Nat.ne_of_lt (Heap.lt_size hlo.1)
  refine wpAny_pyIter_list hls ?_
  have Wk := Walks.list (prog := prog) (w := w) hh s.heap.objs.size l hne vs.toArray
  have hlen : vs.toArray.size = vs.length := by simp
  rw [hlen] at Wk
  have lt : ∀ p ∈ news, p.1 < s.heap.objs.size := fun p hp => Heap.lt_size (N p hp).1
  refine loop_led Wk (Nat.ne_of_gt F.ns.lt) (next_is_new F) (fun i h st => ?_) ⟨⟨_, Heap.get?_push_size _ rfl, rfl, rfl⟩, hls.at fun o e => Heap.get?_push_of_some _ e⟩ (F.push _) (ol := W.listOf vs.toArray n) (news := news) ?_ hne (fun p hp => Nat.ne_of_lt (lt p hp)) J h0 ?_ ?_
  · obtain ⟨⟨o, ho, _⟩, _⟩ := st; exact ⟨o, ho⟩
  · intro p hp
    rcases List.mem_cons.mp hp with rfl | hp
    · exact ⟨Heap.get?_push_of_some _ hlo.1, hlo.2⟩
    · exact ⟨Heap.get?_push_of_some _ (N p hp).1, (N p hp).2⟩
  · intro i v m₁ news₁ h tk oI hP hJ hn F₁ N₁
    exact turn i v m₁ news₁ h tk _ oI (by simpa using hP) hJ lt hn hne F₁ N₁
  · intro h' tk m' news' F' N' hJ
    exact done h' tk m' news' F' N' hJ
theorem iter_dict {d : Addr} {o : Obj} {kvs : List (Str × Value)} (J : Nat → (Str → Option Value) → List (Addr × Obj) → Prop) (hh : A.handled = none) (F : Fr h₀ env.locals s.heap m) (N : News h₀ env.locals s.heap news) (hm : (d, o) ∈ news) (lo : (d == sysModules) = false) (hd : o.IsDictOf (PySem.strKind prog w) kvs) (h0 : J 0 m news)
    (turn : ∀ i k v t m₁ news₁ h tk I oI, kvs[i]? = some (k, v) → J i m₁ news₁ → (∀ p ∈ news, p.1 < I) → (∀ p ∈ news₁, p.1 ≠ I) → d ≠ I → Fr h₀ env.locals h (fun y => if y = x then some (.str k t) else m₁ y) → News h₀ env.locals h ((I, oI) :: (d, o) :: news₁) →
      wpAny (model prog w) A (execs body env) (TurnPost h₀ env.locals I oI d o (J (i + 1)) { s with heap := h, toks := tk } Q) E { s with heap := h, toks := tk })
    (done : ∀ h' tk m' news', Fr h₀ env.locals h' m' → News h₀ env.locals h' ((d, o) :: news') → J kvs.length m' news' → Q .next { s with heap := h', toks := tk }) :
    wpAny (model prog w) A (pyIter (.ref d)) (fun it s₂ => LoopAtV prog w A h₀ env x body Q E it s₂) E s := by
  have hlo := N _ hm
  obtain ⟨es, ep, r1, r2, r3, r4, r5⟩ := id hd
  have hls : s.heap.DictAt (PySem.strKind prog w) d kvs ep := ⟨o, es, hlo.1, r1, r2, r3, r4, r5⟩
  have hne : d ≠ s.heap.objs.size := Nat.ne_of_lt (Heap.lt_size hlo.1)
  refine wpAny_pyIter_dict lo hls ?_
  have Wk := Walks.dictKeys (prog := prog) (w := w) (knd := PySem.strKind prog w) hh s.heap.objs.size d hne kvs ep
  have lt : ∀ p ∈ news, p.1 < s.heap.objs.size := fun p hp => Heap.lt_size (N p hp).1
  refine loop_led Wk (Nat.ne_of_gt F.ns.lt) (next_is_new F) (fun i h st => ?_) ⟨⟨_, Heap.get?_push_size _ rfl, rfl, rfl⟩, hls.at' fun o e => Heap.get?_push_of_some _ e⟩ (F.push _) (ol := o) (news := news) ?_ hne (fun p hp => Nat.ne_of_lt (lt p hp)) J h0 ?_ ?_
  · obtain ⟨⟨o, ho, _⟩, _⟩ := st; exact ⟨o, ho⟩
  · intro p hp
    rcases List.mem_cons.mp hp with rfl | hp
    · exact ⟨Heap.get?_push_of_some _ hlo.1, hlo.2⟩
    · exact ⟨Heap.get?_push_of_some _ (N p hp).1, (N p hp).2⟩
  · intro i v m₁ news₁ h tk oI hP hJ hn F₁ N₁
    obtain ⟨k, v', hk, hkv⟩ := hP
    obtain ⟨t, rfl⟩ : ∃ t, v = .str k t := by
      cases v with
      | str y t => simp [PySem.strKind, Value.isStrOf] at hkv; exact ⟨t, by rw [hkv]⟩
      | _ => simp [PySem.strKind, Value.isStrOf] at hkv
    exact turn i k v' t m₁ news₁ h tk _ oI hk hJ lt hn hne F₁ N₁
  · intro h' tk m' news' F' N' hJ
    exact done h' tk m' news' F' N' hJ
theorem iter_ledS {σ : Type} {l : Addr} {vs : List Value} {n : Nat} (mk : (Str → Option Value) → σ → (Str → Option Value) → Str → Option Value) (J : Nat → σ → List (Addr × Obj) → Prop) (σ₀ : σ) (hh : A.handled = none) (F : Fr h₀ env.locals s.heap m) (N : News h₀ env.locals s.heap news) (hm : (l, W.listOf vs.toArray n) ∈ news)
    (hm0 : ∀ z, m z = mk m σ₀ m z) (h0 : J 0 σ₀ news)
    (turn : ∀ i v σ u news₁ h tk I oI, vs[i]? = some v → J i σ news₁ → (∀ p ∈ news, p.1 < I) → (∀ p ∈ news₁, p.1 ≠ I) → l ≠ I → Fr h₀ env.locals h (fun y => if y = x then some v else mk m σ u y) → News h₀ env.locals h ((I, oI) :: (l, W.listOf vs.toArray n) :: news₁) →
      wpAny (model prog w) A (execs body env) (TurnPost h₀ env.locals I oI l (W.listOf vs.toArray n) (fun m' nw => ∃ σ', (∀ z, m' z = mk m σ' m' z) ∧ J (i + 1) σ' nw) { s with heap := h, toks := tk } Q) E { s with heap := h, toks := tk })
    (done : ∀ h' tk σ u news', Fr h₀ env.locals h' (mk m σ u) → News h₀ env.locals h' ((l, W.listOf vs.toArray n) :: news') → J vs.length σ news' → Q .next { s with heap := h', toks := tk }) :
    wpAny (model prog w) A (pyIter (.ref l)) (fun it s₂ => LoopAtV prog w A h₀ env x body Q E it s₂) E s := by
  refine iter_led (fun i m₁ nw => ∃ σ, (∀ z, m₁ z = mk m σ m₁ z) ∧ J i σ nw) hh F N hm ⟨σ₀, hm0, h0⟩ ?_ ?_
  · rintro i v m₁ news₁ h tk I oI hv ⟨σ, hmk, hJ⟩ lt ne hl F₁ N₁
    have e : (fun y => if y = x then some v else m₁ y) = fun y => if y = x then some v else mk m σ m₁ y := by
      funext y; by_cases hy : y = x
      · simp [hy]
      · simp only [if_neg hy]; exact hmk y
    rw [e] at F₁
    exact turn i v σ m₁ news₁ h tk I oI hv hJ lt ne hl F₁ N₁
  · rintro h' tk m' news' F' N' ⟨σ, hmk, hJ⟩
    have e : m' = mk m σ m' := funext hmk
    rw [e] at F'
    exact done h' tk σ m' news' F' N' hJ
theorem iter_dictS {σ : Type} {d : Addr} {o : Obj} {kvs : List (Str × Value)} (mk : (Str → Option Value) → σ → (Str → Option Value) → Str → Option Value) (J : Nat → σ → List (Addr × Obj) → Prop) (σ₀ : σ) (hh : A.handled = none) (F : Fr h₀ env.locals s.heap m) (N : News h₀ env.locals s.heap news) (hm : (d, o) ∈ news)
    (lo : (d == sysModules) = false) (hd : o.IsDictOf (PySem.strKind prog w) kvs) (hm0 : ∀ z, m z = mk m σ₀ m z) (h0 : J 0 σ₀ news)
    (turn : ∀ i k v t σ u news₁ h tk I oI, kvs[i]? = some (k, v) → J i σ news₁ → (∀ p ∈ news, p.1 < I) → (∀ p ∈ news₁, p.1 ≠ I) → d ≠ I → Fr h₀ env.locals h (fun y => if y = x then some (.str k t) else mk m σ u y) → News h₀ env.locals h ((I, oI) :: (d, o) :: news₁) →
      wpAny (model prog w) A (execs body env) (TurnPost h₀ env.locals I oI d o (fun m' nw => ∃ σ', (∀ z, m' z = mk m σ' m' z) ∧ J (i + 1) σ' nw) { s with heap := h, toks := tk } Q) E { s with heap := h, toks := tk })
    (done : ∀ h' tk σ u news', Fr h₀ env.locals h' (mk m σ u) → News h₀ env.locals h' ((d, o) :: news') → J kvs.length σ news' → Q .next { s with heap := h', toks := tk }) :
    wpAny (model prog w) A (pyIter (.ref d)) (fun it s₂ => LoopAtV prog w A h₀ env x body Q E it s₂) E s := by
  refine iter_dict (fun i m₁ nw => ∃ σ, (∀ z, m₁ z = mk m σ m₁ z) ∧ J i σ nw) hh F N hm lo hd ⟨σ₀, hm0, h0⟩ ?_ ?_
  · rintro i k v t m₁ news₁ h tk I oI hv ⟨σ, hmk, hJ⟩ lt ne hl F₁ N₁
    have e : (fun y => if y = x then some (Value.str k t) else m₁ y) = fun y => if y = x then some (Value.str k t) else mk m σ m₁ y := by
      funext y; by_cases hy : y = x
      · simp [hy]
      · simp only [if_neg hy]; exact hmk y
    rw [e] at F₁
    exact turn i k v t σ m₁ news₁ h tk I oI hv hJ lt ne hl F₁ N₁
  · rintro h' tk m' news' F' N' ⟨σ, hmk, hJ⟩
    have e : m' = mk m σ m' := funext hmk
    rw [e] at F'
    exact done h' tk σ m' news' F' N' hJ
theorem loop_ledT {target : Expr} {I l : Addr} {ol : Obj} {n : Nat} {P : Nat → Value → Prop} {St : Nat → Heap → Prop} (W : Walks prog w A I [I, l] [I] n P St) (hIL : I ≠ env.locals) (hI0 : h₀.get? I = none) (live : ∀ i h, St i h → ∃ o, h.get? I = some o)
    (hgo : ∀ i (s' : Shared) v (Q' : Unit → Shared → Prop), St i s'.heap → Q' () s' → wpAny (model prog w) A (letOwnedTupleGo target (.ref I) v) Q' E s')
    (hst : St 0 s.heap) (F : Fr h₀ env.locals s.heap m) (N : News h₀ env.locals s.heap ((l, ol) :: news)) (hlI : l ≠ I) (hnI : ∀ p ∈ news, p.1 ≠ I) (J : Nat → (Str → Option Value) → List (Addr × Obj) → Prop) (h0 : J 0 m news)
    (turn : ∀ i v m₁ news₁ (s₁ : Shared) oI, P i v → J i m₁ news₁ → (∀ p ∈ news₁, p.1 ≠ I) → Fr h₀ env.locals s₁.heap m₁ → News h₀ env.locals s₁.heap ((I, oI) :: (l, ol) :: news₁) →
      wpAny (model prog w) A (assign target env v) (fun _ s₃ => wpAny (model prog w) A (execs body env) (fun f s₂ => f = .next ∧ TurnEnd h₀ env.locals I oI l ol (J (i + 1)) s₁ s₂) E s₃) E s₁)
    (done : ∀ h' tk m' news', Fr h₀ env.locals h' m' → News h₀ env.locals h' ((l, ol) :: news') → J n m' news' → Q .next { s with heap := h', toks := tk }) :
    LoopAtT prog w A h₀ env target body Q E (.ref I) s := by
  have hl := N (l, ol) (.head _)
  refine ⟨I, [I, l], [I], n, P, St, m, (l, ol) :: news, fun i m' nw => ∃ nw', nw = (l, ol) :: nw' ∧ (∀ p ∈ nw', p.1 ≠ I) ∧ J i m' nw', rfl, W, ?_, ?_, ?_, hst, F, N, hgo, ⟨news, rfl, hnI, h0⟩, ?_, ?_⟩
  · intro hm
    rcases List.mem_cons.mp hm with e | hm
    · exact hIL e.symm
    · exact hl.2.1 (List.mem_singleton.mp hm).symm
  · intro b hb; rw [List.mem_singleton.mp hb]; exact hI0
  · intro p hp hI
    have hI := List.mem_singleton.mp hI
    rcases List.mem_cons.mp hp with rfl | hp
    · exact hlI hI
    · exact hnI p hp hI
  · rintro i v m₁ nw s₁ own hi hP ⟨nw', rfl, hn', hJ⟩ hoff hsub hget hall hst₁ F₁ N₁
    obtain ⟨oI, hoI⟩ := live _ _ hst₁
    have hl1 := N₁ (l, ol) (List.mem_append_right _ (.head _))
    have N₂ : News h₀ env.locals s₁.heap ((I, oI) :: (l, ol) :: nw') := by
      intro p hp
      rcases List.mem_cons.mp hp with rfl | hp
      · exact ⟨hoI, hIL, hI0⟩
      · exact N₁ p (List.mem_append_right _ hp)
    have eI : ∀ p ∈ own, p.1 = I → p = (I, oI) := by
      intro p hp e
      have e1 := hget p hp
      have e2 := hoI
      rw [← e] at e2
      have e3 : some p.2 = some oI := e1.symm.trans e2
      cases e3
      rw [← e]
    have el : ∀ p ∈ own, p.1 = l → p = (l, ol) := by
      intro p hp e
      have e1 := hget p hp
      have e2 := hl1.1
      simp only at e2
      rw [← e] at e2
      have e3 : some p.2 = some ol := e1.symm.trans e2
      cases e3
      rw [← e]
    refine wpAny_mono (turn i v m₁ nw' s₁ oI hP hJ hn' F₁ N₂) (fun _ s₃ h₃ => wpAny_mono h₃ (fun f s₂ hf => ?_) fun _ _ e => e) fun _ _ e => e
    obtain ⟨rfl, h', tk', m', news', e, F', N', hnI', hJ'⟩ := hf
    refine ⟨rfl, h', tk', m', (l, ol) :: news', e, F', ?_, ?_, news', rfl, hnI', hJ'⟩
    · intro p hp
      rcases List.mem_append.mp hp with hp | hp
      · rcases List.mem_cons.mp (hsub p hp) with e | e
        · rw [eI p hp e]; exact N' _ (.head _)
        · rw [el p hp (List.mem_singleton.mp e)]; exact N' _ (.tail _ (.head _))
      · exact N' p (.tail _ hp)
    · intro p hp hI
      have hI := List.mem_singleton.mp hI
      rcases List.mem_cons.mp hp with rfl | hp
      · exact hlI hI
      · exact hnI' p hp hI
  · rintro h' tk m' nw F' N' _ ⟨nw', rfl, _, hJ⟩
    exact done h' tk m' nw' F' N' hJ
theorem iter_ledT {σ : Type} {target : Expr} {l : Addr} {vs : List Value} {n : Nat} (mk : (Str → Option Value) → σ → (Str → Option Value) → Str → Option Value) (J : Nat → σ → List (Addr × Obj) → Prop) (σ₀ : σ) (hh : A.handled = none) (F : Fr h₀ env.locals s.heap m) (N : News h₀ env.locals s.heap news) (hm : (l, W.listOf vs.toArray n) ∈ news)
    (hm0 : ∀ z, m z = mk m σ₀ m z) (h0 : J 0 σ₀ news)
    (turn : ∀ i v σ u news₁ (s₁ : Shared) I oI, vs[i]? = some v → J i σ news₁ → (∀ p ∈ news, p.1 < I) → (∀ p ∈ news₁, p.1 ≠ I) → l ≠ I → Fr h₀ env.locals s₁.heap (mk m σ u) → News h₀ env.locals s₁.heap ((I, oI) :: (l, W.listOf vs.toArray n) :: news₁) →
      wpAny (model prog w) A (assign target env v) (fun _ s₃ => wpAny (model prog w) A (execs body env) (fun f s₂ => f = .next ∧ TurnEnd h₀ env.locals I oI l (W.listOf vs.toArray n) (fun m' nw => ∃ σ', (∀ z, m' z = mk m σ' m' z) ∧ J (i + 1) σ' nw) s₁ s₂) E s₃) E s₁)
    (done : ∀ h' tk σ u news', Fr h₀ env.locals h' (mk m σ u) → News h₀ env.locals h' ((l, W.listOf vs.toArray n) :: news') → J vs.length σ news' → Q .next { s with heap := h', toks := tk }) :
    wpAny (model prog w) A (pyIter (.ref l)) (fun it s₂ => LoopAtT prog w A h₀ env target body Q E it s₂) E s := by
  have hlo := N _ hm
  have hls : s.heap.IsList l vs.toArray := ⟨_, hlo.1, rfl, n, rfl⟩
  have hne : l ≠ s.heap.objs.size := Nat.ne_of_lt (Heap.lt_size hlo.1)
  refine wpAny_pyIter_list hls ?_
  have Wk := Walks.list (prog := prog) (w := w) hh s.heap.objs.size l hne vs.toArray
  have hlen : vs.toArray.size = vs.length := by simp
  rw [hlen] at Wk
  have lt : ∀ p ∈ news, p.1 < s.heap.objs.size := fun p hp => Heap.lt_size (N p hp).1
  refine loop_ledT Wk (Nat.ne_of_gt F.ns.lt) (next_is_new F) (fun i h st => ?_) (fun i s' v Q' st hQ' => letGo_listiter st.1 hQ') ⟨⟨_, Heap.get?_push_size _ rfl, rfl, rfl⟩, hls.at fun o e => Heap.get?_push_of_some _ e⟩ (F.push _) (ol := W.listOf vs.toArray n) (news := news) ?_ hne (fun p hp => Nat.ne_of_lt (lt p hp))
    (fun i m₁ nw => ∃ σ, (∀ z, m₁ z = mk m σ m₁ z) ∧ J i σ nw) ⟨σ₀, hm0, h0⟩ ?_ ?_
  · obtain ⟨⟨o, ho, _⟩, _⟩ := st; exact ⟨o, ho⟩
  · intro p hp
    rcases List.mem_cons.mp hp with rfl | hp
    · exact ⟨Heap.get?_push_of_some _ hlo.1, hlo.2⟩
    · exact ⟨Heap.get?_push_of_some _ (N p hp).1, (N p hp).2⟩
  · rintro i v m₁ news₁ s₁ oI hP ⟨σ, hmk, hJ⟩ hn F₁ N₁
    have e : m₁ = mk m σ m₁ := funext hmk
    rw [e] at F₁
    exact turn i v σ m₁ news₁ s₁ _ oI (by simpa using hP) hJ lt hn hne F₁ N₁
  · rintro h' tk m' news' F' N' ⟨σ, hmk, hJ⟩
    have e : m' = mk m σ m' := funext hmk
    rw [e] at F'
    exact done h' tk σ m' news' F' N' hJ
end
end Mine

/- W1 -/
namespace Mine
set_option maxHeartbeats 1000000
set_option pp.deepTerms false
set_option pp.deepTerms.threshold 8
set_option linter.unusedVariables false
local macro_rules | `(tactic| walk_at "pad") => `(tactic| skip)
local macro_rules | `(tactic| walk_at "pad") => `(tactic| skip)
local macro_rules | `(tactic| walk_at "pad") => `(tactic| skip)
local macro_rules | `(tactic| walk_at "pad") => `(tactic| skip)
local macro_rules | `(tactic| walk_at "pad") => `(tactic| skip)
local macro_rules | `(tactic| walk_at "pad") => `(tactic| skip)
local macro_rules | `(tactic| walk_at "pad") => `(tactic| skip)
local macro_rules | `(tactic| walk_at "pad") => `(tactic| skip)
local macro_rules | `(tactic| walk_at "pad") => `(tactic| skip)
local macro_rules | `(tactic| walk_at "pad") => `(tactic| skip)
theorem fresh_W1 : True := by
  w_top off
  trivial
local macro_rules | `(tactic| walk_at "my steps") => `(tactic| repeat' (first | (k_unfold; (try dsimp only)) | (k_end; wrow_close) | ((try dsimp only); walk1) | (leave1; walk_say "STEP leave1"; try dsimp only) | fail "no step"))
local macro_rules | `(tactic| walk_at "my lt") => `(tactic| first | exact lt_nil | (refine lt_cons ?_ ?_; (first | assumption | (refine allLt_mem ?_; first | assumption | exact And.right (by assumption) | exact And.right (And.right (by assumption)) | exact And.right (And.right (And.right (by assumption))))); walk_at "my lt"))
local macro_rules | `(tactic| walk_at "exec For") => `(tactic| ((rename Fr _ _ _ _ => lF'); (with_unfolding_all refine' For_invVF lF' ?k1 ?k2 ?_; (case k1 => exact rfl); (case k2 => exact rfl))))
local macro_rules | `(tactic| walk_at "TurnPost") => `(tactic| dsimp only [TurnPost])
/-- texts as values -/
inductive StrsAre : List Value → List Str → Prop
  | nil : StrsAre [] []
  | cons {x : Str} {t : Tok} {vs : List Value} {xs : List Str} : StrsAre vs xs → StrsAre (.str x t :: vs) (x :: xs)
theorem StrsAre.length {vs : List Value} {xs : List Str} (h : StrsAre vs xs) : vs.length = xs.length := by induction h <;> simp_all
theorem StrsAre.get {vs : List Value} {xs : List Str} (h : StrsAre vs xs) : ∀ (i : Nat) (v : Value), vs[i]? = some v → ∃ x t, xs[i]? = some x ∧ v = .str x t := by
  induction h with
  | nil => intro i v e; simp at e
  | cons h ih =>
    intro i v e
    cases i with
    | zero => simp at e; exact ⟨_, _, rfl, e.symm⟩
    | succ i => simpa using ih i v (by simpa using e)
def kvOf (vd : List (Str × Bool)) : List (Str × Value) := vd.map fun p => (p.1, .bool p.2)
def look (vd : List (Str × Bool)) (x : Str) : Option Bool := (vd.find? fun p => p.1 = x).map (·.2)
theorem valueAt_kv (vd : List (Str × Bool)) (x : Str) : valueAt (kvOf vd) x = (look vd x).map Value.bool := by
  unfold valueAt kvOf look
  induction vd with
  | nil => rfl
  | cons p r ih =>
    simp only [List.map_cons, List.find?_cons]
    by_cases h : p.1 = x
    · simp [h]
    · simp [h]; simpa using ih
structure VerdIn (w : World) (led : Led) (d : Addr) (vd : List (Str × Bool)) : Prop where
  lo : (d == sysModules) = false
  obj : ∃ o, (d, o) ∈ led ∧ o.IsDictOf (PySem.strKind Row.prog w) (kvOf vd)
theorem VerdIn.mono {w : World} {led led' : Led} {d : Addr} {vd : List (Str × Bool)} (h : VerdIn w led d vd) (hs : ∀ p ∈ led, p ∈ led') : VerdIn w led' d vd :=
  ⟨h.lo, let ⟨o, a, b⟩ := h.obj; ⟨o, hs _ a, b⟩⟩
section
variable {w : World} {A : Around} {E : Value → Shared → Prop} {s : Shared} {h₀ : Heap} {L d : Addr} {m : Str → Option Value} {news led : Led} {vd : List (Str × Bool)}
theorem in_verd {x : Str} {t : Tok} {Q : Value → Shared → Prop} (N : News h₀ L s.heap news) (V : VerdIn w led d vd) (hs : ∀ p ∈ led, p ∈ news) (h : Q (.bool (look vd x).isSome) { s with toks := s.toks + 1 }) :
    wpAny (model Row.prog w) A (compareOp .In (.str x t) (.ref d)) Q E s := by
  obtain ⟨o, hm, hd⟩ := V.obj
  refine wpAny_in_of (strKind_is Row.prog w x t) V.lo (Heap.DictOf.mapOf (Heap.dictOf_iff.mpr ⟨o, (N _ (hs _ hm)).1, hd⟩)) ?_
  rw [valueAt_kv, Option.isSome_map]
  exact h
theorem item_verd {value slice : Expr} {x : Str} {t : Tok} {b : Bool} {Q : Value → Shared → Prop} (N : News h₀ L s.heap news) (V : VerdIn w led d vd) (hs : ∀ p ∈ led, p ∈ news) (hb : look vd x = some b) (h : Q (.bool b) { s with toks := s.toks + 1 })
    (hsl : subscripted slice false (.ref d) (.str x t) = operate [.ref d, .str x t] (getItem (.ref d) (.str x t)) := by with_unfolding_all rfl) (hg : ∀ r, letTemporaryGo value (.ref d) r = pure () := by intro _; with_unfolding_all rfl) :
    wpAny (model Row.prog w) A (subscriptTail value slice (.ref d) (.str x t)) Q E s := by
  obtain ⟨o, hm, hd⟩ := V.obj
  have hD := Heap.dictOf_iff.mpr ⟨o, (N _ (hs _ hm)).1, hd⟩
  exact subscriptTail_builtin hD.typeIs slot_dict_getitem.lookup (wpAny_getItem_of (strKind_is Row.prog w x t) hD.mapOf (by rw [valueAt_kv, hb]; rfl) h) hsl hg
end
def closestF (xs : List Str) (vd : List (Str × Bool)) : Bool := match xs with
  | [] => true
  | x :: r => match look vd x with
    | some b => b
    | none => closestF r vd
local macro_rules | `(tactic| walk_at "compareOp In str ref") => `(tactic| (refine' in_verd ?N ?V ?S ?_; (case N => k_asm); (case V => assumption); (case S => kcj_all)))
local macro_rules | `(tactic| walk_at "subscriptTail") => `(tactic| ((with_reducible show wpAny _ _ (subscriptTail _ _ (Value.ref _) (Value.str _ _)) _ _ _); k_dflt (refine' item_verd ?N ?V ?S ?hb ?_ ?h1 ?h2); (case N => k_asm); (case V => assumption); (case S => kcj_all); (case hb => assumption); (case h1 => with_unfolding_all rfl); (case h2 => (intro _; with_unfolding_all rfl))))
theorem closestF_none : ∀ (xs : List Str) (vd : List (Str × Bool)), (∀ y ∈ xs, look vd y = none) → closestF xs vd = true
  | [], _, _ => rfl
  | x :: r, vd, h => by
    unfold closestF
    rw [h x (.head _)]
    exact closestF_none r vd fun y hy => h y (.tail _ hy)
theorem closestF_at : ∀ (xs : List Str) (vd : List (Str × Bool)) (i : Nat) (x : Str) (b : Bool), xs[i]? = some x → (∀ y ∈ xs.take i, look vd y = none) → look vd x = some b → closestF xs vd = b
  | [], _, _, _, _, h, _, _ => by simp at h
  | y :: r, vd, 0, x, b, h, _, hb => by
    simp at h; subst h
    unfold closestF; rw [hb]
  | y :: r, vd, i + 1, x, b, h, hn, hb => by
    unfold closestF
    rw [hn y (by simp)]
    exact closestF_at r vd i x b (by simpa using h) (fun z hz => hn z (by simp [hz])) hb
theorem closest_spec (w : World) (l d : Addr) (vs : List Value) (xs : List Str) (n : Nat) (hv : StrsAre vs xs) (vd : List (Str × Bool)) : SpecV w 3 146 [.ref l, .ref d] (fun led => (l, W.listOf vs.toArray n) ∈ led ∧ VerdIn w led d vd) (fun _ => .bool (closestF xs vd)) := by
  intro p loose mean mg mb dp un gd cn cs a ccd cl outer A₀ base h₀ L m news s Q E B F X N T hk hpre hd hu hret
  obtain ⟨hl, hV⟩ := hpre
  refine wpAny_call ?_
  k_dflt ktr_enter
  walk_at "my steps"
  refine' iter_ledS (σ := Unit) (fun m₀ _ u z => if z = Str.ofString "place" then u z else m₀ z) (fun i _ nw => nw = news ∧ ∀ y ∈ xs.take i, look vd y = none) () rfl ?F ?N hl ?hm0 ⟨rfl, by simp⟩ ?turn ?done
  case F => k_asm
  case N => k_asm
  case hm0 => intro z; split <;> rfl
  case turn =>
    rintro i v σ u news₁ h tk I oI hvi ⟨rfl, hJ⟩ lt ne hlI F₁ N₁
    obtain ⟨x, t, hxi, rfl⟩ := hv.get i v hvi
    cases hlk : look vd x with
    | none =>
      have hsn : (look vd x).isSome = false := by rw [hlk]; rfl
      walk_at "my steps"
      refine ⟨_, _, _, _, rfl, by k_asm, by k_asm, ne, (), ?_, rfl, ?_⟩
      · intro z; by_cases hz : z = Str.ofString "place" <;> simp [hz]
      · intro y hy
        rw [List.take_add_one, hxi] at hy
        rcases List.mem_append.mp hy with hy | hy
        · exact hJ y hy
        · simp at hy; rw [hy]; exact hlk
    | some b =>
      have hsn : (look vd x).isSome = true := by rw [hlk]; rfl
      walk_at "my steps"
      refine cb_retB (Q := Q) hret (closestF_at xs vd i x b hxi hJ hlk).symm (by k_asm) (by refine' cb_drop ?cbN ?cbS; (case cbN => assumption); (case cbS => kcj_all))
  case done =>
    rintro h' tk σ u news' F₁ N₁ ⟨rfl, hJ⟩
    walk_at "my steps"
    rw [hv.length, List.take_length] at hJ
    exact cb_retB (Q := Q) hret (closestF_none xs vd hJ).symm (by k_asm) (by refine' cb_drop ?cbN ?cbS; (case cbN => assumption); (case cbS => kcj_all))
end Mine

/- Fn1 -/
namespace Mine
set_option maxHeartbeats 1000000
open PySem.Builtin PySem.Builtin.ObjectAttr
theorem fn_mro : mroOf (.type "function") = pure [.type "function", .type "object"] := by rw [mroOf_type]; kernel_rfl
theorem fn_slot_set : Slot "function" "__setattr__" "object.__setattr__" :=
  .of (owner := "object") (n := "__setattr__") (by rw [typeLookup_type, builtinLookup_eq_fast]; kernel_rfl) (by decide +kernel) (by decide +kernel) (by decide +kernel)
    (by first | exact .inl (by decide +kernel) | exact .inr (by decide +kernel)) (by rw [isSubtype_type]; kernel_rfl)
theorem fn_entry_set : entryFor table "object.__setattr__" = some Builtin.«object.__setattr__» := entryFor_of_tree (by kernel_rfl)
theorem fn_args_set (a b c : Value) : argsOk "object.__setattr__" ⟨[a, b, c], []⟩ := by unfold argsOk; kernel_rfl
theorem fn_passes (self : Value) : refuseLoop self "__setattr__" [.type "function", .type "object"] = pure () := by kernel_rfl
theorem fn_no_ap : typeLookup (.type "function") "applies_to" = pure none := by rw [typeLookup_type, builtinLookup_eq_fast]; kernel_rfl
theorem fn_no_al : typeLookup (.type "function") "allowance" = pure none := by rw [typeLookup_type, builtinLookup_eq_fast]; kernel_rfl
theorem fn_hasDict : typeHasDict (.type "function") = true := by kernel_rfl
theorem fn_ga : typeLookup (.type "function") "__getattribute__" = pure (some (.builtin "object.__getattribute__")) := by rw [typeLookup_type, builtinLookup_eq_fast]; kernel_rfl
theorem fn_fin : finalisedInACycleAlone "function" = false := by decide +kernel
section
variable {prog : Program} {w : World} {A : Around} {E : Value → Shared → Prop} {s : Shared}
theorem fn_store {f : Addr} {fd : FuncData} {sl : Array (Option Value)} {name : Str} {tk : Tok} {v : Value} {od : Option Addr} {Q : PySem.Fin → Shared → Prop} (ho : s.heap.get? f = some ⟨.type "function", od, .func fd, sl⟩) (hn : typeLookup (.type "function") name = pure none)
   (h : wpAny (model prog w) A (do match ← instanceDict f true with | some d => storeInDict d (.str name tk) name v | none => noDictFor (.ref f) (.type "function") name false) Q E s) :
    wpAny (model prog w) A (Builtin.«object.__setattr__» ⟨[.ref f, .str name tk, v], []⟩) Q E s := by
  have hT : s.TypeIs (.ref f) "function" := ⟨_, ho, rfl⟩
  unfold Builtin.«object.__setattr__»
  dsimp only
  rw [refuse_eq, if_neg (by decide)]
  refine wpAny_bind (wpAny_bind (wpAny_typeOf hT (wpAny_bind (wpAny_of_eq fn_mro ?_))))
  rw [fn_passes]
  refine wpAny_pure ?_
  refine wpAny_bind (wpAny_of_eq (show attrName (.str name tk) = pure name from rfl) ?_)
  refine wpAny_bind (wpAny_typeOf hT ?_)
  refine wpAny_bind (wpAny_of_eq hn ?_)
  refine wpAny_bind (wpAny_of_eq (show storeTaker? none = pure none from rfl) ?_)
  dsimp only
  unfold storeInOwnDict
  refine wpAny_bind (wpAny_of_eq (show ownStreamTells (.ref f) (.type "function") = pure () from rfl) ?_)
  rw [if_neg (by decide)]
  exact h
/-- a namespace as an object -/
def NsObj (o : Obj) (m : Str → Option Value) : Prop := ∃ es ep, o.data = .dict es ep ∧ StrKeys es ∧ UniqKeys es ∧ ∀ name, nsFind es name = m name
abbrev fnO (fd : FuncData) (sl : Array (Option Value)) (od : Option Addr) : Obj := ⟨.type "function", od, .func fd, sl⟩
theorem fn_set_new {f : Addr} {fd : FuncData} {sl : Array (Option Value)} {name : Str} {v : Value} {Q : Unit → Shared → Prop} (ho : s.heap.get? f = some (fnO fd sl none)) (hn : typeLookup (.type "function") name = pure none)
    (h : ∀ D oD h' tk', D = s.heap.objs.size → (∀ b o, b ≠ f → s.heap.get? b = some o → h'.get? b = some o) → h'.get? f = some (fnO fd sl (some D)) → h'.get? D = some oD → NsObj oD (fun y => if y = name then some v else none) → Q () { s with heap := h', toks := tk' }) :
    wpAny (model prog w) A (setAttr (.ref f) name v) Q E s := by
  unfold setAttr
  refine wpAny_bind (wpAny_bind (wpAny_fresh (wpAny_pure ?_)))
  refine wpAny_bind (wpAny_callSpecial?_slot (s := { s with toks := s.toks + 1 }) (T := "function") ⟨_, ho, rfl⟩ fn_slot_set (wpAny_call_entry (s := { s with toks := s.toks + 1 }) fn_slot_set ⟨_, ho, rfl⟩ fn_entry_set (fn_store (s := { s with toks := s.toks + 1 }) ho hn ?_) (fn_args_set _ _ _)))
  refine wpAny_bind ?_
  unfold instanceDict
  refine wpAny_bind (wpAny_loadPart (s := { s with toks := s.toks + 1 }) ho ?_)
  dsimp only
  rw [if_neg (by rw [fn_hasDict]; decide)]
  have hfs : f ≠ s.heap.objs.size := Nat.ne_of_lt (Heap.lt_size ho)
  have ho1 : (s.heap.push { cls := .type "dict", data := .dict #[] }).get? f = some (fnO fd sl none) := Heap.get?_push_of_some _ ho
  refine wpAny_bind (wpAny_alloc ?_)
  refine wpAny_bind (wpAny_update (s := { s with heap := s.heap.push { cls := .type "dict", data := .dict #[] }, toks := s.toks + 1 }) ho1 ?_)
  refine wpAny_of_eq (show dictMade (.type "function") f s.heap.objs.size = pure (some s.heap.objs.size) from by unfold dictMade; simp only [fn_fin]; rfl) ?_
  dsimp only
  have hgd : ((s.heap.push { cls := .type "dict", data := .dict #[] }).update f fun o => { cls := o.cls, dict := some s.heap.objs.size, data := o.data, slots := o.slots }).get? s.heap.objs.size = some { cls := .type "dict", data := .dict #[] } :=
    (Heap.get?_update_ne _ _ _ _ hfs.symm).trans (Heap.get?_push_at rfl rfl)
  have hnd : ((s.heap.push { cls := .type "dict", data := .dict #[] }).update f fun o => { cls := o.cls, dict := some s.heap.objs.size, data := o.data, slots := o.slots }).Ns s.heap.objs.size (fun _ => none) :=
    ⟨_, #[], _, hgd, rfl, fun e he => absurd he (by simp), fun _ => rfl⟩
  unfold storeInDict newKeyGuard
  refine wpAny_bind (wpAny_pure (wpAny_bind (wpAny_nsSet1 (Heap.Ns1.of_empty hnd) fun h' hn' hs => ?_)))
  obtain ⟨oD, esD, epD, hoD, hdD, hcD⟩ := hn'.count (ns := [name]) (fun y hy => by by_cases e : y = name <;> simp_all)
  refine wpAny_bind (wpAny_lookBehind hoD (by rw [hdD]; exact pastItsLine_dict (Nat.le_trans hcD (by rw [List.length_cons, List.length_nil, sizeLine_eq]; omega))) ?_)
  refine wpAny_pure ⟨_, rfl, wpAny_pure ?_⟩
  refine h s.heap.objs.size oD h' _ rfl (fun b o hb e => ?_) ?_ hoD ?_
  · exact (hs.2 b (Nat.ne_of_lt (Heap.lt_size e))).trans ((Heap.get?_update_ne _ _ _ _ hb).trans (Heap.get?_push_of_some _ e))
  · exact (hs.2 f hfs).trans (Heap.get?_update_self _ ho1 rfl)
  · obtain ⟨o', es, ep, e1, e2, e3, eu, e4⟩ := hn'
    rw [hoD] at e1; cases e1
    exact ⟨es, ep, e2, e3, eu, e4⟩
theorem NsObj.ns1 {h : Heap} {a : Addr} {o : Obj} {m : Str → Option Value} (N : NsObj o m) (e : h.get? a = some o) : h.Ns1 a m :=
  let ⟨es, ep, h1, h2, h3, h4⟩ := N; ⟨o, es, ep, e, h1, h2, h3, h4⟩
theorem fn_set_old {f D : Addr} {fd : FuncData} {sl : Array (Option Value)} {oD : Obj} {m : Str → Option Value} {name : Str} {v : Value} {ns : List Str} {Q : Unit → Shared → Prop} (ho : s.heap.get? f = some (fnO fd sl (some D))) (hD : s.heap.get? D = some oD) (hN : NsObj oD m) (hw : Within m ns) (hl : ns.length ≤ 100) (hn : typeLookup (.type "function") name = pure none)
    (h : ∀ oD' h' tk', Heap.SameBut D s.heap h' → h'.get? D = some oD' → NsObj oD' (fun y => if y = name then some v else m y) → Q () { s with heap := h', toks := tk' }) :
    wpAny (model prog w) A (setAttr (.ref f) name v) Q E s := by
  unfold setAttr
  refine wpAny_bind (wpAny_bind (wpAny_fresh (wpAny_pure ?_)))
  refine wpAny_bind (wpAny_callSpecial?_slot (s := { s with toks := s.toks + 1 }) (T := "function") ⟨_, ho, rfl⟩ fn_slot_set (wpAny_call_entry (s := { s with toks := s.toks + 1 }) fn_slot_set ⟨_, ho, rfl⟩ fn_entry_set (fn_store (s := { s with toks := s.toks + 1 }) ho hn ?_) (fn_args_set _ _ _)))
  refine wpAny_bind ?_
  unfold instanceDict
  refine wpAny_bind (wpAny_loadPart (s := { s with toks := s.toks + 1 }) ho ?_)
  dsimp only
  refine wpAny_pure ?_
  unfold storeInDict newKeyGuard
  refine wpAny_bind (wpAny_pure (wpAny_bind (wpAny_nsSet1 (hN.ns1 hD) fun h' hn' hs => ?_)))
  obtain ⟨oD', esD, epD, hoD, hdD, hcD⟩ := hn'.count (ns := name :: ns) (fun y hy => by
    by_cases e : y = name
    · simp [e]
    · simp only [if_neg e] at hy; exact List.mem_cons_of_mem _ (hw y hy))
  refine wpAny_bind (wpAny_lookBehind hoD (by rw [hdD]; exact pastItsLine_dict (Nat.le_trans hcD (by rw [List.length_cons, sizeLine_eq]; omega))) ?_)
  refine wpAny_pure ⟨_, rfl, wpAny_pure ?_⟩
  refine h oD' h' _ hs hoD ?_
  obtain ⟨o', es, ep, e1, e2, e3, eu, e4⟩ := hn'
  rw [hoD] at e1; cases e1
  exact ⟨es, ep, e2, e3, eu, e4⟩
theorem fn_noga : typeLookup (.type "function") "__getattr__" = pure none := by rw [typeLookup_type, builtinLookup_eq_fast]; kernel_rfl
theorem fn_slot_get : Slot "function" "__getattribute__" "object.__getattribute__" :=
  .of (owner := "object") (n := "__getattribute__") (by rw [typeLookup_type, builtinLookup_eq_fast]; kernel_rfl) (by decide +kernel) (by decide +kernel) (by decide +kernel)
    (by first | exact .inl (by decide +kernel) | exact .inr (by decide +kernel)) (by rw [isSubtype_type]; kernel_rfl)
theorem fn_entry_get : entryFor table "object.__getattribute__" = some Builtin.«object.__getattribute__» := entryFor_of_tree (by kernel_rfl)
theorem fn_args_get (a b : Value) : argsOk "object.__getattribute__" ⟨[a, b], []⟩ := by unfold argsOk; kernel_rfl
theorem fn_get {f D : Addr} {fd : FuncData} {sl : Array (Option Value)} {oD : Obj} {m : Str → Option Value} {name : Str} {v : Value} {e : Bool} {Q : Value → Shared → Prop} (ho : s.heap.get? f = some (fnO fd sl (some D))) (hD : s.heap.get? D = some oD) (hN : NsObj oD m) (hv : m name = some v) (hn : typeLookup (.type "function") name = pure none)
    (hh : handedOut v = pure v) (h : Q v { s with toks := s.toks + 1 }) : wpAny (model prog w) A (getAttr (.ref f) name e) Q E s := by
  unfold getAttr
  refine wpAny_bind (wpAny_bind (wpAny_fresh (wpAny_pure ?_)))
  unfold getAttrBy
  refine wpAny_holding ?_
  have hT : ({ s with toks := s.toks + 1 } : Shared).TypeIs (.ref f) "function" := ⟨_, ho, rfl⟩
  refine wpAny_bind (wpAny_typeOf hT (wpAny_bind (wpAny_of_eq fn_ga ?_)))
  dsimp only
  rw [if_neg (by decide)]
  unfold getAttrByItsOwn
  refine wpAny_bind (wpAny_of_eq (show hookBefore (.type "function") = pure none from rfl) ?_)
  refine wpAny_bind (wpAny_attempt (wpAny_holding ?_))
  unfold callGetattribute
  rw [if_neg (by cases e <;> decide)]
  unfold boundAndCalled
  rw [fn_slot_get.bind]
  refine wpAny_bind (wpAny_pure ?_)
  refine wpAny_call_entry (rest := [.str name s.toks]) fn_slot_get hT fn_entry_get ?_ (fn_args_get _ _)
  unfold Builtin.«object.__getattribute__»
  refine wpAny_bind (wpAny_of_eq (show slotArgs "__getattribute__" 1 ⟨[.ref f, .str name s.toks], []⟩ = pure (.ref f, [.str name s.toks]) from rfl) ?_)
  dsimp only
  refine wpAny_bind (wpAny_of_eq (show attrName (.str name s.toks) = pure name from rfl) ?_)
  refine wpAny_bind (wpAny_typeOf hT ?_)
  refine wpAny_bind ?_
  unfold find
  refine wpAny_bind (wpAny_of_eq hn ?_)
  refine wpAny_bind (wpAny_of_eq (show getOf none = pure none from rfl) ?_)
  refine wpAny_bind (wpAny_of_eq (show dataDescriptor? none none = pure none from rfl) ?_)
  dsimp only
  unfold ownThenClass inOwnDict ObjectAttr.ownDict loadHead
  refine wpAny_bind (wpAny_bind (wpAny_bind (wpAny_loadPart (s := { s with toks := s.toks + 1 }) ho ?_)))
  dsimp only
  unfold instanceDict
  refine wpAny_bind (wpAny_loadPart (s := { s with toks := s.toks + 1 }) ho ?_)
  dsimp only
  refine wpAny_pure ?_
  unfold inDict
  refine wpAny_nsGet (s := { s with toks := s.toks + 1 }) (hN.ns1 hD).ns ?_
  rw [hv]
  dsimp only
  refine wpAny_bind (wpAny_rule (wpAny_pure ?_))
  dsimp only
  refine wpAny_pure ⟨v, rfl, ?_⟩
  rw [hh]
  exact wpAny_pure h
theorem fn_method {f D : Addr} {fd : FuncData} {sl : Array (Option Value)} {oD : Obj} {m : Str → Option Value} {name : Str} {v : Value} {pl : Sem Bool} {Q : Value × List Value → Shared → Prop} (ho : s.heap.get? f = some (fnO fd sl (some D))) (hD : s.heap.get? D = some oD) (hN : NsObj oD m) (hv : m name = some v) (hn : typeLookup (.type "function") name = pure none)
    (hh : handedOut v = pure v) (h : Q (v, []) { s with toks := s.toks + 1 }) : wpAny (model prog w) A (getMethod (.ref f) name pl) Q E s := by
  have hT : s.TypeIs (.ref f) "function" := ⟨_, ho, rfl⟩
  unfold getMethod
  refine wpAny_bind (wpAny_specialOf hT fn_ga ?_)
  dsimp only
  rw [if_neg (by decide +kernel)]
  refine wpAny_bind (wpAny_specialOf hT fn_noga ?_)
  rw [if_neg (by decide)]
  refine wpAny_bind (wpAny_specialOf hT hn ?_)
  dsimp only
  exact wpAny_bind (fn_get ho hD hN hv hn hh (wpAny_pure h))
end
end Mine

/- R1 -/
namespace Mine
set_option maxHeartbeats 1000000
set_option pp.deepTerms false
set_option pp.deepTerms.threshold 8
set_option linter.unusedVariables false
local macro_rules | `(tactic| walk_at "pad") => `(tactic| skip)
local macro_rules | `(tactic| walk_at "pad") => `(tactic| skip)
local macro_rules | `(tactic| walk_at "pad") => `(tactic| skip)
local macro_rules | `(tactic| walk_at "pad") => `(tactic| skip)
local macro_rules | `(tactic| walk_at "pad") => `(tactic| skip)
local macro_rules | `(tactic| walk_at "pad") => `(tactic| skip)
local macro_rules | `(tactic| walk_at "pad") => `(tactic| skip)
local macro_rules | `(tactic| walk_at "pad") => `(tactic| skip)
local macro_rules | `(tactic| walk_at "pad") => `(tactic| skip)
local macro_rules | `(tactic| walk_at "pad") => `(tactic| skip)
local macro_rules | `(tactic| walk_at "pad") => `(tactic| skip)
local macro_rules | `(tactic| walk_at "pad") => `(tactic| skip)
local macro_rules | `(tactic| walk_at "pad") => `(tactic| skip)
local macro_rules | `(tactic| walk_at "pad") => `(tactic| skip)
local macro_rules | `(tactic| walk_at "pad") => `(tactic| skip)
local macro_rules | `(tactic| walk_at "pad") => `(tactic| skip)
local macro_rules | `(tactic| walk_at "pad") => `(tactic| skip)
theorem fresh_R1 : True := by
  w_top off
  trivial
local macro_rules | `(tactic| walk_at "my steps") => `(tactic| repeat' (first | (k_unfold; (try dsimp only)) | (k_end; wrow_close) | ((try dsimp only); walk1) | (leave1; walk_say "STEP leave1"; try dsimp only) | fail "no step"))
local macro_rules | `(tactic| walk_at "my lt") => `(tactic| first | exact lt_nil | (refine lt_cons ?_ ?_; (first | assumption | (refine allLt_mem ?_; first | assumption | exact And.right (by assumption) | exact And.right (And.right (by assumption)) | exact And.right (And.right (And.right (by assumption))))); walk_at "my lt"))
local macro_rules | `(tactic| walk_at "exec For") => `(tactic| ((rename Fr _ _ _ _ => lF'); (with_unfolding_all refine' For_invVF lF' ?k1 ?k2 ?_; (case k1 => exact rfl); (case k2 => exact rfl))))
local macro_rules | `(tactic| walk_at "TurnPost") => `(tactic| dsimp only [TurnPost])
def LowLed (L : Addr) (l : Led) : Prop := ∀ p ∈ l, p.1 < L
theorem low_ne {L x : Addr} {l : Led} (h : LowLed L l) (hx : @LE.le Nat _ L x) : ∀ p ∈ l, p.1 ≠ x := fun p hp e => absurd (e ▸ h p hp) (Nat.not_lt.mpr hx)
local macro_rules | `(tactic| k_all) => `(tactic| first | assumption | exact low_ne (by assumption) (by omega))
local macro_rules | `(tactic| walk_at "my enterC") => `(tactic| (refine' code_defC ?k1 ?k2 ?k3 ?k4 ?k5 ?kA ?kF ?kK ?k6 ?k7 ?k8 ?k9 ?kB ?kD ?_ ?c2 ?c3 ?c4; (case kA => exact rfl); (case kF => exact rfl); (case kK => assumption); (case k1 => k_asm); (case k2 => k_asm); (case k3 => k_asm); (case k4 => k_asm); (case k5 => k_asm); (case k6 => k_is); (case k7 => k_is); (case k8 => ktr_room); (case k9 => exact BindsTo.of_eq rfl); (case kB => exact rfl); (case kD => decide +kernel); (case c2 => exact rfl); (case c3 => exact rfl); (case c4 => exact rfl); k_whole; intro g' L' h' tk' cells' FG' F' N' Y' B' X' T' l1; (try k_lt l1); k_cells Y'; (try simp only [List.cons_append, List.nil_append] at N'); (try dsimp only); (try k_fold)))
section
variable {prog : Program} {w : World} {A : Around} {E : Value → Shared → Prop} {s : Shared} {h₀ : Heap} {L : Addr} {m : Str → Option Value} {news : Led} {g : Obj → Led}
theorem fnL_new {f : Addr} {fd : FuncData} {sl : Array (Option Value)} {name : Str} {v : Value} {Q : Unit → Shared → Prop} (F : Fr h₀ L s.heap m) (N : News h₀ L s.heap news) (U : UpdF f (fnO fd sl none) news g) (hn : typeLookup (.type "function") name = pure none)
    (h : ∀ D oD h' tk', Fr h₀ L h' m → News h₀ L h' ((D, oD) :: g (fnO fd sl (some D))) → (∀ q ∈ news, q.1 < D) → NsObj oD (fun y => if y = name then some v else none) → Q () { s with heap := h', toks := tk' }) :
    wpAny (model prog w) A (setAttr (.ref f) name v) Q E s := by
  obtain ⟨pre, post, rfl, hg, a1, a2⟩ := U.split
  have hm := N (f, fnO fd sl none) (List.mem_append_right _ (.head _))
  refine fn_set_new hm.1 hn fun D oD h' tk' hD keep hf hoD hN => ?_
  have hLD : L < D := hD ▸ F.ns.lt
  refine h D oD h' tk' ⟨F.ns.at' fun o e => keep _ o hm.2.1.symm e, fun b o e => keep b o (fun q => by rw [q, hm.2.2] at e; cases e) (F.keep b o e), F.above⟩ ?_ (fun q hq => hD ▸ Heap.lt_size (N q hq).1) hN
  intro p hp
  rcases List.mem_cons.mp hp with rfl | hp
  · exact ⟨hoD, Nat.ne_of_gt hLD, Heap.get?_none_of_le (Nat.le_trans F.above (Nat.le_of_lt hLD))⟩
  · rw [hg] at hp
    rcases List.mem_append.mp hp with hp | hp
    · have n := N p (List.mem_append_left _ hp)
      exact ⟨keep _ _ (a1 p hp) n.1, n.2⟩
    · rcases List.mem_cons.mp hp with rfl | hp
      · exact ⟨hf, hm.2⟩
      · have n := N p (List.mem_append_right _ (.tail _ hp))
        exact ⟨keep _ _ (a2 p hp) n.1, n.2⟩
theorem fnL_old {f D : Addr} {fd : FuncData} {sl : Array (Option Value)} {oD : Obj} {mA : Str → Option Value} {name : Str} {v : Value} {ns : List Str} {Q : Unit → Shared → Prop} (F : Fr h₀ L s.heap m) (N : News h₀ L s.heap news) (hf : (f, fnO fd sl (some D)) ∈ news) (U : UpdF D oD news g) (hN : NsObj oD mA) (hw : Within mA ns) (hl : ns.length ≤ 100) (hn : typeLookup (.type "function") name = pure none)
    (h : ∀ oD' h' tk', Fr h₀ L h' m → News h₀ L h' (g oD') → NsObj oD' (fun y => if y = name then some v else mA y) → Q () { s with heap := h', toks := tk' }) :
    wpAny (model prog w) A (setAttr (.ref f) name v) Q E s := by
  obtain ⟨pre, post, rfl, hg, a1, a2⟩ := U.split
  have hm := N (D, oD) (List.mem_append_right _ (.head _))
  refine fn_set_old (N _ hf).1 hm.1 hN hw hl hn fun oD' h' tk' hs hoD hN' => ?_
  refine h oD' h' tk' (kas_fr F hs hm.2.1 hm.2.2) ?_ hN'
  rw [hg]
  exact news_set N a1 a2 hs hoD
end
local macro_rules | `(tactic| walk_at "setAttr ref") => `(tactic| first
  | (k_dflt (refine' fnL_new ?F ?N ?U ?hn ?_; (case F => k_asm); (case N => k_asm); (case U => k_updF); (case hn => exact fn_no_ap); k_whole); intro D' oD' h' tk' F' N' l1 n1'; (try dsimp only at N'); (try k_lt l1))
  | (k_dflt (refine' fnL_old ?F ?N ?M ?U ?hN ?hw ?hl ?hn ?_; (case F => k_asm); (case N => k_asm); (case M => k_mem); (case U => k_updF); (case hN => assumption); (case hw => exact Within.cons _ _ Within.nil); (case hl => decide); (case hn => exact fn_no_al); k_whole); intro oD' h' tk' F' N' n1'; (try dsimp only at N')))
@[irreducible] def appF (x d : Str) : Int := if udmF (Txt.lower x) (Txt.lower d) = true then (d.length : Int) + 1 else 0
def AppliesTo (w : World) (led : Led) (f2 : Addr) (d : Str) : Prop :=
  ∀ x tx, Txt.lower x ∈ hostsL → x.length ≤ 20 → (Txt.lower x).length ≤ 20 → SpecV w 8 f2 [.str x tx] (fun news => ∀ p ∈ led, p ∈ news) (fun t => .int (appF x d) t)
theorem AppliesTo.mono {w : World} {led led' : Led} {f2 : Addr} {d : Str} (h : AppliesTo w led f2 d) (hs : ∀ p ∈ led, p ∈ led') : AppliesTo w led' f2 d := by
  intro x tx h1 h2 h3 p loose mean mg mb dp un gd cn cs a ccd cl outer A₀ base h₀ L m news s Q E B F X N T hk hpre hd hu hret
  exact h x tx h1 h2 h3 p loose mean mg mb dp un gd cn cs a ccd cl outer A₀ base h₀ L m news s Q E B F X N T hk (fun p hp => hpre p (hs p hp)) hd hu hret
/-- a rule of the law's: its domain, its verdict -/
def RuleIn (w : World) (led : Led) (v : Value) (d : Str) (b : Bool) : Prop :=
  ∃ f fd sl D oD f2 mA fd2 sl2, v = .ref f ∧ (f, fnO fd sl (some D)) ∈ led ∧ (D, oD) ∈ led ∧ NsObj oD mA ∧ mA (Str.ofString "applies_to") = some (.ref f2) ∧ mA (Str.ofString "allowance") = some (.bool b) ∧ (f2, fnO fd2 sl2 none) ∈ led ∧ AppliesTo w led f2 d
theorem RuleIn.mono {w : World} {led led' : Led} {v : Value} {d : Str} {b : Bool} (h : RuleIn w led v d b) (hs : ∀ p ∈ led, p ∈ led') : RuleIn w led' v d b :=
  let ⟨f, fd, sl, D, oD, f2, mA, fd2, sl2, h1, h2, h3, h4, h5, h6, h7, h8⟩ := h; ⟨f, fd, sl, D, oD, f2, mA, fd2, sl2, h1, hs _ h2, hs _ h3, h4, h5, h6, hs _ h7, h8.mono hs⟩
local macro_rules | `(tactic| walk_at "my enterL") => `(tactic| (refine' kla_code ?k1 ?k2 ?k3 ?k4 ?k5 ?kA ?kF ?kK ?k6 ?k7 ?k8 ?k9 ?kB ?_ ?c2 ?c3 ?c4 ?c5; (case kA => exact rfl); (case kF => exact rfl); (case kK => assumption); (case k1 => k_asm); (case k2 => k_asm); (case k3 => k_asm); (case k4 => k_asm); (case k5 => k_asm); (case k6 => k_mem); (case k7 => exact codeRec_news (by k_asm) (by k_mem) (by assumption) (by assumption)); (case k8 => ktr_room); (case k9 => exact rfl); (case c5 => decide); (case kB => exact locs rfl); (case c2 => exact rfl); (case c3 => exact rfl); (case c4 => exact rfl); k_whole; intro g' L' h' FG' F' N' B' X' T'; (try dsimp only); (try k_fold)))
local macro_rules | `(tactic| walk_at "call ref") => `(tactic| ((with_reducible show wpAny _ _ (call (Value.ref 99) [Value.str _ _, Value.str _ _]) _ _ _); k_dflt (refine' use_specV (udm_spec _ _ _ _ _ ?h1 ?h2 ?h3 ?h4 ?h5 ?h6) ?k1 ?k2 ?k3 ?k4 ?k5 ?kK ?kp ?kd ?ku ?_); (case h1 => assumption); (case h2 => assumption); (case h3 => assumption); (case h4 => assumption); (case h5 => assumption); (case h6 => assumption); (case k1 => k_asm); (case k2 => k_asm); (case k3 => k_asm); (case k4 => k_asm); (case k5 => k_asm); (case kK => first | exact rfl | assumption); (case kp => trivial); (case kd => ktr_room); (case ku => ktr_units); intro t9 h9 tk9 F9 N9; (try dsimp only); (try k_sweep)))
abbrev lamQ : Str := (Str.ofString "_law_rule" ++ Str.ofString ".<locals>.") ++ Str.ofString "<lambda>"
def TabOk (led : Led) (ps : Array Value) : Prop :=
  ps = #[] ∨ ∃ c1 oc1 vs1 t1 c2 oc2 vs2 t2, ps = #[rawInt 91, rawInt 11, .ref c1, rawInt 92, rawInt 22, .ref c2] ∧ (c1, oc1) ∈ led ∧ oc1.data = .fields vs1 ∧ vs1[1]? = some (.str lamQ t1) ∧ (c2, oc2) ∈ led ∧ oc2.data = .fields vs2 ∧ vs2[1]? = some (.str lamQ t2)
theorem TabOk.mono {led led' : Led} {ps : Array Value} (h : TabOk led ps) (hs : ∀ p ∈ led, p ∈ led') : TabOk led' ps :=
  h.imp id fun ⟨c1, oc1, vs1, t1, c2, oc2, vs2, t2, h1, h2, h3, h4, h5, h6, h7⟩ => ⟨c1, oc1, vs1, t1, c2, oc2, vs2, t2, h1, hs _ h2, h3, h4, hs _ h5, h6, h7⟩
theorem TabOk.full {led : Led} {c1 c2 : Addr} {oc1 oc2 : Obj} {vs1 vs2 : Array Value} {t1 t2 : Tok} {ps : Array Value} (e : ps = #[rawInt 91, rawInt 11, .ref c1, rawInt 92, rawInt 22, .ref c2]) (m1 : (c1, oc1) ∈ led) (d1 : oc1.data = .fields vs1) (q1 : vs1[1]? = some (.str lamQ t1)) (m2 : (c2, oc2) ∈ led) (d2 : oc2.data = .fields vs2) (q2 : vs2[1]? = some (.str lamQ t2)) : TabOk led ps :=
  .inr ⟨c1, oc1, vs1, t1, c2, oc2, vs2, t2, e, m1, d1, q1, m2, d2, q2⟩
theorem lt_low {L x : Addr} {rest tl : Led} {o o' : Obj} (hL : LowLed L rest) (h115 : @LT.lt Nat _ 115 L) (hx : @LE.le Nat _ L x) (r : ∀ q ∈ (115, o) :: rest, ∀ p ∈ tl, q.1 < p.1) : ∀ q ∈ (115, o) :: rest, ∀ p ∈ (x, o') :: tl, q.1 < p.1 := fun q hq p hp => by
  rcases List.mem_cons.mp hp with rfl | hp
  · rcases List.mem_cons.mp hq with rfl | hq
    · exact Nat.lt_of_lt_of_le h115 hx
    · exact Nat.lt_of_lt_of_le (hL q hq) hx
  · exact r q hq p hp
theorem rule_spec (w : World) (d : Str) (td : Tok) (b : Bool) (hdm : d ∈ domsL) (hdl : Txt.lower d ∈ domsL ++ qsL) (hdn : d.length ≤ 20) (ps : Array Value) (p : Program) (loose : List Str) (mean : ExcName → Option Value) (mg mb : Str → Option Value) (dp un : Nat) (gd : Option (List Code)) (cn : Str) (cs : Scope) (a : Addr) (ccd : Value) (cl : List (Str × Addr)) (outer : List Env) (A₀ : Around) (base h₀ : Heap) (L : Addr) (m : Str → Option Value)
    (rest : Led) (s : Shared) (Q E : Value → Shared → Prop)
    (B : Below A₀ base outer h₀) (F : Fr h₀ L s.heap m) (X : (hd.heap_39 w.params).In h₀) (N : News h₀ L s.heap ((115, tabObj ps) :: rest)) (T : Top p loose mean mg mb h₀) (hk : cs.kind = .function) (C : CodeHd base 119 115) (hne : ∀ p ∈ rest, p.1 ≠ 115) (tab : Led) (hsub : ∀ p ∈ tab, p ∈ rest) (hps : TabOk tab ps)
    (hd : dp + 3 < recursionLimit) (hu : un + 20 * 3 < cLine)
    (hret : ∀ r tl ps' h' tk', Fr h₀ L h' m → News h₀ L h' (tl ++ (115, tabObj ps') :: rest) → (∀ q ∈ (115, tabObj ps) :: rest, ∀ p ∈ tl, q.1 < p.1) → TabOk (tl ++ tab) ps' → RuleIn w (tl ++ tab) r d b → Q r { s with heap := h', toks := tk' }) :
    wpAny (model Row.prog w) (ktrTop dp un gd cn cs L a ccd cl outer) (call (.ref 120) [.str d td, .bool b]) Q E s := by
  rcases hps with rfl | ⟨c1, oc1, vs1, t1, c2, oc2, vs2, t2, rfl, f1, g2, g3, f4, g5, g6⟩
  rotate_left
  have g1 := hsub _ f1
  have g4 := hsub _ f4
  rotate_left
  all_goals (
    refine wpAny_call ?_
    k_dflt (walk_at "my enterC")
    have hLow : LowLed _ rest := allLt_mem (And.right (by assumption))
    have hL115 := And.left (show _ ∧ AllLt _ rest by assumption)
    walk_at "my steps")
  · refine hret _ [_, _, _, _, _, _] _ _ _ (by k_asm) (by k_asm) ?lt (TabOk.full (by rfl) (by k_mem) (by assumption) (by assumption) (by k_mem) (by assumption) (by assumption)) ⟨_, _, _, _, _, _, _, _, _, rfl, by k_mem, by k_mem, by assumption, rfl, rfl, by k_mem, ?ap⟩
    case lt =>
      iterate 6 (refine lt_low hLow hL115 (by omega) ?_)
      exact lt_nil
    case ap =>
      intro x tx h1 h2 h3 p9 loose9 mean9 mg9 mb9 dp9 un9 gd9 cn9 cs9 a9 ccd9 cl9 outer9 A9 base9 h9 L9 m9 news9 s9 Q9 E9 B9 F9 X9 N9 T9 hk9 hpre9 hd9 hu9 hret9
      simp only [List.cons_append, List.nil_append, List.forall_mem_cons] at hpre9
      obtain ⟨m1, m2, m3, m4, m5, m6, m7⟩ := hpre9
      refine wpAny_call ?_
      k_dflt (walk_at "my enterL")
      walk_at "my steps"
      all_goals (refine cb_retI (Q := Q9) hret9 ?_ (by k_asm) (by k_asm))
      all_goals (unfold appF; simp only [*, if_true, if_false, Bool.false_eq_true])
  · refine hret _ [_, _, _, _] _ _ _ (by k_asm) (by k_asm) ?lt (TabOk.full rfl (List.mem_append_right _ f1) g2 g3 (List.mem_append_right _ f4) g5 g6) ⟨_, _, _, _, _, _, _, _, _, rfl, by k_mem, by k_mem, by assumption, rfl, rfl, by k_mem, ?ap⟩
    case lt =>
      iterate 4 (refine lt_low hLow hL115 (by omega) ?_)
      exact lt_nil
    case ap =>
      intro x tx h1 h2 h3 p9 loose9 mean9 mg9 mb9 dp9 un9 gd9 cn9 cs9 a9 ccd9 cl9 outer9 A9 base9 h9 L9 m9 news9 s9 Q9 E9 B9 F9 X9 N9 T9 hk9 hpre9 hd9 hu9 hret9
      have g4' := hpre9 _ (List.mem_append_right _ f4)
      simp only [List.cons_append, List.nil_append, List.forall_mem_cons] at hpre9
      obtain ⟨m1, m2, m3, m4, m5⟩ := hpre9
      refine wpAny_call ?_
      k_dflt (walk_at "my enterL")
      walk_at "my steps"
      all_goals (refine cb_retI (Q := Q9) hret9 ?_ (by k_asm) (by k_asm))
      all_goals (unfold appF; simp only [*, if_true, if_false, Bool.false_eq_true])
end Mine

/- A1 -/
namespace Mine
set_option maxHeartbeats 1000000
set_option pp.deepTerms false
set_option pp.deepTerms.threshold 8
set_option linter.unusedVariables false
local macro_rules | `(tactic| walk_at "pad") => `(tactic| skip)
local macro_rules | `(tactic| walk_at "pad") => `(tactic| skip)
local macro_rules | `(tactic| walk_at "pad") => `(tactic| skip)
local macro_rules | `(tactic| walk_at "pad") => `(tactic| skip)
local macro_rules | `(tactic| walk_at "pad") => `(tactic| skip)
local macro_rules | `(tactic| walk_at "pad") => `(tactic| skip)
local macro_rules | `(tactic| walk_at "pad") => `(tactic| skip)
local macro_rules | `(tactic| walk_at "pad") => `(tactic| skip)
local macro_rules | `(tactic| walk_at "pad") => `(tactic| skip)
local macro_rules | `(tactic| walk_at "pad") => `(tactic| skip)
local macro_rules | `(tactic| walk_at "pad") => `(tactic| skip)
local macro_rules | `(tactic| walk_at "pad") => `(tactic| skip)
local macro_rules | `(tactic| walk_at "pad") => `(tactic| skip)
local macro_rules | `(tactic| walk_at "pad") => `(tactic| skip)
local macro_rules | `(tactic| walk_at "pad") => `(tactic| skip)
local macro_rules | `(tactic| walk_at "pad") => `(tactic| skip)
local macro_rules | `(tactic| walk_at "pad") => `(tactic| skip)
local macro_rules | `(tactic| walk_at "pad") => `(tactic| skip)
local macro_rules | `(tactic| walk_at "pad") => `(tactic| skip)
local macro_rules | `(tactic| walk_at "pad") => `(tactic| skip)
local macro_rules | `(tactic| walk_at "pad") => `(tactic| skip)
local macro_rules | `(tactic| walk_at "pad") => `(tactic| skip)
local macro_rules | `(tactic| walk_at "pad") => `(tactic| skip)
local macro_rules | `(tactic| walk_at "pad") => `(tactic| skip)
local macro_rules | `(tactic| walk_at "pad") => `(tactic| skip)
local macro_rules | `(tactic| walk_at "pad") => `(tactic| skip)
theorem fresh_A1 : True := by
  w_top off
  trivial
local macro_rules | `(tactic| walk_at "my steps") => `(tactic| repeat' (first | (k_unfold; (try dsimp only)) | (k_end; wrow_close) | ((try dsimp only); walk1) | (leave1; walk_say "STEP leave1"; try dsimp only) | fail "no step"))
local macro_rules | `(tactic| walk_at "my lt") => `(tactic| first | exact lt_nil | (refine lt_cons ?_ ?_; (first | assumption | (refine allLt_mem ?_; first | assumption | exact And.right (by assumption) | exact And.right (And.right (by assumption)) | exact And.right (And.right (And.right (by assumption))))); walk_at "my lt"))
local macro_rules | `(tactic| walk_at "exec For") => `(tactic| ((rename Fr _ _ _ _ => lF'); (with_unfolding_all refine' For_invVF lF' ?k1 ?k2 ?_; (case k1 => exact rfl); (case k2 => exact rfl))))
local macro_rules | `(tactic| walk_at "TurnPost") => `(tactic| dsimp only [TurnPost])
local macro_rules | `(tactic| k_mem) => `(tactic| assumption)
local macro_rules | `(tactic| k_all) => `(tactic| first | assumption | exact low_ne (by assumption) (by omega))
local macro_rules | `(tactic| k_room) => `(tactic| ktr_room)
abbrev recD (w : World) (t1 t2 t3 t4 : Tok) (ua rl : Addr) (n : Nat) : Obj := dictOf [⟨PyData.keyHash w.params (Str.ofString "useragents"), .str (Str.ofString "useragents") t1, .ref ua⟩, ⟨PyData.keyHash w.params (Str.ofString "rulelines"), .str (Str.ofString "rulelines") t2, .ref rl⟩, ⟨PyData.keyHash w.params (Str.ofString "delay"), .str (Str.ofString "delay") t3, .none⟩, ⟨PyData.keyHash w.params (Str.ofString "req_rate"), .str (Str.ofString "req_rate") t4, .none⟩] n
inductive RulesIn (w : World) (led : Led) : List Value → List (Str × Bool) → Prop
  | nil : RulesIn w led [] []
  | cons {v : Value} {d : Str} {b : Bool} {vs : List Value} {ds : List (Str × Bool)} : RuleIn w led v d b → RulesIn w led vs ds → RulesIn w led (v :: vs) ((d, b) :: ds)
theorem RulesIn.mono {w : World} {led led' : Led} {vs : List Value} {ds : List (Str × Bool)} (h : RulesIn w led vs ds) (hs : ∀ p ∈ led, p ∈ led') : RulesIn w led' vs ds := by
  induction h with
  | nil => exact .nil
  | cons h _ ih => exact .cons (h.mono hs) ih
theorem RulesIn.length {w : World} {led : Led} {vs : List Value} {ds : List (Str × Bool)} (h : RulesIn w led vs ds) : vs.length = ds.length := by
  induction h with
  | nil => rfl
  | cons _ _ ih => simp [ih]
theorem RulesIn.get {w : World} {led : Led} {vs : List Value} {ds : List (Str × Bool)} (h : RulesIn w led vs ds) : ∀ (i : Nat) (v : Value), vs[i]? = some v → ∃ d b, ds[i]? = some (d, b) ∧ RuleIn w led v d b := by
  induction h with
  | nil => intro i v e; simp at e
  | cons h _ ih =>
    intro i v e
    cases i with
    | zero => simp at e; subst e; exact ⟨_, _, rfl, h⟩
    | succ i => simpa using ih i v (by simpa using e)
def alStep (X : Str) (st : Int × Bool) (p : Str × Bool) : Int × Bool :=
  if appF X p.1 = 0 then st else if st.1 < appF X p.1 then (appF X p.1, p.2) else if appF X p.1 = st.1 ∧ st.2 = false then (st.1, p.2) else st
def allowF (X : Str) (ds : List (Str × Bool)) : Bool := (ds.foldl (alStep X) (-1, true)).2
section
variable {prog : Program} {w : World} {A : Around} {E : Value → Shared → Prop} {s : Shared} {h₀ : Heap} {L : Addr} {m : Str → Option Value} {news : Led}
theorem fnL_get {f D : Addr} {fd : FuncData} {sl : Array (Option Value)} {oD : Obj} {mA : Str → Option Value} {name : Str} {v : Value} {e : Bool} {Q : Value → Shared → Prop} (N : News h₀ L s.heap news) (hf : (f, fnO fd sl (some D)) ∈ news) (hD : (D, oD) ∈ news) (hN : NsObj oD mA) (hv : mA name = some v) (hn : typeLookup (.type "function") name = pure none)
    (hh : handedOut v = pure v) (h : Q v { s with toks := s.toks + 1 }) : wpAny (model prog w) A (getAttr (.ref f) name e) Q E s := fn_get (N _ hf).1 (N _ hD).1 hN hv hn hh h
theorem fnL_method {f D : Addr} {fd : FuncData} {sl : Array (Option Value)} {oD : Obj} {mA : Str → Option Value} {name : Str} {v : Value} {pl : Sem Bool} {Q : Value × List Value → Shared → Prop} (N : News h₀ L s.heap news) (hf : (f, fnO fd sl (some D)) ∈ news) (hD : (D, oD) ∈ news) (hN : NsObj oD mA) (hv : mA name = some v) (hn : typeLookup (.type "function") name = pure none)
    (hh : handedOut v = pure v) (h : Q (v, []) { s with toks := s.toks + 1 }) : wpAny (model prog w) A (getMethod (.ref f) name pl) Q E s := fn_method (N _ hf).1 (N _ hD).1 hN hv hn hh h
theorem use_applies {w : World} {led : Led} {f2 : Addr} {d : Str} {x : Str} {tx : Tok} {p : Program} {loose : List Str} {mean : ExcName → Option Value} {mg mb : Str → Option Value} {dp un : Nat} {gd : Option (List Code)} {cn : Str} {cs : Scope} {a : Addr} {ccd : Value} {cl : List (Str × Addr)} {outer : List Env} {A₀ : Around} {base h₀ : Heap} {L : Addr} {m : Str → Option Value} {news : Led} {s : Shared} {Q E : Value → Shared → Prop}
    (S : AppliesTo w led f2 d) (h1 : Txt.lower x ∈ hostsL) (h2 : x.length ≤ 20) (h3 : (Txt.lower x).length ≤ 20) (B : Below A₀ base outer h₀) (F : Fr h₀ L s.heap m) (X : (hd.heap_39 w.params).In h₀) (N : News h₀ L s.heap news) (T : Top p loose mean mg mb h₀) (hk : cs.kind = .function)
    (hp : ∀ p ∈ led, p ∈ news) (hd : dp + 8 < recursionLimit) (hu : un + 20 * 8 < cLine)
    (k : ∀ t h' tk', Fr h₀ L h' m → News h₀ L h' news → Q (.int (appF x d) t) { s with heap := h', toks := tk' }) :
    wpAny (model Row.prog w) (ktrTop dp un gd cn cs L a ccd cl outer) (call (.ref f2) [.str x tx]) Q E s :=
  S x tx h1 h2 h3 p loose mean mg mb dp un gd cn cs a ccd cl outer A₀ base h₀ L m news s Q E B F X N T hk hp hd hu k
end
local macro_rules | `(tactic| walk_at "getMethod ref") => `(tactic| ((with_reducible show wpAny _ _ (getMethod (Value.ref _) (PySem.Str.ofString "applies_to") _) _ _ _); k_dflt (refine' fnL_method ?N ?M ?D ?n ?v fn_no_ap ?hh ?_; (case N => k_asm); (case M => k_mem); (case D => k_mem); (case n => assumption); (case v => assumption); (case hh => rfl)); (try dsimp only)))
local macro_rules | `(tactic| walk_at "getAttr ref") => `(tactic| ((with_reducible show wpAny _ _ (getAttr (Value.ref _) (PySem.Str.ofString "allowance") _) _ _ _); k_dflt (refine' fnL_get ?N ?M ?D ?n ?v fn_no_al ?hh ?_; (case N => k_asm); (case M => k_mem); (case D => k_mem); (case n => assumption); (case v => assumption); (case hh => rfl)); (try dsimp only)))
local macro_rules | `(tactic| walk_at "call ref") => `(tactic| ((with_reducible show wpAny _ _ (call (Value.ref _) [Value.str _ _]) _ _ _); k_dflt (refine' use_applies (led := _) ?S ?h1 ?h2 ?h3 ?k1 ?k2 ?k3 ?k4 ?k5 ?kK ?kp ?kd ?ku ?_; (case S => assumption)); (case h1 => assumption); (case h2 => assumption); (case h3 => assumption); (case k1 => k_asm); (case k2 => k_asm); (case k3 => k_asm); (case k4 => k_asm); (case k5 => k_asm); (case kK => first | exact rfl | assumption); (case kp => kcj_all); (case kd => ktr_room); (case ku => ktr_units); intro t9 h9 tk9 F9 N9; (try dsimp only); (try k_sweep)))
local macro_rules | `(tactic| walk_at "callWith ref") => `(tactic| k_dflt (refine' callWith_F ?k1 ?_; (case k1 => exact FnAt.of (by k_asm) (by k_mem)); k_whole))
local macro_rules | `(tactic| walk_at "And") => `(tactic| ((with_reducible show FnAt _ _ ∧ _); refine ⟨FnAt.of (by k_asm) (by k_mem), ?_⟩; try dsimp only [List.nil_append, List.cons_append]))
theorem allowance_spec (w : World) (x dx ua rl : Addr) (t1 t2 t3 t4 n nr : Nat) (rs : List Value) (ds : List (Str × Bool)) (Y : Str) (tY : Tok) (hY1 : Txt.lower Y ∈ hostsL) (hY2 : Y.length ≤ 20) (hY3 : (Txt.lower Y).length ≤ 20) : SpecV w 10 66 [.ref x, .str Y tY] (fun led => (x, instObj 69 dx) ∈ led ∧ (dx, recD w t1 t2 t3 t4 ua rl n) ∈ led ∧ (rl, W.listOf rs.toArray nr) ∈ led ∧ RulesIn w led rs ds) (fun _ => .bool (allowF Y ds)) := by
  intro p loose mean mg mb dp un gd cn cs a ccd cl outer A₀ base h₀ L m news s Q E B F X N T hk hpre hd hu hret
  obtain ⟨hx, hdx, hrl, hR⟩ := hpre
  refine wpAny_call ?_
  k_dflt ktr_enter
  walk_at "my steps"
  refine' iter_ledS (σ := Int × Tok × Bool) (fun m₀ σ u z => if z = Str.ofString "line" then u z else if z = Str.ofString "m" then u z else if z = Str.ofString "best_match" then some (.int σ.1 σ.2.1) else if z = Str.ofString "allowance" then some (.bool σ.2.2) else m₀ z)
    (fun i σ nw => nw = news ∧ (σ.1, σ.2.2) = (ds.take i).foldl (alStep Y) (-1, true)) (-1, _, true) rfl ?F ?N hrl ?hm0 ⟨rfl, by simp⟩ ?turn ?done
  case F => k_asm
  case N => k_asm
  case hm0 =>
    intro z
    by_cases h1 : z = Str.ofString "line"
    · subst h1; rfl
    by_cases h2 : z = Str.ofString "m"
    · subst h2; rfl
    by_cases h3 : z = Str.ofString "best_match"
    · subst h3; rfl
    by_cases h4 : z = Str.ofString "allowance"
    · subst h4; rfl
    simp only [if_neg h1, if_neg h2, if_neg h3, if_neg h4]
  case turn =>
    rintro i v ⟨best, tb, al⟩ u news₁ h tk I oI hvi ⟨rfl, hJ⟩ lt ne hlI F₁ N₁
    obtain ⟨d, b, hdi, hRule⟩ := hR.get i v hvi
    obtain ⟨f, fd, sl, D, oD, f2, mA, fd2, sl2, rfl, r1, r2, r3, r4, r5, r7, r6⟩ := hRule
    dsimp only at F₁ hJ
    have hstep : (ds.take (i + 1)).foldl (alStep Y) (-1, true) = alStep Y (best, al) (d, b) := by
      rw [List.take_add_one, hdi, List.foldl_append, ← hJ]; rfl
    walk_at "my steps"
    all_goals (
      refine' ⟨_, _, _, _, rfl, ?f9, ?n9, ne, (?_, ?_, ?_), ?mp, rfl, ?jj⟩
      case f9 => k_asm
      case n9 => k_asm
      case mp =>
        intro z
        by_cases h1 : z = Str.ofString "line"
        · subst h1; rfl
        by_cases h2 : z = Str.ofString "m"
        · subst h2; rfl
        by_cases h3 : z = Str.ofString "best_match"
        · subst h3; rfl
        by_cases h4 : z = Str.ofString "allowance"
        · subst h4; rfl
        simp only [if_neg h1, if_neg h2, if_neg h3, if_neg h4]
      case jj =>
        rw [hstep]
        unfold alStep
        first | (simp_all; done) | (simp_all; intros; omega))
  case done =>
    rintro h' tk ⟨best, tb, al⟩ u news' F₁ N₁ ⟨rfl, hJ⟩
    dsimp only at F₁ hJ
    walk_at "my steps"
    rw [hR.length, List.take_length] at hJ
    exact cb_retB (Q := Q) hret (by unfold allowF; rw [← hJ]) (by k_asm) (by refine' cb_drop ?cbN ?cbS; (case cbN => assumption); (case cbS => kcj_all))
section
variable {prog : Program} {w : World} {A : Around} {E : Value → Shared → Prop} {s : Shared} {h₀ : Heap} {L : Addr} {m : Str → Option Value} {news : Led} {g : Obj → Led}
theorem appendL {D : Addr} {x : Value} {vs : List Value} {n : Nat} {Q : Value → Shared → Prop} (F : Fr h₀ L s.heap m) (N : News h₀ L s.heap news) (U : UpdF D (W.listOf vs.toArray n) news g) (hsz : vs.length ≤ 100)
    (h : ∀ h' n', Fr h₀ L h' m → News h₀ L h' (g (W.listOf (vs ++ [x]).toArray n')) → Q .none { s with heap := h' }) : wpAny (model prog w) A (call (.builtin "list.append") [.ref D, x]) Q E s := by
  obtain ⟨pre, post, rfl, hg, a1, a2⟩ := U.split
  have z := N (D, W.listOf vs.toArray n) (List.mem_append.mpr (.inr (.head _)))
  refine append_at (hsz := by rw [sizeLine_eq]; simp; omega) z.1 fun h' hs ho' => h h' (n + 1) (F.change hs z.2.1 z.2.2) ?_
  rw [hg]
  refine news_set N a1 a2 hs ?_
  rw [ho']
  simp
theorem extendL {D b : Addr} {vs : List Value} {n n2 : Nat} {Q : Value → Shared → Prop} (F : Fr h₀ L s.heap m) (N : News h₀ L s.heap news) (U : UpdF D (W.listOf #[] n) news g) (hb : (b, W.listOf vs.toArray n2) ∈ news) (hsz : vs.length ≤ 100)
    (h : ∀ h' n', Fr h₀ L h' m → News h₀ L h' (g (W.listOf vs.toArray n')) → Q .none { s with heap := h' }) : wpAny (model prog w) A (call (.builtin "list.extend") [.ref D, .ref b]) Q E s := by
  obtain ⟨pre, post, rfl, hg, a1, a2⟩ := U.split
  refine extend_in (ys := []) F N a1 a2 (N _ hb).1 (fun h' n' F' N' => h h' n' F' ?_) (by rw [sizeLine_eq]; simp; omega)
  rw [hg]
  simpa using N'
end
local macro_rules | `(tactic| walk_at "call builtin:list.extend") => `(tactic| (k_dflt (refine' extendL ?F ?N ?U ?b ?z ?_; (case F => k_asm); (case N => k_asm); (case U => k_updF); (case b => k_mem); (case z => assumption); k_whole); intro h' n' F' N'; (try dsimp only at N'); (try k_sweep)))
local macro_rules | `(tactic| walk_at "call builtin:list.append") => `(tactic| (k_dflt (refine' appendL ?F ?N ?U ?z ?_; (case F => k_asm); (case N => k_asm); (case U => k_updF); (case z => assumption); k_whole); intro h' n' F' N'; (try dsimp only at N'); (try k_sweep)))
inductive BoolsAre : List Value → List Bool → Prop
  | nil : BoolsAre [] []
  | cons {b : Bool} {vs : List Value} {bs : List Bool} : BoolsAre vs bs → BoolsAre (.bool b :: vs) (b :: bs)
theorem BoolsAre.length {vs : List Value} {bs : List Bool} (h : BoolsAre vs bs) : vs.length = bs.length := by
  induction h with
  | nil => rfl
  | cons _ ih => simp [ih]
theorem BoolsAre.snoc {vs : List Value} {bs : List Bool} (h : BoolsAre vs bs) (b : Bool) : BoolsAre (vs ++ [.bool b]) (bs ++ [b]) := by
  induction h with
  | nil => exact .cons .nil
  | cons _ ih => exact .cons ih
def answersF (ds : List (Str × Bool)) (xs : List Str) : List Bool := xs.map fun x => allowF (Txt.upper x) ds
theorem upper_ok : ∀ x ∈ hostsL, Txt.lower (Txt.upper x) = x ∧ (Txt.upper x).length ≤ 20 := by decide +kernel
local macro_rules | `(tactic| walk_at "call ref") => `(tactic| ((with_reducible show wpAny _ _ (call (Value.ref 66) [Value.ref _, Value.str _ _]) _ _ _); k_dflt (refine' use_specV (allowance_spec _ _ _ _ _ _ _ _ _ _ _ _ _ _ _ ?y1 ?y2 ?y3) ?k1 ?k2 ?k3 ?k4 ?k5 ?kK ?kp ?kd ?ku ?_; (case k1 => k_asm); (case k2 => k_asm); (case k3 => k_asm); (case k4 => k_asm); (case k5 => k_asm); (case kp => exact ⟨by k_mem, by k_mem, by k_mem, RulesIn.mono (by assumption) (by kcj_all)⟩)); (case y1 => assumption); (case y2 => assumption); (case y3 => assumption); (case kK => first | exact rfl | assumption); (case kd => ktr_room); (case ku => ktr_units); intro t9 h9 tk9 F9 N9; (try dsimp only); (try k_sweep)))
theorem answers_spec (w : World) (l d : Addr) (vs : List Value) (xs : List Str) (n : Nat) (hv : StrsAre vs xs) (hxs : ∀ x ∈ xs, x ∈ hostsL) (hx4 : xs.length ≤ 4) (rs : List Value) (ds : List (Str × Bool)) (nr : Nat) (hr4 : rs.length ≤ 100) :
    Spec w 14 153 [.ref l, .ref d] (fun led => (l, W.listOf rs.toArray nr) ∈ led ∧ (d, W.listOf vs.toArray n) ∈ led ∧ RulesIn w led rs ds) (fun led r => ∃ a us n', r = .ref a ∧ (a, W.listOf us.toArray n') ∈ led ∧ BoolsAre us (answersF ds xs)) := by
  intro p loose mean mg mb dp un gd cn cs a ccd cl outer A₀ base h₀ L m news s Q E B F X N T hk hpre hd hu hret
  obtain ⟨hl, hV, hR⟩ := hpre
  refine wpAny_call ?_
  k_dflt ktr_enter
  walk_at "my steps"
  rename_i nR ans hA lA hB FA NA
  obtain ⟨fx, NA', hfx⟩ : ∃ fx : Led, News _ _ _ ((ans, W.listOf #[] 0) :: fx) ∧ fx = _ := ⟨_, NA, rfl⟩
  clear NA
  refine' iter_ledS (σ := Unit) (fun m₀ _ u z => if z = Str.ofString "host" then u z else if z = Str.ofString "answer" then u z else m₀ z)
    (fun i _ nw => ∃ us n', nw = (ans, W.listOf us.toArray n') :: fx ∧ BoolsAre us (answersF ds (xs.take i))) () rfl ?F ?N ?hl ?hm0 ⟨[], 0, rfl, .nil⟩ ?turn ?done
  case F => k_asm
  case N => k_asm
  case hl => subst hfx; k_mem
  case hm0 =>
    intro z
    by_cases h1 : z = Str.ofString "host"
    · subst h1; rfl
    by_cases h2 : z = Str.ofString "answer"
    · subst h2; rfl
    simp only [if_neg h1, if_neg h2]
  case turn =>
    rintro i v σ u news₁ h tk I oI hvi ⟨us, nu, rfl, hus⟩ lt ne hlI F₁ N₁
    obtain ⟨x, t, hxi, rfl⟩ := hv.get i v hvi
    have hxm := hxs x (List.mem_of_getElem? hxi)
    have hlen := short x (hosts_sub x hxm)
    obtain ⟨hup, hul⟩ := upper_ok x hxm
    have hy1 : Txt.lower (Txt.upper x) ∈ hostsL := by rw [hup]; exact hxm
    have hy3 : (Txt.lower (Txt.upper x)).length ≤ 20 := by rw [hup]; exact hlen
    subst hfx
    have hLowN : LowLed ans news := allLt_mem lA.2.2.2.2
    have hdI : @LT.lt Nat _ d ans := hLowN _ hV
    have hIa : @LT.lt Nat _ ans I := lt _ (.head _)
    have hu100 : us.length ≤ 100 := by
      have h1 := hus.length
      have h2 : i < xs.length := (List.getElem?_eq_some_iff.mp hxi).1
      simp only [answersF, List.length_map, List.length_take] at h1
      omega
    walk_at "my steps"
    all_goals (try (exfalso; exact (show ∀ b : Bool, (b == true) = false → (b == false) = false → False by decide) _ (by assumption) (by assumption)))
    all_goals (
      refine' ⟨_, _, _, _, rfl, ?f9, ?n9, ?ne9, (), ?mp, us ++ [.bool (allowF (Txt.upper x) ds)], ?_, ?le, ?jj⟩
      case f9 => k_asm
      case n9 => k_asm
      case le => rfl
      case ne9 =>
        intro p hp
        rcases List.mem_cons.mp hp with rfl | hp
        · exact Nat.ne_of_lt hIa
        · exact ne p (.tail _ hp)
      case mp =>
        intro z
        by_cases h1 : z = Str.ofString "host"
        · subst h1; rfl
        by_cases h2 : z = Str.ofString "answer"
        · subst h2; rfl
        simp only [if_neg h1, if_neg h2]
      case jj =>
        have e : answersF ds (xs.take (i + 1)) = answersF ds (xs.take i) ++ [allowF (Txt.upper x) ds] := by
          unfold answersF; rw [List.take_add_one, hxi, List.map_append]; rfl
        rw [e]
        exact hus.snoc _)
  case done =>
    rintro h' tk σ u news' F₁ N₁ ⟨us, nu, rfl, hus⟩
    have hLowN : LowLed ans news := allLt_mem lA.2.2.2.2
    subst hfx
    walk_at "my steps"
    rw [hv.length, List.take_length] at hus
    refine hret _ [(ans, W.listOf us.toArray nu)] _ _ (by k_asm) ?_ (lt_cons hLowN lt_nil) ⟨ans, us, nu, rfl, .head _, hus⟩
    refine' cb_drop ?cbN ?cbS
    case cbN => assumption
    case cbS =>
      intro p hp
      rcases List.mem_cons.mp hp with rfl | hp
      · exact .tail _ (.head _)
      · exact .tail _ (.tail _ (.tail _ (.tail _ (.tail _ (.tail _ hp)))))
end Mine

/- V2 -/
namespace Mine
set_option maxHeartbeats 1000000
set_option pp.deepTerms false
set_option pp.deepTerms.threshold 8
set_option linter.unusedVariables false
local macro_rules | `(tactic| walk_at "pad") => `(tactic| skip)
local macro_rules | `(tactic| walk_at "pad") => `(tactic| skip)
local macro_rules | `(tactic| walk_at "pad") => `(tactic| skip)
local macro_rules | `(tactic| walk_at "pad") => `(tactic| skip)
local macro_rules | `(tactic| walk_at "pad") => `(tactic| skip)
local macro_rules | `(tactic| walk_at "pad") => `(tactic| skip)
local macro_rules | `(tactic| walk_at "pad") => `(tactic| skip)
local macro_rules | `(tactic| walk_at "pad") => `(tactic| skip)
local macro_rules | `(tactic| walk_at "pad") => `(tactic| skip)
local macro_rules | `(tactic| walk_at "pad") => `(tactic| skip)
local macro_rules | `(tactic| walk_at "pad") => `(tactic| skip)
local macro_rules | `(tactic| walk_at "pad") => `(tactic| skip)
local macro_rules | `(tactic| walk_at "pad") => `(tactic| skip)
local macro_rules | `(tactic| walk_at "pad") => `(tactic| skip)
local macro_rules | `(tactic| walk_at "pad") => `(tactic| skip)
local macro_rules | `(tactic| walk_at "pad") => `(tactic| skip)
local macro_rules | `(tactic| walk_at "pad") => `(tactic| skip)
local macro_rules | `(tactic| walk_at "pad") => `(tactic| skip)
local macro_rules | `(tactic| walk_at "pad") => `(tactic| skip)
local macro_rules | `(tactic| walk_at "pad") => `(tactic| skip)
local macro_rules | `(tactic| walk_at "pad") => `(tactic| skip)
local macro_rules | `(tactic| walk_at "pad") => `(tactic| skip)
local macro_rules | `(tactic| walk_at "pad") => `(tactic| skip)
local macro_rules | `(tactic| walk_at "pad") => `(tactic| skip)
local macro_rules | `(tactic| walk_at "pad") => `(tactic| skip)
local macro_rules | `(tactic| walk_at "pad") => `(tactic| skip)
local macro_rules | `(tactic| walk_at "pad") => `(tactic| skip)
local macro_rules | `(tactic| walk_at "pad") => `(tactic| skip)
local macro_rules | `(tactic| walk_at "pad") => `(tactic| skip)
local macro_rules | `(tactic| walk_at "pad") => `(tactic| skip)
local macro_rules | `(tactic| walk_at "pad") => `(tactic| skip)
local macro_rules | `(tactic| walk_at "pad") => `(tactic| skip)
local macro_rules | `(tactic| walk_at "pad") => `(tactic| skip)
local macro_rules | `(tactic| walk_at "pad") => `(tactic| skip)
local macro_rules | `(tactic| walk_at "pad") => `(tactic| skip)
local macro_rules | `(tactic| walk_at "pad") => `(tactic| skip)
local macro_rules | `(tactic| walk_at "pad") => `(tactic| skip)
local macro_rules | `(tactic| walk_at "pad") => `(tactic| skip)
local macro_rules | `(tactic| walk_at "pad") => `(tactic| skip)
theorem fresh_V2 : True := by
  w_top off
  trivial
local macro_rules | `(tactic| walk_at "my steps") => `(tactic| repeat' (first | (k_unfold; (try dsimp only)) | (k_end; wrow_close) | ((try dsimp only); walk1) | (leave1; walk_say "STEP leave1"; try dsimp only) | fail "no step"))
local macro_rules | `(tactic| walk_at "my lt") => `(tactic| first | exact lt_nil | (refine lt_cons ?_ ?_; (first | assumption | (refine allLt_mem ?_; first | assumption | exact And.right (by assumption) | exact And.right (And.right (by assumption)) | exact And.right (And.right (And.right (by assumption))))); walk_at "my lt"))
local macro_rules | `(tactic| walk_at "exec For") => `(tactic| ((rename Fr _ _ _ _ => lF'); (with_unfolding_all refine' For_invVF lF' ?k1 ?k2 ?_; (case k1 => exact rfl); (case k2 => exact rfl))))
local macro_rules | `(tactic| walk_at "TurnPost") => `(tactic| dsimp only [TurnPost])
local macro_rules | `(tactic| k_mem) => `(tactic| assumption)
local macro_rules | `(tactic| k_all) => `(tactic| first | assumption | exact low_ne (by assumption) (by omega))
def storeB (vd : List (Str × Bool)) (x : Str) (b : Bool) : List (Str × Bool) := if vd.any (fun p => p.1 = x) then vd.map (fun p => if p.1 = x then (p.1, b) else p) else vd ++ [(x, b)]
theorem stored_kv (vd : List (Str × Bool)) (x : Str) (b : Bool) : stored (kvOf vd) x (.bool b) = kvOf (storeB vd x b) := by
  unfold stored storeB kvOf
  simp only [List.any_map, Function.comp_def]
  split
  · simp only [List.map_map]
    apply List.map_congr_left
    intro p hp
    simp only [Function.comp_apply]
    split <;> rfl
  · simp
def verdF (ds : List (Str × Bool)) : List (Str × Bool) := ds.foldl (fun vd p => storeB vd p.1 (p.2 || (look vd p.1).getD false)) []
theorem storeB_length (vd : List (Str × Bool)) (x : Str) (b : Bool) : (storeB vd x b).length ≤ vd.length + 1 := by
  unfold storeB; split <;> simp
theorem verdF_len (ds : List (Str × Bool)) : ∀ vd : List (Str × Bool), (ds.foldl (fun vd p => storeB vd p.1 (p.2 || (look vd p.1).getD false)) vd).length ≤ vd.length + ds.length := by
  induction ds with
  | nil => intro vd; simp
  | cons p r ih =>
    intro vd
    simp only [List.foldl_cons, List.length_cons]
    have h1 := ih (storeB vd p.1 (p.2 || (look vd p.1).getD false))
    have h2 := storeB_length vd p.1 (p.2 || (look vd p.1).getD false)
    omega
inductive PairsIn (led : Led) : List Value → List (Str × Bool) → Prop
  | nil : PairsIn led [] []
  | cons {v : Value} {d : Str} {b : Bool} {vs : List Value} {ds : List (Str × Bool)} : PairIn led v d b → PairsIn led vs ds → PairsIn led (v :: vs) ((d, b) :: ds)
theorem PairsIn.mono {led led' : Led} {vs : List Value} {ds : List (Str × Bool)} (h : PairsIn led vs ds) (hs : ∀ p ∈ led, p ∈ led') : PairsIn led' vs ds := by
  induction h with
  | nil => exact .nil
  | cons h _ ih => exact .cons (h.mono hs) ih
theorem PairsIn.length {led : Led} {vs : List Value} {ds : List (Str × Bool)} (h : PairsIn led vs ds) : vs.length = ds.length := by
  induction h with
  | nil => rfl
  | cons _ _ ih => simp [ih]
theorem PairsIn.get {led : Led} {vs : List Value} {ds : List (Str × Bool)} (h : PairsIn led vs ds) : ∀ (i : Nat) (v : Value), vs[i]? = some v → ∃ d b, ds[i]? = some (d, b) ∧ PairIn led v d b := by
  induction h with
  | nil => intro i v e; simp at e
  | cons h _ ih =>
    intro i v e
    cases i with
    | zero => simp at e; subst e; exact ⟨_, _, rfl, h⟩
    | succ i => simpa using ih i v (by simpa using e)
section
variable {w : World} {A : Around} {E : Value → Shared → Prop} {s : Shared} {h₀ : Heap} {L d : Addr} {m : Str → Option Value} {news : Led} {g : Obj → Led} {vd : List (Str × Bool)} {o : Obj}
theorem set_verd {x : Str} {t : Tok} {b : Bool} {Q : Unit → Shared → Prop} (F : Fr h₀ L s.heap m) (N : News h₀ L s.heap news) (U : UpdF d o news g) (hd : o.IsDictOf (PySem.strKind Row.prog w) (kvOf vd)) (hsz : vd.length ≤ 100)
    (h : ∀ h' o', Fr h₀ L h' m → News h₀ L h' (g o') → o'.IsDictOf (PySem.strKind Row.prog w) (kvOf (storeB vd x b)) → Q () { s with heap := h', toks := s.toks + 1 }) :
    wpAny (model Row.prog w) A (setItem (.ref d) (.str x t) (.bool b)) Q E s := by
  obtain ⟨pre, post, rfl, hg, a1, a2⟩ := U.split
  have hm := N (d, o) (List.mem_append_right _ (.head _))
  refine wpAny_setItem_pairs (hsz := by rw [sizeLine_eq]; simp [kvOf]; omega) (strKind_is Row.prog w x t) (Heap.dictOf_iff.mpr ⟨o, hm.1, hd⟩) fun h' hmm hs => ?_
  obtain ⟨o', ho', hd'⟩ := Heap.dictOf_iff.mp hmm
  rw [stored_kv] at hd'
  refine h h' o' (F.change hs hm.2.1 hm.2.2) ?_ hd'
  rw [hg]
  exact news_set N a1 a2 hs ho'
theorem get_verd {x : Str} {t : Tok} {b : Bool} {Q : Value → Shared → Prop} (N : News h₀ L s.heap news) (hm : (d, o) ∈ news) (lo : (d == sysModules) = false) (hd : o.IsDictOf (PySem.strKind Row.prog w) (kvOf vd)) (h : Q (.bool ((look vd x).getD b)) { s with toks := s.toks + 1 }) :
    wpAny (model Row.prog w) A (call (.builtin "dict.get") [.ref d, .str x t, .bool b]) Q E s := by
  have hD := Heap.dictOf_iff.mpr ⟨o, (N _ hm).1, hd⟩
  refine call_meetsIn PySem.F.slot_dict_get hD.typeIs PySem.F.entry_dict_get (PySem.F.args_dict_get_3 _ _ _) (meets_dict_get_default (PySem.strKind Row.prog w) d (strKind_is Row.prog w x t) lo (.bool b)) ⟨_, hD.mapOf, ?_⟩
  rw [valueAt_kv]
  cases hl : look vd x with
  | none => rw [hl] at h; exact h
  | some y => rw [hl] at h; exact h
theorem method_verd {pl : Sem Bool} {Q : Value × List Value → Shared → Prop} (N : News h₀ L s.heap news) (hm : (d, o) ∈ news) (hd : o.IsDictOf (PySem.strKind Row.prog w) (kvOf vd)) (h : Q (.builtin "dict.get", [.ref d]) s) :
    wpAny (model Row.prog w) A (getMethod (.ref d) "get" pl) Q E s := by
  have hD := Heap.dictOf_iff.mpr ⟨o, (N _ hm).1, hd⟩
  exact getMethod_builtin hD.typeIs PySem.F.plainAttrs_dict PySem.F.slot_dict_get PySem.F.type_dict_get hD.mapOf.noDict h
end
local macro_rules | `(tactic| walk_at "exec For") => `(tactic| ((with_reducible show wpAny _ _ (exec (Stmt.For (Expr.Tuple _ _ _) _ _ _ _) _) _ _ _); (rename Fr _ _ _ _ => lF'); (with_unfolding_all refine' For_invTF lF' ?_ ?h2; (case h2 => (intro _; rfl)))))
local macro_rules | `(tactic| walk_at "getMethod ref") => `(tactic| ((with_reducible show wpAny _ _ (getMethod (Value.ref _) (PySem.Str.ofString "get") _) _ _ _); k_dflt (refine' method_verd ?N ?M ?d ?_; (case N => k_asm); (case M => k_mem); (case d => assumption))))
local macro_rules | `(tactic| walk_at "call builtin:dict.get") => `(tactic| (k_dflt (refine' get_verd ?N ?M ?l ?d ?_; (case N => k_asm); (case M => k_mem); (case l => assumption); (case d => assumption))))
local macro_rules | `(tactic| walk_at "setItem ref str") => `(tactic| (k_dflt (refine' set_verd ?F ?N ?U ?d ?z ?_; (case F => k_asm); (case N => k_asm); (case U => k_updF); (case d => assumption); (case z => assumption); k_whole); intro h' o' F' N' d'; (try dsimp only at N'); (try k_sweep)))
theorem verdicts_spec (w : World) (l : Addr) (vs : List Value) (n : Nat) (ds : List (Str × Bool)) (hn4 : ds.length ≤ 4) : Spec w 5 127 [.ref l] (fun led => (l, W.listOf vs.toArray n) ∈ led ∧ PairsIn led vs ds) (fun led r => ∃ d, r = .ref d ∧ VerdIn w led d (verdF ds)) := by
  intro p loose mean mg mb dp un gd cn cs a ccd cl outer A₀ base h₀ L m news s Q E B F X N T hk hpre hd hu hret
  obtain ⟨hl, hP⟩ := hpre
  refine wpAny_call ?_
  k_dflt ktr_enter
  walk_at "my steps"
  rename_i dv hA ov lA loA hsA fsA hiA fiA hB FA NA
  refine' iter_ledT (σ := Unit) (fun m₀ _ u z => if z = Str.ofString "domain" then u z else if z = Str.ofString "verdict" then u z else m₀ z)
    (fun i _ nw => ∃ o, nw = (dv, o) :: news ∧ o.IsDictOf (PySem.strKind Row.prog w) (kvOf (verdF (ds.take i)))) () rfl ?F ?N (.tail _ hl) ?hm0 ⟨ov, rfl, hsA⟩ ?turn ?done
  case F => k_asm
  case N => k_asm
  case hm0 =>
    intro z
    by_cases h1 : z = Str.ofString "domain"
    · subst h1; rfl
    by_cases h2 : z = Str.ofString "verdict"
    · subst h2; rfl
    simp only [if_neg h1, if_neg h2]
  case turn =>
    rintro i v σ u news₁ s₁ I oI hvi ⟨o, rfl, hdo⟩ lt ne hlI F₁ N₁
    obtain ⟨d, b, hdi, a', t', n', rfl, hpm⟩ := hP.get i v hvi
    have hLowN : LowLed dv news := lA
    have hla : @LT.lt Nat _ l dv := hLowN _ hl
    have hIa : @LT.lt Nat _ dv I := lt _ (.head _)
    have hsz : (verdF (ds.take i)).length ≤ 100 := by
      have := verdF_len (ds.take i) []
      simp only [List.length_nil, List.length_take] at this
      unfold verdF
      omega
    have hstep : verdF (ds.take (i + 1)) = storeB (verdF (ds.take i)) d (b || (look (verdF (ds.take i)) d).getD false) := by
      unfold verdF
      rw [List.take_add_one, hdi, List.foldl_append]; rfl
    walk_at "my steps"
    all_goals (first | rfl | (
      refine' ⟨_, _, _, _, rfl, ?f9, ?n9, ?ne9, (), ?mp, _, rfl, ?jj⟩
      case f9 => k_asm
      case n9 => k_asm
      case ne9 =>
        intro p hp
        rcases List.mem_cons.mp hp with rfl | hp
        · exact Nat.ne_of_lt hIa
        · exact ne p (.tail _ hp)
      case mp =>
        intro z
        by_cases h1 : z = Str.ofString "domain"
        · subst h1; rfl
        by_cases h2 : z = Str.ofString "verdict"
        · subst h2; rfl
        simp only [if_neg h1, if_neg h2]
      case jj =>
        rw [hstep]
        cases b
        · first | assumption | (exfalso; exact absurd (show false = true by assumption) (by decide))
        · first | assumption | (exfalso; exact absurd (show true = false by assumption) (by decide))))
  case done =>
    rintro h' tk σ u news' F₁ N₁ ⟨o, rfl, hdo⟩
    have hLowN : LowLed dv news := lA
    walk_at "my steps"
    rw [hP.length, List.take_length] at hdo
    refine hret _ [(dv, o)] _ _ (by k_asm) ?_ (lt_cons hLowN lt_nil) ⟨dv, rfl, loA, o, .head _, hdo⟩
    refine' cb_drop ?cbN ?cbS
    case cbN => assumption
    case cbS => exact fun p hp => .tail _ hp
end Mine

/- Cx -/
namespace Mine
set_option maxHeartbeats 1000000
set_option linter.unusedVariables false
open PyProof.Rows.LCg (lst lst_snoc fr_but news_but ns_obj)
def CEnd (h₀ : Heap) (L : Addr) (m : Str → Option Value) (s₁ : Shared) (I : Addr) (oI : Obj) (C : Addr) (oC : Obj) (D : Addr) (oD : Obj) (Jn : List (Addr × Obj) → Prop) (s₂ : Shared) : Prop :=
  ∃ h' tk news', s₂ = { s₁ with heap := h', toks := tk } ∧ Fr h₀ L h' m ∧ News h₀ L h' ((I, oI) :: (C, oC) :: (D, oD) :: news') ∧ (∀ p ∈ news', p.1 ≠ I ∧ p.1 ≠ C ∧ p.1 ≠ D) ∧ Jn news'
def CTurn (prog : Program) (w : World) (A : Around) (cenv : Env) (elt : Expr) (ifs : List Expr) (End : List Value → Shared → Prop) (ys : List Value) (E' : Value → Shared → Prop) (s : Shared) : Prop :=
  match ifs with
  | [] => wpAny (model prog w) A (eval elt cenv) (fun y s₂ => End (ys ++ [y]) s₂) E' s
  | [ct] => wpAny (model prog w) A (isTrue ct cenv (eval ct cenv)) (fun ok s' => if ok = true then wpAny (model prog w) A (eval elt cenv) (fun y s₂ => End (ys ++ [y]) s₂) E' s' else End ys s') E' s
  | _ => False
section
variable {prog : Program} {w : World} {A : Around} {E : Value → Shared → Prop} {s : Shared} {h₀ : Heap} {L : Addr} {m : Str → Option Value} {env : Env}
theorem cx_loop {elt target iter : Expr} {ifs : List Expr} {scope : Scope} {pos : Pos} {it acc : Value} {env : Env} {R : Result → Shared → Prop} (I : Nat → Shared → Prop)
    (turn : ∀ n s, I n s → wpAny (model prog w) A (pyNext it) (fun r s₁ => match r with
      | none => R (.ok .next) s₁
      | some v => wpAny (model prog w) A (letOwnedTupleGo target it v) (fun _ s₀ => wpAny (model prog w) A (assign target env v) (fun _ s₂ =>
          wpAny (model prog w) A (forIn ifs true fun c r => if r = true then do let ok ← isTrue c env (eval c env); pure (ForInStep.yield ok) else pure (ForInStep.yield r)) (fun ok s₃ =>
            if ok = true then wpAny (model prog w) A (eval elt env) (fun x s₄ =>
              wpAny (model prog w) A (call (.builtin "list.append") [acc, x]) (fun _ s₅ => ∃ m, m < n ∧ I m s₅) (notedBy (model prog w) A env fun e s' => R (.error e) s') s₄) (notedBy (model prog w) A env fun e s' => R (.error e) s') s₃
            else ∃ m, m < n ∧ I m s₃) (notedBy (model prog w) A env fun e s' => R (.error e) s') s₂)
          (notedBy (model prog w) A env fun e s' => R (.error e) s') s₀) (notedBy (model prog w) A env fun e s' => R (.error e) s') s₁) (notedBy (model prog w) A env fun e s' => R (.error e) s') s)
    (n : Nat) (h : I n s) : codeAny (model prog w) A (.compLoop (.ListComp elt [⟨target, iter, ifs, 0⟩] scope pos) 0 it acc env) R s := by
  refine codeAny_loop rfl I (fun n s hI => ?_) n h
  show wpAny _ A ((compTurn (.ListComp elt [⟨target, iter, ifs, 0⟩] scope pos) 0 it acc env).onRaise (fun x => do noteFrame x env; theTreesLotGoes x)) _ _ s
  refine wpAny_noted ?_
  rw [compTurn_list]
  refine wpAny_bind (wpAny_standAt (wpAny_bind (wpAny_mono (turn n s hI) (fun r s₁ h₁ => ?_) fun _ _ h' => h')))
  cases r with
  | none => exact wpAny_pure h₁
  | some v =>
    refine wpAny_bind (wpAny_mono h₁ (fun _ s₀ h₀' => ?_) fun _ _ h' => h')
    refine wpAny_bind (wpAny_mono h₀' (fun _ s₂ h₂ => ?_) fun _ _ h' => h')
    refine wpAny_bind (wpAny_mono h₂ (fun ok s₃ h₃ => ?_) fun _ _ h' => h')
    cases ok with
    | true =>
      simp only [if_true] at h₃ ⊢
      exact wpAny_bind (wpAny_bind (wpAny_mono h₃ (fun x s₄ h₄ => wpAny_bind (wpAny_mono h₄ (fun _ s₅ h₅ => wpAny_pure (wpAny_pure ⟨rfl, h₅⟩)) fun _ _ h' => h')) fun _ _ h' => h'))
    | false =>
      simp only [Bool.false_eq_true, if_false] at h₃ ⊢
      exact wpAny_pure ⟨rfl, h₃⟩
theorem cx_block {elt target iter : Expr} {ifs : List Expr} {scope : Scope} {cl : List (Str × Addr)} {pos : Pos} {s₂ : Shared} {I : Addr} {fp : List Addr} {n : Nat} {P : Nat → Value → Prop} {St : Nat → Heap → Prop} {news : List (Addr × Obj)}
    {J : Nat → List Value → List (Addr × Obj) → Prop} {Asg : Value → List (Addr × Obj) → (Str → Option Value) → Prop} {RR : Value → Addr → Result → Shared → Prop}
    (W : Walks prog w A I fp [I] n P St) (hsz : n ≤ sizeLine) (hIo : ∀ i h, St i h → ∃ o, h.get? I = some o)
    (hSt : ∀ i h h' o ys nw, St i h → h.get? I = some o → h'.get? I = some o → (∀ b o, h₀.get? b = some o → h'.get? b = some o) → News h₀ L h' nw → J i ys nw → St i h')
    (hcell : ∀ y ∈ scope.names, y.2 ≠ .cell) (hkind : scope.kind = .function)
    (hgo : ∀ i (s' : Shared) v (Q' : Unit → Shared → Prop) (E' : Value → Shared → Prop), St i s'.heap → Q' () s' → wpAny (model prog w) A (letOwnedTupleGo target (.ref I) v) Q' E' s')
    (hasg : ∀ i v C ys nw (s' : Shared) m' (Q' : Unit → Shared → Prop) (E' : Value → Shared → Prop), P i v → J i ys nw → News h₀ L s'.heap nw → s'.heap.Ns C m' →
      (∀ h' tk' m₂, h'.Ns C m₂ → Asg v nw m₂ → (∀ c o, c ≠ C → s'.heap.get? c = some o → h'.get? c = some o) → Q' () { s' with heap := h', toks := tk' }) → wpAny (model prog w) A (assign target (compEnvC scope cl C env) v) Q' E' s')
    (hst : St 0 s₂.heap) (hfp : ∀ b ∈ fp, b < s₂.heap.objs.size)
    (F : Fr h₀ L s₂.heap m) (N : News h₀ L s₂.heap news) (hIL : L ≠ I) (hI₀ : h₀.get? I = none) (off : ∀ p ∈ news, p.1 ≠ I) (h0 : J 0 [] news)
    (turn : ∀ i v ys nw oI C oC D m₂ h tk (E' : Value → Shared → Prop), i < n → P i v → J i ys nw → LCg.NsObj oC m₂ → Asg v nw m₂ → Fr h₀ L h m → News h₀ L h ((I, oI) :: (C, oC) :: (D, lst ys) :: nw) → (∀ p ∈ nw, p.1 ≠ I ∧ p.1 ≠ C ∧ p.1 ≠ D) → ((@Ne Nat I C) ∧ (@Ne Nat I D) ∧ (@Ne Nat C D)) → (∀ p ∈ news, p.1 < D) →
      CTurn prog w A (compEnvC scope cl C env) elt ifs (fun ys' s' => CEnd h₀ L m { s₂ with heap := h, toks := tk } I oI C oC D (lst ys) (J (i + 1) ys') s') ys E' { s₂ with heap := h, toks := tk })
    (hRR : ∀ D C h tk m' ys nw, Fr h₀ L h m → News h₀ L h ((D, lst ys) :: nw) → (∀ p ∈ nw, p.1 ≠ D) → (∀ p ∈ news, p.1 < D) → h.Ns C m' → h₀.get? C = none → h₀.get? D = none → C ≠ L → D ≠ L → C ≠ D → (∀ p ∈ nw, p.1 ≠ C) → J n ys nw → RR (.ref D) C (.ok .next) { s₂ with heap := h, toks := tk }) :
    wpAny (model prog w) A (newList []) (fun acc s₃ => wpAny (model prog w) A (newFunctionEnv scope env.globals cl [] env.qual none .none (some env)) (fun cenv s₄ =>
      codeAny (model prog w) A (.compStart (.ListComp elt [⟨target, iter, ifs, 0⟩] scope pos) 0 (.ref I) acc { cenv with scope := relabel scope env }) (RR acc cenv.locals) s₄) E s₃) E s₂ := by
  refine wpAny_newObj_type (wpAny_newFunctionEnv hcell (by intro y hy; simp at hy) (fun h₁ hns₁ hsb₁ => ?_) hkind)
  dsimp only at hns₁ hsb₁ ⊢
  generalize hH2 : s₂.heap.push { cls := .type "list", dict := none, data := .seq ([] : List Value).toArray } = H2 at hns₁ hsb₁ ⊢
  have hC : H2.objs.size = s₂.heap.objs.size + 1 := by rw [← hH2, Heap.size_push]
  have hDC : s₂.heap.objs.size ≠ H2.objs.size := by rw [hC]; exact Nat.ne_of_lt (Nat.lt_succ_self _)
  have below : ∀ b, b < s₂.heap.objs.size → b ≠ H2.objs.size ∧ b ≠ s₂.heap.objs.size := fun b hb => ⟨by rw [hC]; exact Nat.ne_of_lt (Nat.lt_succ_of_lt hb), Nat.ne_of_lt hb⟩
  have hDf : s₂.heap.objs.size ∉ fp := fun hm => Nat.lt_irrefl _ (hfp _ hm)
  have hCf : H2.objs.size ∉ fp := fun hm => by have := hfp _ hm; rw [hC] at this; exact Nat.lt_irrefl _ (Nat.lt_of_succ_lt this)
  have hIf : I ∈ fp := W.sub I (List.mem_singleton.mpr rfl)
  have hIlt : I < s₂.heap.objs.size := hfp I hIf
  have old : ∀ b o, s₂.heap.get? b = some o → h₁.get? b = some o := fun b o e => hsb₁.extBut b o (below b (Heap.lt_size e)).1 (Heap.get?_push_of_some _ (hH2 ▸ Heap.get?_push_of_some _ e))
  have hacc : h₁.get? s₂.heap.objs.size = some (lst []) := hsb₁.extBut _ _ hDC (Heap.get?_push_of_some _ (hH2 ▸ Heap.get?_push_size _ rfl))
  have hst₁ : St 0 h₁ := W.frame _ _ _ hst fun b _ o e => old b o e
  have fresh₀ : ∀ a, s₂.heap.objs.size ≤ a → h₀.get? a = none := fun a ha => by
    cases e : h₀.get? a with
    | none => rfl
    | some o' => exact absurd (Heap.lt_size (F.keep a o' e)) (Nat.not_lt.mpr ha)
  have hD₀ : h₀.get? s₂.heap.objs.size = none := fresh₀ _ (Nat.le_refl _)
  have hC₀ : h₀.get? H2.objs.size = none := fresh₀ _ (by rw [hC]; exact Nat.le_succ _)
  have hLlt : L < s₂.heap.objs.size := F.ns.lt
  have hDL : s₂.heap.objs.size ≠ L := Ne.symm (below L hLlt).2
  have hCL : H2.objs.size ≠ L := Ne.symm (below L hLlt).1
  have hCI : I ≠ H2.objs.size := (below I hIlt).1
  have hDI : I ≠ s₂.heap.objs.size := (below I hIlt).2
  have lt₀ : ∀ p ∈ news, p.1 < s₂.heap.objs.size := fun p hp => Heap.lt_size (N p hp).1
  have off₀ : ∀ p ∈ news, p.1 ≠ I ∧ p.1 ≠ H2.objs.size ∧ p.1 ≠ s₂.heap.objs.size := fun p hp => ⟨off p hp, (below _ (lt₀ p hp)).1, (below _ (lt₀ p hp)).2⟩
  have loop : ∀ s₃ : Shared, s₃ = { s₂ with heap := h₁, toks := s₂.toks + ([] : List (Str × Value)).length } →
      codeAny (model prog w) A (.compLoop (.ListComp elt [⟨target, iter, ifs, 0⟩] scope pos) 0 (.ref I) (.ref s₂.heap.objs.size) (compEnvC scope cl H2.objs.size env))
        (RR (.ref s₂.heap.objs.size) H2.objs.size) s₃ := by
    rintro s₃ rfl
    refine cx_loop
      (fun k s' => ∃ h' tk i ys m' news', s' = { s₂ with heap := h', toks := tk } ∧ i ≤ n ∧ k = n + 1 - i ∧ ys.length ≤ i ∧ St i h' ∧ Fr h₀ L h' m ∧ h'.Ns H2.objs.size m' ∧ News h₀ L h' ((s₂.heap.objs.size, lst ys) :: news') ∧
        (∀ p ∈ news', p.1 ≠ I ∧ p.1 ≠ H2.objs.size ∧ p.1 ≠ s₂.heap.objs.size) ∧ J i ys news') ?_ (n + 1)
      ⟨h₁, _, 0, [], _, news, rfl, Nat.zero_le _, rfl, Nat.le_refl _, hst₁, F.keeps old, hns₁, fun p hp => ?_, off₀, h0⟩
    · rintro k s' ⟨h', tk, i, ys, m', news', rfl, hi, rfl, hyl, hst', F', hn', N', off', hJ'⟩
      by_cases hlt : i < n
      · refine W.item i _ _ _ hlt hst' fun v h₂ tk₂ hPv hst₂ hk₂ => ?_
        have hn₂ : h₂.Ns H2.objs.size m' := hn'.at' fun o e => hk₂ _ o (by simpa using Ne.symm hCI) e
        have N₂ : News h₀ L h₂ ((s₂.heap.objs.size, lst ys) :: news') := news_but N' hk₂ fun p hp => by
          rcases List.mem_cons.mp hp with rfl | hp
          · exact Ne.symm hDI
          · exact (off' p hp).1
        have F₂ : Fr h₀ L h₂ m := fr_but F' hk₂ hIL hI₀
        refine hgo (i + 1) _ v _ _ hst₂ ?_
        refine hasg i v _ ys news' _ m' _ _ hPv hJ' (fun p hp => N₂ p (List.mem_cons_of_mem _ hp)) hn₂ fun h₃ tk₃ m₂ hn₃ hA₃ hs₃ => ?_
        have hst₃ : St (i + 1) h₃ := W.frame _ _ _ hst₂ fun b hb o e => hs₃ b o (fun q => hCf (by have q' : b = H2.objs.size := q; rw [← q']; exact hb)) e
        obtain ⟨oI, heI⟩ := hIo _ _ hst₃
        obtain ⟨oC, heC, hoC⟩ := ns_obj hn₃
        have F₃ : Fr h₀ L h₃ m := ⟨F₂.ns.at' fun o e => hs₃ _ o (Ne.symm hCL) e, fun b o e => hs₃ b o (fun q => by rw [q, hC₀] at e; cases e) (F₂.keep b o e), F₂.above⟩
        have N₃ : News h₀ L h₃ ((I, oI) :: (H2.objs.size, oC) :: (s₂.heap.objs.size, lst ys) :: news') := fun p hp => by
          rcases List.mem_cons.mp hp with rfl | hp
          · exact ⟨heI, Ne.symm hIL, hI₀⟩
          · rcases List.mem_cons.mp hp with rfl | hp
            · exact ⟨heC, hCL, hC₀⟩
            · have z := N₂ p hp
              refine ⟨hs₃ _ _ ?_ z.1, z.2⟩
              rcases List.mem_cons.mp hp with rfl | hp
              · exact hDC
              · exact (off' p hp).2.1
        have fin : ∀ y s₅, CEnd h₀ L m { s₂ with heap := h₃, toks := tk₃ } I oI H2.objs.size oC s₂.heap.objs.size (lst ys) (J (i + 1) (ys ++ [y])) s₅ →
            wpAny (model prog w) A (call (.builtin "list.append") [.ref s₂.heap.objs.size, y]) (fun _ s₅ => ∃ m_1, m_1 < n + 1 - i ∧ ∃ h' tk i ys m' news', s₅ = { s₂ with heap := h', toks := tk } ∧ i ≤ n ∧ m_1 = n + 1 - i ∧ ys.length ≤ i ∧ St i h' ∧ Fr h₀ L h' m ∧ h'.Ns H2.objs.size m' ∧ News h₀ L h' ((s₂.heap.objs.size, lst ys) :: news') ∧
              (∀ p ∈ news', p.1 ≠ I ∧ p.1 ≠ H2.objs.size ∧ p.1 ≠ s₂.heap.objs.size) ∧ J i ys news') (notedBy (model prog w) A (compEnvC scope cl H2.objs.size env) fun e s' => RR (.ref s₂.heap.objs.size) H2.objs.size (.error e) s') s₅ := by
          rintro y s₅ ⟨h₄, tk₄, news₄, rfl, F₄, N₄, off₄, hJ₄⟩
          have zI := (N₄ (I, oI) List.mem_cons_self).1
          have zC := (N₄ (H2.objs.size, oC) (List.mem_cons_of_mem _ List.mem_cons_self)).1
          have zD := (N₄ (s₂.heap.objs.size, lst ys) (List.mem_cons_of_mem _ (List.mem_cons_of_mem _ List.mem_cons_self))).1
          have N₄' : News h₀ L h₄ news₄ := fun p hp => N₄ p (List.mem_cons_of_mem _ (List.mem_cons_of_mem _ (List.mem_cons_of_mem _ hp)))
          have hst₄ : St (i + 1) h₄ := hSt _ _ _ _ _ _ hst₃ heI zI F₄.keep N₄' hJ₄
          refine append_at (hsz := by show ys.toArray.size ≤ sizeLine; rw [List.size_toArray]; exact Nat.le_trans (Nat.le_trans hyl hi) hsz) zD fun h₅ hs₅ hD₅ => ?_
          refine ⟨n + 1 - (i + 1), by omega, h₅, tk₄, i + 1, ys ++ [y], _, news₄, rfl, hlt, rfl, by rw [List.length_append, List.length_singleton]; exact Nat.succ_le_succ hyl, W.frame _ _ _ hst₄ fun b hb o e => hs₅.extBut b o (fun q => hDf (q ▸ hb)) e, F₄.change hs₅ hDL hD₀,
            (hoC.ns zC).sameBut hs₅ (Ne.symm hDC), fun p hp => ?_, off₄, hJ₄⟩
          rcases List.mem_cons.mp hp with rfl | hp
          · exact ⟨hD₅.trans (congrArg some (lst_snoc ys y)), hDL, hD₀⟩
          · exact ⟨hs₅.extBut _ _ (off₄ p hp).2.2 (N₄' p hp).1, (N₄' p hp).2⟩
        have fin0 : ∀ s₅, CEnd h₀ L m { s₂ with heap := h₃, toks := tk₃ } I oI H2.objs.size oC s₂.heap.objs.size (lst ys) (J (i + 1) ys) s₅ → ∃ m_1, m_1 < n + 1 - i ∧ ∃ h' tk i ys m' news', s₅ = { s₂ with heap := h', toks := tk } ∧ i ≤ n ∧ m_1 = n + 1 - i ∧ ys.length ≤ i ∧ St i h' ∧ Fr h₀ L h' m ∧ h'.Ns H2.objs.size m' ∧ News h₀ L h' ((s₂.heap.objs.size, lst ys) :: news') ∧
              (∀ p ∈ news', p.1 ≠ I ∧ p.1 ≠ H2.objs.size ∧ p.1 ≠ s₂.heap.objs.size) ∧ J i ys news' := by
          rintro s₅ ⟨h₄, tk₄, news₄, rfl, F₄, N₄, off₄, hJ₄⟩
          have zI := (N₄ (I, oI) List.mem_cons_self).1
          have zC := (N₄ (H2.objs.size, oC) (List.mem_cons_of_mem _ List.mem_cons_self)).1
          have N₄' : News h₀ L h₄ news₄ := fun p hp => N₄ p (List.mem_cons_of_mem _ (List.mem_cons_of_mem _ (List.mem_cons_of_mem _ hp)))
          have hst₄ : St (i + 1) h₄ := hSt _ _ _ _ _ _ hst₃ heI zI F₄.keep N₄' hJ₄
          exact ⟨n + 1 - (i + 1), by omega, h₄, tk₄, i + 1, ys, _, news₄, rfl, hlt, rfl, Nat.le_succ_of_le hyl, hst₄, F₄, hoC.ns zC, fun p hp => N₄ p (List.mem_cons_of_mem _ (List.mem_cons_of_mem _ hp)), off₄, hJ₄⟩
        have T := turn i v ys news' oI H2.objs.size oC s₂.heap.objs.size m₂ h₃ tk₃ (notedBy (model prog w) A (compEnvC scope cl H2.objs.size env) fun e s' => RR (.ref s₂.heap.objs.size) H2.objs.size (.error e) s') hlt hPv hJ' hoC hA₃ F₃ N₃ off' ⟨hCI, hDI, Ne.symm hDC⟩ lt₀
        match ifs, T with
        | [], T =>
          refine wpAny_tests_nil ?_
          simp only [if_true]
          exact wpAny_mono T (fun y s₅ h₅ => fin y s₅ h₅) fun _ _ e => e
        | [ct], T =>
          refine wpAny_tests_one (wpAny_mono T (fun ok s₅ h₅ => ?_) fun _ _ e => e)
          cases ok with
          | true =>
            simp only [if_true] at h₅ ⊢
            exact wpAny_mono h₅ (fun y s₅ h₅ => fin y s₅ h₅) fun _ _ e => e
          | false =>
            simp only [Bool.false_eq_true, if_false] at h₅ ⊢
            exact fin0 s₅ h₅
      · obtain rfl : i = n := Nat.le_antisymm hi (Nat.not_lt.mp hlt)
        refine W.done _ _ _ hst' fun h₂ tk₂ hk₂ => ?_
        exact hRR _ _ h₂ tk₂ _ ys news' (fr_but F' hk₂ hIL hI₀) (news_but N' hk₂ fun p hp => by
          rcases List.mem_cons.mp hp with rfl | hp
          · exact Ne.symm hDI
          · exact (off' p hp).1) (fun p hp => (off' p hp).2.2) lt₀ (hn'.at' fun o e => hk₂ _ o (by simpa using Ne.symm hCI) e) hC₀ hD₀ hCL hDL (Ne.symm hDC) (fun p hp => (off' p hp).2.1) hJ'
    · rcases List.mem_cons.mp hp with rfl | hp
      · exact ⟨hacc, hDL, hD₀⟩
      · exact ⟨old _ _ (N p hp).1, (N p hp).2⟩
  exact codeAny_compStart_list (loop _ rfl) (W.self 0 _ _ _ hst₁ (loop _ rfl))
end
section
variable {prog : Program} {w : World} {A : Around} {E : Value → Shared → Prop} {s : Shared} {h₀ : Heap} {L : Addr} {m : Str → Option Value} {env : Env}
/-- a comprehension at its iterator: what is needed -/
def CxAt (prog : Program) (w : World) (A : Around) (h₀ : Heap) (L : Addr) (m : Str → Option Value) (env : Env) (elt target : Expr) (ifs : List Expr) (scope : Scope) (cl : List (Str × Addr)) (mf : Addr → Str → Option Value) (G : Addr → Shared → Prop) (it : Value) (s₂ : Shared) : Prop :=
  ∃ (I : Addr) (fp : List Addr) (n : Nat) (P : Nat → Value → Prop) (St : Nat → Heap → Prop) (news : List (Addr × Obj)) (J : Nat → List Value → List (Addr × Obj) → Prop) (Asg : Value → List (Addr × Obj) → (Str → Option Value) → Prop),
    it = .ref I ∧ Walks prog w A I fp [I] n P St ∧ n ≤ sizeLine ∧ (∀ i h, St i h → ∃ o, h.get? I = some o) ∧
    (∀ i h h' o ys nw, St i h → h.get? I = some o → h'.get? I = some o → (∀ b o, h₀.get? b = some o → h'.get? b = some o) → News h₀ L h' nw → J i ys nw → St i h') ∧
    (∀ i (s' : Shared) v (Q' : Unit → Shared → Prop) (E' : Value → Shared → Prop), St i s'.heap → Q' () s' → wpAny (model prog w) A (letOwnedTupleGo target (.ref I) v) Q' E' s') ∧
    (∀ i v C ys nw (s' : Shared) m' (Q' : Unit → Shared → Prop) (E' : Value → Shared → Prop), P i v → J i ys nw → News h₀ L s'.heap nw → s'.heap.Ns C m' →
      (∀ h' tk' m₂, h'.Ns C m₂ → Asg v nw m₂ → (∀ c o, c ≠ C → s'.heap.get? c = some o → h'.get? c = some o) → Q' () { s' with heap := h', toks := tk' }) → wpAny (model prog w) A (assign target (compEnvC scope cl C env) v) Q' E' s') ∧
    St 0 s₂.heap ∧ (∀ b ∈ fp, b < s₂.heap.objs.size) ∧ Fr h₀ L s₂.heap m ∧ News h₀ L s₂.heap news ∧ L ≠ I ∧ h₀.get? I = none ∧ (∀ p ∈ news, p.1 ≠ I) ∧ J 0 [] news ∧
    (∀ i v ys nw oI C oC D m₂ h tk (E' : Value → Shared → Prop), i < n → P i v → J i ys nw → LCg.NsObj oC m₂ → Asg v nw m₂ → Fr h₀ L h m → News h₀ L h ((I, oI) :: (C, oC) :: (D, lst ys) :: nw) → (∀ p ∈ nw, p.1 ≠ I ∧ p.1 ≠ C ∧ p.1 ≠ D) → ((@Ne Nat I C) ∧ (@Ne Nat I D) ∧ (@Ne Nat C D)) → (∀ p ∈ news, p.1 < D) →
      CTurn prog w A (compEnvC scope cl C env) elt ifs (fun ys' s' => CEnd h₀ L m { s₂ with heap := h, toks := tk } I oI C oC D (lst ys) (J (i + 1) ys') s') ys E' { s₂ with heap := h, toks := tk }) ∧
    (∀ D h tk ys nw, Fr h₀ L h (mf D) → News h₀ L h ((D, lst ys) :: nw) → (∀ p ∈ nw, p.1 ≠ D) → (∀ p ∈ news, p.1 < D) → J n ys nw → G D { s₂ with heap := h, toks := tk })
def CxSrc (prog : Program) (w : World) (A : Around) (h₀ : Heap) (L : Addr) (m : Str → Option Value) (env : Env) (elt target : Expr) (ifs : List Expr) (scope : Scope) (cl : List (Str × Addr)) (mf : Addr → Str → Option Value) (G : Addr → Shared → Prop) (E : Value → Shared → Prop) (xv : Value) (s₁ : Shared) : Prop :=
  wpAny (model prog w) A (pyIter xv) (fun it s₂ => CxAt prog w A h₀ L m env elt target ifs scope cl mf G it s₂) E s₁
theorem cx_eval {elt target iter : Expr} {ifs : List Expr} {scope : Scope} {cl : List (Str × Addr)} {pos : Pos} {Q : Value → Shared → Prop} (F₀ : Fr h₀ L s.heap m)
    (hclos : closureFor scope env = pure cl) (hcell : ∀ y ∈ scope.names, y.2 ≠ .cell) (hkind : scope.kind = .function)
    (hnames : ∀ y ∈ scope.names, y.2 = .local → scope.names.lookup y.1 = some .local)
    (hs : ∀ x, foldedSetIterable iter env x = pure x)
    (h : wpAny (model prog w) A (eval iter env) (CxSrc prog w A h₀ L m env elt target ifs scope cl (fun _ => m) (fun D => Q (.ref D)) E) E s) :
    wpAny (model prog w) A (eval (.ListComp elt [⟨target, iter, ifs, 0⟩] scope pos) env) Q E s := by
  rw [eval_ListComp]
  refine wpAny_comprehension_free (use := none) rfl hs hclos hkind hnames (wpAny_mono h (fun xv s₁ h₁ => wpAny_mono h₁ (fun it s₂ h₂ => ?_) fun _ _ e => e) fun _ _ e => e)
  obtain ⟨I, fp, n, P, St, news, J, Asg, rfl, W, hsz, hIo, hSt, hgo, hasg, hst, hfp, F, N, hIL, hI₀, off, h0, turn, done⟩ := h₂
  refine cx_block W hsz hIo hSt hcell hkind hgo hasg hst hfp F N hIL hI₀ off h0 turn ?_
  intro D C h tk m' ys nw F' N' o1 lt₀ hn hC₀ hD₀ hCL hDL hCD offC hJ
  refine ⟨m', hn, fun h'' hs'' => done D h'' tk ys nw (F'.change hs'' hCL hC₀) (fun p hp => ?_) o1 lt₀ hJ⟩
  refine ⟨hs''.extBut _ _ ?_ (N' p hp).1, (N' p hp).2⟩
  rcases List.mem_cons.mp hp with rfl | hp
  · exact Ne.symm hCD
  · exact offC p hp
theorem cx_assign {elt target iter : Expr} {ifs : List Expr} {y : Str} {py : Pos} {scope : Scope} {cl : List (Str × Addr)} {pos spos : Pos} {Q : Flow → Shared → Prop} (F₀ : Fr h₀ L s.heap m) (hLe : env.locals = L)
    (hsw : swapsWith (.ListComp elt [⟨target, iter, ifs, 0⟩] scope pos) (some (.Name y py)) spos.line env = pure true)
    (hclos : closureFor scope env = pure cl) (hcell : ∀ z ∈ scope.names, z.2 ≠ .cell) (hkind : scope.kind = .function)
    (hnames : ∀ z ∈ scope.names, z.2 = .local → scope.names.lookup z.1 = some .local)
    (hy : env.kindOf y = some .local) (hp : (env.scope.kind == .class || (env.scope.kind == .module && env.locals != env.globals)) = false)
    (hs : ∀ x, foldedSetIterable iter env x = pure x)
    (h : wpAny (model prog w) A (eval iter env) (CxSrc prog w A h₀ L m env elt target ifs scope cl (fun D z => if z = y then some (.ref D) else m z) (fun _ => Q .next) E) E s) :
    wpAny (model prog w) A (exec (.Assign [.Name y py] (.ListComp elt [⟨target, iter, ifs, 0⟩] scope pos) spos) env) Q E s := by
  subst hLe
  rw [exec_Assign_Name_used _ _ _ _ hsw]
  refine wpAny_bind (wpAny_standAt (wpAny_bind ?_))
  show wpAny _ A (do let _ ← comprehension (.ListComp elt [⟨target, iter, ifs, 0⟩] scope pos) scope env _ (newList []) false (eval iter env) (some (assign (.Name y py) env))) _ _ s
  refine wpAny_bind (wpAny_mono (wpAny_comprehension_free (use := some (assign (.Name y py) env)) (Q := fun _ s' => Q .next s') rfl hs hclos hkind hnames
    (wpAny_mono h (fun xv s₁ h₁ => wpAny_mono h₁ (fun it s₂ h₂ => ?_) fun _ _ e => e) fun _ _ e => e)) (fun _ s' hq => wpAny_pure (wpAny_pure hq)) fun _ _ e => e)
  obtain ⟨I, fp, n, P, St, news, J, Asg, rfl, W, hsz, hIo, hSt, hgo, hasg, hst, hfp, F, N, hIL, hI₀, off, h0, turn, done⟩ := h₂
  refine cx_block W hsz hIo hSt hcell hkind hgo hasg hst hfp F N hIL hI₀ off h0 turn ?_
  intro D C h' tk m' ys nw F' N' o1 lt₀ hn hC₀ hD₀ hCL hDL hCD offC hJ
  show wpAny _ A (assign (.Name y py) env (.ref D)) _ _ _
  refine wpAny_assign_Name (wpAny_storeName_local hy F'.ns (fun h₂ hn₂ hs₂ => ?_) hp)
  have hL₀ : h₀.get? env.locals = none := Heap.get?_none_of_le F'.above
  have F₂ : Fr h₀ env.locals h₂ (fun z => if z = y then some (.ref D) else m z) := ⟨hn₂, fun b o e => hs₂.extBut b o (fun q => by rw [q, hL₀] at e; cases e) (F'.keep b o e), F'.above⟩
  refine ⟨m', hn.sameBut hs₂ hCL, fun h'' hs'' => done D h'' _ ys nw (F₂.change hs'' hCL hC₀) (fun p hp => ?_) o1 lt₀ hJ⟩
  have z : h₂.get? p.1 = some p.2 := hs₂.extBut _ _ (N' p hp).2.1 (N' p hp).1
  refine ⟨hs''.extBut _ _ ?_ z, (N' p hp).2⟩
  rcases List.mem_cons.mp hp with rfl | hp
  · exact Ne.symm hCD
  · exact offC p hp
theorem asg_name {scope : Scope} {cl : List (Str × Addr)} {x : Str} {px : Pos} (hkind : scope.kind = .function) (hx : scope.names.lookup x = some .local) {v : Value} {C : Addr} {s' : Shared} {m' : Str → Option Value} {Q' : Unit → Shared → Prop} {E' : Value → Shared → Prop} (hn : s'.heap.Ns C m')
    (h : ∀ h' tk' m₂, h'.Ns C m₂ → m₂ x = some v → (∀ c o, c ≠ C → s'.heap.get? c = some o → h'.get? c = some o) → Q' () { s' with heap := h', toks := tk' }) : wpAny (model prog w) A (assign (.Name x px) (compEnvC scope cl C env) v) Q' E' s' := by
  refine wpAny_assign_Name (wpAny_storeName_local (lookup_relabel_local hx) hn (fun h₃ hn₃ hs₃ => ?_) (by simp [compEnvC, relabel, hkind]))
  exact h h₃ _ _ hn₃ (by simp) fun c o hc e => hs₃.extBut c o hc e
theorem cx_led {elt : Expr} {ifs : List Expr} {x : Str} {px : Pos} {scope : Scope} {cl : List (Str × Addr)} {mf : Addr → Str → Option Value} {G : Addr → Shared → Prop} {l : Addr} {vs : List Value} {k : Nat} {news : List (Addr × Obj)}
    (J : Nat → List Value → List (Addr × Obj) → Prop) (hh : A.handled = none) (F : Fr h₀ L s.heap m) (N : News h₀ L s.heap news) (hm : (l, W.listOf vs.toArray k) ∈ news) (hlen : vs.length ≤ 100)
    (hkind : scope.kind = .function) (hx : scope.names.lookup x = some .local) (h0 : J 0 [] news) (hJ : ∀ i ys nw, J i ys nw → (l, W.listOf vs.toArray k) ∈ nw)
    (turn : ∀ i v ys nw I oI C oC D m₂ h tk (E' : Value → Shared → Prop), vs[i]? = some v → J i ys nw → LCg.NsObj oC m₂ → m₂ x = some v → Fr h₀ L h m → News h₀ L h ((I, oI) :: (C, oC) :: (D, lst ys) :: nw) → (∀ p ∈ nw, p.1 ≠ I ∧ p.1 ≠ C ∧ p.1 ≠ D) → ((@Ne Nat I C) ∧ (@Ne Nat I D) ∧ (@Ne Nat C D)) → (∀ p ∈ news, p.1 < D) →
      CTurn prog w A (compEnvC scope cl C env) elt ifs (fun ys' s' => CEnd h₀ L m { s with heap := h, toks := tk } I oI C oC D (lst ys) (J (i + 1) ys') s') ys E' { s with heap := h, toks := tk })
    (done : ∀ D h tk ys nw, Fr h₀ L h (mf D) → News h₀ L h ((D, lst ys) :: nw) → (∀ p ∈ nw, p.1 ≠ D) → (∀ p ∈ news, p.1 < D) → J vs.length ys nw → G D { s with heap := h, toks := tk }) :
    CxSrc prog w A h₀ L m env elt (.Name x px) ifs scope cl mf G E (.ref l) s := by
  have hlo := N _ hm
  have hls : s.heap.IsList l vs.toArray := ⟨_, hlo.1, rfl, k, rfl⟩
  have hlt : l < s.heap.objs.size := Heap.lt_size hlo.1
  refine wpAny_pyIter_list hls ?_
  have up : ∀ b o, s.heap.get? b = some o → (s.heap.push { cls := .type "list_iterator", data := .fields #[.ref l, .int 0 0] }).get? b = some o := fun b o e => Heap.get?_push_of_some _ e
  have Wk := Walks.list (prog := prog) (w := w) hh s.heap.objs.size l (Nat.ne_of_lt hlt) vs.toArray
  rw [show vs.toArray.size = vs.length by simp] at Wk
  refine ⟨s.heap.objs.size, _, _, _, _, news, J, fun v _ m₂ => m₂ x = some v, rfl, Wk, by rw [sizeLine_eq]; omega, fun i h st => by obtain ⟨o, e, _⟩ := st.1; exact ⟨o, e⟩,
    fun i h h' o ys nw st e e' kp Nw hj => ⟨by obtain ⟨o', q, r⟩ := st.1; rw [e] at q; cases q; exact ⟨o, e', r⟩, ⟨_, (Nw _ (hJ _ _ _ hj)).1, rfl, k, rfl⟩⟩,
    fun i s' v Q' E' _ hq => wpAny_pure hq, fun i v C ys nw s' m' Q' E' _ _ _ hn hq => asg_name hkind hx hn hq, ⟨⟨_, Heap.get?_push_size _ rfl, rfl, rfl⟩, hls.push _⟩, fun b hb => ?_,
    F.keeps up, N.grown up, Nat.ne_of_lt F.ns.lt, next_is_new F, fun p hp => Nat.ne_of_lt (Heap.lt_size (N p hp).1), h0,
    fun i v ys nw oI C oC D m₂ h tk E' hi hv => turn i v ys nw _ oI C oC D m₂ h tk E' (by simpa using hv), done⟩
  show b < (s.heap.push _).objs.size
  rw [Heap.size_push]
  rcases List.mem_cons.mp hb with rfl | hb
  · exact Nat.lt_succ_self _
  · rw [List.mem_singleton.mp hb]; exact Nat.lt_succ_of_lt hlt
/-- the source is a list of two-item lists, the target two names -/
theorem cx_ledP {elt : Expr} {ifs : List Expr} {x x₂ : Str} {px px₂ tp : Pos} {tk0 : Nat} {scope : Scope} {cl : List (Str × Addr)} {mf : Addr → Str → Option Value} {G : Addr → Shared → Prop} {l : Addr} {vs : List Value} {k : Nat} {news : List (Addr × Obj)}
    (J : Nat → List Value → List (Addr × Obj) → Prop) (hh : A.handled = none) (F : Fr h₀ L s.heap m) (N : News h₀ L s.heap news) (hm : (l, W.listOf vs.toArray k) ∈ news) (hlen : vs.length ≤ 100)
    (hkind : scope.kind = .function) (hx : scope.names.lookup x = some .local) (hx₂ : scope.names.lookup x₂ = some .local) (hxx : x ≠ x₂) (h0 : J 0 [] news) (hJ : ∀ i ys nw, J i ys nw → (l, W.listOf vs.toArray k) ∈ nw)
    (hp : ∀ i v ys nw, vs[i]? = some v → J i ys nw → ∃ a v₁ v₂ n, v = .ref a ∧ (a, W.listOf #[v₁, v₂] n) ∈ nw)
    (turn : ∀ i a v₁ v₂ n ys nw I oI C oC D m₂ h tk (E' : Value → Shared → Prop), vs[i]? = some (.ref a) → (a, W.listOf #[v₁, v₂] n) ∈ nw → J i ys nw → LCg.NsObj oC m₂ → m₂ x = some v₁ → m₂ x₂ = some v₂ → Fr h₀ L h m → News h₀ L h ((I, oI) :: (C, oC) :: (D, lst ys) :: nw) → (∀ p ∈ nw, p.1 ≠ I ∧ p.1 ≠ C ∧ p.1 ≠ D) → ((@Ne Nat I C) ∧ (@Ne Nat I D) ∧ (@Ne Nat C D)) → (∀ p ∈ news, p.1 < D) →
      CTurn prog w A (compEnvC scope cl C env) elt ifs (fun ys' s' => CEnd h₀ L m { s with heap := h, toks := tk } I oI C oC D (lst ys) (J (i + 1) ys') s') ys E' { s with heap := h, toks := tk })
    (done : ∀ D h tk ys nw, Fr h₀ L h (mf D) → News h₀ L h ((D, lst ys) :: nw) → (∀ p ∈ nw, p.1 ≠ D) → (∀ p ∈ news, p.1 < D) → J vs.length ys nw → G D { s with heap := h, toks := tk }) :
    CxSrc prog w A h₀ L m env elt (.Tuple [.Name x px, .Name x₂ px₂] tk0 tp) ifs scope cl mf G E (.ref l) s := by
  have hlo := N _ hm
  have hls : s.heap.IsList l vs.toArray := ⟨_, hlo.1, rfl, k, rfl⟩
  have hlt : l < s.heap.objs.size := Heap.lt_size hlo.1
  refine wpAny_pyIter_list hls ?_
  have up : ∀ b o, s.heap.get? b = some o → (s.heap.push { cls := .type "list_iterator", data := .fields #[.ref l, .int 0 0] }).get? b = some o := fun b o e => Heap.get?_push_of_some _ e
  have Wk := Walks.list (prog := prog) (w := w) hh s.heap.objs.size l (Nat.ne_of_lt hlt) vs.toArray
  rw [show vs.toArray.size = vs.length by simp] at Wk
  refine ⟨s.heap.objs.size, _, _, _, _, news, J, fun v nw m₂ => ∃ a v₁ v₂ n, v = .ref a ∧ (a, W.listOf #[v₁, v₂] n) ∈ nw ∧ m₂ x = some v₁ ∧ m₂ x₂ = some v₂, rfl, Wk, by rw [sizeLine_eq]; omega, fun i h st => by obtain ⟨o, e, _⟩ := st.1; exact ⟨o, e⟩,
    fun i h h' o ys nw st e e' kp Nw hj => ⟨by obtain ⟨o', q, r⟩ := st.1; rw [e] at q; cases q; exact ⟨o, e', r⟩, ⟨_, (Nw _ (hJ _ _ _ hj)).1, rfl, k, rfl⟩⟩,
    fun i s' v Q' E' st hq => letGo_listiter st.1 hq, ?_, ⟨⟨_, Heap.get?_push_size _ rfl, rfl, rfl⟩, hls.push _⟩, fun b hb => ?_,
    F.keeps up, N.grown up, Nat.ne_of_lt F.ns.lt, next_is_new F, fun p hp => Nat.ne_of_lt (Heap.lt_size (N p hp).1), h0, ?_, done⟩
  · intro i v C ys nw s' m' Q' E' hv hj Nw hn hq
    obtain ⟨a, v₁, v₂, n, rfl, hmem⟩ := hp i v ys nw (by simpa using hv) hj
    have hl : s'.heap.IsList a #[v₁, v₂] := ⟨_, (Nw _ hmem).1, rfl, n, rfl⟩
    rw [assign_Tuple]
    refine wpAny_bind (wpAny_standAt ?_)
    unfold unpack
    refine wpAny_bind (wpAny_holding (kun_itemsOf (items := #[v₁, v₂]) hh hl fun h₁ he₁ => ?_))
    have hCs : C ≠ s'.heap.objs.size := Nat.ne_of_lt hn.lt
    have hn₁ : h₁.Ns C m' := hn.at' fun o e => he₁ _ o hCs e
    have up₁ : ∀ c o, s'.heap.get? c = some o → h₁.get? c = some o := fun c o e => he₁ c o (Nat.ne_of_lt (Heap.lt_size e)) e
    show wpAny _ _ (assignInOrder [assign (.Name x px) (compEnvC scope cl C env), assign (.Name x₂ px₂) (compEnvC scope cl C env)] [v₁, v₂]) _ _ _
    refine assignInOrder_cons ?_
    refine wpAny_assign_Name (wpAny_storeName_local (lookup_relabel_local hx) hn₁ (fun h₂ hn₂ hs₂ => ?_) (by simp [compEnvC, relabel, hkind]))
    refine assignInOrder_cons ?_
    refine wpAny_assign_Name (wpAny_storeName_local (lookup_relabel_local hx₂) hn₂ (fun h₃ hn₃ hs₃ => ?_) (by simp [compEnvC, relabel, hkind]))
    refine assignInOrder_nil ?_
    exact hq h₃ _ _ hn₃ ⟨a, v₁, v₂, n, rfl, hmem, by simp [hxx], by simp⟩ fun c o hc e => hs₃.extBut c o hc (hs₂.extBut c o hc (up₁ c o e))
  · show b < (s.heap.push _).objs.size
    rw [Heap.size_push]
    rcases List.mem_cons.mp hb with rfl | hb
    · exact Nat.lt_succ_self _
    · rw [List.mem_singleton.mp hb]; exact Nat.lt_succ_of_lt hlt
  · rintro i v ys nw oI C oC D m₂ h tk E' hi hv hj hC ⟨a, v₁, v₂, n, rfl, hmem, e1, e2⟩ F' N' off ne lt
    exact turn i a v₁ v₂ n ys nw _ oI C oC D m₂ h tk E' (by simpa using hv) hmem hj hC e1 e2 F' N' off ne lt
theorem cx_dict {elt : Expr} {ifs : List Expr} {x : Str} {px : Pos} {scope : Scope} {cl : List (Str × Addr)} {mf : Addr → Str → Option Value} {G : Addr → Shared → Prop} {d : Addr} {o : Obj} {kvs : List (Str × Value)} {news : List (Addr × Obj)}
    (J : Nat → List Value → List (Addr × Obj) → Prop) (hh : A.handled = none) (F : Fr h₀ L s.heap m) (N : News h₀ L s.heap news) (hm : (d, o) ∈ news) (lo : (d == sysModules) = false) (hd : o.IsDictOf (PySem.strKind prog w) kvs) (hlen : kvs.length ≤ 100)
    (hkind : scope.kind = .function) (hx : scope.names.lookup x = some .local) (h0 : J 0 [] news) (hJ : ∀ i ys nw, J i ys nw → (d, o) ∈ nw)
    (turn : ∀ i k v t ys nw I oI C oC D m₂ h tk (E' : Value → Shared → Prop), kvs[i]? = some (k, v) → J i ys nw → LCg.NsObj oC m₂ → m₂ x = some (.str k t) → Fr h₀ L h m → News h₀ L h ((I, oI) :: (C, oC) :: (D, lst ys) :: nw) → (∀ p ∈ nw, p.1 ≠ I ∧ p.1 ≠ C ∧ p.1 ≠ D) → ((@Ne Nat I C) ∧ (@Ne Nat I D) ∧ (@Ne Nat C D)) → (∀ p ∈ news, p.1 < D) →
      CTurn prog w A (compEnvC scope cl C env) elt ifs (fun ys' s' => CEnd h₀ L m { s with heap := h, toks := tk } I oI C oC D (lst ys) (J (i + 1) ys') s') ys E' { s with heap := h, toks := tk })
    (done : ∀ D h tk ys nw, Fr h₀ L h (mf D) → News h₀ L h ((D, lst ys) :: nw) → (∀ p ∈ nw, p.1 ≠ D) → (∀ p ∈ news, p.1 < D) → J kvs.length ys nw → G D { s with heap := h, toks := tk }) :
    CxSrc prog w A h₀ L m env elt (.Name x px) ifs scope cl mf G E (.ref d) s := by
  have hlo := N _ hm
  obtain ⟨es, ep, r1, r2, r3, r4, r5⟩ := id hd
  have hls : s.heap.DictAt (PySem.strKind prog w) d kvs ep := ⟨o, es, hlo.1, r1, r2, r3, r4, r5⟩
  have hlt : d < s.heap.objs.size := Heap.lt_size hlo.1
  refine wpAny_pyIter_dict lo hls ?_
  have Wk := Walks.dictKeys (prog := prog) (w := w) (knd := PySem.strKind prog w) hh s.heap.objs.size d (Nat.ne_of_lt hlt) kvs ep
  have lt : ∀ p ∈ news, p.1 < s.heap.objs.size := fun p hp => Heap.lt_size (N p hp).1
  refine ⟨s.heap.objs.size, _, _, _, _, news, J, fun v _ m₂ => m₂ x = some v, rfl, Wk, by rw [sizeLine_eq]; omega, fun i h st => by obtain ⟨⟨o, ho, _⟩, _⟩ := st; exact ⟨o, ho⟩,
    fun i h h' o' ys nw st e e' kp Nw hj => ⟨st.1.at fun o2 e2 => by rw [e] at e2; cases e2; exact e', ⟨o, es, (Nw _ (hJ _ _ _ hj)).1, r1, r2, r3, r4, r5⟩⟩,
    fun i s' v Q' E' _ hq => wpAny_pure hq, fun i v C ys nw s' m' Q' E' _ _ _ hn hq => asg_name hkind hx hn hq, ⟨⟨_, Heap.get?_push_size _ rfl, rfl, rfl⟩, hls.at' fun o e => Heap.get?_push_of_some _ e⟩, fun b hb => ?_,
    F.keeps fun _ _ e => Heap.get?_push_of_some _ e, N.grown fun _ _ e => Heap.get?_push_of_some _ e, Nat.ne_of_lt F.ns.lt, next_is_new F, fun p hp => Nat.ne_of_lt (lt p hp), h0, ?_, done⟩
  · show b < (s.heap.push _).objs.size
    rw [Heap.size_push]
    rcases List.mem_cons.mp hb with rfl | hb
    · exact Nat.lt_succ_self _
    · rw [List.mem_singleton.mp hb]; exact Nat.lt_succ_of_lt hlt
  · rintro i v ys nw oI C oC D m₂ h tk E' hi hP hj hC hx2 F' N' off ne lt
    obtain ⟨k, v', hk, hkv⟩ := hP
    obtain ⟨t, rfl⟩ : ∃ t, v = .str k t := by
      cases v with
      | str y t => simp [PySem.strKind, Value.isStrOf] at hkv; exact ⟨t, by rw [hkv]⟩
      | _ => simp [PySem.strKind, Value.isStrOf] at hkv
    exact turn i k v' t ys nw _ oI C oC D m₂ h tk E' hk hj hC hx2 F' N' off ne lt
theorem cx_range {elt : Expr} {ifs : List Expr} {x : Str} {px : Pos} {scope : Scope} {cl : List (Str × Addr)} {mf : Addr → Str → Option Value} {G : Addr → Shared → Prop} {r : Addr} {a b : Int} {t u v : Tok} {n : Nat} {news : List (Addr × Obj)}
    (J : Nat → List Value → List (Addr × Obj) → Prop) (hh : A.handled = none) (F : Fr h₀ L s.heap m) (N : News h₀ L s.heap news) (hr : IsRange s.heap r a b 1 t u v) (hsm : Builtin.Range.small a b 1 = true) (hn : Builtin.Range.rangeSize a b 1 = ((n : Nat) : Int)) (hlen : n ≤ 100)
    (hkind : scope.kind = .function) (hx : scope.names.lookup x = some .local) (h0 : J 0 [] news)
    (turn : ∀ i t ys nw I oI C oC D m₂ h tk (E' : Value → Shared → Prop), i < n → J i ys nw → LCg.NsObj oC m₂ → m₂ x = some (.int (a + (i : Int)) t) → Fr h₀ L h m → News h₀ L h ((I, oI) :: (C, oC) :: (D, lst ys) :: nw) → (∀ p ∈ nw, p.1 ≠ I ∧ p.1 ≠ C ∧ p.1 ≠ D) → ((@Ne Nat I C) ∧ (@Ne Nat I D) ∧ (@Ne Nat C D)) → (∀ p ∈ news, p.1 < D) →
      CTurn prog w A (compEnvC scope cl C env) elt ifs (fun ys' s' => CEnd h₀ L m { s with heap := h, toks := tk } I oI C oC D (lst ys) (J (i + 1) ys') s') ys E' { s with heap := h, toks := tk })
    (done : ∀ D h tk ys nw, Fr h₀ L h (mf D) → News h₀ L h ((D, lst ys) :: nw) → (∀ p ∈ nw, p.1 ≠ D) → (∀ p ∈ news, p.1 < D) → J n ys nw → G D { s with heap := h, toks := tk }) :
    CxSrc prog w A h₀ L m env elt (.Name x px) ifs scope cl mf G E (.ref r) s := by
  refine wpAny_pyIter_range hr hsm ?_
  have Wk := LCg.range_walks (prog := prog) (w := w) (A := A) (I := s.heap.objs.size) hh a n
  refine ⟨s.heap.objs.size, _, _, _, _, news, J, fun v _ m₂ => m₂ x = some v, rfl, Wk, by rw [sizeLine_eq]; omega, fun i h st => ⟨_, st⟩,
    fun i h h' o ys nw st e e' kp Nw hj => LCg.range_st (h₀ := h₀) (L := L) i h h' o nw st e e' kp Nw trivial,
    fun i s' v Q' E' _ hq => wpAny_pure hq, fun i v C ys nw s' m' Q' E' _ _ _ hn hq => asg_name hkind hx hn hq, (by show IsRangeIter _ _ _ _ _; rw [hn]; simpa using Heap.get?_push_size _ rfl), fun b hb => ?_,
    F.keeps fun _ _ e => Heap.get?_push_of_some _ e, N.grown fun _ _ e => Heap.get?_push_of_some _ e, Nat.ne_of_lt F.ns.lt, next_is_new F, fun p hp => Nat.ne_of_lt (Heap.lt_size (N p hp).1), h0, ?_, done⟩
  · rw [List.mem_singleton.mp hb]
    show s.heap.objs.size < (s.heap.push _).objs.size
    rw [Heap.size_push]; exact Nat.lt_succ_self _
  · rintro i v ys nw oI C oC D m₂ h tk E' hi hP hj hC hx2 F' N' off ne lt
    obtain ⟨t, rfl⟩ := hP
    exact turn i t ys nw _ oI C oC D m₂ h tk E' hi hj hC hx2 F' N' off ne lt
end
end Mine

/- Lp2 -/
namespace Mine
set_option maxHeartbeats 1000000
/-- a range as an object -/
abbrev rngO (a b : Int) (t u v : Tok) : Obj := { cls := .type "range", dict := none, data := .fields #[.int a t, .int b u, .int 1 v], slots := #[] }
section
variable {prog : Program} {w : World} {A : Around} {E : Value → Shared → Prop} {s : Shared} {env : Env} {h₀ : Heap} {L : Addr} {x : Str} {body : List Stmt} {m : Str → Option Value} {news : List (Addr × Obj)}
theorem walks_more {I l : Addr} {n : Nat} {P : Nat → Value → Prop} {St : Nat → Heap → Prop} (W : Walks prog w A I [I] [I] n P St) : Walks prog w A I [I, l] [I] n P St :=
  { sub := fun b hb => List.mem_singleton.mp hb ▸ .head _, frame := fun i h h' st k => W.frame i h h' st fun b hb => k b (List.mem_singleton.mp hb ▸ .head _), item := W.item, done := W.done, self := W.self }
theorem range2N {Q : Value → Shared → Prop} {a b : Int} {t u : Tok} (F : Fr h₀ L s.heap m) (N : News h₀ L s.heap news)
    (h : ∀ r h' tk t₁ u₁ v₁, Fr h₀ L h' m → News h₀ L h' ((r, rngO a b t₁ u₁ v₁) :: news) → (∀ q ∈ news, q.1 < r) → Q (.ref r) { s with heap := h', toks := tk }) :
    wpAny (model prog w) A (call (.type "range") [.int a t, .int b u]) Q E s :=
  range2_rows F N fun h' tk t₁ u₁ v₁ R F' N' _ => h _ h' tk t₁ u₁ v₁ F' (fun p hp => by
    rcases List.mem_cons.mp hp with rfl | hp
    · exact ⟨R, Nat.ne_of_gt F.ns.lt, next_is_new F⟩
    · exact N' p hp) fun q hq => Heap.lt_size (N q hq).1
theorem range1N {Q : Value → Shared → Prop} {b : Int} {u : Tok} (F : Fr h₀ L s.heap m) (N : News h₀ L s.heap news)
    (h : ∀ r h' tk t₁ u₁ v₁, Fr h₀ L h' m → News h₀ L h' ((r, rngO 0 b t₁ u₁ v₁) :: news) → (∀ q ∈ news, q.1 < r) → Q (.ref r) { s with heap := h', toks := tk }) :
    wpAny (model prog w) A (call (.type "range") [.int b u]) Q E s :=
  range1_rows F N fun h' tk t₁ u₁ v₁ R F' N' _ => h _ h' tk t₁ u₁ v₁ F' (fun p hp => by
    rcases List.mem_cons.mp hp with rfl | hp
    · exact ⟨R, Nat.ne_of_gt F.ns.lt, next_is_new F⟩
    · exact N' p hp) fun q hq => Heap.lt_size (N q hq).1
theorem smallR {a b : Int} (ha : 0 ≤ a ∧ a ≤ 1000) (hb : 0 ≤ b ∧ b ≤ 1000) : Builtin.Range.small a b 1 = true := small_one (by omega) (by omega) (by omega) (by omega)
theorem iter_range {Q : Flow → Shared → Prop} {r : Addr} {a b : Int} {t₀ u v : Tok} {n : Nat} (J : Nat → (Str → Option Value) → List (Addr × Obj) → Prop) (hh : A.handled = none) (F : Fr h₀ env.locals s.heap m) (N : News h₀ env.locals s.heap news) (hm : (r, rngO a b t₀ u v) ∈ news) (ha : 0 ≤ a ∧ a ≤ 1000) (hb : 0 ≤ b ∧ b ≤ 1000) (hn : (b - a).toNat = n) (h0 : J 0 m news)
    (turn : ∀ i t m₁ news₁ h tk I oI, J i m₁ news₁ → (∀ p ∈ news, p.1 < I) → (∀ p ∈ news₁, p.1 ≠ I) → r ≠ I → Fr h₀ env.locals h (fun y => if y = x then some (.int (a + (i : Int)) t) else m₁ y) → News h₀ env.locals h ((I, oI) :: (r, rngO a b t₀ u v) :: news₁) →
      wpAny (model prog w) A (execs body env) (TurnPost h₀ env.locals I oI r (rngO a b t₀ u v) (J (i + 1)) { s with heap := h, toks := tk } Q) E { s with heap := h, toks := tk })
    (done : ∀ h' tk m' news', Fr h₀ env.locals h' m' → News h₀ env.locals h' ((r, rngO a b t₀ u v) :: news') → J n m' news' → Q .next { s with heap := h', toks := tk }) :
    wpAny (model prog w) A (pyIter (.ref r)) (fun it s₂ => LoopAtV prog w A h₀ env x body Q E it s₂) E s := by
  have hlo := N _ hm
  have hR : IsRange s.heap r a b 1 t₀ u v := hlo.1
  have hne : r ≠ s.heap.objs.size := Nat.ne_of_lt (Heap.lt_size hlo.1)
  refine wpAny_pyIter_range hR (smallR ha hb) ?_
  have Wk := walks_more (l := r) (LCg.range_walks (prog := prog) (w := w) (A := A) (I := s.heap.objs.size) hh a n)
  have hsz : Builtin.Range.rangeSize a b 1 = ((n : Nat) : Int) := by rw [rangeSize_nat, hn]
  have lt : ∀ p ∈ news, p.1 < s.heap.objs.size := fun p hp => Heap.lt_size (N p hp).1
  refine loop_led Wk (Nat.ne_of_gt F.ns.lt) (next_is_new F) (fun i h st => ⟨_, st⟩) (by show IsRangeIter _ _ _ _ _; rw [hsz]; simpa using Heap.get?_push_size _ rfl) (F.push _) (ol := rngO a b t₀ u v) (news := news) ?_ hne (fun p hp => Nat.ne_of_lt (lt p hp)) J h0 ?_ ?_
  · intro p hp
    rcases List.mem_cons.mp hp with rfl | hp
    · exact ⟨Heap.get?_push_of_some _ hlo.1, hlo.2⟩
    · exact ⟨Heap.get?_push_of_some _ (N p hp).1, (N p hp).2⟩
  · rintro i v' m₁ news₁ h tk oI ⟨t, rfl⟩ hJ hn F₁ N₁
    exact turn i t m₁ news₁ h tk _ oI hJ lt hn hne F₁ N₁
  · intro h' tk m' news' F' N' hJ
    exact done h' tk m' news' F' N' hJ
theorem iter_rangeS {σ : Type} {Q : Flow → Shared → Prop} {r : Addr} {a b : Int} {t₀ u v : Tok} {n : Nat} (mk : (Str → Option Value) → σ → (Str → Option Value) → Str → Option Value) (J : Nat → σ → List (Addr × Obj) → Prop) (σ₀ : σ) (hh : A.handled = none) (F : Fr h₀ env.locals s.heap m) (N : News h₀ env.locals s.heap news) (hm : (r, rngO a b t₀ u v) ∈ news) (ha : 0 ≤ a ∧ a ≤ 1000) (hb : 0 ≤ b ∧ b ≤ 1000) (hn : (b - a).toNat = n)
    (hm0 : ∀ z, m z = mk m σ₀ m z) (h0 : J 0 σ₀ news)
    (turn : ∀ i t σ u' news₁ h tk I oI, J i σ news₁ → (∀ p ∈ news, p.1 < I) → (∀ p ∈ news₁, p.1 ≠ I) → r ≠ I → Fr h₀ env.locals h (fun y => if y = x then some (.int (a + (i : Int)) t) else mk m σ u' y) → News h₀ env.locals h ((I, oI) :: (r, rngO a b t₀ u v) :: news₁) →
      wpAny (model prog w) A (execs body env) (TurnPost h₀ env.locals I oI r (rngO a b t₀ u v) (fun m' nw => ∃ σ', (∀ z, m' z = mk m σ' m' z) ∧ J (i + 1) σ' nw) { s with heap := h, toks := tk } Q) E { s with heap := h, toks := tk })
    (done : ∀ h' tk σ u' news', Fr h₀ env.locals h' (mk m σ u') → News h₀ env.locals h' ((r, rngO a b t₀ u v) :: news') → J n σ news' → Q .next { s with heap := h', toks := tk }) :
    wpAny (model prog w) A (pyIter (.ref r)) (fun it s₂ => LoopAtV prog w A h₀ env x body Q E it s₂) E s := by
  refine iter_range (fun i m₁ nw => ∃ σ, (∀ z, m₁ z = mk m σ m₁ z) ∧ J i σ nw) hh F N hm ha hb hn ⟨σ₀, hm0, h0⟩ ?_ ?_
  · rintro i t m₁ news₁ h tk I oI ⟨σ, hmk, hJ⟩ lt ne hl F₁ N₁
    have e : (fun y => if y = x then some (Value.int (a + (i : Int)) t) else m₁ y) = fun y => if y = x then some (Value.int (a + (i : Int)) t) else mk m σ m₁ y := by
      funext y; by_cases hy : y = x
      · simp [hy]
      · simp only [if_neg hy]; exact hmk y
    rw [e] at F₁
    exact turn i t σ m₁ news₁ h tk I oI hJ lt ne hl F₁ N₁
  · rintro h' tk m' news' F' N' ⟨σ, hmk, hJ⟩
    have e : m' = mk m σ m' := funext hmk
    rw [e] at F'
    exact done h' tk σ m' news' F' N' hJ
end
end Mine

/- X1 -/
namespace Mine
set_option maxHeartbeats 1000000
set_option pp.deepTerms false
set_option pp.deepTerms.threshold 8
set_option linter.unusedVariables false
local macro_rules | `(tactic| walk_at "pad") => `(tactic| skip)
local macro_rules | `(tactic| walk_at "pad") => `(tactic| skip)
local macro_rules | `(tactic| walk_at "pad") => `(tactic| skip)
local macro_rules | `(tactic| walk_at "pad") => `(tactic| skip)
local macro_rules | `(tactic| walk_at "pad") => `(tactic| skip)
local macro_rules | `(tactic| walk_at "pad") => `(tactic| skip)
local macro_rules | `(tactic| walk_at "pad") => `(tactic| skip)
local macro_rules | `(tactic| walk_at "pad") => `(tactic| skip)
local macro_rules | `(tactic| walk_at "pad") => `(tactic| skip)
local macro_rules | `(tactic| walk_at "pad") => `(tactic| skip)
local macro_rules | `(tactic| walk_at "pad") => `(tactic| skip)
local macro_rules | `(tactic| walk_at "pad") => `(tactic| skip)
local macro_rules | `(tactic| walk_at "pad") => `(tactic| skip)
local macro_rules | `(tactic| walk_at "pad") => `(tactic| skip)
local macro_rules | `(tactic| walk_at "pad") => `(tactic| skip)
local macro_rules | `(tactic| walk_at "pad") => `(tactic| skip)
local macro_rules | `(tactic| walk_at "pad") => `(tactic| skip)
local macro_rules | `(tactic| walk_at "pad") => `(tactic| skip)
local macro_rules | `(tactic| walk_at "pad") => `(tactic| skip)
local macro_rules | `(tactic| walk_at "pad") => `(tactic| skip)
local macro_rules | `(tactic| walk_at "pad") => `(tactic| skip)
local macro_rules | `(tactic| walk_at "pad") => `(tactic| skip)
local macro_rules | `(tactic| walk_at "pad") => `(tactic| skip)
local macro_rules | `(tactic| walk_at "pad") => `(tactic| skip)
local macro_rules | `(tactic| walk_at "pad") => `(tactic| skip)
local macro_rules | `(tactic| walk_at "pad") => `(tactic| skip)
local macro_rules | `(tactic| walk_at "pad") => `(tactic| skip)
local macro_rules | `(tactic| walk_at "pad") => `(tactic| skip)
local macro_rules | `(tactic| walk_at "pad") => `(tactic| skip)
local macro_rules | `(tactic| walk_at "pad") => `(tactic| skip)
local macro_rules | `(tactic| walk_at "pad") => `(tactic| skip)
local macro_rules | `(tactic| walk_at "pad") => `(tactic| skip)
local macro_rules | `(tactic| walk_at "pad") => `(tactic| skip)
local macro_rules | `(tactic| walk_at "pad") => `(tactic| skip)
local macro_rules | `(tactic| walk_at "pad") => `(tactic| skip)
local macro_rules | `(tactic| walk_at "pad") => `(tactic| skip)
local macro_rules | `(tactic| walk_at "pad") => `(tactic| skip)
local macro_rules | `(tactic| walk_at "pad") => `(tactic| skip)
local macro_rules | `(tactic| walk_at "pad") => `(tactic| skip)
local macro_rules | `(tactic| walk_at "pad") => `(tactic| skip)
local macro_rules | `(tactic| walk_at "pad") => `(tactic| skip)
local macro_rules | `(tactic| walk_at "pad") => `(tactic| skip)
local macro_rules | `(tactic| walk_at "pad") => `(tactic| skip)
local macro_rules | `(tactic| walk_at "pad") => `(tactic| skip)
local macro_rules | `(tactic| walk_at "pad") => `(tactic| skip)
local macro_rules | `(tactic| walk_at "pad") => `(tactic| skip)
local macro_rules | `(tactic| walk_at "pad") => `(tactic| skip)
local macro_rules | `(tactic| walk_at "pad") => `(tactic| skip)
theorem fresh_X1 : True := by
  w_top off
  trivial
local macro_rules | `(tactic| walk_at "my steps") => `(tactic| repeat' (first | (k_unfold; (try dsimp only)) | (k_end; wrow_close) | ((try dsimp only); walk1) | (leave1; walk_say "STEP leave1"; try dsimp only) | fail "no step"))
local macro_rules | `(tactic| walk_at "my lt") => `(tactic| first | exact lt_nil | (refine lt_cons ?_ ?_; (first | assumption | (refine allLt_mem ?_; first | assumption | exact And.right (by assumption) | exact And.right (And.right (by assumption)) | exact And.right (And.right (And.right (by assumption))))); walk_at "my lt"))
local macro_rules | `(tactic| k_mem) => `(tactic| assumption)
local macro_rules | `(tactic| k_all) => `(tactic| first | assumption | exact low_ne (by assumption) (by omega))
local macro_rules | `(tactic| walk_at "my enterC") => `(tactic| (refine' code_defC ?k1 ?k2 ?k3 ?k4 ?k5 ?kA ?kF ?kK ?k6 ?k7 ?k8 ?k9 ?kB ?kD ?_ ?c2 ?c3 ?c4; (case kA => exact rfl); (case kF => exact rfl); (case kK => assumption); (case k1 => k_asm); (case k2 => k_asm); (case k3 => k_asm); (case k4 => k_asm); (case k5 => k_asm); (case k6 => k_is); (case k7 => k_is); (case k8 => ktr_room); (case k9 => exact BindsTo.of_eq rfl); (case kB => exact rfl); (case kD => decide +kernel); (case c2 => exact rfl); (case c3 => exact rfl); (case c4 => exact rfl); k_whole; intro g' L' h' tk' cells' FG' F' N' Y' B' X' T' l1; (try k_lt l1); k_cells Y'; (try simp only [List.cons_append, List.nil_append] at N'); (try dsimp only); (try k_fold)))
theorem StrsAre.lib {vs : List Value} {xs : List Str} (h : StrsAre vs xs) : PyProof.Rows.StrsAre vs xs := by
  induction h with
  | nil => exact .nil
  | cons _ ih => exact .cons _ _ ih
theorem StrsAre.mine {vs : List Value} {xs : List Str} (h : PyProof.Rows.StrsAre vs xs) : StrsAre vs xs := by
  induction h with
  | nil => exact .nil
  | cons _ _ _ ih => exact .cons ih
def labelsF (x : Str) : List Str := Txt.split x (Str.ofString ".")
def rungsF (x : Str) : List Str := if (labelsF x).getLast? = some (Str.ofString "7") then [] else (List.range ((labelsF x).length - 1)).map fun k => Str.ofString "." ++ Txt.join (Str.ofString ".") ((labelsF x).drop (k + 1))
section
variable {prog : Program} {w : World} {A : Around} {E : Value → Shared → Prop} {s : Shared} {h₀ : Heap} {L : Addr} {m : Str → Option Value} {news : Led}
theorem splitL {x y : Str} {t u : Tok} {Q : Value → Shared → Prop} (F : Fr h₀ L s.heap m) (N : News h₀ L s.heap news) (hx : x.length ≤ 20) (hy : (y.length == 0) = false)
    (h : ∀ D vs h' k, StrsAre vs (Txt.split x y) → Fr h₀ L h' m → News h₀ L h' ((D, listOf vs.toArray 0) :: news) → (∀ p ∈ news, p.1 < D) → Q (.ref D) { s with heap := h', toks := k }) :
    wpAny (model prog w) A (call (.builtin "str.split") [.str x t, .str y u]) Q E s :=
  KSpl.split1 F N hy (fun D l h' k e a F' N' l1 => h D _ h' k (e ▸ StrsAre.mine a) F' N' l1) (by rw [sizeLine_eq]; omega)
end
local macro_rules | `(tactic| walk_at "call builtin:str.split") => `(tactic| (k_dflt (refine' splitL ?F ?N ?x ?y ?_; (case F => k_asm); (case N => k_asm); (case x => assumption); (case y => decide); k_whole); intro D' v' h' k' sv' F' N' l1; (try k_lt l1); (try k_sweep)))
section
variable {prog : Program} {w : World} {A : Around} {E : Value → Shared → Prop} {s : Shared} {h₀ : Heap} {L : Addr} {m : Str → Option Value} {news : Led}
theorem StrsAre.getLast {vs : List Value} {xs : List Str} (h : StrsAre vs xs) {y : Str} (hy : xs.getLast? = some y) : ∃ t, vs[vs.length - 1]? = some (.str y t) := by
  rw [List.getLast?_eq_getElem?] at hy
  rw [h.length]
  have hlt := (List.getElem?_eq_some_iff.mp hy).1
  have hlt' : xs.length - 1 < vs.length := by rw [h.length]; exact hlt
  obtain ⟨x, t, e1, e2⟩ := h.get (xs.length - 1) _ (List.getElem?_eq_getElem hlt')
  rw [hy] at e1; cases e1
  exact ⟨t, by rw [List.getElem?_eq_getElem hlt', e2]⟩
theorem StrsAre.drop {vs : List Value} {xs : List Str} (h : StrsAre vs xs) : ∀ k, StrsAre (vs.drop k) (xs.drop k) := by
  induction h with
  | nil => intro k; simp; exact .nil
  | cons h ih =>
    intro k
    cases k with
    | zero => exact .cons h
    | succ k => simpa using ih k
theorem StrsAre.snoc {vs : List Value} {xs : List Str} (h : StrsAre vs xs) (y : Str) (t : Tok) : StrsAre (vs ++ [.str y t]) (xs ++ [y]) := by
  induction h with
  | nil => exact .cons .nil
  | cons _ ih => exact .cons ih
theorem lastL {value slice : Expr} {l : Addr} {vs : List Value} {xs : List Str} {y : Str} {n : Nat} {u : Tok} {Q : Value → Shared → Prop} (N : News h₀ L s.heap news) (hm : (l, listOf vs.toArray n) ∈ news) (hv : StrsAre vs xs) (hx : xs.getLast? = some y)
    (h : ∀ t, Q (.str y t) s) (hs : subscripted slice false (.ref l) (.int (-1) u) = operate [.ref l, .int (-1) u] (getItem (.ref l) (.int (-1) u)) := by with_unfolding_all rfl) :
    wpAny (model prog w) A (subscriptTail value slice (.ref l) (.int (-1) u)) Q E s := by
  obtain ⟨t, ht⟩ := hv.getLast hx
  have hlist : s.heap.IsList l vs.toArray := ⟨_, (N _ hm).1, rfl, n, rfl⟩
  have hpos := (List.getElem?_eq_some_iff.mp ht).1
  refine tail_any hlist.typeIs slot_list_getitem.lookup (wpAny_getItem_list_neg hlist (by decide) ?_ (by decide) ?_ (h t)) hs
  · simp; omega
  · have e : (-1 + (vs.toArray.size : Int)).toNat = vs.length - 1 := by simp; omega
    rw [e]; simpa using ht
theorem dropL {value slice : Expr} {l : Addr} {vs : List Value} {xs : List Str} {k : Int} {n : Nat} {t : Tok} {Q : Value → Shared → Prop} (F : Fr h₀ L s.heap m) (N : News h₀ L s.heap news) (hm : (l, listOf vs.toArray n) ∈ news) (hv : StrsAre vs xs) (hl : vs.length ≤ 100) (hk : 0 ≤ k)
    (h : ∀ D ws h', StrsAre ws (xs.drop k.toNat) → Fr h₀ L h' m → News h₀ L h' ((D, listOf ws.toArray 0) :: news) → (∀ p ∈ news, p.1 < D) → Q (.ref D) { s with heap := h' })
    (hs : subscripted slice false (.ref l) (.ref s.heap.objs.size) = operate [.ref s.heap.objs.size, .ref l] (getItem (.ref l) (.ref s.heap.objs.size))) (ht : ∀ r, letTemporaryGo value (.ref l) r = pure ()) :
    wpAny (model prog w) A (subscriptTail value slice (.ref l) (.ref s.heap.objs.size)) Q E { s with heap := s.heap.push { cls := .type "slice", data := .fields #[.int k t, .none, .none] } } := by
  have hlist : s.heap.IsList l vs.toArray := ⟨_, (N _ hm).1, rfl, n, rfl⟩
  refine kms_slice_lit (lo := some k) (hi := none) (zs := vs.drop k.toNat) F N hlist (.int _ _) .none ?_ (fun D h' F' N' l1 => h D _ h' (hv.drop _) F' N' l1) hs ht (by simp [sizeLine_eq]; omega)
  simp only [kms_pick, kms_lo, kms_hi, if_neg (show ¬ k < 0 by omega)]
  rw [kmk_drop_min]
  rw [List.take_of_length_le]
  simp only [List.length_drop]
  have : vs.toArray.toList.length = vs.length := by simp
  omega
theorem dropL' {value slice : Expr} {l : Addr} {vs : List Value} {xs : List Str} {k : Int} {n : Nat} {t : Tok} {Q : Value → Shared → Prop} {h : Heap} {g : _} {d : _} {tk : _} {os : _} (F : Fr h₀ L h m) (N : News h₀ L h news) (hm : (l, listOf vs.toArray n) ∈ news) (hv : StrsAre vs xs) (hl : vs.length ≤ 100) (hk : 0 ≤ k)
    (hq : ∀ D ws h', StrsAre ws (xs.drop k.toNat) → Fr h₀ L h' m → News h₀ L h' ((D, listOf ws.toArray 0) :: news) → (∀ p ∈ news, p.1 < D) → Q (.ref D) { heap := h', gens := g, drawn := d, toks := tk, os := os })
    (hs : subscripted slice false (.ref l) (.ref h.objs.size) = operate [.ref h.objs.size, .ref l] (getItem (.ref l) (.ref h.objs.size))) (ht : ∀ r, letTemporaryGo value (.ref l) r = pure ()) :
    wpAny (model prog w) A (subscriptTail value slice (.ref l) (.ref h.objs.size)) Q E { heap := h.push { cls := .type "slice", data := .fields #[.int k t, .none, .none] }, gens := g, drawn := d, toks := tk, os := os } :=
  dropL (s := { heap := h, gens := g, drawn := d, toks := tk, os := os }) F N hm hv hl hk hq hs ht
theorem joinL {l : Addr} {vs : List Value} {xs : List Str} {n : Nat} {x : Str} {t : Tok} {Q : Value → Shared → Prop} (N : News h₀ L s.heap news) (hm : (l, listOf vs.toArray n) ∈ news) (hv : StrsAre vs xs) (hx : x.length ≤ 16) (hw : (xs.map (·.length)).sum + xs.length ≤ 1048576)
    (h : ∀ t' k, Q (.str (Txt.join x xs) t') { s with toks := k }) : wpAny (model prog w) A (call (.builtin "str.join") [.str x t, .ref l]) Q E s :=
  join_listW ⟨_, (N _ hm).1, rfl, n, rfl⟩ (by simpa using hv.lib) hx hw h
end
local macro_rules | `(tactic| walk_at "subscriptTail") => `(tactic| ((with_reducible show wpAny _ _ (subscriptTail _ _ (Value.ref _) (Value.int _ _)) _ _ _); k_dflt (refine' lastL ?N ?M ?V ?hx ?_ ?hs; (case N => k_asm); (case M => k_mem); (case V => assumption); (case hx => assumption); (case hs => with_unfolding_all rfl); k_whole); intro t'; (try dsimp only)))
section
variable {prog : Program} {w : World} {A : Around} {E : Value → Shared → Prop} {s : Shared} {h₀ : Heap} {L : Addr} {m : Str → Option Value} {news : Led}
theorem lenL {l : Addr} {vs : List Value} {k : Nat} {n : Nat} {Q : Value → Shared → Prop} (N : News h₀ L s.heap news) (hm : (l, listOf vs.toArray n) ∈ news) (hk : vs.length = k) (hl : k ≤ 100)
    (h : ∀ t t', Q (.int (k : Int) t) { s with toks := t' }) : wpAny (model prog w) A (call (.builtin "len") [.ref l]) Q E s := by
  have hlist : s.heap.IsList l vs.toArray := ⟨_, (N _ hm).1, rfl, n, rfl⟩
  refine len_list hlist (by simp; omega) ?_
  have e : (vs.toArray.size : Int) = (k : Int) := by simp [hk]
  rw [e]
  exact h _ _
theorem StrsAre.len {vs : List Value} {xs : List Str} (h : StrsAre vs xs) : vs.length = xs.length := h.length
theorem range2L {Q : Value → Shared → Prop} {a b : Int} {t u : Tok} (F : Fr h₀ L s.heap m) (N : News h₀ L s.heap news)
    (h : ∀ r h' tk t₁ u₁ v₁, IsRange h' r a b 1 t₁ u₁ v₁ → Fr h₀ L h' m → News h₀ L h' news → Q (.ref r) { s with heap := h', toks := tk }) :
    wpAny (model prog w) A (call (.type "range") [.int a t, .int b u]) Q E s := range2_rows F N fun h' tk t₁ u₁ v₁ R F' N' _ => h _ h' tk t₁ u₁ v₁ R F' N'
theorem range1L {Q : Value → Shared → Prop} {b : Int} {u : Tok} (F : Fr h₀ L s.heap m) (N : News h₀ L s.heap news)
    (h : ∀ r h' tk t₁ u₁ v₁, IsRange h' r 0 b 1 t₁ u₁ v₁ → Fr h₀ L h' m → News h₀ L h' news → Q (.ref r) { s with heap := h', toks := tk }) :
    wpAny (model prog w) A (call (.type "range") [.int b u]) Q E s := range1_rows F N fun h' tk t₁ u₁ v₁ R F' N' _ => h _ h' tk t₁ u₁ v₁ R F' N'
end
local macro_rules | `(tactic| walk_at "call builtin:len") => `(tactic| (k_dflt (refine' lenL ?N ?M ?K ?L ?_; (case N => k_asm); (case M => k_mem); (case K => first | exact StrsAre.len (by assumption) | assumption); (case L => assumption)); intro t' tk'; (try dsimp only)))
local macro_rules | `(tactic| walk_at "call type:range") => `(tactic| (k_dflt (first | (refine' range2L ?F ?N ?_; (case F => k_asm); (case N => k_asm)) | (refine' range1L ?F ?N ?_; (case F => k_asm); (case N => k_asm))); intro r' h' tk' t1' t2' t3' R' F' N'; (try k_sweep)))
local macro_rules | `(tactic| walk_at "eval ListComp") => `(tactic| ((rename Fr _ _ _ _ => lF'); (with_unfolding_all refine' cx_eval lF' ?k1 ?k2 ?k3 ?k4 ?k5 ?_; (case k1 => first | exact rfl | with_unfolding_all rfl); (case k2 => decide +kernel); (case k3 => exact rfl); (case k4 => decide +kernel); (case k5 => (intro _; with_unfolding_all rfl)))))
local macro_rules | `(tactic| walk_at "subscriptTail Name Slice ref ref") => `(tactic| ((with_reducible show wpAny _ _ (subscriptTail _ (PySem.Expr.Slice (some _) none none _) (Value.ref _) (Value.ref _)) _ _ _); k_dflt (refine' dropL' ?F ?N ?M ?V ?L ?K ?_ ?hs ?ht; (case F => k_asm); (case N => k_asm); (case M => k_mem); (case V => assumption); (case L => (rw [StrsAre.len (by assumption)]; assumption)); (case K => omega); (case hs => with_unfolding_all rfl); (case ht => kmk_pure); k_whole); intro D' v' h' sv' F' N' l1; (try k_lt l1); (try k_sweep)))
local macro_rules | `(tactic| walk_at "call builtin:str.join") => `(tactic| (k_dflt (refine' joinL ?N ?M ?V ?x ?w ?_; (case N => k_asm); (case M => k_mem); (case V => assumption); (case x => decide +kernel); (case w => assumption)); intro t' tk'; (try dsimp only)))
local macro_rules | `(tactic| walk_at "CxSrc") => `(tactic| fail "here")
theorem labW : ∀ x ∈ hostsL, ∀ k, k < 101 → (((labelsF x).drop k).map (·.length)).sum + ((labelsF x).drop k).length ≤ 1048576 ∧ (Txt.join (Str.ofString ".") ((labelsF x).drop k)).length ≤ 100 := by decide +kernel
theorem fewLabs : ∀ x ∈ hostsL, (labelsF x).length ≤ 100 := by decide +kernel
theorem lastLab : ∀ x ∈ hostsL, (labelsF x).getLast? = some (if x.endsWith "7" then Str.ofString "7" else Str.ofString "local") := by decide +kernel
theorem rungs_take (x : Str) (h7 : ¬ (labelsF x).getLast? = some (Str.ofString "7")) {i : Nat} (hi : i < (Txt.split x (Str.ofString ".")).length - 1) :
    (rungsF x).take (i + 1) = (rungsF x).take i ++ [Str.ofString "." ++ Txt.join (Str.ofString ".") ((Txt.split x (Str.ofString ".")).drop (1 + (i : Int)).toNat)] := by
  have e : (1 + (i : Int)).toNat = i + 1 := by omega
  rw [e]
  unfold rungsF
  rw [if_neg h7, List.take_add_one]
  congr 1
  have hi' : i < (labelsF x).length - 1 := hi
  simp [hi']
  rfl
theorem rungs_spec (w : World) (x : Str) (tx : Tok) (hx : x ∈ hostsL) : Spec w 4 132 [.str x tx] (fun _ => True) (fun led r => ∃ a us n, r = .ref a ∧ (a, W.listOf us.toArray n) ∈ led ∧ StrsAre us (rungsF x)) := by
  have hx' := hosts_sub x hx
  have hlen := short x hx'
  have hlabs : (Txt.split x (Str.ofString ".")).length ≤ 100 := fewLabs x hx
  have hlast : (Txt.split x (Str.ofString ".")).getLast? = _ := lastLab x hx
  intro p loose mean mg mb dp un gd cn cs a ccd cl outer A₀ base h₀ L m news s Q E B F X N T hk hpre hd hu hret
  refine wpAny_call ?_
  k_dflt (walk_at "my enterC")
  walk_at "my steps"
  · rename_i hF aX aY aZ aF2 aN2 aT2 aX2
    have h7 : (labelsF x).getLast? = some (Str.ofString "7") := by
      have e := lastLab x hx
      split at e
      · exact e
      · simp_all
    refine hret _ [(_, W.listOf #[] 0)] _ _ (by k_asm) ?n1 (lt_cons ?l1 lt_nil) ⟨_, [], 0, rfl, .head _, ?s1⟩
    case n1 => (refine' cb_drop ?cbN ?cbS; (case cbN => assumption); (case cbS => intro p hp; rcases List.mem_cons.mp hp with rfl | hp; exact .head _; exact .tail _ (.tail _ (.tail _ hp))))
    case l1 => exact allLt_mem (And.right (And.right (by assumption)))
    case s1 => unfold rungsF; rw [if_pos h7]; exact .nil
  rename_i g' L' hA cA lA oA D' vA hB kB hv hd' tA hne hC rA hC2 kC t1 t2 t3 hR FA NA
  have h7 : ¬ (labelsF x).getLast? = some (Str.ofString "7") := by
    have hne9 : ((if x.endsWith (Str.ofString "7") = true then Str.ofString "7" else Str.ofString "local") == Str.ofString "7") = false := by assumption
    have e := lastLab x hx
    intro e2; rw [e2] at e; rw [← Option.some.inj e] at hne9; simp at hne9
  dsimp only
  refine cx_range (n := (Txt.split x (Str.ofString ".")).length - 1) (fun i ys nw => nw = _ ∧ StrsAre ys ((rungsF x).take i)) rfl (by k_asm) (by k_asm) hR (smallR (by decide) (by omega)) ?hn ?hl rfl rfl ⟨rfl, by simpa using StrsAre.nil⟩ ?turn ?done
  case hn => rw [rangeSize_nat]; congr 1; omega
  case hl => omega
  case turn =>
    rintro i t ys nw I oI C oC D m₂ h tk E' hi ⟨rfl, hJ⟩ hC9 hm₂ F9 N9 off ne lt
    dsimp only [CTurn]
    have hw := labW x hx (1 + (i : Int)).toNat (by have := fewLabs x hx; unfold labelsF at this; omega)
    unfold labelsF at hw
    obtain ⟨hw, hw2⟩ := hw
    walk_at "my steps"
    refine ⟨_, _, _, rfl, by k_asm, ?n9, off, rfl, ?j9⟩
    case n9 => (refine' cb_drop ?cbN ?cbS; (case cbN => assumption); (case cbS => exact fun p hp => .tail _ hp))
    case j9 =>
      rw [rungs_take x h7 hi]
      exact hJ.snoc _ _
  case done =>
    rintro D h tk ys nw F9 N9 off lt ⟨rfl, hJ⟩
    walk_at "my steps"
    refine hret _ [(D, LCg.lst ys)] _ _ (by k_asm) ?n1 (lt_cons ?l1 lt_nil) ⟨_, ys, _, rfl, .head _, ?s1⟩
    case n1 => (refine' cb_drop ?cbN ?cbS; (case cbN => assumption); (case cbS => intro p hp; rcases List.mem_cons.mp hp with rfl | hp; exact .head _; exact .tail _ (.tail _ (.tail _ hp))))
    case l1 => exact fun q hq => lt q (.tail _ (.tail _ hq))
    case s1 =>
      rw [List.take_of_length_le] at hJ
      · exact hJ
      · unfold rungsF labelsF; split <;> simp
end Mine

/- X2 -/
namespace Mine
set_option maxHeartbeats 1000000
set_option pp.deepTerms false
set_option pp.deepTerms.threshold 8
set_option linter.unusedVariables false
local macro_rules | `(tactic| walk_at "pad") => `(tactic| skip)
local macro_rules | `(tactic| walk_at "pad") => `(tactic| skip)
local macro_rules | `(tactic| walk_at "pad") => `(tactic| skip)
local macro_rules | `(tactic| walk_at "pad") => `(tactic| skip)
local macro_rules | `(tactic| walk_at "pad") => `(tactic| skip)
local macro_rules | `(tactic| walk_at "pad") => `(tactic| skip)
local macro_rules | `(tactic| walk_at "pad") => `(tactic| skip)
local macro_rules | `(tactic| walk_at "pad") => `(tactic| skip)
local macro_rules | `(tactic| walk_at "pad") => `(tactic| skip)
local macro_rules | `(tactic| walk_at "pad") => `(tactic| skip)
local macro_rules | `(tactic| walk_at "pad") => `(tactic| skip)
local macro_rules | `(tactic| walk_at "pad") => `(tactic| skip)
local macro_rules | `(tactic| walk_at "pad") => `(tactic| skip)
local macro_rules | `(tactic| walk_at "pad") => `(tactic| skip)
local macro_rules | `(tactic| walk_at "pad") => `(tactic| skip)
local macro_rules | `(tactic| walk_at "pad") => `(tactic| skip)
local macro_rules | `(tactic| walk_at "pad") => `(tactic| skip)
local macro_rules | `(tactic| walk_at "pad") => `(tactic| skip)
local macro_rules | `(tactic| walk_at "pad") => `(tactic| skip)
local macro_rules | `(tactic| walk_at "pad") => `(tactic| skip)
local macro_rules | `(tactic| walk_at "pad") => `(tactic| skip)
local macro_rules | `(tactic| walk_at "pad") => `(tactic| skip)
local macro_rules | `(tactic| walk_at "pad") => `(tactic| skip)
local macro_rules | `(tactic| walk_at "pad") => `(tactic| skip)
local macro_rules | `(tactic| walk_at "pad") => `(tactic| skip)
local macro_rules | `(tactic| walk_at "pad") => `(tactic| skip)
local macro_rules | `(tactic| walk_at "pad") => `(tactic| skip)
local macro_rules | `(tactic| walk_at "pad") => `(tactic| skip)
local macro_rules | `(tactic| walk_at "pad") => `(tactic| skip)
local macro_rules | `(tactic| walk_at "pad") => `(tactic| skip)
local macro_rules | `(tactic| walk_at "pad") => `(tactic| skip)
local macro_rules | `(tactic| walk_at "pad") => `(tactic| skip)
local macro_rules | `(tactic| walk_at "pad") => `(tactic| skip)
local macro_rules | `(tactic| walk_at "pad") => `(tactic| skip)
local macro_rules | `(tactic| walk_at "pad") => `(tactic| skip)
local macro_rules | `(tactic| walk_at "pad") => `(tactic| skip)
local macro_rules | `(tactic| walk_at "pad") => `(tactic| skip)
local macro_rules | `(tactic| walk_at "pad") => `(tactic| skip)
local macro_rules | `(tactic| walk_at "pad") => `(tactic| skip)
local macro_rules | `(tactic| walk_at "pad") => `(tactic| skip)
local macro_rules | `(tactic| walk_at "pad") => `(tactic| skip)
local macro_rules | `(tactic| walk_at "pad") => `(tactic| skip)
local macro_rules | `(tactic| walk_at "pad") => `(tactic| skip)
local macro_rules | `(tactic| walk_at "pad") => `(tactic| skip)
local macro_rules | `(tactic| walk_at "pad") => `(tactic| skip)
local macro_rules | `(tactic| walk_at "pad") => `(tactic| skip)
local macro_rules | `(tactic| walk_at "pad") => `(tactic| skip)
local macro_rules | `(tactic| walk_at "pad") => `(tactic| skip)
local macro_rules | `(tactic| walk_at "pad") => `(tactic| skip)
local macro_rules | `(tactic| walk_at "pad") => `(tactic| skip)
local macro_rules | `(tactic| walk_at "pad") => `(tactic| skip)
local macro_rules | `(tactic| walk_at "pad") => `(tactic| skip)
local macro_rules | `(tactic| walk_at "pad") => `(tactic| skip)
local macro_rules | `(tactic| walk_at "pad") => `(tactic| skip)
local macro_rules | `(tactic| walk_at "pad") => `(tactic| skip)
local macro_rules | `(tactic| walk_at "pad") => `(tactic| skip)
local macro_rules | `(tactic| walk_at "pad") => `(tactic| skip)
local macro_rules | `(tactic| walk_at "pad") => `(tactic| skip)
local macro_rules | `(tactic| walk_at "pad") => `(tactic| skip)
local macro_rules | `(tactic| walk_at "pad") => `(tactic| skip)
theorem fresh_X2 : True := by
  w_top off
  trivial
local macro_rules | `(tactic| walk_at "my steps") => `(tactic| repeat' (first | (k_unfold; (try dsimp only)) | (k_end; wrow_close) | ((try dsimp only); walk1) | (leave1; walk_say "STEP leave1"; try dsimp only) | fail "no step"))
local macro_rules | `(tactic| walk_at "my lt") => `(tactic| first | exact lt_nil | (refine lt_cons ?_ ?_; (first | assumption | (refine allLt_mem ?_; first | assumption | exact And.right (by assumption) | exact And.right (And.right (by assumption)) | exact And.right (And.right (And.right (by assumption))))); walk_at "my lt"))
local macro_rules | `(tactic| k_mem) => `(tactic| assumption)
local macro_rules | `(tactic| k_all) => `(tactic| first | assumption | exact low_ne (by assumption) (by omega))
local macro_rules | `(tactic| walk_at "exec For") => `(tactic| ((rename Fr _ _ _ _ => lF'); (with_unfolding_all refine' For_invVF lF' ?k1 ?k2 ?_; (case k1 => exact rfl); (case k2 => exact rfl))))
local macro_rules | `(tactic| walk_at "TurnPost") => `(tactic| dsimp only [TurnPost])
local macro_rules | `(tactic| walk_at "call type:range") => `(tactic| (k_dflt (first | (refine' range2N ?F ?N ?_; (case F => k_asm); (case N => k_asm)) | (refine' range1N ?F ?N ?_; (case F => k_asm); (case N => k_asm))); intro r' h' tk' t1' t2' t3' F' N' l1; (try k_lt l1); (try k_sweep)))
local macro_rules | `(tactic| walk_at "call builtin:list.append") => `(tactic| (k_dflt (refine' appendL ?F ?N ?U ?z ?_; (case F => k_asm); (case N => k_asm); (case U => k_updF); (case z => assumption); k_whole); intro h' n' F' N'; (try dsimp only at N'); (try k_sweep)))
local macro_rules | `(tactic| walk_at "call ref") => `(tactic| ((with_reducible show wpAny _ _ (call (Value.ref 106) [Value.str _ _]) _ _ _); k_dflt (refine' use_specV (reach_spec _ _ _ ?hx) ?k1 ?k2 ?k3 ?k4 ?k5 ?kK ?kp ?kd ?ku ?_); (case hx => assumption); (case k1 => k_asm); (case k2 => k_asm); (case k3 => k_asm); (case k4 => k_asm); (case k5 => k_asm); (case kK => first | exact rfl | assumption); (case kp => trivial); (case kd => ktr_room); (case ku => ktr_units); intro t9 h9 tk9 F9 N9; (try dsimp only); (try k_sweep)))
def belowF (b : Str) : Str := Txt.slice (reachF b) (some 1) none
theorem climbFact : ∀ b ∈ hostsL, ((reachF b == b) = true → rungsF b = []) ∧ ((reachF b == b) = false → belowF b ∈ hostsL ∧ rungsF b = reachF b :: rungsF (belowF b)) ∧ (rungsF b).length ≤ 3 ∧ (reachF b).length ≤ 20 := by decide +kernel
theorem climbed_spec (w : World) (x : Str) (tx : Tok) (hx : x ∈ hostsL) : Spec w 8 139 [.str x tx] (fun _ => True) (fun led r => ∃ a us n, r = .ref a ∧ (a, W.listOf us.toArray n) ∈ led ∧ StrsAre us (rungsF x)) := by
  intro p loose mean mg mb dp un gd cn cs a ccd cl outer A₀ base h₀ L m news s Q E B F X N T hk hpre hd hu hret
  refine wpAny_call ?_
  k_dflt ktr_enter
  walk_at "my steps"
  rename_i ans hA lA h2 rr h3 tk3 t1 t2 t3 FA NA lB
  have hLowN : LowLed ans news := lA
  have hra : @LT.lt Nat _ ans rr := lB.1
  refine' iter_rangeS (σ := Str × Tok) (n := 5) (fun m₀ σ u z => if z = Str.ofString "turn" then u z else if z = Str.ofString "rung" then u z else if z = Str.ofString "bare" then some (.str σ.1 σ.2) else m₀ z)
    (fun i σ nw => ∃ us n' pre, nw = (rr, rngO 0 5 t1 t2 t3) :: (ans, W.listOf us.toArray n') :: news ∧ StrsAre us pre ∧ pre.length = i ∧ σ.1 ∈ hostsL ∧ pre ++ rungsF σ.1 = rungsF x) (x, tx) rfl ?F ?N (.head _) (by omega) (by omega) rfl ?hm0 ⟨[], 0, [], rfl, .nil, rfl, hx, rfl⟩ ?turn ?done
  case F => k_asm
  case N => k_asm
  case hm0 =>
    intro z
    by_cases h1 : z = Str.ofString "turn"
    · subst h1; rfl
    by_cases h2 : z = Str.ofString "rung"
    · subst h2; rfl
    by_cases h3 : z = Str.ofString "bare"
    · subst h3; rfl
    simp only [if_neg h1, if_neg h2, if_neg h3]
  case turn =>
    rintro i t ⟨b, tb⟩ u news₁ h tk I oI ⟨us, nu, pre, rfl, hus, hpl, hb, hpre⟩ lt ne hrI F₁ N₁
    dsimp only at F₁ hb hpre
    have hIa : @LT.lt Nat _ ans I := lt _ (.tail _ (.head _))
    obtain ⟨c1, c2, c3, c4⟩ := climbFact b hb
    have hlen := short b (hosts_sub b hb)
    have hu100 : us.length ≤ 100 := by
      have h1 := hus.length
      have h2 := (climbFact x hx).2.2.1
      have h3 : (pre ++ rungsF b).length = (rungsF x).length := by rw [hpre]
      simp at h3
      omega
    walk_at "my steps"
    · have hr := c1 (by assumption)
      refine hret _ [(ans, W.listOf us.toArray nu)] _ _ (by k_asm) ?n1 (lt_cons hLowN lt_nil) ⟨_, us, nu, rfl, .head _, ?s1⟩
      case n1 => (refine' cb_drop ?cbN ?cbS; (case cbN => assumption); (case cbS => intro p hp; rcases List.mem_cons.mp hp with rfl | hp; exact .tail _ (.tail _ (.tail _ (.head _))); exact .tail _ (.tail _ (.tail _ (.tail _ hp)))))
      case s1 => rw [← hpre, hr, List.append_nil]; exact hus
    · obtain ⟨hb2, hr⟩ := c2 (by assumption)
      refine' ⟨_, _, _, _, rfl, ?f9, ?n9, ?ne9, (belowF b, _), ?mp, us ++ [.str (reachF b) _], _, pre ++ [reachF b], rfl, ?s9, ?l9, hb2, ?e9⟩
      case f9 => k_asm
      case n9 => k_asm
      case ne9 =>
        intro p hp
        rcases List.mem_cons.mp hp with rfl | hp
        · exact ne _ (.head _)
        · rcases List.mem_cons.mp hp with rfl | hp
          · exact Nat.ne_of_lt hIa
          · exact ne p (.tail _ (.tail _ hp))
      case mp =>
        intro z
        by_cases h1 : z = Str.ofString "turn"
        · subst h1; rfl
        by_cases h2 : z = Str.ofString "rung"
        · subst h2; rfl
        by_cases h3 : z = Str.ofString "bare"
        · subst h3; rfl
        simp only [if_neg h1, if_neg h2, if_neg h3]
      case s9 => exact hus.snoc _ _
      case l9 => simp [hpl]
      case e9 => rw [List.append_assoc, ← hpre, hr]; rfl
  case done =>
    rintro h' tk ⟨b, tb⟩ u news' F₁ N₁ ⟨us, nu, pre, rfl, hus, hpl, hb, hpre⟩
    exfalso
    have h2 := (climbFact x hx).2.2.1
    have h3 : (pre ++ rungsF b).length = (rungsF x).length := by rw [hpre]
    simp at h3
    omega
end Mine

/- P1 -/
namespace Mine
set_option maxHeartbeats 1000000
set_option linter.unusedVariables false
theorem look_nil (d : Str) : look [] d = none := rfl
theorem look_cons (p : Str × Bool) (r : List (Str × Bool)) (d : Str) : look (p :: r) d = if p.1 = d then some p.2 else look r d := by
  unfold look
  by_cases h : p.1 = d <;> simp [h]
theorem look_append (a b : List (Str × Bool)) (d : Str) : look (a ++ b) d = (look a d).or (look b d) := by
  induction a with
  | nil => simp [look_nil]
  | cons p r ih => rw [List.cons_append, look_cons, look_cons, ih]; split <;> rfl
theorem look_none (vd : List (Str × Bool)) (d : Str) : look vd d = none ↔ ¬ vd.any (fun p => p.1 = d) = true := by
  induction vd with
  | nil => simp [look_nil]
  | cons p r ih => rw [look_cons]; by_cases h : p.1 = d <;> simp [h]; simpa using ih
theorem look_map (vd : List (Str × Bool)) (x d : Str) (b : Bool) : look (vd.map fun p => if p.1 = x then (p.1, b) else p) d = if d = x then (look vd d).map (fun _ => b) else look vd d := by
  induction vd with
  | nil => simp [look_nil]
  | cons p r ih =>
    rw [List.map_cons, look_cons, look_cons, ih]
    by_cases h1 : p.1 = x <;> by_cases h2 : p.1 = d <;> by_cases h3 : d = x <;> simp_all
theorem look_storeB (vd : List (Str × Bool)) (x d : Str) (b : Bool) : look (storeB vd x b) d = if d = x then some b else look vd d := by
  unfold storeB
  split
  · rename_i h
    rw [look_map]
    by_cases hd : d = x
    · subst hd
      cases e : look vd d with
      | none => exact absurd h ((look_none vd d).mp e)
      | some y => simp
    · simp [hd]
  · rename_i h
    rw [look_append, look_cons, look_nil]
    by_cases hd : d = x
    · subst hd
      rw [(look_none vd d).mpr h]; simp
    · have : ¬ x = d := fun e => hd e.symm
      simp [hd, this]
/-- the verdict of a domain: one that allows being enough -/
def lk (ds : List (Str × Bool)) (d : Str) : Option Bool := if ds.any (fun p => p.1 = d) = true then some (ds.any fun p => p.1 = d && p.2) else none
theorem lk_snoc (ds : List (Str × Bool)) (p : Str × Bool) (d : Str) : lk (ds ++ [p]) d = if d = p.1 then some (p.2 || (lk ds d).getD false) else lk ds d := by
  unfold lk
  by_cases h : d = p.1
  · subst h
    by_cases h2 : ds.any (fun q => q.1 = p.1) = true
    · simp only [List.any_append, h2, if_true, Bool.true_or, List.any_cons, List.any_nil, decide_true, Bool.true_and, Bool.or_false, Option.getD_some]
      rw [Bool.or_comm]
    · simp only [List.any_append]
      have h3 : ds.any (fun q => decide (q.1 = p.1) && q.2) = false := by
        rw [List.any_eq_false]; intro q hq hc
        simp at hc
        apply h2; rw [List.any_eq_true]; exact ⟨q, hq, by simpa using hc.1⟩
      simp only [h3]; simp [h2]
  · have h' : ¬ p.1 = d := fun e => h e.symm
    simp [h, h']
theorem look_verd (ds : List (Str × Bool)) : ∀ (acc vd : List (Str × Bool)), (∀ d, look vd d = lk acc d) → ∀ d, look (ds.foldl (fun vd p => storeB vd p.1 (p.2 || (look vd p.1).getD false)) vd) d = lk (acc ++ ds) d := by
  induction ds with
  | nil => intro acc vd h d; simpa using h d
  | cons p r ih =>
    intro acc vd h d
    rw [List.foldl_cons, ih (acc ++ [p]) _ ?_ d, List.append_assoc, List.singleton_append]
    intro d
    rw [look_storeB, lk_snoc, h]
    by_cases hd : d = p.1
    · subst hd; simp [h]
    · simp only [if_neg hd]; exact h d
theorem look_verdF (ds : List (Str × Bool)) (d : Str) : look (verdF ds) d = lk ds d := by
  unfold verdF
  have := look_verd ds [] [] (fun d => rfl) d
  simpa using this
/-- the closest one in a chain, by a reading -/
def cl (f : Str → Option Bool) : List Str → Bool
  | [] => true
  | x :: r => match f x with
    | some b => b
    | none => cl f r
theorem closestF_cl (L : List Str) (vd : List (Str × Bool)) : closestF L vd = cl (look vd) L := by
  induction L with
  | nil => rfl
  | cons x r ih => unfold closestF cl; rw [ih]; first | done | (cases look vd x <;> rfl)
theorem cl_congr {f g : Str → Option Bool} (h : ∀ d, f d = g d) (L : List Str) : cl f L = cl g L := by rw [show f = g from funext h]
/-- the state of the allowance fold -/
def stA (f : Str → Option Bool) : List Str → Int × Bool
  | [] => (-1, true)
  | x :: r => match f x with
    | some b => ((x.length : Int) + 1, b)
    | none => stA f r
theorem stA_cl (f : Str → Option Bool) (L : List Str) : (stA f L).2 = cl f L := by
  induction L with
  | nil => rfl
  | cons x r ih => unfold stA cl; split <;> simp_all
theorem stA_lt (f : Str → Option Bool) {n : Nat} : ∀ L : List Str, (∀ y ∈ L, y.length < n) → (stA f L).1 < (n : Int) + 1
  | [], _ => by simp only [stA]; omega
  | x :: r, h => by
    unfold stA
    split
    · have := h x (.head _); simp only; omega
    · exact stA_lt f r fun y hy => h y (.tail _ hy)
theorem stA_off {f g : Str → Option Bool} : ∀ L : List Str, (∀ y ∈ L, f y = g y) → stA f L = stA g L
  | [], _ => rfl
  | x :: r, h => by unfold stA; rw [h x (.head _), stA_off r fun y hy => h y (.tail _ hy)]
theorem al_step {X : Str} {f g : Str → Option Bool} {d : Str} {b : Bool} (hd : g d = some (b || (f d).getD false)) (ho : ∀ y, y ≠ d → g y = f y) (ha : appF X d = (d.length : Int) + 1) :
    ∀ L : List Str, L.Pairwise (fun a b => b.length < a.length) → d ∈ L → alStep X (stA f L) (d, b) = stA g L
  | [], _, h => nomatch h
  | e :: t, hp, h => by
    have hp1 := (List.pairwise_cons.mp hp).1
    have hp2 := (List.pairwise_cons.mp hp).2
    have ha0 : ¬ appF X d = 0 := by rw [ha]; omega
    by_cases hde : d = e
    · subst hde
      have hn : stA g (d :: t) = ((d.length : Int) + 1, b || (f d).getD false) := by
        show (match g d with | some b => ((d.length : Int) + 1, b) | none => stA g t) = _
        rw [hd]
      rw [hn]
      cases hf : f d with
      | none =>
        have ho : stA f (d :: t) = stA f t := by
          show (match f d with | some b => ((d.length : Int) + 1, b) | none => stA f t) = _
          rw [hf]
        rw [ho]
        have hlt := stA_lt f t hp1
        unfold alStep
        simp only
        rw [if_neg ha0, if_pos (by rw [ha]; exact hlt), ha]; simp
      | some b0 =>
        have ho : stA f (d :: t) = ((d.length : Int) + 1, b0) := by
          show (match f d with | some b => ((d.length : Int) + 1, b) | none => stA f t) = _
          rw [hf]
        rw [ho]
        unfold alStep
        simp only
        rw [if_neg ha0, if_neg (by rw [ha]; omega), ha]
        cases b0 <;> simp
    · have hdt : d ∈ t := by
        rcases List.mem_cons.mp h with h | h
        · exact absurd h hde
        · exact h
      have hge : g e = f e := ho e fun x => hde x.symm
      have hlt := hp1 d hdt
      cases hf : f e with
      | none =>
        have h1 : stA f (e :: t) = stA f t := by
          show (match f e with | some b => ((e.length : Int) + 1, b) | none => stA f t) = _
          rw [hf]
        have h2 : stA g (e :: t) = stA g t := by
          show (match g e with | some b => ((e.length : Int) + 1, b) | none => stA g t) = _
          rw [hge, hf]
        rw [h1, h2]
        exact al_step hd ho ha t hp2 hdt
      | some b0 =>
        have h1 : stA f (e :: t) = ((e.length : Int) + 1, b0) := by
          show (match f e with | some b => ((e.length : Int) + 1, b) | none => stA f t) = _
          rw [hf]
        have h2 : stA g (e :: t) = ((e.length : Int) + 1, b0) := by
          show (match g e with | some b => ((e.length : Int) + 1, b) | none => stA g t) = _
          rw [hge, hf]
        rw [h1, h2]
        unfold alStep
        simp only
        rw [if_neg ha0, if_neg (by rw [ha]; omega), if_neg (by rw [ha]; omega)]
theorem allow_fold {X : Str} {L : List Str} (hp : L.Pairwise (fun a b => b.length < a.length)) : ∀ (ds acc : List (Str × Bool)), (∀ p ∈ ds, appF X p.1 = if p.1 ∈ L then (p.1.length : Int) + 1 else 0) →
    ds.foldl (alStep X) (stA (lk acc) L) = stA (lk (acc ++ ds)) L
  | [], acc, _ => by simp
  | (d, b) :: r, acc, h => by
    have hd := h (d, b) (.head _)
    have e : alStep X (stA (lk acc) L) (d, b) = stA (lk (acc ++ [(d, b)])) L := by
      by_cases hm : d ∈ L
      · exact al_step (g := lk (acc ++ [(d, b)])) (by rw [lk_snoc]; simp) (fun y hy => by rw [lk_snoc]; simp [hy]) (by simpa [hm] using hd) L hp hm
      · have h0 : appF X d = 0 := by simpa [hm] using hd
        unfold alStep
        simp only
        rw [if_pos h0]
        refine stA_off L fun y hy => ?_
        rw [lk_snoc]
        have : ¬ y = d := fun e => hm (e ▸ hy)
        simp [this]
    rw [List.foldl_cons, e, allow_fold hp r _ fun p hp => h p (.tail _ hp), List.append_assoc, List.singleton_append]
theorem allowF_cl {X : Str} {L : List Str} (hp : L.Pairwise (fun a b => b.length < a.length)) (ds : List (Str × Bool)) (h : ∀ p ∈ ds, appF X p.1 = if p.1 ∈ L then (p.1.length : Int) + 1 else 0) :
    allowF X ds = cl (lk ds) L := by
  unfold allowF
  have e : ((-1, true) : Int × Bool) = stA (lk []) L := by
    clear hp h
    induction L with
    | nil => rfl
    | cons x r ih => unfold stA; rw [show lk [] x = none from rfl]; exact ih
  rw [e, allow_fold hp ds [] h, List.nil_append, stA_cl]
-- the domains
def dotD (d : Str) : Bool := Txt.item d 0 == Str.ofString "."
def hostF (d : Str) : Str := if dotD d = true then Str.ofString "q" ++ d else d
def bareD (d : Str) : Str := if dotD d = true then Txt.slice d (some 1) none else d
def deadD (d : Str) : Bool := dotD d && (Txt.item d (-1) == Str.ofString "7")
def up (d : Str) : List Str := rungsF (bareD d)
def matchL (d : Str) : List Str := if deadD d = true then [] else d :: up d
def upOk (d : Str) : Bool := match up d with | [] => true | a :: t => decide (a ∈ domsL) && !deadD a && decide (t = up a)
theorem domFact : ∀ d ∈ domsL, hostF d ∈ hostsL ∧ bareD d ∈ hostsL ∧ (matchL d).Pairwise (fun a b => b.length < a.length) ∧ (up d).length ≤ 3 ∧
    (if dotD d = true then (∀ e ∈ domsL, ¬ e = hostF d) ∧ rungsF (hostF d) = matchL d else hostF d :: rungsF (hostF d) = matchL d) ∧
    upOk d = true := by decide +kernel
theorem appFact : ∀ d ∈ domsL, ∀ e ∈ domsL, appF (Txt.upper (hostF d)) e = if e ∈ matchL d then (e.length : Int) + 1 else 0 := by decide +kernel
theorem domOf_mem (x : Int) : domOf x ∈ domsL := by
  unfold domOf bareOf pickS
  have h : ∀ a b c d : Bool, ∀ e f : Bool, (if e = true then Str.ofString "." ++ ((if a = true then Str.ofString "" else if b = true then Str.ofString "x." else if c = true then Str.ofString "y.x." else Str.ofString "x.x.") ++ (if f = true then Str.ofString "7" else Str.ofString "local")) else ((if a = true then Str.ofString "" else if b = true then Str.ofString "x." else if c = true then Str.ofString "y.x." else Str.ofString "x.x.") ++ (if f = true then Str.ofString "7" else Str.ofString "local"))) ∈ domsL := by decide +kernel
  have := h (decide ((x.fdiv 4).fmod 4 = 0)) (decide ((x.fdiv 4).fmod 4 = 1)) (decide ((x.fdiv 4).fmod 4 = 2)) true (decide (x.fmod 2 = 0)) (decide ((x.fdiv 16).fmod 4 = 3))
  simpa only [decide_eq_true_eq] using this
end Mine

/- P2 -/
namespace Mine
set_option maxHeartbeats 1000000
set_option linter.unusedVariables false
theorem lk_none (ds : List (Str × Bool)) (d : Str) : lk ds d = none ↔ ∀ p ∈ ds, p.1 ≠ d := by
  unfold lk
  by_cases h : ds.any (fun p => p.1 = d) = true
  · rw [if_pos h]
    constructor
    · intro e; cases e
    · intro hn
      obtain ⟨p, hp, e⟩ := List.any_eq_true.mp h
      exact absurd (by simpa using e) (hn p hp)
  · rw [if_neg h]
    refine ⟨fun _ p hp e => h (List.any_eq_true.mpr ⟨p, hp, by simpa using e⟩), fun _ => rfl⟩
theorem lk_some (ds : List (Str × Bool)) (d : Str) (u : Bool) : lk ds d = some u ↔ (∃ p ∈ ds, p.1 = d) ∧ (u = true ↔ ∃ p ∈ ds, p.1 = d ∧ p.2 = true) := by
  unfold lk
  have h2 : (ds.any fun p => p.1 = d && p.2) = true ↔ ∃ p ∈ ds, p.1 = d ∧ p.2 = true := by
    rw [List.any_eq_true]
    constructor
    · rintro ⟨p, hp, e⟩; exact ⟨p, hp, by simpa using e⟩
    · rintro ⟨p, hp, e⟩; exact ⟨p, hp, by simpa using e⟩
  by_cases h : ds.any (fun p => p.1 = d) = true
  · rw [if_pos h, ← h2]
    obtain ⟨p, hp, e⟩ := List.any_eq_true.mp h
    constructor
    · intro e2; have e2 := Option.some.inj e2; subst e2; exact ⟨⟨p, hp, by simpa using e⟩, Iff.rfl⟩
    · rintro ⟨_, e2⟩; congr 1; rw [Bool.eq_iff_iff]; exact e2.symm
  · rw [if_neg h]
    constructor
    · intro e; cases e
    · rintro ⟨⟨p, hp, e⟩, _⟩
      exact absurd (List.any_eq_true.mpr ⟨p, hp, by simpa using e⟩) h
def Loc (f fK : Str → Option Bool) (d : Str) : Prop := (fK d = none → ∀ v, f d = some v → v = cl f (up d)) ∧ ∀ u v, fK d = some u → f d = some v → u = v
def GoodF (f fK : Str → Option Bool) : Prop := ∀ d ∈ domsL, f d ≠ none → cl fK (matchL d) = cl f (matchL d)
theorem upStep {d : Str} (hd : d ∈ domsL) : up d = [] ∨ ∃ a ∈ domsL, deadD a = false ∧ up d = a :: up a := by
  have h := (domFact d hd).2.2.2.2.2
  unfold upOk at h
  cases e : up d with
  | nil => exact .inl rfl
  | cons a t =>
    rw [e] at h
    simp only [Bool.and_eq_true, decide_eq_true_eq, Bool.not_eq_true'] at h
    exact .inr ⟨a, h.1.1, h.1.2, by rw [← h.2]⟩
theorem cl_cons (f : Str → Option Bool) (x : Str) (r : List Str) : cl f (x :: r) = match f x with | some b => b | none => cl f r := rfl
theorem cl_none {f : Str → Option Bool} {x : Str} {r : List Str} (h : f x = none) : cl f (x :: r) = cl f r := by unfold cl; rw [h]; cases r <;> rfl
theorem cl_some {f : Str → Option Bool} {x : Str} {r : List Str} {b : Bool} (h : f x = some b) : cl f (x :: r) = b := by unfold cl; rw [h]
theorem matchL_live {d : Str} (h : deadD d = false) : matchL d = d :: up d := by unfold matchL; rw [h]; rfl
theorem up_good {f fK : Str → Option Bool} (hsub : ∀ d, f d = none → fK d = none) (G : GoodF f fK) : ∀ n d, d ∈ domsL → (up d).length = n → cl fK (up d) = cl f (up d) := by
  intro n
  induction n with
  | zero => intro d hd hn; rw [List.eq_nil_of_length_eq_zero hn]; rfl
  | succ n ih =>
    intro d hd hn
    rcases upStep hd with e | ⟨a, ha, hl, e⟩
    · rw [e] at hn; simp at hn
    · rw [e]
      cases hf : f a with
      | none => rw [cl_none hf, cl_none (hsub a hf)]; exact ih a ha (by rw [e] at hn; simpa using hn)
      | some v =>
        have := G a ha (by rw [hf]; simp)
        rw [matchL_live hl] at this
        exact this
theorem up_loc {f fK : Str → Option Bool} (hsub : ∀ d, f d = none → fK d = none) (G : ∀ d ∈ domsL, f d ≠ none → deadD d = false → Loc f fK d) : ∀ n d, d ∈ domsL → (up d).length = n → cl fK (up d) = cl f (up d) := by
  intro n
  induction n with
  | zero => intro d hd hn; rw [List.eq_nil_of_length_eq_zero hn]; rfl
  | succ n ih =>
    intro d hd hn
    rcases upStep hd with e | ⟨a, ha, hl, e⟩
    · rw [e] at hn; simp at hn
    · have ih' := ih a ha (by rw [e] at hn; simpa using hn)
      rw [e]
      cases hf : f a with
      | none => rw [cl_none hf, cl_none (hsub a hf)]; exact ih'
      | some v =>
        rw [cl_some hf]
        obtain ⟨l1, l2⟩ := G a ha (by rw [hf]; simp) hl
        cases hk : fK a with
        | none => rw [cl_none hk, ih']; exact (l1 hk v hf).symm
        | some u => rw [cl_some hk]; exact l2 u v hk hf
theorem good_loc {f fK : Str → Option Bool} (hsub : ∀ d, f d = none → fK d = none) : GoodF f fK ↔ ∀ d ∈ domsL, f d ≠ none → deadD d = false → Loc f fK d := by
  constructor
  · intro G d hd hf hl
    have hu := up_good hsub G _ d hd rfl
    have hg := G d hd hf
    rw [matchL_live hl] at hg
    refine ⟨fun hk v hv => ?_, fun u v hk hv => ?_⟩
    · rw [cl_none hk, cl_some hv, hu] at hg; exact hg.symm
    · rw [cl_some hk, cl_some hv] at hg; exact hg
  · intro G d hd hf
    have hu := up_loc hsub G _ d hd rfl
    cases hl : deadD d with
    | true => unfold matchL; rw [hl]; rfl
    | false =>
      rw [matchL_live hl]
      obtain ⟨l1, l2⟩ := G d hd hf hl
      cases hv : f d with
      | none => exact absurd hv hf
      | some v =>
        rw [cl_some hv]
        cases hk : fK d with
        | none => rw [cl_none hk, hu]; exact (l1 hk v hv).symm
        | some u => rw [cl_some hk]; exact l2 u v hk hv
-- the striking
def dflt0 : Str × Bool := (Str.ofString "", false)
def at0 (ds : List (Str × Bool)) (i : Nat) : Str × Bool := ds.getD i dflt0
def sub (ds : List (Str × Bool)) (K : List Nat) : List (Str × Bool) := K.map (at0 ds)
def drp (K : List Nat) (k : Nat) : List Nat := K.filter fun j => decide (j ≠ k)
theorem mem_drp {K : List Nat} {k j : Nat} : j ∈ drp K k ↔ j ∈ K ∧ j ≠ k := by unfold drp; simp
theorem survive (G : List Nat → Prop) (step : List Nat → Nat → List Nat) (hstep : ∀ K k, (k ∈ K ∧ G (drp K k) ∧ step K k = drp K k) ∨ (¬ (k ∈ K ∧ G (drp K k)) ∧ step K k = K)) :
    ∀ (os K0 : List Nat), G K0 → G (os.foldl step K0) ∧ (os.foldl step K0).Sublist K0 ∧ ∀ k ∈ os, k ∈ os.foldl step K0 → ∃ K', k ∈ K' ∧ (∀ x ∈ os.foldl step K0, x ∈ K') ∧ (∀ x ∈ K', x ∈ K0) ∧ G K' ∧ ¬ G (drp K' k)
  | [], K0, h => ⟨h, List.Sublist.refl _, fun _ hk => nomatch hk⟩
  | o :: r, K0, h => by
    have h1 : G (step K0 o) ∧ (step K0 o).Sublist K0 := by
      rcases hstep K0 o with ⟨a, b, e⟩ | ⟨a, e⟩
      · rw [e]; exact ⟨b, List.filter_sublist⟩
      · rw [e]; exact ⟨h, List.Sublist.refl _⟩
    obtain ⟨g1, s1, ih⟩ := survive G step hstep r (step K0 o) h1.1
    refine ⟨g1, s1.trans h1.2, fun k hk hm => ?_⟩
    rcases List.mem_cons.mp hk with rfl | hk
    · rcases hstep K0 k with ⟨a, b, e⟩ | ⟨a, e⟩
      · have : k ∈ step K0 k := s1.subset hm
        rw [e] at this
        exact absurd rfl (mem_drp.mp this).2
      · refine ⟨K0, ?_, fun x hx => (s1.trans h1.2).subset hx, fun x hx => hx, h, fun g => a ⟨?_, g⟩⟩
        · exact (s1.trans h1.2).subset hm
        · exact (s1.trans h1.2).subset hm
    · obtain ⟨K', a, b, c, d, e⟩ := ih k hk hm
      exact ⟨K', a, b, fun x hx => h1.2.subset (c x hx), d, e⟩
section
variable {ds : List (Str × Bool)}
def GoodK (ds : List (Str × Bool)) (K : List Nat) : Prop := GoodF (lk ds) (lk (sub ds K))
theorem at0_mem {i : Nat} (hi : i < ds.length) : at0 ds i ∈ ds := by
  unfold at0; rw [List.getD_eq_getElem?_getD, List.getElem?_eq_getElem hi]; exact List.getElem_mem hi
theorem sub_none {K : List Nat} {d : Str} : lk (sub ds K) d = none ↔ ∀ i ∈ K, (at0 ds i).1 ≠ d := by
  rw [lk_none]; unfold sub; simp
theorem sub_some {K : List Nat} {d : Str} {u : Bool} : lk (sub ds K) d = some u ↔ (∃ i ∈ K, (at0 ds i).1 = d) ∧ (u = true ↔ ∃ i ∈ K, (at0 ds i).1 = d ∧ (at0 ds i).2 = true) := by
  rw [lk_some]
  have e : ∀ P : Str × Bool → Prop, (∃ p ∈ sub ds K, P p) ↔ ∃ i ∈ K, P (at0 ds i) := fun P => by
    unfold sub
    constructor
    · rintro ⟨p, hp, h⟩; obtain ⟨i, hi, rfl⟩ := List.mem_map.mp hp; exact ⟨i, hi, h⟩
    · rintro ⟨i, hi, h⟩; exact ⟨_, List.mem_map.mpr ⟨i, hi, rfl⟩, h⟩
  rw [e fun p => p.1 = d, e fun p => p.1 = d ∧ p.2 = true]
theorem sub_sub {K : List Nat} (hK : ∀ i ∈ K, i < ds.length) (d : Str) (h : lk ds d = none) : lk (sub ds K) d = none :=
  sub_none.mpr fun i hi e => (lk_none ds d).mp h _ (at0_mem (hK i hi)) e
theorem single (hdm : ∀ p ∈ ds, p.1 ∈ domsL) {K : List Nat} (hK : ∀ i ∈ K, i < ds.length) {k : Nat} (hk : k ∈ K) (G : GoodK ds K) (nG : ¬ GoodK ds (drp K k)) :
    deadD (at0 ds k).1 = false ∧ ∃ v, lk ds (at0 ds k).1 = some v ∧ (at0 ds k).2 = v ∧ (∀ j ∈ K, j ≠ k → (at0 ds j).1 = (at0 ds k).1 → (at0 ds j).2 ≠ v) ∧ ((∀ j ∈ K, j ≠ k → (at0 ds j).1 ≠ (at0 ds k).1) → v ≠ cl (lk ds) (up (at0 ds k).1)) := by
  have hKd : ∀ i ∈ drp K k, i < ds.length := fun i hi => hK i (mem_drp.mp hi).1
  unfold GoodK at G nG
  rw [good_loc (sub_sub hK)] at G
  rw [good_loc (sub_sub hKd)] at nG
  obtain ⟨d, hd, hf, hl, nL⟩ : ∃ d, d ∈ domsL ∧ lk ds d ≠ none ∧ deadD d = false ∧ ¬ Loc (lk ds) (lk (sub ds (drp K k))) d := by
    apply Classical.byContradiction
    intro h
    apply nG
    intro d hd hf hl
    apply Classical.byContradiction
    intro n
    exact h ⟨d, hd, hf, hl, n⟩
  have L := G d hd hf hl
  obtain ⟨v, hv⟩ : ∃ v, lk ds d = some v := by
    cases e : lk ds d with
    | none => exact absurd e hf
    | some v => exact ⟨v, rfl⟩
  have hkd : (at0 ds k).1 = d := by
    apply Classical.byContradiction
    intro hne
    apply nL
    have same : lk (sub ds (drp K k)) d = lk (sub ds K) d := by
      cases e : lk (sub ds K) d with
      | none => exact sub_none.mpr fun i hi => sub_none.mp e i (mem_drp.mp hi).1
      | some u =>
        obtain ⟨⟨i, hi, hid⟩, hu⟩ := sub_some.mp e
        refine sub_some.mpr ⟨⟨i, mem_drp.mpr ⟨hi, fun q => hne (by rw [← q]; exact hid)⟩, hid⟩, hu.trans ?_⟩
        constructor
        · rintro ⟨j, hj, a, b⟩; exact ⟨j, mem_drp.mpr ⟨hj, fun q => hne (by rw [← q]; exact a)⟩, a, b⟩
        · rintro ⟨j, hj, a, b⟩; exact ⟨j, (mem_drp.mp hj).1, a, b⟩
    unfold Loc
    rw [same]
    exact L
  subst hkd
  refine ⟨hl, v, hv, ?_⟩
  obtain ⟨u0, hu0⟩ : ∃ u, lk (sub ds K) (at0 ds k).1 = some u := by
    cases e : lk (sub ds K) (at0 ds k).1 with
    | none => exact absurd rfl (sub_none.mp e k hk)
    | some u => exact ⟨u, rfl⟩
  have e0 := L.2 u0 v hu0 hv
  subst e0
  obtain ⟨_, hv2⟩ := sub_some.mp hu0
  cases e : lk (sub ds (drp K k)) (at0 ds k).1 with
  | none =>
    have alone : ∀ j ∈ K, j ≠ k → (at0 ds j).1 ≠ (at0 ds k).1 := fun j hj hjk => sub_none.mp e j (mem_drp.mpr ⟨hj, hjk⟩)
    refine ⟨?_, fun j hj hjk hd' => absurd hd' (alone j hj hjk), fun _ hc => nL ⟨fun _ v' hv' => ?_, fun u v' hu' => by rw [e] at hu'; cases hu'⟩⟩
    · rw [Bool.eq_iff_iff, hv2]
      constructor
      · intro h; exact ⟨k, hk, rfl, h⟩
      · rintro ⟨j, hj, a, b⟩
        by_cases hjk : j = k
        · rw [← hjk]; exact b
        · exact absurd a (alone j hj hjk)
    · rw [hv] at hv'; cases hv'; exact hc
  | some u =>
    obtain ⟨⟨i, hi, hid⟩, hu⟩ := sub_some.mp e
    have hne : u ≠ u0 := fun q => nL ⟨fun n => (by rw [e] at n; cases n), fun u' v' hu' hv' => (by rw [e] at hu'; rw [hv] at hv'; cases hu'; cases hv'; exact q)⟩
    have hut : u = true → u0 = true := fun h => by
      obtain ⟨j, hj, a, b⟩ := hu.mp h
      exact hv2.mpr ⟨j, (mem_drp.mp hj).1, a, b⟩
    have huf : u = false := by cases u with | false => rfl | true => exact absurd (hut rfl).symm hne
    have hvt : u0 = true := by cases u0 with | true => rfl | false => exact absurd huf hne
    subst huf hvt
    have none' : ∀ j ∈ K, j ≠ k → (at0 ds j).1 = (at0 ds k).1 → (at0 ds j).2 ≠ true := fun j hj hjk a b => by
      have := hu.mpr ⟨j, mem_drp.mpr ⟨hj, hjk⟩, a, b⟩
      cases this
    refine ⟨?_, none', fun h => absurd hid (h i (mem_drp.mp hi).1 (mem_drp.mp hi).2)⟩
    obtain ⟨j, hj, a, b⟩ := hv2.mp rfl
    by_cases hjk : j = k
    · rw [← hjk]; exact b
    · exact absurd b (none' j hj hjk a)
/-- the rules that must be left -/
def needP (ds : List (Str × Bool)) (q : Str × Bool) : Prop := lk ds q.1 = some q.2 ∧ deadD q.1 = false ∧ q.2 ≠ cl (lk ds) (up q.1)
theorem kept_spec (hdm : ∀ p ∈ ds, p.1 ∈ domsL) (step : List Nat → Nat → List Nat) (hstep : ∀ K k, (k ∈ K ∧ GoodK ds (drp K k) ∧ step K k = drp K k) ∨ (¬ (k ∈ K ∧ GoodK ds (drp K k)) ∧ step K k = K))
    (os : List Nat) (hos : ∀ k, k < ds.length → k ∈ os) :
    ((os ++ os).foldl step (List.range ds.length)).Nodup ∧ (∀ j ∈ (os ++ os).foldl step (List.range ds.length), ∀ k ∈ (os ++ os).foldl step (List.range ds.length), (at0 ds j).1 = (at0 ds k).1 → j = k) ∧
    ∀ q, q ∈ sub ds ((os ++ os).foldl step (List.range ds.length)) ↔ needP ds q := by
  have hall : ∀ d, lk (sub ds (List.range ds.length)) d = lk ds d := by
    have e : sub ds (List.range ds.length) = ds := by
      unfold sub
      apply List.ext_getElem
      · simp
      · intro i h1 h2
        simp at h1
        simp [at0, List.getD_eq_getElem?_getD, h2]
    rw [e]; intro d; rfl
  have g0 : GoodK ds (List.range ds.length) := fun d hd hf => by rw [show lk (sub ds (List.range ds.length)) = lk ds from funext hall]
  obtain ⟨g1, s1, r1⟩ := survive (GoodK ds) step hstep os _ g0
  obtain ⟨g2, s2, r2⟩ := survive (GoodK ds) step hstep os _ g1
  rw [List.foldl_append]
  generalize hK1 : os.foldl step (List.range ds.length) = K1 at *
  generalize hK2 : os.foldl step K1 = K2 at *
  have lt1 : ∀ i ∈ K1, i < ds.length := fun i hi => List.mem_range.mp (s1.subset hi)
  have lt2 : ∀ i ∈ K2, i < ds.length := fun i hi => lt1 i (s2.subset hi)
  have one : ∀ k ∈ K1, ∃ v, lk ds (at0 ds k).1 = some v ∧ (at0 ds k).2 = v ∧ (∀ j ∈ K1, j ≠ k → (at0 ds j).1 = (at0 ds k).1 → (at0 ds j).2 ≠ v) := fun k hk => by
    obtain ⟨K', a, b, c, d, e⟩ := r1 k (hos k (lt1 k hk)) hk
    obtain ⟨_, v, h1, h2, h3, _⟩ := single hdm (fun i hi => List.mem_range.mp (c i hi)) a d e
    exact ⟨v, h1, h2, fun j hj => h3 j (b j hj)⟩
  have uniq : ∀ j ∈ K1, ∀ k ∈ K1, (at0 ds j).1 = (at0 ds k).1 → j = k := fun j hj k hk e => by
    apply Classical.byContradiction
    intro hne
    obtain ⟨v, h1, h2, h3⟩ := one k hk
    obtain ⟨v', h1', h2', _⟩ := one j hj
    rw [e, h1] at h1'
    cases h1'
    exact h3 j hj hne e h2'
  have nd : K2.Nodup := s2.nodup (s1.nodup List.nodup_range)
  refine ⟨nd, fun j hj k hk => uniq j (s2.subset hj) k (s2.subset hk), fun q => ?_⟩
  constructor
  · intro hq
    obtain ⟨k, hk, rfl⟩ := List.mem_map.mp hq
    obtain ⟨K', a, b, c, d, e⟩ := r2 k (hos k (lt2 k hk)) hk
    obtain ⟨hl, v, h1, h2, _, h4⟩ := single hdm (fun i hi => lt1 i (c i hi)) a d e
    have h5 := h4 fun j hj hjk e => hjk (uniq j (c j hj) k (s2.subset hk) e)
    exact ⟨by rw [h2]; exact h1, hl, by rw [h2]; exact h5⟩
  · rintro ⟨h1, h2, h3⟩
    have L := (good_loc (sub_sub lt2)).mp g2 q.1 (by
      obtain ⟨⟨p, hp, e⟩, _⟩ := (lk_some ds q.1 q.2).mp h1
      rw [← e]; exact hdm p hp) (by rw [h1]; simp) h2
    cases e : lk (sub ds K2) q.1 with
    | none => exact absurd (L.1 e q.2 h1) h3
    | some u =>
      obtain ⟨⟨i, hi, hid⟩, hu⟩ := sub_some.mp e
      have hu2 := L.2 u q.2 e h1
      obtain ⟨v, k1, k2, k3⟩ := one i (s2.subset hi)
      rw [hid, h1] at k1
      cases k1
      refine List.mem_map.mpr ⟨i, hi, ?_⟩
      exact Prod.ext hid k2
end
end Mine

/- P3 -/
namespace Mine
set_option maxHeartbeats 1000000
set_option linter.unusedVariables false
def KeysU (vd : List (Str × Bool)) : Prop := (vd.map (·.1)).Nodup
theorem storeB_keys {vd : List (Str × Bool)} (h : KeysU vd) (x : Str) (b : Bool) : KeysU (storeB vd x b) := by
  unfold storeB KeysU at *
  split
  · rw [List.map_map]
    have e : ((fun p : Str × Bool => p.1) ∘ fun p : Str × Bool => if p.1 = x then (p.1, b) else p) = fun p => p.1 := by
      funext p; simp only [Function.comp]; split <;> rfl
    rw [e]; exact h
  · rename_i hn
    rw [List.map_append]
    simp only [List.map_cons, List.map_nil]
    rw [List.nodup_append]
    refine ⟨h, by simp, ?_⟩
    intro a ha c hc
    simp at hc
    subst hc
    intro e
    subst e
    obtain ⟨p, hp, e⟩ := List.mem_map.mp ha
    exact hn (List.any_eq_true.mpr ⟨p, hp, by simpa using e⟩)
theorem foldV_keys (ds : List (Str × Bool)) : ∀ vd, KeysU vd → KeysU (ds.foldl (fun vd p => storeB vd p.1 (p.2 || (look vd p.1).getD false)) vd) := by
  induction ds with
  | nil => intro vd h; exact h
  | cons p r ih => intro vd h; exact ih _ (storeB_keys h _ _)
theorem verdF_keys (ds : List (Str × Bool)) : KeysU (verdF ds) := foldV_keys ds [] (by unfold KeysU; simp)
theorem look_mem {vd : List (Str × Bool)} (h : KeysU vd) (d : Str) (b : Bool) : (d, b) ∈ vd ↔ look vd d = some b := by
  induction vd with
  | nil => simp [look_nil]
  | cons p r ih =>
    unfold KeysU at h ih
    rw [List.map_cons, List.nodup_cons] at h
    rw [look_cons, List.mem_cons, ih h.2]
    by_cases hd : p.1 = d
    · subst hd
      simp only [if_true]
      constructor
      · rintro (e | e)
        · rw [← e]
        · exfalso
          apply h.1
          rw [← ih h.2] at e
          exact List.mem_map.mpr ⟨_, e, rfl⟩
      · intro e; left; rw [← Option.some.inj e]
    · simp only [if_neg hd]
      constructor
      · rintro (e | e)
        · exact absurd (by rw [← e]) hd
        · exact e
      · exact .inr
theorem verd_mem (ds : List (Str × Bool)) (d : Str) (b : Bool) : (d, b) ∈ verdF ds ↔ lk ds d = some b := by rw [look_mem (verdF_keys ds), look_verdF]
def hostsOf (vd : List (Str × Bool)) : List Str := vd.map fun p => hostF p.1
def dueOf (vd : List (Str × Bool)) : List Bool := (hostsOf vd).map fun h => closestF (h :: rungsF h) vd
section
variable {ds : List (Str × Bool)}
theorem verd_dom (hdm : ∀ p ∈ ds, p.1 ∈ domsL) : ∀ p ∈ verdF ds, p.1 ∈ domsL := fun p hp => by
  have h := (verd_mem ds p.1 p.2).mp hp
  obtain ⟨⟨q, hq, e⟩, _⟩ := (lk_some ds p.1 p.2).mp h
  rw [← e]; exact hdm q hq
theorem due_cl (hdm : ∀ p ∈ ds, p.1 ∈ domsL) {d : Str} (hd : d ∈ domsL) : closestF (hostF d :: rungsF (hostF d)) (verdF ds) = cl (lk ds) (matchL d) := by
  rw [closestF_cl, show look (verdF ds) = lk ds from funext (look_verdF ds)]
  have h := (domFact d hd).2.2.2.2.1
  by_cases hdot : dotD d = true
  · rw [if_pos hdot] at h
    have hn : lk ds (hostF d) = none := (lk_none ds _).mpr fun p hp e => h.1 p.1 (hdm p hp) e
    rw [cl_none hn, h.2]
  · rw [if_neg hdot] at h
    rw [h]
theorem ans_cl {ds' : List (Str × Bool)} (hdm : ∀ p ∈ ds', p.1 ∈ domsL) {d : Str} (hd : d ∈ domsL) : allowF (Txt.upper (hostF d)) ds' = cl (lk ds') (matchL d) :=
  allowF_cl (domFact d hd).2.2.1 ds' fun p hp => appFact d hd p.1 (hdm p hp)
theorem ans_due (hdm : ∀ p ∈ ds, p.1 ∈ domsL) {ds' : List (Str × Bool)} (hdm' : ∀ p ∈ ds', p.1 ∈ domsL) : answersF ds' (hostsOf (verdF ds)) = dueOf (verdF ds) ↔ GoodF (lk ds) (lk ds') := by
  unfold answersF dueOf hostsOf
  rw [List.map_map, List.map_map, List.map_inj_left]
  have e : ∀ p ∈ verdF ds, (((fun x => allowF (Txt.upper x) ds') ∘ fun p : Str × Bool => hostF p.1) p = ((fun h => closestF (h :: rungsF h) (verdF ds)) ∘ fun p : Str × Bool => hostF p.1) p) ↔ cl (lk ds') (matchL p.1) = cl (lk ds) (matchL p.1) := fun p hp => by
    simp only [Function.comp]
    rw [ans_cl hdm' (verd_dom hdm p hp), due_cl hdm (verd_dom hdm p hp)]
  constructor
  · intro h d hd hf
    cases hv : lk ds d with
    | none => exact absurd hv hf
    | some v =>
      have hm := (verd_mem ds d v).mpr hv
      exact (e _ hm).mp (h _ hm)
  · intro G p hp
    refine (e p hp).mpr (G p.1 (verd_dom hdm p hp) ?_)
    rw [(verd_mem ds p.1 p.2).mp hp]; simp
theorem ans_all (hdm : ∀ p ∈ ds, p.1 ∈ domsL) : answersF ds (hostsOf (verdF ds)) = dueOf (verdF ds) := (ans_due hdm hdm).mpr fun _ _ _ => rfl
def strikeF (ds : List (Str × Bool)) (K : List Nat) (k : Nat) : List Nat := if k ∈ K ∧ answersF (sub ds (drp K k)) (hostsOf (verdF ds)) = dueOf (verdF ds) then drp K k else K
def needF (ds : List (Str × Bool)) : List (Str × Bool) := (verdF ds).filter fun p => (p.2 != closestF (up p.1) (verdF ds)) && !deadD p.1
theorem at0_dom (hdm : ∀ p ∈ ds, p.1 ∈ domsL) (hdf : dflt0.1 ∈ domsL ∨ True) (K : List Nat) (hK : ∀ i ∈ K, i < ds.length) : ∀ p ∈ sub ds K, p.1 ∈ domsL := fun p hp => by
  obtain ⟨i, hi, rfl⟩ := List.mem_map.mp hp
  exact hdm _ (at0_mem (hK i hi))
/-- strikeF, with the indices kept in range -/
theorem law_plain (hdm : ∀ p ∈ ds, p.1 ∈ domsL) (os : List Nat) (hos : ∀ k, k < ds.length → k ∈ os) :
    (sub ds ((os ++ os).foldl (strikeF ds) (List.range ds.length))).Perm (needF ds) := by
  let step : List Nat → Nat → List Nat := fun K k => @ite _ (k ∈ K ∧ GoodK ds (drp K k)) (Classical.propDecidable _) (drp K k) K
  have hstep : ∀ K k, (k ∈ K ∧ GoodK ds (drp K k) ∧ step K k = drp K k) ∨ (¬ (k ∈ K ∧ GoodK ds (drp K k)) ∧ step K k = K) := fun K k => by
    rcases Classical.em (k ∈ K ∧ GoodK ds (drp K k)) with h | h
    · left; refine ⟨h.1, h.2, ?_⟩; exact if_pos h
    · right; refine ⟨h, ?_⟩; exact if_neg h
  have same : ∀ (l : List Nat) (K : List Nat), (∀ i ∈ K, i < ds.length) → l.foldl (strikeF ds) K = l.foldl step K := by
    intro l
    induction l with
    | nil => intro K _; rfl
    | cons k r ih =>
      intro K hK
      have hd : ∀ i ∈ drp K k, i < ds.length := fun i hi => hK i (mem_drp.mp hi).1
      have e : strikeF ds K k = step K k := by
        have hi := ans_due hdm (at0_dom hdm (.inr trivial) _ hd)
        unfold strikeF
        rcases hstep K k with ⟨a, b, c⟩ | ⟨a, c⟩
        · rw [c, if_pos ⟨a, hi.mpr b⟩]
        · rw [c, if_neg fun h => a ⟨h.1, hi.mp h.2⟩]
      rw [List.foldl_cons, List.foldl_cons, e]
      apply ih
      rcases hstep K k with ⟨a, b, c⟩ | ⟨a, c⟩
      · rw [c]; exact hd
      · rw [c]; exact hK
  rw [same _ _ fun i hi => List.mem_range.mp hi]
  obtain ⟨nd, uq, hm⟩ := kept_spec hdm step hstep os hos
  generalize (os ++ os).foldl step (List.range ds.length) = K at *
  have nd1 : (sub ds K).Nodup := by
    unfold sub
    clear hm
    induction K with
    | nil => simp
    | cons k r ih =>
      rw [List.nodup_cons] at nd
      rw [List.map_cons, List.nodup_cons]
      refine ⟨fun h => ?_, ih nd.2 fun j hj k' hk' => uq j (.tail _ hj) k' (.tail _ hk')⟩
      obtain ⟨j, hj, e⟩ := List.mem_map.mp h
      have := uq j (.tail _ hj) k (.head _) (by rw [e])
      exact nd.1 (this ▸ hj)
  have nd2 : (needF ds).Nodup := by
    unfold needF
    refine List.filter_sublist.nodup ?_
    have := verdF_keys ds
    unfold KeysU at this
    generalize verdF ds = l at this
    induction l with
    | nil => simp
    | cons p r ih =>
      rw [List.map_cons, List.nodup_cons] at this
      exact List.nodup_cons.mpr ⟨fun h => this.1 (List.mem_map.mpr ⟨p, h, rfl⟩), ih this.2⟩
  rw [List.perm_ext_iff_of_nodup nd1 nd2]
  intro q
  rw [hm q]
  unfold needF needP
  rw [List.mem_filter, closestF_cl, show look (verdF ds) = lk ds from funext (look_verdF ds)]
  rw [show (q ∈ verdF ds ↔ _) from verd_mem ds q.1 q.2]
  simp only [Bool.and_eq_true, bne_iff_ne, Bool.not_eq_true']
  constructor
  · rintro ⟨a, b, c⟩; exact ⟨a, c, b⟩
  · rintro ⟨a, b, c⟩; exact ⟨a, c, b⟩
end
end Mine

/- Srt1 -/
namespace Mine
set_option maxHeartbeats 1000000
set_option linter.unusedVariables false
section
open PySem.SeqAt AutoSeq1 MeetsSeq MeetsSeq2 MeetsSeq3 SeqRoads2
def LtAt (A : Around) (s : Shared) (y x : Value) (b : Bool) : Prop :=
  ∀ (prog : Program) (w : World) (E : Value → Shared → Prop) (Q : Value → Shared → Prop), Q (.bool b) s → wpAny (model prog w) A (richCompare .Lt y x) Q E s
abbrev lObj (items : Array Value) (n : Nat) : Obj := { cls := .type "list", dict := none, data := .seq items n, slots := #[] }
theorem lt_loop2 (l b : Addr) (items items2 : Array Value) (n n2 : Nat) (h1 : items.size = 2) (h2 : items2.size = 2) :
    Meets (Builtin.«list.__eq__.loop» ⟨[.ref l, .ref b, rawInt (2 : Nat), rawInt 0], []⟩)
      (fun A R s => s.heap.get? l = some (lObj items n) ∧ s.heap.get? b = some (lObj items2 n2) ∧ R (.ok (.ret (.bool false))) s) := by
  intro prog w A R s h
  obtain ⟨hp, g, d, tk, os⟩ := s; obtain ⟨hl, hb, h⟩ := h
  wp_walk using wpAny_loadPart' hl, wpAny_loadPart' hb
  have hi1 : items[(((2 : Nat) : Int)).toNat]? = none := by simp; omega
  rw [hi1]
  wp_walk using wpAny_loadPart' hl, wpAny_loadPart' hb
  show R (.ok (.ret (.bool (decide (items.size < items2.size))))) _
  rw [h1, h2]
  exact h
theorem lt_loop1 (l b : Addr) (items items2 : Array Value) (y y' : Value) (n n2 : Nat) (e r : Bool) (h1 : items.size = 2) (h2 : items2.size = 2) (g1 : items[1]? = some y) (g2 : items2[1]? = some y') :
    Meets (Builtin.«list.__eq__.loop» ⟨[.ref l, .ref b, rawInt (1 : Nat), rawInt 0], []⟩)
      (fun A R s => s.heap.get? l = some (lObj items n) ∧ s.heap.get? b = some (lObj items2 n2) ∧ EqAt A.in1 s y y' e ∧ LtAt A.in1 s y y' r ∧ R (.ok (.ret (.bool (if e = true then false else r)))) s) := by
  intro prog w A R s h
  obtain ⟨hp, g, d, tk, os⟩ := s; obtain ⟨hl, hb, he, hr, h⟩ := h
  wp_walk using wpAny_loadPart' hl, wpAny_loadPart' hb
  have hi1 : items[(((1 : Nat) : Int)).toNat]? = some y := g1
  have hi2 : items2[(((1 : Nat) : Int)).toNat]? = some y' := g2
  rw [hi1, hi2]
  refine wpAny_bind (he prog w _ _ ?_)
  cases e with
  | true =>
    wp_walk
    exact ⟨plainId_quiet plain_eq_loop _, codeAny_builtin entry_eq_loop (by
        rw [Around.under_plainId plain_eq_loop _]
        exact lt_loop2 l b items items2 n n2 h1 h2 prog w A R _ ⟨hl, hb, by simpa using h⟩)⟩
  | false =>
    wp_walk using wpAny_loadPart' hl, wpAny_loadPart' hb
    rw [hi1, hi2]
    refine wpAny_bind (hr prog w _ _ ?_)
    exact wpAny_pure (by simpa using h)
theorem lt_loop0 (l b : Addr) (items items2 : Array Value) (x x' y y' : Value) (n n2 : Nat) (e r e1 r1 : Bool) (h1 : items.size = 2) (h2 : items2.size = 2) (f1 : items[0]? = some x) (f2 : items2[0]? = some x') (g1 : items[1]? = some y) (g2 : items2[1]? = some y') :
    Meets (Builtin.«list.__eq__.loop» ⟨[.ref l, .ref b, rawInt (0 : Nat), rawInt 0], []⟩)
      (fun A R s => s.heap.get? l = some (lObj items n) ∧ s.heap.get? b = some (lObj items2 n2) ∧ EqAt A.in1 s x x' e ∧ LtAt A.in1 s x x' r ∧ EqAt A.in1 s y y' e1 ∧ LtAt A.in1 s y y' r1 ∧ R (.ok (.ret (.bool (if e = true then (if e1 = true then false else r1) else r)))) s) := by
  intro prog w A R s h
  obtain ⟨hp, g, d, tk, os⟩ := s; obtain ⟨hl, hb, he, hr, he1, hr1, h⟩ := h
  wp_walk using wpAny_loadPart' hl, wpAny_loadPart' hb
  have hi1 : items[(((0 : Nat) : Int)).toNat]? = some x := f1
  have hi2 : items2[(((0 : Nat) : Int)).toNat]? = some x' := f2
  rw [hi1, hi2]
  refine wpAny_bind (he prog w _ _ ?_)
  cases e with
  | true =>
    wp_walk
    exact ⟨plainId_quiet plain_eq_loop _, codeAny_builtin entry_eq_loop (by
        rw [Around.under_plainId plain_eq_loop _]
        exact lt_loop1 l b items items2 y y' n n2 e1 r1 h1 h2 g1 g2 prog w A R _ ⟨hl, hb, he1, hr1, by simpa using h⟩)⟩
  | false =>
    wp_walk using wpAny_loadPart' hl, wpAny_loadPart' hb
    rw [hi1, hi2]
    refine wpAny_bind (hr prog w _ _ ?_)
    exact wpAny_pure (by simpa using h)
theorem list_lt2 (l b : Addr) (items items2 : Array Value) (x x' y y' : Value) (n n2 : Nat) (e r e1 r1 : Bool) (h1 : items.size = 2) (h2 : items2.size = 2) (f1 : items[0]? = some x) (f2 : items2[0]? = some x') (g1 : items[1]? = some y) (g2 : items2[1]? = some y') :
    Meets (Builtin.«list.__lt__» ⟨[.ref l, .ref b], []⟩)
      (fun A R s => s.heap.get? l = some (lObj items n) ∧ s.heap.get? b = some (lObj items2 n2) ∧ EqAt A.in1 s x x' e ∧ LtAt A.in1 s x x' r ∧ EqAt A.in1 s y y' e1 ∧ LtAt A.in1 s y y' r1 ∧ R (.ok (.ret (.bool (if e = true then (if e1 = true then false else r1) else r)))) s) := by
  intro prog w A R s h
  obtain ⟨hp, g, d, tk, os⟩ := s; obtain ⟨hl, hb, he, hr, he1, hr1, h⟩ := h
  have f3 := AutoSeq1.sub_list_list
  wp_walk using wpAny_loadPart' hl, wpAny_loadPart' hb
  exact ⟨plainId_quiet plain_eq_loop _, codeAny_builtin entry_eq_loop (by
        rw [Around.under_plainId plain_eq_loop _]
        exact lt_loop0 l b items items2 x x' y y' n n2 e r e1 r1 h1 h2 f1 f2 g1 g2 prog w A R _ ⟨hl, hb, he, hr, he1, hr1, h⟩)⟩
end
end Mine

/- Srt2 -/
namespace Mine
set_option maxHeartbeats 1000000
set_option linter.unusedVariables false
-- the order of the pairs
def ltP (p q : Str × Bool) : Bool := if (p.1 == q.1) = true then (if (p.2 == q.2) = true then false else decide (b2i p.2 < b2i q.2)) else decide (p.1.cps.toList < q.1.cps.toList)
def rkD (d : Str) : Nat := domsL.countP fun e => decide (e.cps.toList < d.cps.toList)
def keyN (p : Str × Bool) : Nat := 2 * rkD p.1 + (if p.2 = true then 1 else 0)
theorem rkFact : ∀ d ∈ domsL, ∀ e ∈ domsL, (d == e) = decide (rkD d = rkD e) ∧ decide (d.cps.toList < e.cps.toList) = decide (rkD d < rkD e) := by decide +kernel
theorem ltP_key {p q : Str × Bool} (hp : p.1 ∈ domsL) (hq : q.1 ∈ domsL) : ltP p q = decide (keyN p < keyN q) := by
  obtain ⟨h1, h2⟩ := rkFact p.1 hp q.1 hq
  obtain ⟨d, b⟩ := p
  obtain ⟨e, c⟩ := q
  unfold ltP keyN
  simp only at h1 h2 ⊢
  rw [h1, h2]
  generalize rkD d = x, rkD e = y
  by_cases hxy : x = y
  · subst hxy
    cases b <;> cases c <;> simp [b2i]
  · simp only [hxy, decide_false, Bool.false_eq_true, if_false]
    cases b <;> cases c <;> simp <;> omega
theorem keyN_inj {p q : Str × Bool} (hp : p.1 ∈ domsL) (hq : q.1 ∈ domsL) (h : keyN p = keyN q) : p = q := by
  obtain ⟨h1, _⟩ := rkFact p.1 hp q.1 hq
  obtain ⟨d, b⟩ := p
  obtain ⟨e, c⟩ := q
  unfold keyN at h
  simp only at h h1
  have hr : rkD d = rkD e := by cases b <;> cases c <;> simp at h <;> omega
  rw [hr] at h1
  have hd : d = e := by simpa using h1
  subst hd
  cases b <;> cases c <;> simp at h ⊢
theorem sorted_eq {l₁ l₂ : List (Str × Bool)} (h1 : ∀ p ∈ l₁, p.1 ∈ domsL) (hp : l₁.Perm l₂) (s1 : l₁.Pairwise fun p q => keyN p ≤ keyN q) (s2 : l₂.Pairwise fun p q => keyN p ≤ keyN q) : l₁ = l₂ :=
  List.Perm.eq_of_pairwise (le := fun p q => keyN p ≤ keyN q) (fun a b ha hb hab hba => keyN_inj (h1 a ha) (h1 b (hp.mem_iff.mpr hb)) (Nat.le_antisymm hab hba)) s1 s2 hp
-- the questions of a sort
def runK (n : Nat) (lt : Nat → Nat → Bool) : KasT (Array Nat) → Option (Array Nat)
  | .ret p => some p
  | .ask i j k => if decide (i < n) && decide (j < n) then runK n lt (k (lt i j)) else none
def upL (r : List Nat) : List Nat → Bool
  | a :: b :: t => decide (r.getD a 0 ≤ r.getD b 0) && upL r (b :: t)
  | _ => true
def tups (m : Nat) : Nat → List (List Nat)
  | 0 => [[]]
  | n + 1 => (tups m n).flatMap fun r => (List.range m).map fun x => x :: r
def sortOk (n : Nat) : Bool := (tups (n + 1) n).all fun r => match runK n (fun i j => decide (r.getD i 0 < r.getD j 0)) (kas_sort n) with
  | some p => p.toList.isPerm (List.range n) && upL r p.toList
  | none => false
theorem sortOk2 : sortOk 2 = true := by decide +kernel
theorem sortOk3 : sortOk 3 = true := by decide +kernel
theorem sortOk4 : sortOk 4 = true := by decide +kernel
theorem mem_tups (m : Nat) : ∀ r : List Nat, (∀ x ∈ r, x < m) → r ∈ tups m r.length
  | [], _ => .head _
  | x :: r, h => by
    show _ ∈ (tups m r.length).flatMap _
    rw [List.mem_flatMap]
    exact ⟨r, mem_tups m r fun y hy => h y (.tail _ hy), List.mem_map.mpr ⟨x, List.mem_range.mpr (h x (.head _)), rfl⟩⟩
theorem runK_congr {n : Nat} {lt lt' : Nat → Nat → Bool} (h : ∀ i j, i < n → j < n → lt i j = lt' i j) : ∀ t, runK n lt t = runK n lt' t
  | .ret p => rfl
  | .ask i j k => by
    unfold runK
    by_cases hij : i < n ∧ j < n
    · simp only [hij.1, hij.2, decide_true, Bool.and_self, if_true]
      rw [h i j hij.1 hij.2]
      exact runK_congr h _
    · have : (decide (i < n) && decide (j < n)) = false := by
        rw [Bool.eq_false_iff]; intro e; simp at e; exact hij e
      simp only [this, Bool.false_eq_true, if_false]
theorem kas_run {cmp : Nat → Nat → (Bool → Shared → Prop) → Shared → Prop} {s : Shared} {n : Nat} {lt : Nat → Nat → Bool} (hc : ∀ i j C, i < n → j < n → C (lt i j) s → cmp i j C s) {Q : Array Nat → Shared → Prop} {p : Array Nat} (hq : Q p s) :
    ∀ t : KasT (Array Nat), runK n lt t = some p → t.kasWp cmp Q s
  | .ret p', h => by cases h; exact hq
  | .ask i j k, h => by
    unfold runK at h
    by_cases hij : (decide (i < n) && decide (j < n)) = true
    · rw [if_pos hij] at h
      simp only [Bool.and_eq_true, decide_eq_true_eq] at hij
      exact hc i j _ hij.1 hij.2 (kas_run hc hq _ h)
    · rw [if_neg hij] at h; cases h
theorem countP_lt {p q : Nat → Bool} : ∀ l : List Nat, (∀ x ∈ l, p x = true → q x = true) → (∃ x ∈ l, q x = true ∧ p x = false) → l.countP p < l.countP q
  | [], _, h => by obtain ⟨x, hx, _⟩ := h; cases hx
  | y :: r, hs, h => by
    have hle : r.countP p ≤ r.countP q := List.countP_mono_left fun x hx => hs x (.tail _ hx)
    rw [List.countP_cons, List.countP_cons]
    obtain ⟨x, hx, h1, h2⟩ := h
    rcases List.mem_cons.mp hx with rfl | hx
    · rw [h1, h2]; simp; omega
    · have ih := countP_lt r (fun x hx => hs x (.tail _ hx)) ⟨x, hx, h1, h2⟩
      have := hs y (.head _)
      cases e1 : p y <;> cases e2 : q y <;> simp_all <;> omega
def rankL (n : Nat) (key : Nat → Nat) (i : Nat) : Nat := (List.range n).countP fun j => decide (key j < key i)
theorem rank_lt {n : Nat} {key : Nat → Nat} {i j : Nat} (hi : i < n) (hj : j < n) : decide (rankL n key i < rankL n key j) = decide (key i < key j) := by
  rw [decide_eq_decide]
  unfold rankL
  constructor
  · intro h
    apply Classical.byContradiction
    intro hn
    have : (List.range n).countP (fun x => decide (key x < key j)) ≤ (List.range n).countP fun x => decide (key x < key i) :=
      List.countP_mono_left fun x _ hx => by simp at hx ⊢; omega
    omega
  · intro h
    exact countP_lt _ (fun x _ hx => by simp at hx ⊢; omega) ⟨i, List.mem_range.mpr hi, by simpa using h, by simp⟩
theorem upL_sorted (r : List Nat) : ∀ l : List Nat, upL r l = true → l.Pairwise fun a b => r.getD a 0 ≤ r.getD b 0
  | [], _ => .nil
  | [a], _ => List.pairwise_singleton _ _
  | a :: b :: t, h => by
    unfold upL at h
    simp only [Bool.and_eq_true, decide_eq_true_eq] at h
    have ih := upL_sorted r (b :: t) h.2
    refine List.pairwise_cons.mpr ⟨fun x hx => ?_, ih⟩
    rcases List.mem_cons.mp hx with rfl | hx
    · exact h.1
    · exact Nat.le_trans h.1 ((List.pairwise_cons.mp ih).1 x hx)
theorem sort_run {n : Nat} (hn : sortOk n = true) (key : Nat → Nat) : ∃ p : Array Nat, runK n (fun i j => decide (key i < key j)) (kas_sort n) = some p ∧ p.toList.Perm (List.range n) ∧ p.toList.Pairwise fun a b => key a ≤ key b := by
  have hr : ∀ i, i < n → ((List.range n).map (rankL n key)).getD i 0 = rankL n key i := fun i hi => by simp [List.getD_eq_getElem?_getD, hi]
  have hm : (List.range n).map (rankL n key) ∈ tups (n + 1) n := by
    have := mem_tups (n + 1) ((List.range n).map (rankL n key)) fun x hx => by
      obtain ⟨i, _, rfl⟩ := List.mem_map.mp hx
      unfold rankL
      have := List.countP_le_length (p := fun j => decide (key j < key i)) (l := List.range n)
      simp at this ⊢; omega
    simpa using this
  have h := List.all_eq_true.mp hn _ hm
  rw [runK_congr (lt' := fun i j => decide (key i < key j)) (fun i j hi hj => by rw [hr i hi, hr j hj]; exact rank_lt hi hj)] at h
  cases e : runK n (fun i j => decide (key i < key j)) (kas_sort n) with
  | none => rw [e] at h; cases h
  | some p =>
    rw [e] at h
    simp only [Bool.and_eq_true] at h
    have hperm := List.isPerm_iff.mp h.1
    refine ⟨p, rfl, hperm, ?_⟩
    refine (upL_sorted _ _ h.2).imp_of_mem fun {a b} ha hb hab => ?_
    have ha' := List.mem_range.mp (hperm.mem_iff.mp ha)
    have hb' := List.mem_range.mp (hperm.mem_iff.mp hb)
    rw [hr a ha', hr b hb'] at hab
    have := @rank_lt n key b a hb' ha'
    apply Classical.byContradiction
    intro hn
    rw [decide_eq_decide] at this
    have := this.mpr (by omega)
    omega
section
open PySem.SeqAt
variable {prog : Program} {w : World} {A : Around} {E : Value → Shared → Prop} {s : Shared} {h₀ : Heap} {L : Addr} {m : Str → Option Value} {news : Led}
theorem pair_lt {v v' : Value} {p q : Str × Bool} {Q : Bool → Shared → Prop} (N : News h₀ L s.heap news) (hv : PairIn news v p.1 p.2) (hv' : PairIn news v' q.1 q.2) (hu : A.units < cLine) (h : Q (ltP p q) s) : wpAny (model prog w) A (keyLt' oneType' v v') Q E s := by
  obtain ⟨a, t, n, rfl, hm⟩ := hv
  obtain ⟨a', t', n', rfl, hm'⟩ := hv'
  rw [keyLt'_oneType, oneLt'_eq]
  simp only [if_true]
  refine wpAny_bind (wpAny_cRoomFor hu ?_)
  have hT : s.TypeIs (.ref a) "list" := ⟨_, (N _ hm).1, rfl⟩
  refine wpAny_bind (wpAny_callSpecialIfBound?_slot hT F.slot_list_lt ?_)
  refine call_meets F.slot_list_lt hT F.entry_list_lt (F.args_list_lt_2 _ _) (list_lt2 a a' #[.str p.1 t, .bool p.2] #[.str q.1 t', .bool q.2] _ _ _ _ n n' (p.1 == q.1) (decide (p.1.cps.toList < q.1.cps.toList)) (p.2 == q.2) (decide (b2i p.2 < b2i q.2)) rfl rfl rfl rfl rfl rfl) ?_
  refine ⟨(N _ hm).1, (N _ hm').1, EqAt.str_str _ _ _ _, fun prog w E Q h => lt_str h, EqAt.bool_bool _ _, fun prog w E Q h => lt_bool h, ?_⟩
  exact wpAny_truthy_bool (by unfold ltP at h; exact h)
theorem nat_getD {vs : List Value} {i : Nat} (h : i < vs.length) : vs.getD i Value.none = vs[i] := by simp [List.getD_eq_getElem?_getD, h]
theorem PairsIn.pick {led : Led} {vs : List Value} {ps : List (Str × Bool)} (h : PairsIn led vs ps) {i : Nat} (hi : i < ps.length) : PairIn led (vs.getD i Value.none) (at0 ps i).1 (at0 ps i).2 := by
  have hi' : i < vs.length := by rw [h.length]; exact hi
  obtain ⟨d, b, e, hp⟩ := h.get i _ (List.getElem?_eq_getElem hi')
  rw [nat_getD hi']
  unfold at0
  rw [List.getD_eq_getElem?_getD, e]
  exact hp
theorem PairsIn.sub {led : Led} {vs : List Value} {ps : List (Str × Bool)} (h : PairsIn led vs ps) : ∀ K : List Nat, (∀ i ∈ K, i < ps.length) → PairsIn led (K.map fun i => vs.getD i Value.none) (sub ps K)
  | [], _ => .nil
  | i :: K, hK => .cons (h.pick (hK i (.head _))) (PairsIn.sub h K fun j hj => hK j (.tail _ hj))
theorem sub_range (ps : List (Str × Bool)) : sub ps (List.range ps.length) = ps := by
  unfold sub
  apply List.ext_getElem
  · simp
  · intro i h1 h2
    simp at h1
    simp [at0, List.getD_eq_getElem?_getD, h2]
theorem sort_one {l : Addr} {v : Value} {Q : Value → Shared → Prop} (hl : s.heap.IsList l #[v]) (h : Q (.ref (s.heap.objs.size + 1)) { s with heap := sortedAll s.heap [v] #[v] }) :
    wpAny (model prog w) A (call (.builtin "sorted") [.ref l]) Q E s := by
  refine Calls.call_function_entry kind_sorted plain_sorted entry_sorted (args_sorted1 _) ?_
  unfold Builtin.«sorted»
  refine wpAny_bind (m := checkCount "sorted" 1 1 _) (wpAny_pure (wpAny_bind (collect_list (vs := [v]) hl ?_ (by rw [sizeLine_eq]; simp))))
  refine wpAny_bind (wpAny_newList ?_ (by rw [sizeLine_eq]; simp))
  have z : ((s.heap.push (seqObj "list" #[] 0)).update s.heap.objs.size (Obj.mapSeq (· ++ [v].toArray))).objs.size = s.heap.objs.size + 1 := by rw [Heap.size_update, size_push']
  generalize hg : (s.heap.push (seqObj "list" #[] 0)).update s.heap.objs.size (Obj.mapSeq (· ++ [v].toArray)) = H at *
  have o0 : (H.push (seqObj "list" [v].toArray 0)).get? (s.heap.objs.size + 1) = some (seqObj "list" [v].toArray 0) := by rw [← z]; exact Heap.get?_push_size _ rfl
  show wpAny _ _ _ _ _ { s with heap := H.push (seqObj "list" [v].toArray 0) }
  rw [z]
  refine wpAny_bind (wpAny_holding (wpAny_call_entry slot_list_sort ⟨_, o0, rfl⟩ entry_list_sort ?body (args_list_sort _)))
  rw [list_sort_plain]
  have a0 : s.heap.objs.size + 1 < (H.push (seqObj "list" [v].toArray 0)).objs.size := Heap.lt_size o0
  refine wpAny_bind (listItems_at o0 rfl (wpAny_bind (listUpdate_at o0 rfl ?_ (by rw [sizeLine_eq]; simp) (Nat.zero_le _))))
  obtain ⟨c, o1⟩ : ∃ c, ((H.push (seqObj "list" [v].toArray 0)).update (s.heap.objs.size + 1) (Obj.mapSeq fun _ => #[])).get? (s.heap.objs.size + 1) = some (seqObj "list" #[] c) := ⟨_, get?_update_seq o0 fun _ => #[]⟩
  refine wpAny_bind (seqEpoch_at o1 rfl (wpAny_bind (wpAny_newTuple (wpAny_bind (wpAny_newList (wpAny_holding ?_))))))
  have o2 : ((((H.push (seqObj "list" [v].toArray 0)).update (s.heap.objs.size + 1) (Obj.mapSeq fun _ => #[])).push (seqObj "tuple" [v].toArray 0)).push (seqObj "list" #[] 0)).get? (s.heap.objs.size + 1) = some (seqObj "list" #[] c) :=
    Heap.get?_push_of_some _ (Heap.get?_push_of_some _ o1)
  show wpAny (model prog w) _ _ _ _ { s with heap := (((H.push (seqObj "list" [v].toArray 0)).update (s.heap.objs.size + 1) (Obj.mapSeq fun _ => #[])).push (seqObj "tuple" [v].toArray 0)).push (seqObj "list" #[] 0) }
  rw [if_pos (by simp), if_pos (by simp)]
  refine wpAny_bind (wpAny_pure ?_)
  dsimp only
  rw [StateT.run_pure]
  refine wpAny_bind (wpAny_pure ?_)
  dsimp only
  refine wpAny_bind (seqEpoch_at o2 rfl (wpAny_bind (listUpdate_at o2 rfl ?_ (Nat.zero_le _) (by rw [sizeLine_eq]; simp [arrOf, SortSt.mk']))))
  simp only [bne_self_eq_false, Bool.false_eq_true, if_false]
  refine wpAny_pure ⟨_, rfl, wpAny_pure ⟨_, rfl, ?_⟩⟩
  have e : sortedAll s.heap [v] #[v] = ((((H.push (seqObj "list" [v].toArray 0)).update (s.heap.objs.size + 1) (Obj.mapSeq fun _ => #[])).push (seqObj "tuple" [v].toArray 0)).push (seqObj "list" #[] 0)).update (s.heap.objs.size + 1) (Obj.mapSeq fun _ => #[v]) := by
    unfold sortedAll sortedHeap
    rw [hg]
  rw [e] at h
  have e2 : Array.map (fun x : Value × Value => x.2) (arrOf (SortSt.mk' general' ([v].toArray.zip [v].toArray) #[] 7 none)) = #[v] := by
    show Array.map (fun x : Value × Value => x.2) ([v].toArray.zip [v].toArray) = #[v]
    simp
  rw [e2]
  exact h
theorem sortP {l : Addr} {vs : List Value} {ps : List (Str × Bool)} {n : Nat} {Q : Value → Shared → Prop} (F : Fr h₀ L s.heap m) (N : News h₀ L s.heap news) (hl : (l, W.listOf vs.toArray n) ∈ news) (hP : PairsIn news vs ps) (hps : ∀ p ∈ ps, p.1 ∈ domsL) (h4 : ps.length ≤ 4) (hu : A.units + 1000 < cLine)
    (h : ∀ D vs' ps' c h', Fr h₀ L h' m → News h₀ L h' ((D, W.listOf vs'.toArray c) :: news) → (∀ q ∈ news, q.1 < D) → ps'.Perm ps → (ps'.Pairwise fun p q => keyN p ≤ keyN q) → PairsIn news vs' ps' → Q (.ref D) { s with heap := h' }) :
    wpAny (model prog w) A (call (.builtin "sorted") [.ref l]) Q E s := by
  have hls : s.heap.IsList l vs.toArray := ⟨_, (N _ hl).1, rfl, n, rfl⟩
  have hlen := hP.length
  have big : 2 ≤ ps.length → sortOk ps.length = true → wpAny (model prog w) A (call (.builtin "sorted") [.ref l]) Q E s := by
    intro h2 hok
    refine kas_sorted (T := .type "list") F N hls (by omega) (by omega) (fun h F' N' v hv => ?_) rfl fun D e1 h' F' N' l1 => ?_
    · obtain ⟨i, hi, e⟩ := List.mem_iff_getElem.mp hv
      obtain ⟨d, b, _, a, t, n', rfl, hm⟩ := hP.get i v (by rw [List.getElem?_eq_getElem hi, e])
      exact fun A Q E s k q => wpAny_typeOf ⟨_, k _ _ (N' _ hm).1, rfl⟩ q
    · obtain ⟨p, hr, hp, hs⟩ := sort_run hok fun i => keyN (at0 ps i)
      rw [hlen]
      refine kas_run (lt := fun i j => decide (keyN (at0 ps i) < keyN (at0 ps j))) (fun i j C hi hj hC => ?_) ?_ _ hr
      · refine pair_lt (fun q hq => N' q (.tail _ hq)) (hP.pick hi) (hP.pick hj) ?_ ?_
        · have e1 : A.in1.in1.units ≤ A.units + 1000 := by simp
          omega
        · rw [ltP_key (hps _ (at0_mem hi)) (hps _ (at0_mem hj))]; exact hC
      · have hlt : ∀ i ∈ p.toList, i < ps.length := fun i hi => List.mem_range.mp (hp.mem_iff.mp hi)
        refine KasFin.intro F' N' (.head fun q hq => Nat.ne_of_lt (l1 q hq)) fun h'' c F'' N'' => h D _ (sub ps p.toList) c h'' F'' N'' l1 ?_ ?_ (hP.sub p.toList hlt)
        · have := hp.map (at0 ps)
          rw [show (List.range ps.length).map (at0 ps) = ps from sub_range ps] at this
          exact this
        · unfold sub
          rw [List.pairwise_map]
          exact hs
  have small : ∀ D vs' c h', D = s.heap.objs.size + 1 → (∀ b o, s.heap.get? b = some o → h'.get? b = some o) → h'.get? D = some (seqObj "list" vs'.toArray c) → vs' = vs → ps.length ≤ 1 → Q (.ref D) { s with heap := h' } := by
    rintro D vs' c h' rfl keep hD rfl h1
    refine h _ vs' ps c h' (F.kept keep) (N.kept_cons F keep (Nat.le_succ _) hD) (fun q hq => Nat.lt_succ_of_lt (Heap.lt_size (N q hq).1)) (List.Perm.refl _) ?_ hP
    match ps, h1 with
    | [], _ => exact .nil
    | [p], _ => exact List.pairwise_singleton _ _
  match hps' : ps.length, h4 with
  | 0, _ =>
    have : vs = [] := List.eq_nil_of_length_eq_zero (by omega)
    subst this
    refine sorted_ints (vs := []) (ns := []) hls .nil (by simp) fun out ns' a1 a2 a3 => ?_
    obtain ⟨e, he⟩ := sortedAll_at s.heap [] out
    have hns : ns' = [] := List.Perm.eq_nil a2
    subst hns
    have ho : out.toList = [] := List.eq_nil_of_length_eq_zero (by rw [a1.length]; rfl)
    exact small _ out.toList e _ rfl (fun _ _ => sortedAll_old) (by simpa using he) ho (by omega)
  | 1, _ =>
    obtain ⟨v, rfl⟩ : ∃ v, vs = [v] := by
      match vs, hlen with
      | [v], _ => exact ⟨v, rfl⟩
      | [], h => simp at h; omega
      | _ :: _ :: _, h => simp at h; omega
    obtain ⟨e, he⟩ := sortedAll_at s.heap [v] #[v]
    exact sort_one hls (small _ [v] e _ rfl (fun _ _ => sortedAll_old) he rfl (by omega))
  | 2, _ => exact big (by omega) (by rw [hps']; exact sortOk2)
  | 3, _ => exact big (by omega) (by rw [hps']; exact sortOk3)
  | 4, _ => exact big (by omega) (by rw [hps']; exact sortOk4)
end
end Mine

/- Eq1 -/
namespace Mine
set_option maxHeartbeats 1000000
set_option linter.unusedVariables false
theorem flat_shaped {α : Type} (f : α → PyData) (xs : List α) (h1 : ∀ x ∈ xs, PyData.canLay0 (f x) = true) (h2 : ∀ x, PyData.depth (f x) = 0) : SeqAt.shaped (.list (xs.map f)) = true := by
  have e1 : PyData.canLayAll0 (xs.map f) = true := by
    induction xs with
    | nil => rfl
    | cons x r ih => rw [List.map_cons, PyData.canLayAll0, h1 x (.head _), ih fun y hy => h1 y (.tail _ hy)]; rfl
  have e2 : PyData.depthAll (xs.map f) = 0 := by
    clear h1 e1
    induction xs with
    | nil => rfl
    | cons x r ih => simp [PyData.depthAll, h2, ih]
  simp [SeqAt.shaped, PyData.canLay0, PyData.depth, e1, e2]
theorem flat_same {α : Type} [DecidableEq α] (f : α → PyData) (h : ∀ x y, PySem.Spec.same (f x) (f y) = decide (x = y)) : ∀ xs ys : List α, PySem.Spec.same (.list (xs.map f)) (.list (ys.map f)) = decide (xs = ys) := by
  have go : ∀ xs ys : List α, PySem.Spec.sameAll (xs.map f) (ys.map f) = decide (xs = ys) := by
    intro xs
    induction xs with
    | nil => intro ys; cases ys <;> simp [PySem.Spec.sameAll]
    | cons x r ih =>
      intro ys
      cases ys with
      | nil => simp [PySem.Spec.sameAll]
      | cons y t => simp only [List.map_cons, PySem.Spec.sameAll, h, ih]; by_cases e1 : x = y <;> by_cases e2 : r = t <;> simp [e1, e2]
  intro xs ys
  simp only [PySem.Spec.same]; exact go xs ys
theorem StrsAre.carried {vs : List Value} {xs : List Str} (h : StrsAre vs xs) : CarriedAll vs (xs.map PyData.str) := by
  induction h with
  | nil => exact .nil
  | cons _ ih => exact .cons (.str _ _) ih
theorem BoolsAre.carried {vs : List Value} {xs : List Bool} (h : BoolsAre vs xs) : CarriedAll vs (xs.map PyData.bool) := by
  induction h with
  | nil => exact .nil
  | cons _ ih => exact .cons (.bool _) ih
section
open PySem.SeqAt
variable {prog : Program} {w : World} {A : Around} {E : Value → Shared → Prop} {s : Shared} {h₀ : Heap} {L : Addr} {m : Str → Option Value} {news : Led} {a b : Addr} {us vs : List Value} {n k : Nat} {Q : Value → Shared → Prop}
theorem isL (N : News h₀ L s.heap news) (hm : (a, W.listOf us.toArray n) ∈ news) : s.heap.IsList a us.toArray := ⟨_, (N _ hm).1, rfl, n, rfl⟩
theorem ne_strs {xs : List Str} (N : News h₀ L s.heap news) (ha : (a, W.listOf us.toArray n) ∈ news) (hb : (b, W.listOf vs.toArray k) ∈ news) (hx : StrsAre us xs) (hy : StrsAre vs xs) (hok : ∀ y ∈ xs, PyData.strOk y = true) (hu : A.units + 64 < cLine) (h : Q (.bool false) s) :
    wpAny (model prog w) A (compareOp .NotEq (.ref a) (.ref b)) Q E s :=
  ne_dataH_same (reads_newData (isL N ha) hx.carried) (reads_newData (isL N hb) hy.carried) (flat_shaped _ _ (fun x hx => by rw [PyData.canLay0]; exact hok x hx) (fun _ => rfl)) (flat_shaped _ _ (fun x hx => by rw [PyData.canLay0]; exact hok x hx) (fun _ => rfl)) hu
    (SeqAt.noMix_of_shape (.list .str) rfl _ _ (list_map_has fun _ => rfl) (list_map_has fun _ => rfl)) (by rw [flat_same _ (fun x y => by rw [Bool.eq_iff_iff]; simp [PySem.Spec.same])]; simpa using h)
theorem ne_bools {xs ys : List Bool} (N : News h₀ L s.heap news) (ha : (a, W.listOf us.toArray n) ∈ news) (hb : (b, W.listOf vs.toArray k) ∈ news) (hx : BoolsAre us xs) (hy : BoolsAre vs ys) (hu : A.units + 64 < cLine) (h : Q (.bool (!decide (xs = ys))) s) :
    wpAny (model prog w) A (compareOp .NotEq (.ref a) (.ref b)) Q E s :=
  ne_dataH_same (reads_newData (isL N ha) hx.carried) (reads_newData (isL N hb) hy.carried) (flat_shaped _ _ (fun _ _ => rfl) (fun _ => rfl)) (flat_shaped _ _ (fun _ _ => rfl) (fun _ => rfl)) hu
    (SeqAt.noMix_of_shape (.list .bool) rfl _ _ (list_map_has fun _ => rfl) (list_map_has fun _ => rfl)) (by rw [flat_same _ (fun x y => by rw [Bool.eq_iff_iff]; simp [PySem.Spec.same])]; exact h)
theorem eq_bools {xs ys : List Bool} (N : News h₀ L s.heap news) (ha : (a, W.listOf us.toArray n) ∈ news) (hb : (b, W.listOf vs.toArray k) ∈ news) (hx : BoolsAre us xs) (hy : BoolsAre vs ys) (hu : A.units + 64 < cLine) (h : Q (.bool (decide (xs = ys))) s) :
    wpAny (model prog w) A (compareOp .Eq (.ref a) (.ref b)) Q E s :=
  eq_dataH_same (reads_newData (isL N ha) hx.carried) (reads_newData (isL N hb) hy.carried) (flat_shaped _ _ (fun _ _ => rfl) (fun _ => rfl)) (flat_shaped _ _ (fun _ _ => rfl) (fun _ => rfl)) hu
    (SeqAt.noMix_of_shape (.list .bool) rfl _ _ (list_map_has fun _ => rfl) (list_map_has fun _ => rfl)) (by rw [flat_same _ (fun x y => by rw [Bool.eq_iff_iff]; simp [PySem.Spec.same])]; exact h)
theorem pair_same {A : Around} {v v' : Value} {d : Str} {c : Bool} (N : News h₀ L s.heap news) (hv : PairIn news v d c) (hv' : PairIn news v' d c) (hu : A.units < cLine) : EqAt A s v v' true := by
  obtain ⟨x, t, i, rfl, hm⟩ := hv
  obtain ⟨y, t', j, rfl, hm'⟩ := hv'
  by_cases hxy : x = y
  · subst hxy; exact EqAt.same _
  · refine EqAt.of_refs hxy ?_
    have := RcAt.lists (A := A) (s := s) (l := x) (b := y) (items := #[.str d t, .bool c]) (items2 := #[.str d t', .bool c]) (e := fun _ => true) ⟨_, (N _ hm).1, rfl, i, rfl⟩ ⟨_, (N _ hm').1, rfl, j, rfl⟩ rfl hu ?_
    · exact this
    · intro j h1 h2
      match j, h1 with
      | 0, _ => simpa using EqAt.str_str (A := A.in1) (s := s) d t d t'
      | 1, _ => simpa using EqAt.bool_bool (A := A.in1) (s := s) c c
theorem eq_pairs {ps : List (Str × Bool)} (N : News h₀ L s.heap news) (ha : (a, W.listOf us.toArray n) ∈ news) (hb : (b, W.listOf vs.toArray k) ∈ news) (hx : PairsIn news us ps) (hy : PairsIn news vs ps) (hu : A.units + 64 < cLine) (h : Q (.bool true) s) :
    wpAny (model prog w) A (compareOp .Eq (.ref a) (.ref b)) Q E s := by
  have h1 := hx.length
  have h2 := hy.length
  refine eq_listAt (e := fun _ => true) (isL N ha) (isL N hb) (by simp; omega) (by omega) (fun j g1 g2 => ?_) (by rw [show ((List.range us.toArray.size).all fun _ => true) = true from List.all_eq_true.mpr fun _ _ => rfl]; exact h)
  have g1' : j < us.length := by simpa using g1
  have g2' : j < vs.length := by simpa using g2
  obtain ⟨d, c, e1, p1⟩ := hx.get j _ (List.getElem?_eq_getElem g1')
  obtain ⟨d', c', e2, p2⟩ := hy.get j _ (List.getElem?_eq_getElem g2')
  rw [e1] at e2
  cases e2
  have := pair_same (A := A.in1) N p1 p2 (by simp; omega)
  simpa using this
end
end Mine

/- Y0 -/
namespace Mine
set_option maxHeartbeats 1000000
set_option pp.deepTerms false
set_option pp.deepTerms.threshold 8
set_option linter.unusedVariables false
def lawDef : Stmt := (PySem.Challenge.pw_re0061_01.main.body.getLast?).getD (.Pass default)
def lawBody : List Stmt := match lawDef with | .FunctionDef _ _ b .. => b | _ => []
def lawScope : Scope := match lawDef with | .FunctionDef (scope := s) .. => s | _ => default
theorem IntsAre.takeN {vs : List Value} {ns : List Int} (h : IntsAre vs ns) : ∀ k, IntsAre (vs.take k) (ns.take k) := by
  induction h with
  | nil => intro k; simp; exact .nil
  | cons n t _ ih =>
    intro k
    cases k with
    | zero => exact .nil
    | succ k => exact .cons n t (ih k)
section
variable {prog : Program} {w : World} {A : Around} {E : Value → Shared → Prop} {h₀ : Heap} {L : Addr} {m : Str → Option Value} {news : Led}
theorem takeL {value slice : Expr} {l : Addr} {vs : List Value} {ns : List Int} {t : Tok} {Q : Value → Shared → Prop} {h : Heap} {g : _} {d : _} {tk : _} {os : _} (F : Fr h₀ L h m) (N : News h₀ L h news) (hl : h₀.IsList l vs.toArray) (hv : IntsAre vs ns) (hn : ns.length ≤ 100)
    (hq : ∀ D ws h', IntsAre ws (ns.take 4) → Fr h₀ L h' m → News h₀ L h' ((D, listOf ws.toArray 0) :: news) → (∀ p ∈ news, p.1 < D) → Q (.ref D) { heap := h', gens := g, drawn := d, toks := tk, os := os })
    (hs : subscripted slice false (.ref l) (.ref h.objs.size) = operate [.ref h.objs.size, .ref l] (getItem (.ref l) (.ref h.objs.size))) (ht : ∀ r, letTemporaryGo value (.ref l) r = pure ()) :
    wpAny (model prog w) A (subscriptTail value slice (.ref l) (.ref h.objs.size)) Q E { heap := h.push { cls := .type "slice", data := .fields #[.none, .int 4 t, .none] }, gens := g, drawn := d, toks := tk, os := os } := by
  have hlen := hv.length
  refine kms_slice_lit (s := { heap := h, gens := g, drawn := d, toks := tk, os := os }) (lo := none) (hi := some 4) (zs := vs.take 4) F N (F.lst hl) .none (.int _ _) ?_ (fun D h' F' N' l1 => hq D _ h' (IntsAre.takeN hv 4) F' N' l1) hs ht (by simp [sizeLine_eq]; omega)
  simp only [kms_pick, kms_lo, kms_hi, if_neg (show ¬ (4 : Int) < 0 by omega), List.drop_zero, Nat.sub_zero]
  exact kmk_take_min _ _
end
/-- one statement of the law's: what stands around it -/
abbrev LawA (sc : Scope) (L fa : Addr) : Around := callerA.deeper (envOfC (Str.ofString "law") sc L fa (.ref 157))
abbrev lawEnv (sc : Scope) (L fa : Addr) : Env := envOfC (Str.ofString "law") sc L fa (.ref 157)
abbrev LawE (w : World) (sc : Scope) (L fa : Addr) (E₀ : Value → Shared → Prop) : Value → Shared → Prop := fun e s' => wpAny (model Row.prog w) (LawA sc L fa) (leaving (lawEnv sc L fa) e) (fun _ s'' => E₀ e s'') (fun e' s'' => E₀ e' s'') s'
section
variable {M : Model} {A : Around} {E : Value → Shared → Prop} {s : Shared} {h₀ : Heap} {m : Str → Option Value}
theorem ldM {env : Env} {x : Str} {pos : Pos} {v : Value} {Q : Value → Shared → Prop} (F : Fr h₀ env.locals s.heap m) (hv : m x = some v) (h : Q v s)
    (hk : env.scope.kind = .function) (hl : env.kindOf x = some .local) (hd : (x == ("__debug__" : Str)) = false := by decide) :
    wpAny M A (eval (.Name x pos) env) Q E s := wpAny_Name (wpAny_loadName_local hk hl F.ns hv h) hd
end
section
variable {prog : Program} {w : World} {A : Around} {E : Value → Shared → Prop} {s : Shared} {h₀ : Heap} {L : Addr} {m : Str → Option Value} {news : Led} {lv : Nat} {f : Addr} {vs : List Value}
theorem news_sub {h : Heap} {news news' : Led} (N : News h₀ L h news') (hs : ∀ p ∈ news, p ∈ news') : News h₀ L h news := fun p hp => N p (hs p hp)
end
theorem cend_intro {g h9 : Heap} {L I C D : Addr} {m : Str → Option Value} {s₁ : Shared} {oI oC oD : Obj} {fx tl tl9 : Led} {tk9 : Nat} {Jn : Led → Prop} (F : Fr g L h9 m) (N : News g L h9 (tl9 ++ (I, oI) :: (C, oC) :: (D, oD) :: (tl ++ fx))) (lt9 : ∀ q ∈ (I, oI) :: (C, oC) :: (D, oD) :: (tl ++ fx), ∀ p ∈ tl9, q.1 < p.1)
    (off : ∀ p ∈ tl ++ fx, p.1 ≠ I ∧ p.1 ≠ C ∧ p.1 ≠ D) (htl : ∀ q ∈ fx, ∀ p ∈ tl, q.1 < p.1) (hJ : (∀ q ∈ fx, ∀ p ∈ tl9 ++ tl, q.1 < p.1) → Jn ((tl9 ++ tl) ++ fx)) : CEnd g L m s₁ I oI C oC D oD Jn { s₁ with heap := h9, toks := tk9 } := by
  refine ⟨_, _, (tl9 ++ tl) ++ fx, rfl, F, news_sub N ?_, ?_, hJ ?_⟩
  · intro p hp
    simp only [List.mem_cons, List.mem_append] at hp ⊢
    grind
  · intro p hp
    rw [List.append_assoc] at hp
    rcases List.mem_append.mp hp with hp | hp
    · exact ⟨Nat.ne_of_gt (lt9 _ (.head _) p hp), Nat.ne_of_gt (lt9 _ (.tail _ (.head _)) p hp), Nat.ne_of_gt (lt9 _ (.tail _ (.tail _ (.head _))) p hp)⟩
    · exact off p hp
  · intro q hq p hp
    rcases List.mem_append.mp hp with hp | hp
    · exact lt9 q (.tail _ (.tail _ (.tail _ (List.mem_append_right _ hq)))) p hp
    · exact htl q hq p hp
theorem memL {tl9 tl : Led} : ∀ p ∈ tl, p ∈ tl9 ++ tl := fun _ => List.mem_append_right _
theorem memR {tl9 tl : Led} : ∀ p ∈ tl9, p ∈ tl9 ++ tl := fun _ => List.mem_append_left _
theorem PairsIn.snoc {led : Led} {vs : List Value} {ps : List (Str × Bool)} (h : PairsIn led vs ps) {v : Value} {d : Str} {b : Bool} (hv : PairIn led v d b) : PairsIn led (vs ++ [v]) (ps ++ [(d, b)]) := by
  induction h with
  | nil => exact .cons hv .nil
  | cons h _ ih => exact .cons h ih
theorem RulesIn.snoc {w : World} {led : Led} {vs : List Value} {ps : List (Str × Bool)} (h : RulesIn w led vs ps) {v : Value} {d : Str} {b : Bool} (hv : RuleIn w led v d b) : RulesIn w led (vs ++ [v]) (ps ++ [(d, b)]) := by
  induction h with
  | nil => exact .cons hv .nil
  | cons h _ ih => exact .cons h ih
end Mine

/- Y1 -/
namespace Mine
set_option maxHeartbeats 1000000
set_option pp.deepTerms false
set_option pp.deepTerms.threshold 8
set_option linter.unusedVariables false
local macro_rules | `(tactic| walk_at "pad") => `(tactic| skip)
local macro_rules | `(tactic| walk_at "pad") => `(tactic| skip)
local macro_rules | `(tactic| walk_at "pad") => `(tactic| skip)
local macro_rules | `(tactic| walk_at "pad") => `(tactic| skip)
local macro_rules | `(tactic| walk_at "pad") => `(tactic| skip)
local macro_rules | `(tactic| walk_at "pad") => `(tactic| skip)
local macro_rules | `(tactic| walk_at "pad") => `(tactic| skip)
local macro_rules | `(tactic| walk_at "pad") => `(tactic| skip)
local macro_rules | `(tactic| walk_at "pad") => `(tactic| skip)
local macro_rules | `(tactic| walk_at "pad") => `(tactic| skip)
local macro_rules | `(tactic| walk_at "pad") => `(tactic| skip)
local macro_rules | `(tactic| walk_at "pad") => `(tactic| skip)
local macro_rules | `(tactic| walk_at "pad") => `(tactic| skip)
local macro_rules | `(tactic| walk_at "pad") => `(tactic| skip)
local macro_rules | `(tactic| walk_at "pad") => `(tactic| skip)
local macro_rules | `(tactic| walk_at "pad") => `(tactic| skip)
local macro_rules | `(tactic| walk_at "pad") => `(tactic| skip)
local macro_rules | `(tactic| walk_at "pad") => `(tactic| skip)
local macro_rules | `(tactic| walk_at "pad") => `(tactic| skip)
local macro_rules | `(tactic| walk_at "pad") => `(tactic| skip)
local macro_rules | `(tactic| walk_at "pad") => `(tactic| skip)
local macro_rules | `(tactic| walk_at "pad") => `(tactic| skip)
local macro_rules | `(tactic| walk_at "pad") => `(tactic| skip)
local macro_rules | `(tactic| walk_at "pad") => `(tactic| skip)
local macro_rules | `(tactic| walk_at "pad") => `(tactic| skip)
local macro_rules | `(tactic| walk_at "pad") => `(tactic| skip)
local macro_rules | `(tactic| walk_at "pad") => `(tactic| skip)
local macro_rules | `(tactic| walk_at "pad") => `(tactic| skip)
local macro_rules | `(tactic| walk_at "pad") => `(tactic| skip)
local macro_rules | `(tactic| walk_at "pad") => `(tactic| skip)
local macro_rules | `(tactic| walk_at "pad") => `(tactic| skip)
local macro_rules | `(tactic| walk_at "pad") => `(tactic| skip)
local macro_rules | `(tactic| walk_at "pad") => `(tactic| skip)
local macro_rules | `(tactic| walk_at "pad") => `(tactic| skip)
local macro_rules | `(tactic| walk_at "pad") => `(tactic| skip)
local macro_rules | `(tactic| walk_at "pad") => `(tactic| skip)
local macro_rules | `(tactic| walk_at "pad") => `(tactic| skip)
local macro_rules | `(tactic| walk_at "pad") => `(tactic| skip)
local macro_rules | `(tactic| walk_at "pad") => `(tactic| skip)
local macro_rules | `(tactic| walk_at "pad") => `(tactic| skip)
local macro_rules | `(tactic| walk_at "pad") => `(tactic| skip)
local macro_rules | `(tactic| walk_at "pad") => `(tactic| skip)
local macro_rules | `(tactic| walk_at "pad") => `(tactic| skip)
local macro_rules | `(tactic| walk_at "pad") => `(tactic| skip)
local macro_rules | `(tactic| walk_at "pad") => `(tactic| skip)
local macro_rules | `(tactic| walk_at "pad") => `(tactic| skip)
local macro_rules | `(tactic| walk_at "pad") => `(tactic| skip)
local macro_rules | `(tactic| walk_at "pad") => `(tactic| skip)
local macro_rules | `(tactic| walk_at "pad") => `(tactic| skip)
local macro_rules | `(tactic| walk_at "pad") => `(tactic| skip)
local macro_rules | `(tactic| walk_at "pad") => `(tactic| skip)
local macro_rules | `(tactic| walk_at "pad") => `(tactic| skip)
local macro_rules | `(tactic| walk_at "pad") => `(tactic| skip)
local macro_rules | `(tactic| walk_at "pad") => `(tactic| skip)
local macro_rules | `(tactic| walk_at "pad") => `(tactic| skip)
local macro_rules | `(tactic| walk_at "pad") => `(tactic| skip)
local macro_rules | `(tactic| walk_at "pad") => `(tactic| skip)
local macro_rules | `(tactic| walk_at "pad") => `(tactic| skip)
local macro_rules | `(tactic| walk_at "pad") => `(tactic| skip)
local macro_rules | `(tactic| walk_at "pad") => `(tactic| skip)
local macro_rules | `(tactic| walk_at "pad") => `(tactic| skip)
local macro_rules | `(tactic| walk_at "pad") => `(tactic| skip)
local macro_rules | `(tactic| walk_at "pad") => `(tactic| skip)
local macro_rules | `(tactic| walk_at "pad") => `(tactic| skip)
local macro_rules | `(tactic| walk_at "pad") => `(tactic| skip)
local macro_rules | `(tactic| walk_at "pad") => `(tactic| skip)
local macro_rules | `(tactic| walk_at "pad") => `(tactic| skip)
local macro_rules | `(tactic| walk_at "pad") => `(tactic| skip)
theorem fresh_Y1 : True := by
  w_top off
  trivial
local macro_rules | `(tactic| walk_at "my steps") => `(tactic| repeat' (first | (k_unfold; (try dsimp only)) | (k_end; wrow_close) | ((try dsimp only); walk1) | (leave1; walk_say "STEP leave1"; try dsimp only) | fail "no step"))
local macro_rules | `(tactic| k_mem) => `(tactic| assumption)
local macro_rules | `(tactic| k_all) => `(tactic| first | assumption | exact low_ne (by assumption) (by omega))
local macro_rules | `(tactic| walk_at "eval Name") => `(tactic| (k_dflt (refine' ldM ?k1 ?k2 ?_ ?k3 ?k4 ?k5; (case k1 => k_asm); (case k2 => assumption); (case k3 => exact rfl); (case k4 => exact rfl); (case k5 => decide)); (try dsimp only)))
local macro_rules | `(tactic| walk_at "exec For") => `(tactic| ((rename Fr _ _ _ _ => lF'); (with_unfolding_all refine' For_invVF lF' ?k1 ?k2 ?_; (case k1 => exact rfl); (case k2 => exact rfl))))
local macro_rules | `(tactic| walk_at "TurnPost") => `(tactic| dsimp only [TurnPost])
local macro_rules | `(tactic| walk_at "call type:range") => `(tactic| (k_dflt (first | (refine' range2N ?F ?N ?_; (case F => k_asm); (case N => k_asm)) | (refine' range1N ?F ?N ?_; (case F => k_asm); (case N => k_asm))); intro r' h' tk' t1' t2' t3' F' N' l1; (try k_lt l1); (try k_sweep)))
local macro_rules | `(tactic| walk_at "eval ListComp") => `(tactic| ((rename Fr _ _ _ _ => lF'); (with_unfolding_all refine' cx_eval lF' ?k1 ?k2 ?k3 ?k4 ?k5 ?_; (case k1 => first | exact rfl | with_unfolding_all rfl); (case k2 => decide +kernel); (case k3 => exact rfl); (case k4 => decide +kernel); (case k5 => (intro _; with_unfolding_all rfl)))))
local macro_rules | `(tactic| walk_at "CxSrc") => `(tactic| fail "here")
local macro_rules | `(tactic| walk_at "subscriptTail Name Slice ref ref") => `(tactic| ((with_reducible show wpAny _ _ (subscriptTail _ (PySem.Expr.Slice none (some _) none _) (Value.ref _) (Value.ref _)) _ _ _); k_dflt (refine' takeL ?F ?N ?M ?V ?L ?_ ?hs ?ht; (case F => k_asm); (case N => k_asm); (case M => assumption); (case V => assumption); (case L => omega); (case hs => with_unfolding_all rfl); (case ht => kmk_pure); k_whole); intro D' v' h' sv' F' N' l1; (try k_lt l1); (try k_sweep)))
section
variable {w : World} {p : Program} {loose : List Str} {mean : ExcName → Option Value} {mg mb : Str → Option Value} {g : Heap} {L fa : Addr} {m : Str → Option Value} {rest : Led} {s : Shared} {Q : Flow → Shared → Prop} {E : Value → Shared → Prop} {sc : Scope} {st : Stmt}
theorem S0 {ls : Addr} {oN : Obj} {vs : List Value} {ns : List Int} (hsc : sc = lawScope) (hst : some st = lawBody[0]?)
    (B : Below callerA g [] g) (F : Fr g L s.heap m) (X : (hd.heap_39 w.params).In g) (N : News g L s.heap ((L + 1 + 1 + 1 + 1 + 1, oN) :: rest)) (T : Top p loose mean mg mb g)
    (hd : oN.data = .cell none) (hne : ∀ p ∈ rest, p.1 ≠ L + 1 + 1 + 1 + 1 + 1) (hs : m (Str.ofString "script") = some (.ref ls)) (hl : g.IsList ls vs.toArray) (hi : IntsAre vs ns) (hlen : ns.length ≤ 63)
    (hQ : ∀ h' tk' oN' lN nvs n nums, Fr g L h' m → News g L h' ((L + 1 + 1 + 1 + 1 + 1, oN') :: (lN, W.listOf nvs.toArray n) :: rest) → oN'.data = .cell (some (.ref lN)) → IntsAre nvs nums → nums.length ≤ 4 → (∀ p ∈ (L + 1 + 1 + 1 + 1 + 1, oN) :: rest, p.1 < lN) → Q .next { s with heap := h', toks := tk' }) :
    wpAny (model Row.prog w) (LawA sc L fa) (exec st (lawEnv sc L fa)) Q E s := by
  conv at hsc => rhs; whnf
  conv at hst => rhs; whnf
  have hst := Option.some.inj hst
  subst hsc hst
  dsimp only [LawA, lawEnv, LawE]
  walk_at "my steps"
  · refine hQ _ _ _ _ _ _ [4, 0, 6] (by k_asm) (news_sub (by assumption) (List.forall_mem_cons.mpr ⟨.tail _ (.tail _ (.head _)), List.forall_mem_cons.mpr ⟨.head _, fun p hp => .tail _ (.tail _ (.tail _ hp))⟩⟩)) (by assumption) (.cons _ _ (.cons _ _ (.cons _ _ .nil))) (by decide) ?l1
    case l1 => intro p hp; rcases List.mem_cons.mp hp with rfl | hp; exact And.left (And.right (by assumption)); exact allLt_mem (And.right (And.right (by assumption))) p hp
  · refine hQ _ _ _ _ _ _ (ns.take 4) (by k_asm) (news_sub (by assumption) (List.forall_mem_cons.mpr ⟨.tail _ (.tail _ (.head _)), List.forall_mem_cons.mpr ⟨.head _, fun p hp => .tail _ (.tail _ (.tail _ hp))⟩⟩)) (by assumption) (by assumption) (by rw [List.length_take]; exact Nat.min_le_left _ _) ?l1
    case l1 => intro p hp; rcases List.mem_cons.mp hp with rfl | hp; exact And.left (And.right (by assumption)); exact allLt_mem (And.right (And.right (by assumption))) p hp
end
end Mine

/- Y2 -/
namespace Mine
set_option maxHeartbeats 1000000
set_option pp.deepTerms false
set_option pp.deepTerms.threshold 8
set_option linter.unusedVariables false
local macro_rules | `(tactic| walk_at "pad") => `(tactic| skip)
local macro_rules | `(tactic| walk_at "pad") => `(tactic| skip)
local macro_rules | `(tactic| walk_at "pad") => `(tactic| skip)
local macro_rules | `(tactic| walk_at "pad") => `(tactic| skip)
local macro_rules | `(tactic| walk_at "pad") => `(tactic| skip)
local macro_rules | `(tactic| walk_at "pad") => `(tactic| skip)
local macro_rules | `(tactic| walk_at "pad") => `(tactic| skip)
local macro_rules | `(tactic| walk_at "pad") => `(tactic| skip)
local macro_rules | `(tactic| walk_at "pad") => `(tactic| skip)
local macro_rules | `(tactic| walk_at "pad") => `(tactic| skip)
local macro_rules | `(tactic| walk_at "pad") => `(tactic| skip)
local macro_rules | `(tactic| walk_at "pad") => `(tactic| skip)
local macro_rules | `(tactic| walk_at "pad") => `(tactic| skip)
local macro_rules | `(tactic| walk_at "pad") => `(tactic| skip)
local macro_rules | `(tactic| walk_at "pad") => `(tactic| skip)
local macro_rules | `(tactic| walk_at "pad") => `(tactic| skip)
local macro_rules | `(tactic| walk_at "pad") => `(tactic| skip)
local macro_rules | `(tactic| walk_at "pad") => `(tactic| skip)
local macro_rules | `(tactic| walk_at "pad") => `(tactic| skip)
local macro_rules | `(tactic| walk_at "pad") => `(tactic| skip)
local macro_rules | `(tactic| walk_at "pad") => `(tactic| skip)
local macro_rules | `(tactic| walk_at "pad") => `(tactic| skip)
local macro_rules | `(tactic| walk_at "pad") => `(tactic| skip)
local macro_rules | `(tactic| walk_at "pad") => `(tactic| skip)
local macro_rules | `(tactic| walk_at "pad") => `(tactic| skip)
local macro_rules | `(tactic| walk_at "pad") => `(tactic| skip)
local macro_rules | `(tactic| walk_at "pad") => `(tactic| skip)
local macro_rules | `(tactic| walk_at "pad") => `(tactic| skip)
local macro_rules | `(tactic| walk_at "pad") => `(tactic| skip)
local macro_rules | `(tactic| walk_at "pad") => `(tactic| skip)
local macro_rules | `(tactic| walk_at "pad") => `(tactic| skip)
local macro_rules | `(tactic| walk_at "pad") => `(tactic| skip)
local macro_rules | `(tactic| walk_at "pad") => `(tactic| skip)
local macro_rules | `(tactic| walk_at "pad") => `(tactic| skip)
local macro_rules | `(tactic| walk_at "pad") => `(tactic| skip)
local macro_rules | `(tactic| walk_at "pad") => `(tactic| skip)
local macro_rules | `(tactic| walk_at "pad") => `(tactic| skip)
local macro_rules | `(tactic| walk_at "pad") => `(tactic| skip)
local macro_rules | `(tactic| walk_at "pad") => `(tactic| skip)
local macro_rules | `(tactic| walk_at "pad") => `(tactic| skip)
local macro_rules | `(tactic| walk_at "pad") => `(tactic| skip)
local macro_rules | `(tactic| walk_at "pad") => `(tactic| skip)
local macro_rules | `(tactic| walk_at "pad") => `(tactic| skip)
local macro_rules | `(tactic| walk_at "pad") => `(tactic| skip)
local macro_rules | `(tactic| walk_at "pad") => `(tactic| skip)
local macro_rules | `(tactic| walk_at "pad") => `(tactic| skip)
local macro_rules | `(tactic| walk_at "pad") => `(tactic| skip)
local macro_rules | `(tactic| walk_at "pad") => `(tactic| skip)
local macro_rules | `(tactic| walk_at "pad") => `(tactic| skip)
local macro_rules | `(tactic| walk_at "pad") => `(tactic| skip)
local macro_rules | `(tactic| walk_at "pad") => `(tactic| skip)
local macro_rules | `(tactic| walk_at "pad") => `(tactic| skip)
local macro_rules | `(tactic| walk_at "pad") => `(tactic| skip)
local macro_rules | `(tactic| walk_at "pad") => `(tactic| skip)
local macro_rules | `(tactic| walk_at "pad") => `(tactic| skip)
local macro_rules | `(tactic| walk_at "pad") => `(tactic| skip)
local macro_rules | `(tactic| walk_at "pad") => `(tactic| skip)
local macro_rules | `(tactic| walk_at "pad") => `(tactic| skip)
local macro_rules | `(tactic| walk_at "pad") => `(tactic| skip)
local macro_rules | `(tactic| walk_at "pad") => `(tactic| skip)
local macro_rules | `(tactic| walk_at "pad") => `(tactic| skip)
local macro_rules | `(tactic| walk_at "pad") => `(tactic| skip)
local macro_rules | `(tactic| walk_at "pad") => `(tactic| skip)
local macro_rules | `(tactic| walk_at "pad") => `(tactic| skip)
local macro_rules | `(tactic| walk_at "pad") => `(tactic| skip)
local macro_rules | `(tactic| walk_at "pad") => `(tactic| skip)
local macro_rules | `(tactic| walk_at "pad") => `(tactic| skip)
local macro_rules | `(tactic| walk_at "pad") => `(tactic| skip)
local macro_rules | `(tactic| walk_at "pad") => `(tactic| skip)
local macro_rules | `(tactic| walk_at "pad") => `(tactic| skip)
local macro_rules | `(tactic| walk_at "pad") => `(tactic| skip)
local macro_rules | `(tactic| walk_at "pad") => `(tactic| skip)
local macro_rules | `(tactic| walk_at "pad") => `(tactic| skip)
local macro_rules | `(tactic| walk_at "pad") => `(tactic| skip)
local macro_rules | `(tactic| walk_at "pad") => `(tactic| skip)
local macro_rules | `(tactic| walk_at "pad") => `(tactic| skip)
local macro_rules | `(tactic| walk_at "pad") => `(tactic| skip)
theorem fresh_Y2 : True := by
  w_top off
  trivial
local macro_rules | `(tactic| walk_at "my steps") => `(tactic| repeat' (first | (k_unfold; (try dsimp only)) | (k_end; wrow_close) | ((try dsimp only); walk1) | (leave1; walk_say "STEP leave1"; try dsimp only) | fail "no step"))
local macro_rules | `(tactic| k_mem) => `(tactic| assumption)
local macro_rules | `(tactic| k_all) => `(tactic| first | assumption | exact low_ne (by assumption) (by omega))
local macro_rules | `(tactic| walk_at "eval Name") => `(tactic| (k_dflt (refine' ldM ?k1 ?k2 ?_ ?k3 ?k4 ?k5; (case k1 => k_asm); (case k2 => assumption); (case k3 => exact rfl); (case k4 => exact rfl); (case k5 => decide)); (try dsimp only)))
local macro_rules | `(tactic| walk_at "exec For") => `(tactic| ((rename Fr _ _ _ _ => lF'); (with_unfolding_all refine' For_invVF lF' ?k1 ?k2 ?_; (case k1 => exact rfl); (case k2 => exact rfl))))
local macro_rules | `(tactic| walk_at "TurnPost") => `(tactic| dsimp only [TurnPost])
local macro_rules | `(tactic| walk_at "call type:range") => `(tactic| (k_dflt (first | (refine' range2N ?F ?N ?_; (case F => k_asm); (case N => k_asm)) | (refine' range1N ?F ?N ?_; (case F => k_asm); (case N => k_asm))); intro r' h' tk' t1' t2' t3' F' N' l1; (try k_lt l1); (try k_sweep)))
local macro_rules | `(tactic| walk_at "eval ListComp") => `(tactic| ((rename Fr _ _ _ _ => lF'); (with_unfolding_all refine' cx_eval lF' ?k1 ?k2 ?k3 ?k4 ?k5 ?_; (case k1 => first | exact rfl | with_unfolding_all rfl); (case k2 => decide +kernel); (case k3 => exact rfl); (case k4 => decide +kernel); (case k5 => (intro _; with_unfolding_all rfl)))))
local macro_rules | `(tactic| walk_at "CxSrc") => `(tactic| fail "here")
local macro_rules | `(tactic| walk_at "call ref") => `(tactic| ((with_reducible show wpAny _ _ (call (Value.ref 113) [Value.int _ _]) _ _ _); k_dflt ((refine' use_spec (drawn_spec _ _ _) ?k1 ?k2 ?k3 ?k4 ?k5 ?kK ?kp ?kd ?ku ?_); (case k1 => k_asm); (case k2 => k_asm); (case k3 => k_asm); (case k4 => k_asm); (case k5 => k_asm); (case kK => first | exact rfl | assumption); (case kp => trivial); (case kd => ktr_room); (case ku => ktr_units)); intro r9 tl9 h9 tk9 F9 N9 lt9 o9; (try dsimp only)))
section
variable {w : World} {p : Program} {loose : List Str} {mean : ExcName → Option Value} {mg mb : Str → Option Value} {g : Heap} {L fa : Addr} {m : Str → Option Value} {rest : Led} {s : Shared} {Q : Flow → Shared → Prop} {E : Value → Shared → Prop} {sc : Scope} {st : Stmt}
theorem S1 {lN : Addr} {oN oD : Obj} {nvs : List Value} {nums : List Int} {kN : Nat} (hsc : sc = lawScope) (hst : some st = lawBody[1]?)
    (B : Below callerA g [] g) (F : Fr g L s.heap m) (X : (hd.heap_39 w.params).In g) (N : News g L s.heap ((L + 1, oD) :: rest)) (T : Top p loose mean mg mb g)
    (hd : oD.data = .cell none) (hne : ∀ p ∈ rest, p.1 ≠ L + 1) (hcN : (L + 1 + 1 + 1 + 1 + 1, oN) ∈ rest) (hdN : oN.data = .cell (some (.ref lN))) (hlN : (lN, W.listOf nvs.toArray kN) ∈ rest) (hi : IntsAre nvs nums) (h4 : nums.length ≤ 4)
    (hQ : ∀ h' tk' oD' lD dvs kD tl, Fr g L h' m → News g L h' ((L + 1, oD') :: (tl ++ rest)) → (∀ q ∈ (L + 1, oD) :: rest, ∀ p ∈ tl, q.1 < p.1) → oD'.data = .cell (some (.ref lD)) → (lD, W.listOf dvs.toArray kD) ∈ tl → PairsIn tl dvs (nums.map fun x => (domOf x, verOf x)) → Q .next { s with heap := h', toks := tk' }) :
    wpAny (model Row.prog w) (LawA sc L fa) (exec st (lawEnv sc L fa)) Q E s := by
  conv at hsc => rhs; whnf
  conv at hst => rhs; whnf
  have hst := Option.some.inj hst
  subst hsc hst
  dsimp only [LawA, lawEnv, LawE]
  have hcN' : (L + 1 + 1 + 1 + 1 + 1, oN) ∈ (L + 1, oD) :: rest := .tail _ hcN
  walk_at "my steps"
  refine cx_led (l := lN) (vs := nvs) (k := kN) (news := (L + 1, oD) :: rest) (fun i ys nw => ∃ tl, nw = tl ++ ((L + 1, oD) :: rest) ∧ (∀ q ∈ (L + 1, oD) :: rest, ∀ p ∈ tl, q.1 < p.1) ∧ PairsIn tl ys ((nums.take i).map fun x => (domOf x, verOf x))) rfl (by k_asm) (by k_asm) (.tail _ hlN) (by rw [hi.length]; omega) rfl rfl
    ⟨[], rfl, (fun _ _ _ h => nomatch h), by simpa using PairsIn.nil⟩ ?hJ ?turn ?done
  case hJ => rintro i ys nw ⟨tl, rfl, _, _⟩; exact List.mem_append_right _ (.tail _ hlN)
  case turn =>
    rintro i v ys nw I oI C oC D m₂ h tk E' hvi ⟨tl, rfl, htl, hP⟩ hC9 hm₂ F9 N9 off ne lt
    obtain ⟨x, t, rfl, hxi⟩ := hi.at i v hvi
    dsimp only [CTurn]
    walk_at "my steps"
    rename_i r9 tl9 h9 tk9 F8 N8 lt9 o9
    refine cend_intro (by k_asm) N8 lt9 off htl fun hh => ⟨tl9 ++ tl, rfl, hh, ?_⟩
    rw [List.take_add_one, hxi, List.map_append]
    exact (hP.mono memL).snoc (o9.mono memR)
  case done =>
    rintro D h tk ys nw F9 N9 off lt ⟨tl, rfl, htl, hP⟩
    have hne2 : ∀ p ∈ (D, LCg.lst ys) :: (tl ++ rest), p.1 ≠ L + 1 := by
      intro p hp
      rcases List.mem_cons.mp hp with rfl | hp
      · exact Nat.ne_of_gt (lt _ (.head _))
      · rcases List.mem_append.mp hp with hp | hp
        · exact Nat.ne_of_gt (htl _ (.head _) p hp)
        · exact hne p hp
    have N8 : News g L h ((L + 1, oD) :: (D, LCg.lst ys) :: (tl ++ rest)) := news_sub N9 (by intro p hp; simp only [List.mem_cons, List.mem_append] at hp ⊢; grind)
    clear N9
    walk_at "my steps"
    refine hQ _ _ _ D ys _ ((D, LCg.lst ys) :: tl) (by k_asm) (by assumption) ?l1 (by assumption) (.head _) ?p1
    case l1 =>
      intro q hq p hp
      rcases List.mem_cons.mp hp with rfl | hp
      · exact lt q hq
      · exact htl q hq p hp
    case p1 =>
      rw [hi.length, List.take_length] at hP
      exact hP.mono fun p hp => .tail _ hp
end
end Mine

/- Y3 -/
namespace Mine
set_option maxHeartbeats 1000000
set_option pp.deepTerms false
set_option pp.deepTerms.threshold 8
set_option linter.unusedVariables false
local macro_rules | `(tactic| walk_at "pad") => `(tactic| skip)
local macro_rules | `(tactic| walk_at "pad") => `(tactic| skip)
local macro_rules | `(tactic| walk_at "pad") => `(tactic| skip)
local macro_rules | `(tactic| walk_at "pad") => `(tactic| skip)
local macro_rules | `(tactic| walk_at "pad") => `(tactic| skip)
local macro_rules | `(tactic| walk_at "pad") => `(tactic| skip)
local macro_rules | `(tactic| walk_at "pad") => `(tactic| skip)
local macro_rules | `(tactic| walk_at "pad") => `(tactic| skip)
local macro_rules | `(tactic| walk_at "pad") => `(tactic| skip)
local macro_rules | `(tactic| walk_at "pad") => `(tactic| skip)
local macro_rules | `(tactic| walk_at "pad") => `(tactic| skip)
local macro_rules | `(tactic| walk_at "pad") => `(tactic| skip)
local macro_rules | `(tactic| walk_at "pad") => `(tactic| skip)
local macro_rules | `(tactic| walk_at "pad") => `(tactic| skip)
local macro_rules | `(tactic| walk_at "pad") => `(tactic| skip)
local macro_rules | `(tactic| walk_at "pad") => `(tactic| skip)
local macro_rules | `(tactic| walk_at "pad") => `(tactic| skip)
local macro_rules | `(tactic| walk_at "pad") => `(tactic| skip)
local macro_rules | `(tactic| walk_at "pad") => `(tactic| skip)
local macro_rules | `(tactic| walk_at "pad") => `(tactic| skip)
local macro_rules | `(tactic| walk_at "pad") => `(tactic| skip)
local macro_rules | `(tactic| walk_at "pad") => `(tactic| skip)
local macro_rules | `(tactic| walk_at "pad") => `(tactic| skip)
local macro_rules | `(tactic| walk_at "pad") => `(tactic| skip)
local macro_rules | `(tactic| walk_at "pad") => `(tactic| skip)
local macro_rules | `(tactic| walk_at "pad") => `(tactic| skip)
local macro_rules | `(tactic| walk_at "pad") => `(tactic| skip)
local macro_rules | `(tactic| walk_at "pad") => `(tactic| skip)
local macro_rules | `(tactic| walk_at "pad") => `(tactic| skip)
local macro_rules | `(tactic| walk_at "pad") => `(tactic| skip)
local macro_rules | `(tactic| walk_at "pad") => `(tactic| skip)
local macro_rules | `(tactic| walk_at "pad") => `(tactic| skip)
local macro_rules | `(tactic| walk_at "pad") => `(tactic| skip)
local macro_rules | `(tactic| walk_at "pad") => `(tactic| skip)
local macro_rules | `(tactic| walk_at "pad") => `(tactic| skip)
local macro_rules | `(tactic| walk_at "pad") => `(tactic| skip)
local macro_rules | `(tactic| walk_at "pad") => `(tactic| skip)
local macro_rules | `(tactic| walk_at "pad") => `(tactic| skip)
local macro_rules | `(tactic| walk_at "pad") => `(tactic| skip)
local macro_rules | `(tactic| walk_at "pad") => `(tactic| skip)
local macro_rules | `(tactic| walk_at "pad") => `(tactic| skip)
local macro_rules | `(tactic| walk_at "pad") => `(tactic| skip)
local macro_rules | `(tactic| walk_at "pad") => `(tactic| skip)
local macro_rules | `(tactic| walk_at "pad") => `(tactic| skip)
local macro_rules | `(tactic| walk_at "pad") => `(tactic| skip)
local macro_rules | `(tactic| walk_at "pad") => `(tactic| skip)
local macro_rules | `(tactic| walk_at "pad") => `(tactic| skip)
local macro_rules | `(tactic| walk_at "pad") => `(tactic| skip)
local macro_rules | `(tactic| walk_at "pad") => `(tactic| skip)
local macro_rules | `(tactic| walk_at "pad") => `(tactic| skip)
local macro_rules | `(tactic| walk_at "pad") => `(tactic| skip)
local macro_rules | `(tactic| walk_at "pad") => `(tactic| skip)
local macro_rules | `(tactic| walk_at "pad") => `(tactic| skip)
local macro_rules | `(tactic| walk_at "pad") => `(tactic| skip)
local macro_rules | `(tactic| walk_at "pad") => `(tactic| skip)
local macro_rules | `(tactic| walk_at "pad") => `(tactic| skip)
local macro_rules | `(tactic| walk_at "pad") => `(tactic| skip)
local macro_rules | `(tactic| walk_at "pad") => `(tactic| skip)
local macro_rules | `(tactic| walk_at "pad") => `(tactic| skip)
local macro_rules | `(tactic| walk_at "pad") => `(tactic| skip)
local macro_rules | `(tactic| walk_at "pad") => `(tactic| skip)
local macro_rules | `(tactic| walk_at "pad") => `(tactic| skip)
local macro_rules | `(tactic| walk_at "pad") => `(tactic| skip)
local macro_rules | `(tactic| walk_at "pad") => `(tactic| skip)
local macro_rules | `(tactic| walk_at "pad") => `(tactic| skip)
local macro_rules | `(tactic| walk_at "pad") => `(tactic| skip)
local macro_rules | `(tactic| walk_at "pad") => `(tactic| skip)
local macro_rules | `(tactic| walk_at "pad") => `(tactic| skip)
local macro_rules | `(tactic| walk_at "pad") => `(tactic| skip)
local macro_rules | `(tactic| walk_at "pad") => `(tactic| skip)
local macro_rules | `(tactic| walk_at "pad") => `(tactic| skip)
local macro_rules | `(tactic| walk_at "pad") => `(tactic| skip)
local macro_rules | `(tactic| walk_at "pad") => `(tactic| skip)
local macro_rules | `(tactic| walk_at "pad") => `(tactic| skip)
local macro_rules | `(tactic| walk_at "pad") => `(tactic| skip)
local macro_rules | `(tactic| walk_at "pad") => `(tactic| skip)
local macro_rules | `(tactic| walk_at "pad") => `(tactic| skip)
local macro_rules | `(tactic| walk_at "pad") => `(tactic| skip)
local macro_rules | `(tactic| walk_at "pad") => `(tactic| skip)
local macro_rules | `(tactic| walk_at "pad") => `(tactic| skip)
local macro_rules | `(tactic| walk_at "pad") => `(tactic| skip)
local macro_rules | `(tactic| walk_at "pad") => `(tactic| skip)
local macro_rules | `(tactic| walk_at "pad") => `(tactic| skip)
local macro_rules | `(tactic| walk_at "pad") => `(tactic| skip)
local macro_rules | `(tactic| walk_at "pad") => `(tactic| skip)
local macro_rules | `(tactic| walk_at "pad") => `(tactic| skip)
theorem fresh_Y3 : True := by
  w_top off
  trivial
local macro_rules | `(tactic| walk_at "my steps") => `(tactic| repeat' (first | (k_unfold; (try dsimp only)) | (k_end; wrow_close) | ((try dsimp only); walk1) | (leave1; walk_say "STEP leave1"; try dsimp only) | fail "no step"))
local macro_rules | `(tactic| k_mem) => `(tactic| assumption)
local macro_rules | `(tactic| k_all) => `(tactic| first | assumption | exact low_ne (by assumption) (by omega))
local macro_rules | `(tactic| walk_at "eval Name") => `(tactic| (k_dflt (refine' ldM ?k1 ?k2 ?_ ?k3 ?k4 ?k5; (case k1 => k_asm); (case k2 => assumption); (case k3 => exact rfl); (case k4 => exact rfl); (case k5 => decide)); (try dsimp only)))
local macro_rules | `(tactic| walk_at "exec For") => `(tactic| ((rename Fr _ _ _ _ => lF'); (with_unfolding_all refine' For_invVF lF' ?k1 ?k2 ?_; (case k1 => exact rfl); (case k2 => exact rfl))))
local macro_rules | `(tactic| walk_at "TurnPost") => `(tactic| dsimp only [TurnPost])
local macro_rules | `(tactic| walk_at "call type:range") => `(tactic| (k_dflt (first | (refine' range2N ?F ?N ?_; (case F => k_asm); (case N => k_asm)) | (refine' range1N ?F ?N ?_; (case F => k_asm); (case N => k_asm))); intro r' h' tk' t1' t2' t3' F' N' l1; (try k_lt l1); (try k_sweep)))
local macro_rules | `(tactic| walk_at "eval ListComp") => `(tactic| ((rename Fr _ _ _ _ => lF'); (with_unfolding_all refine' cx_eval lF' ?k1 ?k2 ?k3 ?k4 ?k5 ?_; (case k1 => first | exact rfl | with_unfolding_all rfl); (case k2 => decide +kernel); (case k3 => exact rfl); (case k4 => decide +kernel); (case k5 => (intro _; with_unfolding_all rfl)))))
local macro_rules | `(tactic| walk_at "CxSrc") => `(tactic| fail "here")
local macro_rules | `(tactic| walk_at "call ref") => `(tactic| ((with_reducible show wpAny _ _ (call (Value.ref 127) [Value.ref _]) _ _ _); k_dflt ((refine' use_spec (verdicts_spec _ _ _ _ _ ?hn4) ?k1 ?k2 ?k3 ?k4 ?k5 ?kK ?kp ?kd ?ku ?_); (case k1 => k_asm); (case k2 => k_asm); (case k3 => k_asm); (case k4 => k_asm); (case k5 => k_asm); (case kK => first | exact rfl | assumption); (case kp => exact ⟨by k_mem, PairsIn.mono (by assumption) (by kcj_all)⟩); (case kd => ktr_room); (case ku => ktr_units); (case hn4 => assumption)); intro r9 tl9 h9 tk9 F9 N9 lt9 o9; (try dsimp only)))
section
variable {w : World} {p : Program} {loose : List Str} {mean : ExcName → Option Value} {mg mb : Str → Option Value} {g : Heap} {L fa : Addr} {m : Str → Option Value} {rest : Led} {s : Shared} {Q : Flow → Shared → Prop} {E : Value → Shared → Prop} {sc : Scope} {st : Stmt}
theorem S2 {lD : Addr} {oD oV : Obj} {dvs : List Value} {ds : List (Str × Bool)} {kD : Nat} (hsc : sc = lawScope) (hst : some st = lawBody[2]?)
    (B : Below callerA g [] g) (F : Fr g L s.heap m) (X : (hd.heap_39 w.params).In g) (N : News g L s.heap ((L + 1 + 1, oV) :: rest)) (T : Top p loose mean mg mb g)
    (hd : oV.data = .cell none) (hne : ∀ p ∈ rest, p.1 ≠ L + 1 + 1) (hcD : (L + 1, oD) ∈ rest) (hdD : oD.data = .cell (some (.ref lD))) (hlD : (lD, W.listOf dvs.toArray kD) ∈ rest) (hP : PairsIn rest dvs ds) (h4 : ds.length ≤ 4)
    (hQ : ∀ h' tk' oV' dV tl, Fr g L h' m → News g L h' ((L + 1 + 1, oV') :: (tl ++ rest)) → (∀ q ∈ (L + 1 + 1, oV) :: rest, ∀ p ∈ tl, q.1 < p.1) → oV'.data = .cell (some (.ref dV)) → VerdIn w tl dV (verdF ds) → Q .next { s with heap := h', toks := tk' }) :
    wpAny (model Row.prog w) (LawA sc L fa) (exec st (lawEnv sc L fa)) Q E s := by
  conv at hsc => rhs; whnf
  conv at hst => rhs; whnf
  have hst := Option.some.inj hst
  subst hsc hst
  dsimp only [LawA, lawEnv, LawE]
  have hcD' : (L + 1, oD) ∈ (L + 1 + 1, oV) :: rest := .tail _ hcD
  have hlD' : (lD, W.listOf dvs.toArray kD) ∈ (L + 1 + 1, oV) :: rest := .tail _ hlD
  walk_at "my steps"
  rename_i r9 tl9 h9 tk9 F8 N8 lt9 o9
  obtain ⟨dV, rfl, hV⟩ := o9
  have hne2 : ∀ p ∈ tl9 ++ rest, p.1 ≠ L + 1 + 1 := by
    intro p hp
    rcases List.mem_append.mp hp with hp | hp
    · exact Nat.ne_of_gt (lt9 _ (.head _) p hp)
    · exact hne p hp
  have N7 : News g L h9 ((L + 1 + 1, oV) :: (tl9 ++ rest)) := news_sub N8 (by intro p hp; simp only [List.mem_cons, List.mem_append] at hp ⊢; grind)
  clear N8
  walk_at "my steps"
  exact hQ _ _ _ dV tl9 (by k_asm) (by assumption) lt9 (by assumption) hV
end
end Mine

/- Y4 -/
namespace Mine
set_option maxHeartbeats 1000000
set_option pp.deepTerms false
set_option pp.deepTerms.threshold 8
set_option linter.unusedVariables false
local macro_rules | `(tactic| walk_at "pad") => `(tactic| skip)
local macro_rules | `(tactic| walk_at "pad") => `(tactic| skip)
local macro_rules | `(tactic| walk_at "pad") => `(tactic| skip)
local macro_rules | `(tactic| walk_at "pad") => `(tactic| skip)
local macro_rules | `(tactic| walk_at "pad") => `(tactic| skip)
local macro_rules | `(tactic| walk_at "pad") => `(tactic| skip)
local macro_rules | `(tactic| walk_at "pad") => `(tactic| skip)
local macro_rules | `(tactic| walk_at "pad") => `(tactic| skip)
local macro_rules | `(tactic| walk_at "pad") => `(tactic| skip)
local macro_rules | `(tactic| walk_at "pad") => `(tactic| skip)
local macro_rules | `(tactic| walk_at "pad") => `(tactic| skip)
local macro_rules | `(tactic| walk_at "pad") => `(tactic| skip)
local macro_rules | `(tactic| walk_at "pad") => `(tactic| skip)
local macro_rules | `(tactic| walk_at "pad") => `(tactic| skip)
local macro_rules | `(tactic| walk_at "pad") => `(tactic| skip)
local macro_rules | `(tactic| walk_at "pad") => `(tactic| skip)
local macro_rules | `(tactic| walk_at "pad") => `(tactic| skip)
local macro_rules | `(tactic| walk_at "pad") => `(tactic| skip)
local macro_rules | `(tactic| walk_at "pad") => `(tactic| skip)
local macro_rules | `(tactic| walk_at "pad") => `(tactic| skip)
local macro_rules | `(tactic| walk_at "pad") => `(tactic| skip)
local macro_rules | `(tactic| walk_at "pad") => `(tactic| skip)
local macro_rules | `(tactic| walk_at "pad") => `(tactic| skip)
local macro_rules | `(tactic| walk_at "pad") => `(tactic| skip)
local macro_rules | `(tactic| walk_at "pad") => `(tactic| skip)
local macro_rules | `(tactic| walk_at "pad") => `(tactic| skip)
local macro_rules | `(tactic| walk_at "pad") => `(tactic| skip)
local macro_rules | `(tactic| walk_at "pad") => `(tactic| skip)
local macro_rules | `(tactic| walk_at "pad") => `(tactic| skip)
local macro_rules | `(tactic| walk_at "pad") => `(tactic| skip)
local macro_rules | `(tactic| walk_at "pad") => `(tactic| skip)
local macro_rules | `(tactic| walk_at "pad") => `(tactic| skip)
local macro_rules | `(tactic| walk_at "pad") => `(tactic| skip)
local macro_rules | `(tactic| walk_at "pad") => `(tactic| skip)
local macro_rules | `(tactic| walk_at "pad") => `(tactic| skip)
local macro_rules | `(tactic| walk_at "pad") => `(tactic| skip)
local macro_rules | `(tactic| walk_at "pad") => `(tactic| skip)
local macro_rules | `(tactic| walk_at "pad") => `(tactic| skip)
local macro_rules | `(tactic| walk_at "pad") => `(tactic| skip)
local macro_rules | `(tactic| walk_at "pad") => `(tactic| skip)
local macro_rules | `(tactic| walk_at "pad") => `(tactic| skip)
local macro_rules | `(tactic| walk_at "pad") => `(tactic| skip)
local macro_rules | `(tactic| walk_at "pad") => `(tactic| skip)
local macro_rules | `(tactic| walk_at "pad") => `(tactic| skip)
local macro_rules | `(tactic| walk_at "pad") => `(tactic| skip)
local macro_rules | `(tactic| walk_at "pad") => `(tactic| skip)
local macro_rules | `(tactic| walk_at "pad") => `(tactic| skip)
local macro_rules | `(tactic| walk_at "pad") => `(tactic| skip)
local macro_rules | `(tactic| walk_at "pad") => `(tactic| skip)
local macro_rules | `(tactic| walk_at "pad") => `(tactic| skip)
local macro_rules | `(tactic| walk_at "pad") => `(tactic| skip)
local macro_rules | `(tactic| walk_at "pad") => `(tactic| skip)
local macro_rules | `(tactic| walk_at "pad") => `(tactic| skip)
local macro_rules | `(tactic| walk_at "pad") => `(tactic| skip)
local macro_rules | `(tactic| walk_at "pad") => `(tactic| skip)
local macro_rules | `(tactic| walk_at "pad") => `(tactic| skip)
local macro_rules | `(tactic| walk_at "pad") => `(tactic| skip)
local macro_rules | `(tactic| walk_at "pad") => `(tactic| skip)
local macro_rules | `(tactic| walk_at "pad") => `(tactic| skip)
local macro_rules | `(tactic| walk_at "pad") => `(tactic| skip)
local macro_rules | `(tactic| walk_at "pad") => `(tactic| skip)
local macro_rules | `(tactic| walk_at "pad") => `(tactic| skip)
local macro_rules | `(tactic| walk_at "pad") => `(tactic| skip)
local macro_rules | `(tactic| walk_at "pad") => `(tactic| skip)
local macro_rules | `(tactic| walk_at "pad") => `(tactic| skip)
local macro_rules | `(tactic| walk_at "pad") => `(tactic| skip)
local macro_rules | `(tactic| walk_at "pad") => `(tactic| skip)
local macro_rules | `(tactic| walk_at "pad") => `(tactic| skip)
local macro_rules | `(tactic| walk_at "pad") => `(tactic| skip)
local macro_rules | `(tactic| walk_at "pad") => `(tactic| skip)
local macro_rules | `(tactic| walk_at "pad") => `(tactic| skip)
local macro_rules | `(tactic| walk_at "pad") => `(tactic| skip)
local macro_rules | `(tactic| walk_at "pad") => `(tactic| skip)
local macro_rules | `(tactic| walk_at "pad") => `(tactic| skip)
local macro_rules | `(tactic| walk_at "pad") => `(tactic| skip)
local macro_rules | `(tactic| walk_at "pad") => `(tactic| skip)
local macro_rules | `(tactic| walk_at "pad") => `(tactic| skip)
local macro_rules | `(tactic| walk_at "pad") => `(tactic| skip)
local macro_rules | `(tactic| walk_at "pad") => `(tactic| skip)
local macro_rules | `(tactic| walk_at "pad") => `(tactic| skip)
local macro_rules | `(tactic| walk_at "pad") => `(tactic| skip)
local macro_rules | `(tactic| walk_at "pad") => `(tactic| skip)
local macro_rules | `(tactic| walk_at "pad") => `(tactic| skip)
local macro_rules | `(tactic| walk_at "pad") => `(tactic| skip)
local macro_rules | `(tactic| walk_at "pad") => `(tactic| skip)
local macro_rules | `(tactic| walk_at "pad") => `(tactic| skip)
local macro_rules | `(tactic| walk_at "pad") => `(tactic| skip)
local macro_rules | `(tactic| walk_at "pad") => `(tactic| skip)
local macro_rules | `(tactic| walk_at "pad") => `(tactic| skip)
local macro_rules | `(tactic| walk_at "pad") => `(tactic| skip)
local macro_rules | `(tactic| walk_at "pad") => `(tactic| skip)
local macro_rules | `(tactic| walk_at "pad") => `(tactic| skip)
local macro_rules | `(tactic| walk_at "pad") => `(tactic| skip)
local macro_rules | `(tactic| walk_at "pad") => `(tactic| skip)
local macro_rules | `(tactic| walk_at "pad") => `(tactic| skip)
theorem fresh_Y4 : True := by
  w_top off
  trivial
local macro_rules | `(tactic| walk_at "my steps") => `(tactic| repeat' (first | (k_unfold; (try dsimp only)) | (k_end; wrow_close) | ((try dsimp only); walk1) | (leave1; walk_say "STEP leave1"; try dsimp only) | fail "no step"))
local macro_rules | `(tactic| k_mem) => `(tactic| assumption)
local macro_rules | `(tactic| k_all) => `(tactic| first | assumption | exact low_ne (by assumption) (by omega))
local macro_rules | `(tactic| walk_at "eval Name") => `(tactic| (k_dflt (refine' ldM ?k1 ?k2 ?_ ?k3 ?k4 ?k5; (case k1 => k_asm); (case k2 => assumption); (case k3 => exact rfl); (case k4 => exact rfl); (case k5 => decide)); (try dsimp only)))
local macro_rules | `(tactic| walk_at "exec For") => `(tactic| ((rename Fr _ _ _ _ => lF'); (with_unfolding_all refine' For_invVF lF' ?k1 ?k2 ?_; (case k1 => exact rfl); (case k2 => exact rfl))))
local macro_rules | `(tactic| walk_at "TurnPost") => `(tactic| dsimp only [TurnPost])
local macro_rules | `(tactic| walk_at "call type:range") => `(tactic| (k_dflt (first | (refine' range2N ?F ?N ?_; (case F => k_asm); (case N => k_asm)) | (refine' range1N ?F ?N ?_; (case F => k_asm); (case N => k_asm))); intro r' h' tk' t1' t2' t3' F' N' l1; (try k_lt l1); (try k_sweep)))
local macro_rules | `(tactic| walk_at "eval ListComp") => `(tactic| ((rename Fr _ _ _ _ => lF'); (with_unfolding_all refine' cx_eval lF' ?k1 ?k2 ?k3 ?k4 ?k5 ?_; (case k1 => first | exact rfl | with_unfolding_all rfl); (case k2 => decide +kernel); (case k3 => exact rfl); (case k4 => decide +kernel); (case k5 => (intro _; with_unfolding_all rfl)))))
local macro_rules | `(tactic| walk_at "CxSrc") => `(tactic| fail "here")
local macro_rules | `(tactic| walk_at "exec Assign cons ListComp") => `(tactic| ((with_reducible show wpAny _ _ (exec (Stmt.Assign [_] (Expr.ListComp _ _ _ _) _) _) _ _ _); (rename Fr _ _ _ _ => lF'); (with_unfolding_all refine' cx_assign lF' rfl ?ksw ?k1 ?k2 ?k3 ?k4 ?ky ?kp ?k5 ?_; (case ksw => first | exact rfl | with_unfolding_all rfl); (case k1 => first | exact rfl | with_unfolding_all rfl); (case k2 => decide +kernel); (case k3 => exact rfl); (case k4 => decide +kernel); (case ky => exact rfl); (case kp => exact rfl); (case k5 => (intro _; with_unfolding_all rfl)))))
section
variable {w : World} {p : Program} {loose : List Str} {mean : ExcName → Option Value} {mg mb : Str → Option Value} {g : Heap} {L fa : Addr} {m : Str → Option Value} {rest : Led} {s : Shared} {Q : Flow → Shared → Prop} {E : Value → Shared → Prop} {sc : Scope} {st : Stmt}
theorem domW : ∀ d ∈ domsL, d.length ≤ 20 ∧ 1 ≤ d.length := by decide +kernel
theorem hosts_take {vd : List (Str × Bool)} {i : Nat} {k : Str} (h : (vd[i]?).map (·.1) = some k) : (hostsOf vd).take (i + 1) = (hostsOf vd).take i ++ [hostF k] := by
  unfold hostsOf
  rw [List.take_add_one, List.getElem?_map]
  cases e : vd[i]? with
  | none => rw [e] at h; cases h
  | some q => rw [e] at h; simp at h; simp [h]
theorem S3 {dV : Addr} {oV : Obj} {vd : List (Str × Bool)} (hsc : sc = lawScope) (hst : some st = lawBody[3]?)
    (B : Below callerA g [] g) (F : Fr g L s.heap m) (X : (hd.heap_39 w.params).In g) (N : News g L s.heap rest) (T : Top p loose mean mg mb g)
    (hcV : (L + 1 + 1, oV) ∈ rest) (hdV : oV.data = .cell (some (.ref dV))) (hV : VerdIn w rest dV vd) (h4 : vd.length ≤ 4) (hdm : ∀ p ∈ vd, p.1 ∈ domsL)
    (hQ : ∀ h' tk' H hvs k, Fr g L h' (fun z => if z = Str.ofString "hosts" then some (.ref H) else m z) → News g L h' ((H, W.listOf hvs.toArray k) :: rest) → (∀ q ∈ rest, q.1 < H) → StrsAre hvs (hostsOf vd) → Q .next { s with heap := h', toks := tk' }) :
    wpAny (model Row.prog w) (LawA sc L fa) (exec st (lawEnv sc L fa)) Q E s := by
  conv at hsc => rhs; whnf
  conv at hst => rhs; whnf
  have hst := Option.some.inj hst
  subst hsc hst
  dsimp only [LawA, lawEnv, LawE]
  walk_at "my steps"
  obtain ⟨oD, hmD, hdD⟩ := hV.obj
  refine cx_dict (d := dV) (o := oD) (news := rest) (fun i ys nw => nw = rest ∧ StrsAre ys ((hostsOf vd).take i)) rfl (by k_asm) (by k_asm) hmD hV.lo hdD (by unfold kvOf; simp; omega) rfl rfl
    ⟨rfl, by simpa using StrsAre.nil⟩ ?hJ ?turn ?done
  case hJ => rintro i ys nw ⟨rfl, _⟩; exact hmD
  case turn =>
    rintro i k v t ys nw I oI C oC D m₂ h tk E' hki ⟨rfl, hJ⟩ hC9 hm₂ F9 N9 off ne lt
    have hkm : (vd[i]?).map (·.1) = some k := by
      unfold kvOf at hki
      rw [List.getElem?_map] at hki
      cases e : vd[i]? with
      | none => rw [e] at hki; cases hki
      | some q => rw [e] at hki; simp at hki; simp [hki.1]
    have hkd : k ∈ domsL := by
      cases e : vd[i]? with
      | none => rw [e] at hkm; cases hkm
      | some q => rw [e] at hkm; simp at hkm; rw [← hkm]; exact hdm q (List.mem_of_getElem? e)
    obtain ⟨hk20, hk1⟩ := domW k hkd
    dsimp only [CTurn]
    walk_at "my steps"
    · refine ⟨_, _, _, rfl, by k_asm, by k_asm, off, rfl, ?_⟩
      rw [hosts_take hkm, show hostF k = Str.ofString "q" ++ k from by unfold hostF dotD; rw [if_pos (by assumption)]]
      exact hJ.snoc _ _
    · refine ⟨_, _, _, rfl, by k_asm, by k_asm, off, rfl, ?_⟩
      rw [hosts_take hkm, show hostF k = k from by unfold hostF dotD; rw [if_neg (by rw [Bool.not_eq_true]; assumption)]]
      exact hJ.snoc _ _
  case done =>
    rintro D h tk ys nw F9 N9 off lt ⟨rfl, hJ⟩
    walk_at "my steps"
    refine hQ _ _ D ys _ F9 N9 lt ?_
    rw [List.take_of_length_le (by unfold kvOf hostsOf; simp)] at hJ
    exact hJ
end
end Mine

/- Y5 -/
namespace Mine
set_option maxHeartbeats 1000000
set_option pp.deepTerms false
set_option pp.deepTerms.threshold 8
set_option linter.unusedVariables false
local macro_rules | `(tactic| walk_at "pad") => `(tactic| skip)
local macro_rules | `(tactic| walk_at "pad") => `(tactic| skip)
local macro_rules | `(tactic| walk_at "pad") => `(tactic| skip)
local macro_rules | `(tactic| walk_at "pad") => `(tactic| skip)
local macro_rules | `(tactic| walk_at "pad") => `(tactic| skip)
local macro_rules | `(tactic| walk_at "pad") => `(tactic| skip)
local macro_rules | `(tactic| walk_at "pad") => `(tactic| skip)
local macro_rules | `(tactic| walk_at "pad") => `(tactic| skip)
local macro_rules | `(tactic| walk_at "pad") => `(tactic| skip)
local macro_rules | `(tactic| walk_at "pad") => `(tactic| skip)
local macro_rules | `(tactic| walk_at "pad") => `(tactic| skip)
local macro_rules | `(tactic| walk_at "pad") => `(tactic| skip)
local macro_rules | `(tactic| walk_at "pad") => `(tactic| skip)
local macro_rules | `(tactic| walk_at "pad") => `(tactic| skip)
local macro_rules | `(tactic| walk_at "pad") => `(tactic| skip)
local macro_rules | `(tactic| walk_at "pad") => `(tactic| skip)
local macro_rules | `(tactic| walk_at "pad") => `(tactic| skip)
local macro_rules | `(tactic| walk_at "pad") => `(tactic| skip)
local macro_rules | `(tactic| walk_at "pad") => `(tactic| skip)
local macro_rules | `(tactic| walk_at "pad") => `(tactic| skip)
local macro_rules | `(tactic| walk_at "pad") => `(tactic| skip)
local macro_rules | `(tactic| walk_at "pad") => `(tactic| skip)
local macro_rules | `(tactic| walk_at "pad") => `(tactic| skip)
local macro_rules | `(tactic| walk_at "pad") => `(tactic| skip)
local macro_rules | `(tactic| walk_at "pad") => `(tactic| skip)
local macro_rules | `(tactic| walk_at "pad") => `(tactic| skip)
local macro_rules | `(tactic| walk_at "pad") => `(tactic| skip)
local macro_rules | `(tactic| walk_at "pad") => `(tactic| skip)
local macro_rules | `(tactic| walk_at "pad") => `(tactic| skip)
local macro_rules | `(tactic| walk_at "pad") => `(tactic| skip)
local macro_rules | `(tactic| walk_at "pad") => `(tactic| skip)
local macro_rules | `(tactic| walk_at "pad") => `(tactic| skip)
local macro_rules | `(tactic| walk_at "pad") => `(tactic| skip)
local macro_rules | `(tactic| walk_at "pad") => `(tactic| skip)
local macro_rules | `(tactic| walk_at "pad") => `(tactic| skip)
local macro_rules | `(tactic| walk_at "pad") => `(tactic| skip)
local macro_rules | `(tactic| walk_at "pad") => `(tactic| skip)
local macro_rules | `(tactic| walk_at "pad") => `(tactic| skip)
local macro_rules | `(tactic| walk_at "pad") => `(tactic| skip)
local macro_rules | `(tactic| walk_at "pad") => `(tactic| skip)
local macro_rules | `(tactic| walk_at "pad") => `(tactic| skip)
local macro_rules | `(tactic| walk_at "pad") => `(tactic| skip)
local macro_rules | `(tactic| walk_at "pad") => `(tactic| skip)
local macro_rules | `(tactic| walk_at "pad") => `(tactic| skip)
local macro_rules | `(tactic| walk_at "pad") => `(tactic| skip)
local macro_rules | `(tactic| walk_at "pad") => `(tactic| skip)
local macro_rules | `(tactic| walk_at "pad") => `(tactic| skip)
local macro_rules | `(tactic| walk_at "pad") => `(tactic| skip)
local macro_rules | `(tactic| walk_at "pad") => `(tactic| skip)
local macro_rules | `(tactic| walk_at "pad") => `(tactic| skip)
local macro_rules | `(tactic| walk_at "pad") => `(tactic| skip)
local macro_rules | `(tactic| walk_at "pad") => `(tactic| skip)
local macro_rules | `(tactic| walk_at "pad") => `(tactic| skip)
local macro_rules | `(tactic| walk_at "pad") => `(tactic| skip)
local macro_rules | `(tactic| walk_at "pad") => `(tactic| skip)
local macro_rules | `(tactic| walk_at "pad") => `(tactic| skip)
local macro_rules | `(tactic| walk_at "pad") => `(tactic| skip)
local macro_rules | `(tactic| walk_at "pad") => `(tactic| skip)
local macro_rules | `(tactic| walk_at "pad") => `(tactic| skip)
local macro_rules | `(tactic| walk_at "pad") => `(tactic| skip)
local macro_rules | `(tactic| walk_at "pad") => `(tactic| skip)
local macro_rules | `(tactic| walk_at "pad") => `(tactic| skip)
local macro_rules | `(tactic| walk_at "pad") => `(tactic| skip)
local macro_rules | `(tactic| walk_at "pad") => `(tactic| skip)
local macro_rules | `(tactic| walk_at "pad") => `(tactic| skip)
local macro_rules | `(tactic| walk_at "pad") => `(tactic| skip)
local macro_rules | `(tactic| walk_at "pad") => `(tactic| skip)
local macro_rules | `(tactic| walk_at "pad") => `(tactic| skip)
local macro_rules | `(tactic| walk_at "pad") => `(tactic| skip)
local macro_rules | `(tactic| walk_at "pad") => `(tactic| skip)
local macro_rules | `(tactic| walk_at "pad") => `(tactic| skip)
local macro_rules | `(tactic| walk_at "pad") => `(tactic| skip)
local macro_rules | `(tactic| walk_at "pad") => `(tactic| skip)
local macro_rules | `(tactic| walk_at "pad") => `(tactic| skip)
local macro_rules | `(tactic| walk_at "pad") => `(tactic| skip)
local macro_rules | `(tactic| walk_at "pad") => `(tactic| skip)
local macro_rules | `(tactic| walk_at "pad") => `(tactic| skip)
local macro_rules | `(tactic| walk_at "pad") => `(tactic| skip)
local macro_rules | `(tactic| walk_at "pad") => `(tactic| skip)
local macro_rules | `(tactic| walk_at "pad") => `(tactic| skip)
local macro_rules | `(tactic| walk_at "pad") => `(tactic| skip)
local macro_rules | `(tactic| walk_at "pad") => `(tactic| skip)
local macro_rules | `(tactic| walk_at "pad") => `(tactic| skip)
local macro_rules | `(tactic| walk_at "pad") => `(tactic| skip)
local macro_rules | `(tactic| walk_at "pad") => `(tactic| skip)
local macro_rules | `(tactic| walk_at "pad") => `(tactic| skip)
local macro_rules | `(tactic| walk_at "pad") => `(tactic| skip)
local macro_rules | `(tactic| walk_at "pad") => `(tactic| skip)
local macro_rules | `(tactic| walk_at "pad") => `(tactic| skip)
local macro_rules | `(tactic| walk_at "pad") => `(tactic| skip)
local macro_rules | `(tactic| walk_at "pad") => `(tactic| skip)
local macro_rules | `(tactic| walk_at "pad") => `(tactic| skip)
local macro_rules | `(tactic| walk_at "pad") => `(tactic| skip)
local macro_rules | `(tactic| walk_at "pad") => `(tactic| skip)
local macro_rules | `(tactic| walk_at "pad") => `(tactic| skip)
local macro_rules | `(tactic| walk_at "pad") => `(tactic| skip)
local macro_rules | `(tactic| walk_at "pad") => `(tactic| skip)
local macro_rules | `(tactic| walk_at "pad") => `(tactic| skip)
local macro_rules | `(tactic| walk_at "pad") => `(tactic| skip)
local macro_rules | `(tactic| walk_at "pad") => `(tactic| skip)
local macro_rules | `(tactic| walk_at "pad") => `(tactic| skip)
local macro_rules | `(tactic| walk_at "pad") => `(tactic| skip)
local macro_rules | `(tactic| walk_at "pad") => `(tactic| skip)
local macro_rules | `(tactic| walk_at "pad") => `(tactic| skip)
theorem fresh_Y5 : True := by
  w_top off
  trivial
local macro_rules | `(tactic| walk_at "my steps") => `(tactic| repeat' (first | (k_unfold; (try dsimp only)) | (k_end; wrow_close) | ((try dsimp only); walk1) | (leave1; walk_say "STEP leave1"; try dsimp only) | fail "no step"))
local macro_rules | `(tactic| k_mem) => `(tactic| assumption)
local macro_rules | `(tactic| k_all) => `(tactic| first | assumption | exact low_ne (by assumption) (by omega))
local macro_rules | `(tactic| walk_at "eval Name") => `(tactic| (k_dflt (refine' ldM ?k1 ?k2 ?_ ?k3 ?k4 ?k5; (case k1 => k_asm); (case k2 => assumption); (case k3 => exact rfl); (case k4 => exact rfl); (case k5 => decide)); (try dsimp only)))
local macro_rules | `(tactic| walk_at "exec For") => `(tactic| ((rename Fr _ _ _ _ => lF'); (with_unfolding_all refine' For_invVF lF' ?k1 ?k2 ?_; (case k1 => exact rfl); (case k2 => exact rfl))))
local macro_rules | `(tactic| walk_at "TurnPost") => `(tactic| dsimp only [TurnPost])
local macro_rules | `(tactic| walk_at "call type:range") => `(tactic| (k_dflt (first | (refine' range2N ?F ?N ?_; (case F => k_asm); (case N => k_asm)) | (refine' range1N ?F ?N ?_; (case F => k_asm); (case N => k_asm))); intro r' h' tk' t1' t2' t3' F' N' l1; (try k_lt l1); (try k_sweep)))
local macro_rules | `(tactic| walk_at "eval ListComp") => `(tactic| ((rename Fr _ _ _ _ => lF'); (with_unfolding_all refine' cx_eval lF' ?k1 ?k2 ?k3 ?k4 ?k5 ?_; (case k1 => first | exact rfl | with_unfolding_all rfl); (case k2 => decide +kernel); (case k3 => exact rfl); (case k4 => decide +kernel); (case k5 => (intro _; with_unfolding_all rfl)))))
local macro_rules | `(tactic| walk_at "CxSrc") => `(tactic| fail "here")
local macro_rules | `(tactic| walk_at "call ref") => `(tactic| ((with_reducible show wpAny _ _ (call (Value.ref 132) [Value.str _ _]) _ _ _); k_dflt ((refine' use_spec (rungs_spec _ _ _ ?hx) ?k1 ?k2 ?k3 ?k4 ?k5 ?kK ?kp ?kd ?ku ?_); (case k1 => k_asm); (case k2 => k_asm); (case k3 => k_asm); (case k4 => k_asm); (case k5 => k_asm); (case kK => first | exact rfl | assumption); (case kp => trivial); (case kd => ktr_room); (case ku => ktr_units); (case hx => assumption)); intro r9 tl9 h9 tk9 F9 N9 lt9 o9; (try dsimp only)))
local macro_rules | `(tactic| walk_at "call ref") => `(tactic| ((with_reducible show wpAny _ _ (call (Value.ref 139) [Value.str _ _]) _ _ _); k_dflt ((refine' use_spec (climbed_spec _ _ _ ?hx) ?k1 ?k2 ?k3 ?k4 ?k5 ?kK ?kp ?kd ?ku ?_); (case k1 => k_asm); (case k2 => k_asm); (case k3 => k_asm); (case k4 => k_asm); (case k5 => k_asm); (case kK => first | exact rfl | assumption); (case kp => trivial); (case kd => ktr_room); (case ku => ktr_units); (case hx => assumption)); intro r9 tl9 h9 tk9 F9 N9 lt9 o9; (try dsimp only)))
local macro_rules | `(tactic| walk_at "compareOp NotEq ref ref") => `(tactic| (k_dflt ((refine' ne_strs ?N ?a ?b ?x ?y ?ok ?u ?_); (case N => k_asm); (case a => assumption); (case b => assumption); (case x => assumption); (case y => assumption); (case ok => assumption); (case u => ke_room))))
section
variable {w : World} {p : Program} {loose : List Str} {mean : ExcName → Option Value} {mg mb : Str → Option Value} {g : Heap} {L fa : Addr} {m : Str → Option Value} {rest : Led} {s : Shared} {Q : Flow → Shared → Prop} {E : Value → Shared → Prop} {sc : Scope} {st : Stmt}
theorem rungsOk : ∀ x ∈ hostsL, ∀ y ∈ rungsF x, PyData.strOk y = true := by decide +kernel
theorem S4 {H : Addr} {hvs : List Value} {hs : List Str} {kH : Nat} (hsc : sc = lawScope) (hst : some st = lawBody[4]?)
    (B : Below callerA g [] g) (F : Fr g L s.heap m) (X : (hd.heap_39 w.params).In g) (N : News g L s.heap rest) (T : Top p loose mean mg mb g)
    (hmH : m (Str.ofString "hosts") = some (.ref H)) (hlH : (H, W.listOf hvs.toArray kH) ∈ rest) (hS : StrsAre hvs hs) (hh : ∀ x ∈ hs, x ∈ hostsL)
    (hQ : ∀ h' tk' (u : Str → Option Value) tl, Fr g L h' (fun z => if z = Str.ofString "host" then u z else m z) → News g L h' (tl ++ rest) → (∀ q ∈ rest, ∀ p ∈ tl, q.1 < p.1) → Q .next { s with heap := h', toks := tk' }) :
    wpAny (model Row.prog w) (LawA sc L fa) (exec st (lawEnv sc L fa)) Q (LawE w sc L fa E) s := by
  conv at hsc => rhs; whnf
  conv at hst => rhs; whnf
  have hst := Option.some.inj hst
  subst hsc hst
  dsimp only [LawA, lawEnv, LawE]
  walk_at "my steps"
  refine' iter_ledS (σ := Unit) (fun m₀ _ u z => if z = Str.ofString "host" then u z else m₀ z) (fun i _ nw => ∃ tl, nw = tl ++ rest ∧ (∀ q ∈ rest, ∀ p ∈ tl, q.1 < p.1)) () rfl ?F ?N hlH ?hm0 ⟨[], rfl, (fun _ _ _ h => nomatch h)⟩ ?turn ?done
  case F => k_asm
  case N => k_asm
  case hm0 => intro z; by_cases h1 : z = Str.ofString "host" <;> simp [h1]
  case turn =>
    rintro i v σ u news₁ h tk I oI hvi ⟨tl, rfl, htl⟩ lt ne hlI F₁ N₁
    obtain ⟨x, t, hxi, rfl⟩ := hS.get i v hvi
    have hxm := hh x (List.mem_of_getElem? hxi)
    have hok := rungsOk x hxm
    walk_at "my steps"
    rename_i r1 tl1 h1 tk1 F1 N1 lt1 o1 r2 tl2 h2 tk2 F2 N2 lt2 o2
    obtain ⟨a1, us1, n1, rfl, hm1, hs1⟩ := o1
    obtain ⟨a2, us2, n2, rfl, hm2, hs2⟩ := o2
    have hm1' : (a1, W.listOf us1.toArray n1) ∈ tl2 ++ (tl1 ++ (I, oI) :: (H, W.listOf hvs.toArray kH) :: (tl ++ rest)) := List.mem_append_right _ (List.mem_append_left _ hm1)
    have hm2' : (a2, W.listOf us2.toArray n2) ∈ tl2 ++ (tl1 ++ (I, oI) :: (H, W.listOf hvs.toArray kH) :: (tl ++ rest)) := List.mem_append_left _ hm2
    walk_at "my steps"
    have ord : ∀ q ∈ (I, oI) :: (H, W.listOf hvs.toArray kH) :: (tl ++ rest), ∀ p ∈ tl2 ++ tl1, q.1 < p.1 := by
      intro q hq p hp
      rcases List.mem_append.mp hp with hp | hp
      · exact lt2 q (List.mem_append_right _ hq) p hp
      · exact lt1 q hq p hp
    refine' ⟨_, _, _, (tl2 ++ tl1 ++ tl) ++ rest, rfl, ?f9, news_sub N2 ?n9, ?ne9, (), ?mp, tl2 ++ tl1 ++ tl, rfl, ?le⟩
    case f9 => k_asm
    case n9 => intro p hp; simp only [List.mem_cons, List.mem_append] at hp ⊢; grind
    case ne9 =>
      intro p hp
      rw [List.append_assoc] at hp
      rcases List.mem_append.mp hp with hp | hp
      · exact Nat.ne_of_gt (ord _ (.head _) p hp)
      · exact ne p hp
    case mp => intro z; by_cases h1 : z = Str.ofString "host" <;> simp [h1]
    case le =>
      intro q hq p hp
      rcases List.mem_append.mp hp with hp | hp
      · exact ord q (.tail _ (.tail _ (List.mem_append_right _ hq))) p hp
      · exact htl q hq p hp
  case done =>
    rintro h' tk σ u news' F₁ N₁ ⟨tl, rfl, htl⟩
    exact hQ _ _ u tl F₁ (news_sub N₁ fun p hp => .tail _ hp) htl
end
end Mine

/- Y6 -/
namespace Mine
set_option maxHeartbeats 1000000
set_option pp.deepTerms false
set_option pp.deepTerms.threshold 8
set_option linter.unusedVariables false
local macro_rules | `(tactic| walk_at "pad") => `(tactic| skip)
local macro_rules | `(tactic| walk_at "pad") => `(tactic| skip)
local macro_rules | `(tactic| walk_at "pad") => `(tactic| skip)
local macro_rules | `(tactic| walk_at "pad") => `(tactic| skip)
local macro_rules | `(tactic| walk_at "pad") => `(tactic| skip)
local macro_rules | `(tactic| walk_at "pad") => `(tactic| skip)
local macro_rules | `(tactic| walk_at "pad") => `(tactic| skip)
local macro_rules | `(tactic| walk_at "pad") => `(tactic| skip)
local macro_rules | `(tactic| walk_at "pad") => `(tactic| skip)
local macro_rules | `(tactic| walk_at "pad") => `(tactic| skip)
local macro_rules | `(tactic| walk_at "pad") => `(tactic| skip)
local macro_rules | `(tactic| walk_at "pad") => `(tactic| skip)
local macro_rules | `(tactic| walk_at "pad") => `(tactic| skip)
local macro_rules | `(tactic| walk_at "pad") => `(tactic| skip)
local macro_rules | `(tactic| walk_at "pad") => `(tactic| skip)
local macro_rules | `(tactic| walk_at "pad") => `(tactic| skip)
local macro_rules | `(tactic| walk_at "pad") => `(tactic| skip)
local macro_rules | `(tactic| walk_at "pad") => `(tactic| skip)
local macro_rules | `(tactic| walk_at "pad") => `(tactic| skip)
local macro_rules | `(tactic| walk_at "pad") => `(tactic| skip)
local macro_rules | `(tactic| walk_at "pad") => `(tactic| skip)
local macro_rules | `(tactic| walk_at "pad") => `(tactic| skip)
local macro_rules | `(tactic| walk_at "pad") => `(tactic| skip)
local macro_rules | `(tactic| walk_at "pad") => `(tactic| skip)
local macro_rules | `(tactic| walk_at "pad") => `(tactic| skip)
local macro_rules | `(tactic| walk_at "pad") => `(tactic| skip)
local macro_rules | `(tactic| walk_at "pad") => `(tactic| skip)
local macro_rules | `(tactic| walk_at "pad") => `(tactic| skip)
local macro_rules | `(tactic| walk_at "pad") => `(tactic| skip)
local macro_rules | `(tactic| walk_at "pad") => `(tactic| skip)
local macro_rules | `(tactic| walk_at "pad") => `(tactic| skip)
local macro_rules | `(tactic| walk_at "pad") => `(tactic| skip)
local macro_rules | `(tactic| walk_at "pad") => `(tactic| skip)
local macro_rules | `(tactic| walk_at "pad") => `(tactic| skip)
local macro_rules | `(tactic| walk_at "pad") => `(tactic| skip)
local macro_rules | `(tactic| walk_at "pad") => `(tactic| skip)
local macro_rules | `(tactic| walk_at "pad") => `(tactic| skip)
local macro_rules | `(tactic| walk_at "pad") => `(tactic| skip)
local macro_rules | `(tactic| walk_at "pad") => `(tactic| skip)
local macro_rules | `(tactic| walk_at "pad") => `(tactic| skip)
local macro_rules | `(tactic| walk_at "pad") => `(tactic| skip)
local macro_rules | `(tactic| walk_at "pad") => `(tactic| skip)
local macro_rules | `(tactic| walk_at "pad") => `(tactic| skip)
local macro_rules | `(tactic| walk_at "pad") => `(tactic| skip)
local macro_rules | `(tactic| walk_at "pad") => `(tactic| skip)
local macro_rules | `(tactic| walk_at "pad") => `(tactic| skip)
local macro_rules | `(tactic| walk_at "pad") => `(tactic| skip)
local macro_rules | `(tactic| walk_at "pad") => `(tactic| skip)
local macro_rules | `(tactic| walk_at "pad") => `(tactic| skip)
local macro_rules | `(tactic| walk_at "pad") => `(tactic| skip)
local macro_rules | `(tactic| walk_at "pad") => `(tactic| skip)
local macro_rules | `(tactic| walk_at "pad") => `(tactic| skip)
local macro_rules | `(tactic| walk_at "pad") => `(tactic| skip)
local macro_rules | `(tactic| walk_at "pad") => `(tactic| skip)
local macro_rules | `(tactic| walk_at "pad") => `(tactic| skip)
local macro_rules | `(tactic| walk_at "pad") => `(tactic| skip)
local macro_rules | `(tactic| walk_at "pad") => `(tactic| skip)
local macro_rules | `(tactic| walk_at "pad") => `(tactic| skip)
local macro_rules | `(tactic| walk_at "pad") => `(tactic| skip)
local macro_rules | `(tactic| walk_at "pad") => `(tactic| skip)
local macro_rules | `(tactic| walk_at "pad") => `(tactic| skip)
local macro_rules | `(tactic| walk_at "pad") => `(tactic| skip)
local macro_rules | `(tactic| walk_at "pad") => `(tactic| skip)
local macro_rules | `(tactic| walk_at "pad") => `(tactic| skip)
local macro_rules | `(tactic| walk_at "pad") => `(tactic| skip)
local macro_rules | `(tactic| walk_at "pad") => `(tactic| skip)
local macro_rules | `(tactic| walk_at "pad") => `(tactic| skip)
local macro_rules | `(tactic| walk_at "pad") => `(tactic| skip)
local macro_rules | `(tactic| walk_at "pad") => `(tactic| skip)
local macro_rules | `(tactic| walk_at "pad") => `(tactic| skip)
local macro_rules | `(tactic| walk_at "pad") => `(tactic| skip)
local macro_rules | `(tactic| walk_at "pad") => `(tactic| skip)
local macro_rules | `(tactic| walk_at "pad") => `(tactic| skip)
local macro_rules | `(tactic| walk_at "pad") => `(tactic| skip)
local macro_rules | `(tactic| walk_at "pad") => `(tactic| skip)
local macro_rules | `(tactic| walk_at "pad") => `(tactic| skip)
local macro_rules | `(tactic| walk_at "pad") => `(tactic| skip)
local macro_rules | `(tactic| walk_at "pad") => `(tactic| skip)
local macro_rules | `(tactic| walk_at "pad") => `(tactic| skip)
local macro_rules | `(tactic| walk_at "pad") => `(tactic| skip)
local macro_rules | `(tactic| walk_at "pad") => `(tactic| skip)
local macro_rules | `(tactic| walk_at "pad") => `(tactic| skip)
local macro_rules | `(tactic| walk_at "pad") => `(tactic| skip)
local macro_rules | `(tactic| walk_at "pad") => `(tactic| skip)
local macro_rules | `(tactic| walk_at "pad") => `(tactic| skip)
local macro_rules | `(tactic| walk_at "pad") => `(tactic| skip)
local macro_rules | `(tactic| walk_at "pad") => `(tactic| skip)
local macro_rules | `(tactic| walk_at "pad") => `(tactic| skip)
local macro_rules | `(tactic| walk_at "pad") => `(tactic| skip)
local macro_rules | `(tactic| walk_at "pad") => `(tactic| skip)
local macro_rules | `(tactic| walk_at "pad") => `(tactic| skip)
local macro_rules | `(tactic| walk_at "pad") => `(tactic| skip)
local macro_rules | `(tactic| walk_at "pad") => `(tactic| skip)
local macro_rules | `(tactic| walk_at "pad") => `(tactic| skip)
local macro_rules | `(tactic| walk_at "pad") => `(tactic| skip)
local macro_rules | `(tactic| walk_at "pad") => `(tactic| skip)
local macro_rules | `(tactic| walk_at "pad") => `(tactic| skip)
local macro_rules | `(tactic| walk_at "pad") => `(tactic| skip)
local macro_rules | `(tactic| walk_at "pad") => `(tactic| skip)
local macro_rules | `(tactic| walk_at "pad") => `(tactic| skip)
local macro_rules | `(tactic| walk_at "pad") => `(tactic| skip)
local macro_rules | `(tactic| walk_at "pad") => `(tactic| skip)
local macro_rules | `(tactic| walk_at "pad") => `(tactic| skip)
local macro_rules | `(tactic| walk_at "pad") => `(tactic| skip)
local macro_rules | `(tactic| walk_at "pad") => `(tactic| skip)
local macro_rules | `(tactic| walk_at "pad") => `(tactic| skip)
local macro_rules | `(tactic| walk_at "pad") => `(tactic| skip)
local macro_rules | `(tactic| walk_at "pad") => `(tactic| skip)
local macro_rules | `(tactic| walk_at "pad") => `(tactic| skip)
local macro_rules | `(tactic| walk_at "pad") => `(tactic| skip)
local macro_rules | `(tactic| walk_at "pad") => `(tactic| skip)
local macro_rules | `(tactic| walk_at "pad") => `(tactic| skip)
local macro_rules | `(tactic| walk_at "pad") => `(tactic| skip)
local macro_rules | `(tactic| walk_at "pad") => `(tactic| skip)
local macro_rules | `(tactic| walk_at "pad") => `(tactic| skip)
theorem fresh_Y6 : True := by
  w_top off
  trivial
local macro_rules | `(tactic| walk_at "my steps") => `(tactic| repeat' (first | (k_unfold; (try dsimp only)) | (k_end; wrow_close) | ((try dsimp only); walk1) | (leave1; walk_say "STEP leave1"; try dsimp only) | fail "no step"))
local macro_rules | `(tactic| k_mem) => `(tactic| assumption)
local macro_rules | `(tactic| k_all) => `(tactic| first | assumption | exact low_ne (by assumption) (by omega))
local macro_rules | `(tactic| walk_at "eval Name") => `(tactic| (k_dflt (refine' ldM ?k1 ?k2 ?_ ?k3 ?k4 ?k5; (case k1 => k_asm); (case k2 => assumption); (case k3 => exact rfl); (case k4 => exact rfl); (case k5 => decide)); (try dsimp only)))
local macro_rules | `(tactic| walk_at "exec For") => `(tactic| ((rename Fr _ _ _ _ => lF'); (with_unfolding_all refine' For_invVF lF' ?k1 ?k2 ?_; (case k1 => exact rfl); (case k2 => exact rfl))))
local macro_rules | `(tactic| walk_at "TurnPost") => `(tactic| dsimp only [TurnPost])
local macro_rules | `(tactic| walk_at "call type:range") => `(tactic| (k_dflt (first | (refine' range2N ?F ?N ?_; (case F => k_asm); (case N => k_asm)) | (refine' range1N ?F ?N ?_; (case F => k_asm); (case N => k_asm))); intro r' h' tk' t1' t2' t3' F' N' l1; (try k_lt l1); (try k_sweep)))
local macro_rules | `(tactic| walk_at "eval ListComp") => `(tactic| ((rename Fr _ _ _ _ => lF'); (with_unfolding_all refine' cx_eval lF' ?k1 ?k2 ?k3 ?k4 ?k5 ?_; (case k1 => first | exact rfl | with_unfolding_all rfl); (case k2 => decide +kernel); (case k3 => exact rfl); (case k4 => decide +kernel); (case k5 => (intro _; with_unfolding_all rfl)))))
local macro_rules | `(tactic| walk_at "CxSrc") => `(tactic| fail "here")
section
variable {prog : Program} {w : World} {A : Around} {E : Value → Shared → Prop} {s : Shared} {h₀ : Heap} {L : Addr} {m : Str → Option Value} {news : Led}
theorem addL {a b : Addr} {vs ws : List Value} {n k : Nat} {Q : Value → Shared → Prop} (F : Fr h₀ L s.heap m) (N : News h₀ L s.heap news) (ha : (a, W.listOf vs.toArray n) ∈ news) (hb : (b, W.listOf ws.toArray k) ∈ news) (hz : vs.length + ws.length ≤ 100)
    (h : ∀ D h', Fr h₀ L h' m → News h₀ L h' ((D, W.listOf (vs ++ ws).toArray 0) :: news) → (∀ p ∈ news, p.1 < D) → Q (.ref D) { s with heap := h' }) :
    wpAny (model prog w) A (binaryOp .Add (.ref a) (.ref b)) Q E s :=
  add_lists F N (isL N ha) (isL N hb) (fun h' F' N' => h _ h' F' N' fun p hp => Heap.lt_size (N p hp).1) (by rw [sizeLine_eq]; omega)
theorem rungs3 : ∀ x ∈ hostsL, (rungsF x).length ≤ 4 := by decide +kernel
end
local macro_rules | `(tactic| walk_at "exec Assign cons ListComp") => `(tactic| ((with_reducible show wpAny _ _ (exec (Stmt.Assign [_] (Expr.ListComp _ _ _ _) _) _) _ _ _); (rename Fr _ _ _ _ => lF'); (with_unfolding_all refine' cx_assign lF' rfl ?ksw ?k1 ?k2 ?k3 ?k4 ?ky ?kp ?k5 ?_; (case ksw => first | exact rfl | with_unfolding_all rfl); (case k1 => first | exact rfl | with_unfolding_all rfl); (case k2 => decide +kernel); (case k3 => exact rfl); (case k4 => decide +kernel); (case ky => exact rfl); (case kp => exact rfl); (case k5 => (intro _; with_unfolding_all rfl)))))
local macro_rules | `(tactic| walk_at "call ref") => `(tactic| ((with_reducible show wpAny _ _ (call (Value.ref 132) [Value.str _ _]) _ _ _); k_dflt ((refine' use_spec (rungs_spec _ _ _ ?hx) ?k1 ?k2 ?k3 ?k4 ?k5 ?kK ?kp ?kd ?ku ?_); (case k1 => k_asm); (case k2 => k_asm); (case k3 => k_asm); (case k4 => k_asm); (case k5 => k_asm); (case kK => first | exact rfl | assumption); (case kp => trivial); (case kd => ktr_room); (case ku => ktr_units); (case hx => assumption)); intro r9 tl9 h9 tk9 F9 N9 lt9 o9; (try dsimp only)))
local macro_rules | `(tactic| walk_at "binaryOp Add ref ref") => `(tactic| (k_dflt ((refine' addL ?F ?N ?a ?b ?z ?_); (case F => k_asm); (case N => k_asm); (case a => k_mem); (case b => k_mem); (case z => assumption)); intro D' h' F' N' l1; (try k_lt l1); (try k_sweep)))
local macro_rules | `(tactic| walk_at "call ref") => `(tactic| ((with_reducible show wpAny _ _ (call (Value.ref 146) [Value.ref _, Value.ref _]) _ _ _); k_dflt ((refine' use_specV (closest_spec _ _ _ _ _ _ ?hv _) ?k1 ?k2 ?k3 ?k4 ?k5 ?kK ?kp ?kd ?ku ?_); (case k1 => k_asm); (case k2 => k_asm); (case k3 => k_asm); (case k4 => k_asm); (case k5 => k_asm); (case kK => first | exact rfl | assumption); (case kp => exact ⟨by k_mem, VerdIn.mono (by assumption) (by kcj_all)⟩); (case kd => ktr_room); (case ku => ktr_units); (case hv => assumption)); intro t9 h9 tk9 F9 N9; (try dsimp only); (try k_sweep)))
section
variable {w : World} {p : Program} {loose : List Str} {mean : ExcName → Option Value} {mg mb : Str → Option Value} {g : Heap} {L fa : Addr} {m : Str → Option Value} {rest : Led} {s : Shared} {Q : Flow → Shared → Prop} {E : Value → Shared → Prop} {sc : Scope} {st : Stmt}
theorem S5 {H dV : Addr} {oV : Obj} {vd : List (Str × Bool)} {hvs : List Value} {hs : List Str} {kH : Nat} (hsc : sc = lawScope) (hst : some st = lawBody[5]?)
    (B : Below callerA g [] g) (F : Fr g L s.heap m) (X : (hd.heap_39 w.params).In g) (N : News g L s.heap rest) (T : Top p loose mean mg mb g)
    (hmH : m (Str.ofString "hosts") = some (.ref H)) (hlH : (H, W.listOf hvs.toArray kH) ∈ rest) (hS : StrsAre hvs hs) (hh : ∀ x ∈ hs, x ∈ hostsL) (h4 : hs.length ≤ 4)
    (hcV : (L + 1 + 1, oV) ∈ rest) (hdV : oV.data = .cell (some (.ref dV))) (hV : VerdIn w rest dV vd)
    (hQ : ∀ h' tk' U bvs k, Fr g L h' (fun z => if z = Str.ofString "due" then some (.ref U) else m z) → News g L h' ((U, W.listOf bvs.toArray k) :: rest) → (∀ q ∈ rest, q.1 < U) → BoolsAre bvs (hs.map fun h => closestF (h :: rungsF h) vd) → Q .next { s with heap := h', toks := tk' }) :
    wpAny (model Row.prog w) (LawA sc L fa) (exec st (lawEnv sc L fa)) Q E s := by
  conv at hsc => rhs; whnf
  conv at hst => rhs; whnf
  have hst := Option.some.inj hst
  subst hsc hst
  dsimp only [LawA, lawEnv, LawE]
  walk_at "my steps"
  refine cx_led (l := H) (vs := hvs) (k := kH) (news := rest) (fun i ys nw => nw = rest ∧ BoolsAre ys ((hs.take i).map fun h => closestF (h :: rungsF h) vd)) rfl (by k_asm) (by k_asm) hlH (by rw [hS.length]; omega) rfl rfl
    ⟨rfl, by simpa using BoolsAre.nil⟩ ?hJ ?turn ?done
  case hJ => rintro i ys nw ⟨rfl, _⟩; exact hlH
  case turn =>
    rintro i v ys nw I oI C oC D m₂ h tk E' hvi ⟨rfl, hJ⟩ hC9 hm₂ F9 N9 off ne lt
    obtain ⟨x, t, hxi, rfl⟩ := hS.get i v hvi
    have hxm := hh x (List.mem_of_getElem? hxi)
    dsimp only [CTurn]
    walk_at "my steps"
    rename_i r1 tl1 h1 tk1 F1 N1 lt1 o1
    obtain ⟨a1, us1, n1, rfl, hm1, hs1⟩ := o1
    have N2 : ∀ lx, News g L h1 (tl1 ++ (lx, W.listOf [Value.str x t].toArray 0) :: (I, oI) :: (C, oC) :: (D, LCg.lst ys) :: nw) → News g L h1 ((a1, W.listOf us1.toArray n1) :: (lx, W.listOf [Value.str x t].toArray 0) :: (I, oI) :: (C, oC) :: (D, LCg.lst ys) :: nw) := fun lx N1 => news_sub N1 (by
      intro p hp
      rcases List.mem_cons.mp hp with rfl | hp
      · exact List.mem_append_left _ hm1
      · exact List.mem_append_right _ hp)
    have N2 := N2 _ N1
    clear N1 lt1
    have hz : [Value.str x t].length + us1.length ≤ 100 := by
      have e1 := hs1.length
      have e2 := rungs3 x hxm
      simp
      omega
    have hcl : StrsAre ([Value.str x t] ++ us1) (x :: rungsF x) := .cons hs1
    walk_at "my steps"
    all_goals trace_state
    refine ⟨_, _, _, rfl, by k_asm, ?n9, off, rfl, ?_⟩
    case n9 => (refine' cb_drop ?cbN ?cbS; (case cbN => assumption); (case cbS => intro p hp; exact .tail _ (.tail _ (.tail _ hp))))
    rw [List.take_add_one, hxi, List.map_append]
    exact hJ.snoc _
  case done =>
    rintro D h tk ys nw F9 N9 off lt ⟨rfl, hJ⟩
    rw [hS.length, List.take_length] at hJ
    exact hQ _ _ D ys _ F9 N9 lt hJ
end
end Mine

/- Y7 -/
namespace Mine
set_option maxHeartbeats 1000000
set_option pp.deepTerms false
set_option pp.deepTerms.threshold 8
set_option linter.unusedVariables false
local macro_rules | `(tactic| walk_at "pad") => `(tactic| skip)
local macro_rules | `(tactic| walk_at "pad") => `(tactic| skip)
local macro_rules | `(tactic| walk_at "pad") => `(tactic| skip)
local macro_rules | `(tactic| walk_at "pad") => `(tactic| skip)
local macro_rules | `(tactic| walk_at "pad") => `(tactic| skip)
local macro_rules | `(tactic| walk_at "pad") => `(tactic| skip)
local macro_rules | `(tactic| walk_at "pad") => `(tactic| skip)
local macro_rules | `(tactic| walk_at "pad") => `(tactic| skip)
local macro_rules | `(tactic| walk_at "pad") => `(tactic| skip)
local macro_rules | `(tactic| walk_at "pad") => `(tactic| skip)
local macro_rules | `(tactic| walk_at "pad") => `(tactic| skip)
local macro_rules | `(tactic| walk_at "pad") => `(tactic| skip)
local macro_rules | `(tactic| walk_at "pad") => `(tactic| skip)
local macro_rules | `(tactic| walk_at "pad") => `(tactic| skip)
local macro_rules | `(tactic| walk_at "pad") => `(tactic| skip)
local macro_rules | `(tactic| walk_at "pad") => `(tactic| skip)
local macro_rules | `(tactic| walk_at "pad") => `(tactic| skip)
local macro_rules | `(tactic| walk_at "pad") => `(tactic| skip)
local macro_rules | `(tactic| walk_at "pad") => `(tactic| skip)
local macro_rules | `(tactic| walk_at "pad") => `(tactic| skip)
local macro_rules | `(tactic| walk_at "pad") => `(tactic| skip)
local macro_rules | `(tactic| walk_at "pad") => `(tactic| skip)
local macro_rules | `(tactic| walk_at "pad") => `(tactic| skip)
local macro_rules | `(tactic| walk_at "pad") => `(tactic| skip)
local macro_rules | `(tactic| walk_at "pad") => `(tactic| skip)
local macro_rules | `(tactic| walk_at "pad") => `(tactic| skip)
local macro_rules | `(tactic| walk_at "pad") => `(tactic| skip)
local macro_rules | `(tactic| walk_at "pad") => `(tactic| skip)
local macro_rules | `(tactic| walk_at "pad") => `(tactic| skip)
local macro_rules | `(tactic| walk_at "pad") => `(tactic| skip)
local macro_rules | `(tactic| walk_at "pad") => `(tactic| skip)
local macro_rules | `(tactic| walk_at "pad") => `(tactic| skip)
local macro_rules | `(tactic| walk_at "pad") => `(tactic| skip)
local macro_rules | `(tactic| walk_at "pad") => `(tactic| skip)
local macro_rules | `(tactic| walk_at "pad") => `(tactic| skip)
local macro_rules | `(tactic| walk_at "pad") => `(tactic| skip)
local macro_rules | `(tactic| walk_at "pad") => `(tactic| skip)
local macro_rules | `(tactic| walk_at "pad") => `(tactic| skip)
local macro_rules | `(tactic| walk_at "pad") => `(tactic| skip)
local macro_rules | `(tactic| walk_at "pad") => `(tactic| skip)
local macro_rules | `(tactic| walk_at "pad") => `(tactic| skip)
local macro_rules | `(tactic| walk_at "pad") => `(tactic| skip)
local macro_rules | `(tactic| walk_at "pad") => `(tactic| skip)
local macro_rules | `(tactic| walk_at "pad") => `(tactic| skip)
local macro_rules | `(tactic| walk_at "pad") => `(tactic| skip)
local macro_rules | `(tactic| walk_at "pad") => `(tactic| skip)
local macro_rules | `(tactic| walk_at "pad") => `(tactic| skip)
local macro_rules | `(tactic| walk_at "pad") => `(tactic| skip)
local macro_rules | `(tactic| walk_at "pad") => `(tactic| skip)
local macro_rules | `(tactic| walk_at "pad") => `(tactic| skip)
local macro_rules | `(tactic| walk_at "pad") => `(tactic| skip)
local macro_rules | `(tactic| walk_at "pad") => `(tactic| skip)
local macro_rules | `(tactic| walk_at "pad") => `(tactic| skip)
local macro_rules | `(tactic| walk_at "pad") => `(tactic| skip)
local macro_rules | `(tactic| walk_at "pad") => `(tactic| skip)
local macro_rules | `(tactic| walk_at "pad") => `(tactic| skip)
local macro_rules | `(tactic| walk_at "pad") => `(tactic| skip)
local macro_rules | `(tactic| walk_at "pad") => `(tactic| skip)
local macro_rules | `(tactic| walk_at "pad") => `(tactic| skip)
local macro_rules | `(tactic| walk_at "pad") => `(tactic| skip)
local macro_rules | `(tactic| walk_at "pad") => `(tactic| skip)
local macro_rules | `(tactic| walk_at "pad") => `(tactic| skip)
local macro_rules | `(tactic| walk_at "pad") => `(tactic| skip)
local macro_rules | `(tactic| walk_at "pad") => `(tactic| skip)
local macro_rules | `(tactic| walk_at "pad") => `(tactic| skip)
local macro_rules | `(tactic| walk_at "pad") => `(tactic| skip)
local macro_rules | `(tactic| walk_at "pad") => `(tactic| skip)
local macro_rules | `(tactic| walk_at "pad") => `(tactic| skip)
local macro_rules | `(tactic| walk_at "pad") => `(tactic| skip)
local macro_rules | `(tactic| walk_at "pad") => `(tactic| skip)
local macro_rules | `(tactic| walk_at "pad") => `(tactic| skip)
local macro_rules | `(tactic| walk_at "pad") => `(tactic| skip)
local macro_rules | `(tactic| walk_at "pad") => `(tactic| skip)
local macro_rules | `(tactic| walk_at "pad") => `(tactic| skip)
local macro_rules | `(tactic| walk_at "pad") => `(tactic| skip)
local macro_rules | `(tactic| walk_at "pad") => `(tactic| skip)
local macro_rules | `(tactic| walk_at "pad") => `(tactic| skip)
local macro_rules | `(tactic| walk_at "pad") => `(tactic| skip)
local macro_rules | `(tactic| walk_at "pad") => `(tactic| skip)
local macro_rules | `(tactic| walk_at "pad") => `(tactic| skip)
local macro_rules | `(tactic| walk_at "pad") => `(tactic| skip)
local macro_rules | `(tactic| walk_at "pad") => `(tactic| skip)
local macro_rules | `(tactic| walk_at "pad") => `(tactic| skip)
local macro_rules | `(tactic| walk_at "pad") => `(tactic| skip)
local macro_rules | `(tactic| walk_at "pad") => `(tactic| skip)
local macro_rules | `(tactic| walk_at "pad") => `(tactic| skip)
local macro_rules | `(tactic| walk_at "pad") => `(tactic| skip)
local macro_rules | `(tactic| walk_at "pad") => `(tactic| skip)
local macro_rules | `(tactic| walk_at "pad") => `(tactic| skip)
local macro_rules | `(tactic| walk_at "pad") => `(tactic| skip)
local macro_rules | `(tactic| walk_at "pad") => `(tactic| skip)
local macro_rules | `(tactic| walk_at "pad") => `(tactic| skip)
local macro_rules | `(tactic| walk_at "pad") => `(tactic| skip)
local macro_rules | `(tactic| walk_at "pad") => `(tactic| skip)
local macro_rules | `(tactic| walk_at "pad") => `(tactic| skip)
local macro_rules | `(tactic| walk_at "pad") => `(tactic| skip)
local macro_rules | `(tactic| walk_at "pad") => `(tactic| skip)
local macro_rules | `(tactic| walk_at "pad") => `(tactic| skip)
local macro_rules | `(tactic| walk_at "pad") => `(tactic| skip)
local macro_rules | `(tactic| walk_at "pad") => `(tactic| skip)
local macro_rules | `(tactic| walk_at "pad") => `(tactic| skip)
local macro_rules | `(tactic| walk_at "pad") => `(tactic| skip)
local macro_rules | `(tactic| walk_at "pad") => `(tactic| skip)
local macro_rules | `(tactic| walk_at "pad") => `(tactic| skip)
local macro_rules | `(tactic| walk_at "pad") => `(tactic| skip)
local macro_rules | `(tactic| walk_at "pad") => `(tactic| skip)
local macro_rules | `(tactic| walk_at "pad") => `(tactic| skip)
local macro_rules | `(tactic| walk_at "pad") => `(tactic| skip)
local macro_rules | `(tactic| walk_at "pad") => `(tactic| skip)
local macro_rules | `(tactic| walk_at "pad") => `(tactic| skip)
local macro_rules | `(tactic| walk_at "pad") => `(tactic| skip)
local macro_rules | `(tactic| walk_at "pad") => `(tactic| skip)
local macro_rules | `(tactic| walk_at "pad") => `(tactic| skip)
local macro_rules | `(tactic| walk_at "pad") => `(tactic| skip)
local macro_rules | `(tactic| walk_at "pad") => `(tactic| skip)
local macro_rules | `(tactic| walk_at "pad") => `(tactic| skip)
local macro_rules | `(tactic| walk_at "pad") => `(tactic| skip)
local macro_rules | `(tactic| walk_at "pad") => `(tactic| skip)
local macro_rules | `(tactic| walk_at "pad") => `(tactic| skip)
local macro_rules | `(tactic| walk_at "pad") => `(tactic| skip)
local macro_rules | `(tactic| walk_at "pad") => `(tactic| skip)
local macro_rules | `(tactic| walk_at "pad") => `(tactic| skip)
local macro_rules | `(tactic| walk_at "pad") => `(tactic| skip)
local macro_rules | `(tactic| walk_at "pad") => `(tactic| skip)
local macro_rules | `(tactic| walk_at "pad") => `(tactic| skip)
local macro_rules | `(tactic| walk_at "pad") => `(tactic| skip)
local macro_rules | `(tactic| walk_at "pad") => `(tactic| skip)
theorem fresh_Y7 : True := by
  w_top off
  trivial
local macro_rules | `(tactic| walk_at "my steps") => `(tactic| repeat' (first | (k_unfold; (try dsimp only)) | (k_end; wrow_close) | ((try dsimp only); walk1) | (leave1; walk_say "STEP leave1"; try dsimp only) | fail "no step"))
local macro_rules | `(tactic| k_mem) => `(tactic| assumption)
local macro_rules | `(tactic| k_all) => `(tactic| first | assumption | exact low_ne (by assumption) (by omega))
local macro_rules | `(tactic| walk_at "eval Name") => `(tactic| (k_dflt (refine' ldM ?k1 ?k2 ?_ ?k3 ?k4 ?k5; (case k1 => k_asm); (case k2 => assumption); (case k3 => exact rfl); (case k4 => exact rfl); (case k5 => decide)); (try dsimp only)))
local macro_rules | `(tactic| walk_at "exec For") => `(tactic| ((rename Fr _ _ _ _ => lF'); (with_unfolding_all refine' For_invVF lF' ?k1 ?k2 ?_; (case k1 => exact rfl); (case k2 => exact rfl))))
local macro_rules | `(tactic| walk_at "TurnPost") => `(tactic| dsimp only [TurnPost])
local macro_rules | `(tactic| walk_at "call type:range") => `(tactic| (k_dflt (first | (refine' range2N ?F ?N ?_; (case F => k_asm); (case N => k_asm)) | (refine' range1N ?F ?N ?_; (case F => k_asm); (case N => k_asm))); intro r' h' tk' t1' t2' t3' F' N' l1; (try k_lt l1); (try k_sweep)))
local macro_rules | `(tactic| walk_at "eval ListComp") => `(tactic| ((rename Fr _ _ _ _ => lF'); (with_unfolding_all refine' cx_eval lF' ?k1 ?k2 ?k3 ?k4 ?k5 ?_; (case k1 => first | exact rfl | with_unfolding_all rfl); (case k2 => decide +kernel); (case k3 => exact rfl); (case k4 => decide +kernel); (case k5 => (intro _; with_unfolding_all rfl)))))
local macro_rules | `(tactic| walk_at "CxSrc") => `(tactic| fail "here")
section
variable {w : World} {d : Str} {td : Tok} {b : Bool} {ps : Array Value} {p : Program} {loose : List Str} {mean : ExcName → Option Value} {mg mb : Str → Option Value} {dp un : Nat} {gd : Option (List Code)} {cn : Str} {cs : Scope} {a : Addr} {ccd : Value} {cl : List (Str × Addr)} {outer : List Env} {A₀ : Around} {base h₀ : Heap} {L : Addr} {m : Str → Option Value} {rest tab : Led} {s : Shared} {Q E : Value → Shared → Prop}
theorem use_rule (hdm : d ∈ domsL) (hdl : Txt.lower d ∈ domsL ++ qsL) (hdn : d.length ≤ 20) (B : Below A₀ base outer h₀) (F : Fr h₀ L s.heap m) (X : (hd.heap_39 w.params).In h₀) (N : News h₀ L s.heap ((115, tabObj ps) :: rest)) (T : Top p loose mean mg mb h₀) (hk : cs.kind = .function) (C : CodeHd base 119 115) (hne : ∀ p ∈ rest, p.1 ≠ 115) (hsub : ∀ p ∈ tab, p ∈ rest) (hps : TabOk tab ps)
    (hd : dp + 3 < recursionLimit) (hu : un + 20 * 3 < cLine)
    (hret : ∀ r tl ps' h' tk', Fr h₀ L h' m → News h₀ L h' (tl ++ (115, tabObj ps') :: rest) → (∀ q ∈ (115, tabObj ps) :: rest, ∀ p ∈ tl, q.1 < p.1) → TabOk (tl ++ tab) ps' → RuleIn w (tl ++ tab) r d b → Q r { s with heap := h', toks := tk' }) :
    wpAny (model Row.prog w) (ktrTop dp un gd cn cs L a ccd cl outer) (call (.ref 120) [.str d td, .bool b]) Q E s :=
  rule_spec w d td b hdm hdl hdn ps p loose mean mg mb dp un gd cn cs a ccd cl outer A₀ base h₀ L m rest s Q E B F X N T hk C hne tab hsub hps hd hu hret
theorem domLow : ∀ d ∈ domsL, Txt.lower d ∈ domsL ++ qsL ∧ d.length ≤ 20 := by decide +kernel
end
local macro_rules | `(tactic| walk_at "call ref") => `(tactic| ((with_reducible show wpAny _ _ (call (Value.ref 120) [Value.str _ _, Value.bool _]) _ _ _); k_dflt ((refine' use_rule ?h1 ?h2 ?h3 ?k1 ?k2 ?k3 ?k4 ?k5 ?kK ?C ?ne ?sb ?ps ?kd ?ku ?_); (case h1 => assumption); (case h2 => assumption); (case h3 => assumption); (case k1 => k_asm); (case k2 => k_asm); (case k3 => k_asm); (case k4 => k_asm); (case k5 => k_asm); (case kK => first | exact rfl | assumption); (case C => assumption); (case ne => assumption); (case ps => assumption); (case sb => assumption); (case kd => ktr_room); (case ku => ktr_units)); intro r9 tl9 ps9 h9 tk9 F9 N9 lt9 T9 R9; (try dsimp only)))
section
variable {w : World} {p : Program} {loose : List Str} {mean : ExcName → Option Value} {mg mb : Str → Option Value} {g : Heap} {L fa : Addr} {m : Str → Option Value} {rest : Led} {s : Shared} {Q : Flow → Shared → Prop} {E : Value → Shared → Prop} {sc : Scope} {st : Stmt}
theorem S6 {lD : Addr} {oD oR : Obj} {dvs : List Value} {ds : List (Str × Bool)} {kD : Nat} (hsc : sc = lawScope) (hst : some st = lawBody[6]?)
    (B : Below callerA g [] g) (F : Fr g L s.heap m) (X : (hd.heap_39 w.params).In g) (N : News g L s.heap ((115, tabObj #[]) :: (L + 1 + 1 + 1, oR) :: rest)) (T : Top p loose mean mg mb g) (C115 : CodeHd g 119 115)
    (hd : oR.data = .cell none) (hne : ∀ p ∈ rest, p.1 ≠ L + 1 + 1 + 1) (hne115 : ∀ p ∈ (L + 1 + 1 + 1, oR) :: rest, p.1 ≠ 115) (hcD : (L + 1, oD) ∈ rest) (hdD : oD.data = .cell (some (.ref lD))) (hlD : (lD, W.listOf dvs.toArray kD) ∈ rest) (hP : PairsIn rest dvs ds) (h4 : ds.length ≤ 4) (hdm : ∀ p ∈ ds, p.1 ∈ domsL)
    (hQ : ∀ h' tk' oR' ps lR rvs kR tl, Fr g L h' m → News g L h' ((115, tabObj ps) :: (L + 1 + 1 + 1, oR') :: (tl ++ rest)) → (∀ q ∈ (115, tabObj #[]) :: (L + 1 + 1 + 1, oR) :: rest, ∀ p ∈ tl, q.1 < p.1) → oR'.data = .cell (some (.ref lR)) → (lR, W.listOf rvs.toArray kR) ∈ tl → RulesIn w tl rvs ds → Q .next { s with heap := h', toks := tk' }) :
    wpAny (model Row.prog w) (LawA sc L fa) (exec st (lawEnv sc L fa)) Q E s := by
  conv at hsc => rhs; whnf
  conv at hst => rhs; whnf
  have hst := Option.some.inj hst
  subst hsc hst
  dsimp only [LawA, lawEnv, LawE]
  have hcD' : (L + 1, oD) ∈ (115, tabObj #[]) :: (L + 1 + 1 + 1, oR) :: rest := .tail _ (.tail _ hcD)
  walk_at "my steps"
  refine cx_ledP (l := lD) (vs := dvs) (k := kD) (news := (115, tabObj #[]) :: (L + 1 + 1 + 1, oR) :: rest) (fun i ys nw => ∃ tl ps, nw = (115, tabObj ps) :: (tl ++ ((L + 1 + 1 + 1, oR) :: rest)) ∧ (∀ q ∈ (115, tabObj #[]) :: (L + 1 + 1 + 1, oR) :: rest, ∀ p ∈ tl, q.1 < p.1) ∧ TabOk tl ps ∧ RulesIn w tl ys (ds.take i)) rfl (by k_asm) (by k_asm) (.tail _ (.tail _ hlD)) (by rw [hP.length]; omega) rfl rfl rfl (by decide)
    ⟨[], #[], rfl, (fun _ _ _ h => nomatch h), .inl rfl, by simpa using RulesIn.nil⟩ ?hJ ?hp ?turn ?done
  case hJ => rintro i ys nw ⟨tl, ps, rfl, _⟩; exact .tail _ (List.mem_append_right _ (.tail _ hlD))
  case hp =>
    rintro i v ys nw hvi ⟨tl, ps, rfl, _⟩
    obtain ⟨d, b, _, a, t, n, rfl, hm⟩ := hP.get i v hvi
    exact ⟨a, _, _, n, rfl, .tail _ (List.mem_append_right _ (.tail _ hm))⟩
  case turn =>
    rintro i a v₁ v₂ n ys nw I oI C oC D m₂ h tk E' hvi hmA ⟨tl, ps, rfl, htl, hT, hJ⟩ hC9 hm₁ hm₂ F9 N9 off ne lt
    obtain ⟨d, b, hdi, a', t', n', e, hmB⟩ := hP.get i _ hvi
    cases e
    have e1 := (N9 (a, W.listOf #[v₁, v₂] n) (.tail _ (.tail _ (.tail _ hmA)))).1
    have e2 := (N9 (a, W.listOf #[.str d t', .bool b] n') (.tail _ (.tail _ (.tail _ (.tail _ (List.mem_append_right _ (.tail _ hmB))))))).1
    have e3 := e1.symm.trans e2
    simp only [Option.some.injEq, W.listOf] at e3
    injection e3 with _ _ e4 _
    injection e4 with e5 _
    simp only [Array.mk.injEq, List.cons.injEq, and_true] at e5
    obtain ⟨rfl, rfl⟩ := e5
    have hdd := hdm (d, b) (List.mem_of_getElem? hdi)
    obtain ⟨hdl, hdn⟩ := domLow d hdd
    have N8 : News g L h ((115, tabObj ps) :: ((I, oI) :: (C, oC) :: (D, LCg.lst ys) :: (tl ++ ((L + 1 + 1 + 1, oR) :: rest)))) := news_sub N9 (by intro p hp; simp only [List.mem_cons, List.mem_append] at hp ⊢; grind)
    have o115 := off _ (.head _)
    have hn9 : ∀ p ∈ (I, oI) :: (C, oC) :: (D, LCg.lst ys) :: (tl ++ ((L + 1 + 1 + 1, oR) :: rest)), p.1 ≠ 115 := by
      intro p hp
      rcases List.mem_cons.mp hp with rfl | hp
      · exact fun q => o115.1 q.symm
      rcases List.mem_cons.mp hp with rfl | hp
      · exact fun q => o115.2.1 q.symm
      rcases List.mem_cons.mp hp with rfl | hp
      · exact fun q => o115.2.2 q.symm
      rcases List.mem_append.mp hp with hp | hp
      · exact Nat.ne_of_gt (htl _ (.head _) p hp)
      · exact hne115 p hp
    have hsb : ∀ p ∈ tl, p ∈ (I, oI) :: (C, oC) :: (D, LCg.lst ys) :: (tl ++ ((L + 1 + 1 + 1, oR) :: rest)) := fun p hp => .tail _ (.tail _ (.tail _ (List.mem_append_left _ hp)))
    clear N9
    dsimp only [CTurn]
    walk_at "my steps"
    rename_i r9 tl9 ps9 h9 tk9 F7 N7 lt9 T9 R9
    refine ⟨_, _, (115, tabObj ps9) :: ((tl9 ++ tl) ++ ((L + 1 + 1 + 1, oR) :: rest)), rfl, by k_asm, news_sub N7 ?n1, ?off, tl9 ++ tl, ps9, rfl, ?ord, T9, ?rr⟩
    case n1 => intro p hp; simp only [List.mem_cons, List.mem_append] at hp ⊢; grind
    case off =>
      intro p hp
      rcases List.mem_cons.mp hp with rfl | hp
      · exact o115
      rw [List.append_assoc] at hp
      rcases List.mem_append.mp hp with hp | hp
      · exact ⟨Nat.ne_of_gt (lt9 _ (.tail _ (.head _)) p hp), Nat.ne_of_gt (lt9 _ (.tail _ (.tail _ (.head _))) p hp), Nat.ne_of_gt (lt9 _ (.tail _ (.tail _ (.tail _ (.head _)))) p hp)⟩
      · exact off p (.tail _ hp)
    case ord =>
      intro q hq p hp
      rcases List.mem_append.mp hp with hp | hp
      · rcases List.mem_cons.mp hq with rfl | hq
        · exact lt9 _ (.head _) p hp
        · exact lt9 q (.tail _ (.tail _ (.tail _ (.tail _ (List.mem_append_right _ hq))))) p hp
      · exact htl q hq p hp
    case rr =>
      rw [List.take_add_one, hdi]
      exact (hJ.mono memL).snoc R9
  case done =>
    rintro D h tk ys nw F9 N9 off lt ⟨tl, ps, rfl, htl, hT, hJ⟩
    have hne2 : ∀ p ∈ (D, LCg.lst ys) :: (115, tabObj ps) :: (tl ++ rest), p.1 ≠ L + 1 + 1 + 1 := by
      intro p hp
      rcases List.mem_cons.mp hp with rfl | hp
      · exact Nat.ne_of_gt (lt _ (.tail _ (.head _)))
      rcases List.mem_cons.mp hp with rfl | hp
      · exact fun q => hne115 _ (.head _) q.symm
      rcases List.mem_append.mp hp with hp | hp
      · exact Nat.ne_of_gt (htl _ (.tail _ (.head _)) p hp)
      · exact hne p hp
    have N8 : News g L h ((L + 1 + 1 + 1, oR) :: (D, LCg.lst ys) :: (115, tabObj ps) :: (tl ++ rest)) := news_sub N9 (by intro p hp; simp only [List.mem_cons, List.mem_append] at hp ⊢; grind)
    clear N9
    walk_at "my steps"
    rename_i h8 o8 F8 N7 d8
    refine hQ _ _ o8 ps D ys _ ((D, LCg.lst ys) :: tl) (by k_asm) (news_sub N7 ?n2) ?l1 (by assumption) (.head _) ?p1
    case n2 => intro p hp; simp only [List.mem_cons, List.mem_append] at hp ⊢; grind
    case l1 =>
      intro q hq p hp
      rcases List.mem_cons.mp hp with rfl | hp
      · exact lt q hq
      · exact htl q hq p hp
    case p1 =>
      rw [hP.length, List.take_length] at hJ
      exact hJ.mono fun p hp => .tail _ hp
end
end Mine

/- Y8 -/
namespace Mine
set_option maxHeartbeats 1000000
set_option pp.deepTerms false
set_option pp.deepTerms.threshold 8
set_option linter.unusedVariables false
local macro_rules | `(tactic| walk_at "pad") => `(tactic| skip)
local macro_rules | `(tactic| walk_at "pad") => `(tactic| skip)
local macro_rules | `(tactic| walk_at "pad") => `(tactic| skip)
local macro_rules | `(tactic| walk_at "pad") => `(tactic| skip)
local macro_rules | `(tactic| walk_at "pad") => `(tactic| skip)
local macro_rules | `(tactic| walk_at "pad") => `(tactic| skip)
local macro_rules | `(tactic| walk_at "pad") => `(tactic| skip)
local macro_rules | `(tactic| walk_at "pad") => `(tactic| skip)
local macro_rules | `(tactic| walk_at "pad") => `(tactic| skip)
local macro_rules | `(tactic| walk_at "pad") => `(tactic| skip)
local macro_rules | `(tactic| walk_at "pad") => `(tactic| skip)
local macro_rules | `(tactic| walk_at "pad") => `(tactic| skip)
local macro_rules | `(tactic| walk_at "pad") => `(tactic| skip)
local macro_rules | `(tactic| walk_at "pad") => `(tactic| skip)
local macro_rules | `(tactic| walk_at "pad") => `(tactic| skip)
local macro_rules | `(tactic| walk_at "pad") => `(tactic| skip)
local macro_rules | `(tactic| walk_at "pad") => `(tactic| skip)
local macro_rules | `(tactic| walk_at "pad") => `(tactic| skip)
local macro_rules | `(tactic| walk_at "pad") => `(tactic| skip)
local macro_rules | `(tactic| walk_at "pad") => `(tactic| skip)
local macro_rules | `(tactic| walk_at "pad") => `(tactic| skip)
local macro_rules | `(tactic| walk_at "pad") => `(tactic| skip)
local macro_rules | `(tactic| walk_at "pad") => `(tactic| skip)
local macro_rules | `(tactic| walk_at "pad") => `(tactic| skip)
local macro_rules | `(tactic| walk_at "pad") => `(tactic| skip)
local macro_rules | `(tactic| walk_at "pad") => `(tactic| skip)
local macro_rules | `(tactic| walk_at "pad") => `(tactic| skip)
local macro_rules | `(tactic| walk_at "pad") => `(tactic| skip)
local macro_rules | `(tactic| walk_at "pad") => `(tactic| skip)
local macro_rules | `(tactic| walk_at "pad") => `(tactic| skip)
local macro_rules | `(tactic| walk_at "pad") => `(tactic| skip)
local macro_rules | `(tactic| walk_at "pad") => `(tactic| skip)
local macro_rules | `(tactic| walk_at "pad") => `(tactic| skip)
local macro_rules | `(tactic| walk_at "pad") => `(tactic| skip)
local macro_rules | `(tactic| walk_at "pad") => `(tactic| skip)
local macro_rules | `(tactic| walk_at "pad") => `(tactic| skip)
local macro_rules | `(tactic| walk_at "pad") => `(tactic| skip)
local macro_rules | `(tactic| walk_at "pad") => `(tactic| skip)
local macro_rules | `(tactic| walk_at "pad") => `(tactic| skip)
local macro_rules | `(tactic| walk_at "pad") => `(tactic| skip)
local macro_rules | `(tactic| walk_at "pad") => `(tactic| skip)
local macro_rules | `(tactic| walk_at "pad") => `(tactic| skip)
local macro_rules | `(tactic| walk_at "pad") => `(tactic| skip)
local macro_rules | `(tactic| walk_at "pad") => `(tactic| skip)
local macro_rules | `(tactic| walk_at "pad") => `(tactic| skip)
local macro_rules | `(tactic| walk_at "pad") => `(tactic| skip)
local macro_rules | `(tactic| walk_at "pad") => `(tactic| skip)
local macro_rules | `(tactic| walk_at "pad") => `(tactic| skip)
local macro_rules | `(tactic| walk_at "pad") => `(tactic| skip)
local macro_rules | `(tactic| walk_at "pad") => `(tactic| skip)
local macro_rules | `(tactic| walk_at "pad") => `(tactic| skip)
local macro_rules | `(tactic| walk_at "pad") => `(tactic| skip)
local macro_rules | `(tactic| walk_at "pad") => `(tactic| skip)
local macro_rules | `(tactic| walk_at "pad") => `(tactic| skip)
local macro_rules | `(tactic| walk_at "pad") => `(tactic| skip)
local macro_rules | `(tactic| walk_at "pad") => `(tactic| skip)
local macro_rules | `(tactic| walk_at "pad") => `(tactic| skip)
local macro_rules | `(tactic| walk_at "pad") => `(tactic| skip)
local macro_rules | `(tactic| walk_at "pad") => `(tactic| skip)
local macro_rules | `(tactic| walk_at "pad") => `(tactic| skip)
local macro_rules | `(tactic| walk_at "pad") => `(tactic| skip)
local macro_rules | `(tactic| walk_at "pad") => `(tactic| skip)
local macro_rules | `(tactic| walk_at "pad") => `(tactic| skip)
local macro_rules | `(tactic| walk_at "pad") => `(tactic| skip)
local macro_rules | `(tactic| walk_at "pad") => `(tactic| skip)
local macro_rules | `(tactic| walk_at "pad") => `(tactic| skip)
local macro_rules | `(tactic| walk_at "pad") => `(tactic| skip)
local macro_rules | `(tactic| walk_at "pad") => `(tactic| skip)
local macro_rules | `(tactic| walk_at "pad") => `(tactic| skip)
local macro_rules | `(tactic| walk_at "pad") => `(tactic| skip)
local macro_rules | `(tactic| walk_at "pad") => `(tactic| skip)
local macro_rules | `(tactic| walk_at "pad") => `(tactic| skip)
local macro_rules | `(tactic| walk_at "pad") => `(tactic| skip)
local macro_rules | `(tactic| walk_at "pad") => `(tactic| skip)
local macro_rules | `(tactic| walk_at "pad") => `(tactic| skip)
local macro_rules | `(tactic| walk_at "pad") => `(tactic| skip)
local macro_rules | `(tactic| walk_at "pad") => `(tactic| skip)
local macro_rules | `(tactic| walk_at "pad") => `(tactic| skip)
local macro_rules | `(tactic| walk_at "pad") => `(tactic| skip)
local macro_rules | `(tactic| walk_at "pad") => `(tactic| skip)
local macro_rules | `(tactic| walk_at "pad") => `(tactic| skip)
local macro_rules | `(tactic| walk_at "pad") => `(tactic| skip)
local macro_rules | `(tactic| walk_at "pad") => `(tactic| skip)
local macro_rules | `(tactic| walk_at "pad") => `(tactic| skip)
local macro_rules | `(tactic| walk_at "pad") => `(tactic| skip)
local macro_rules | `(tactic| walk_at "pad") => `(tactic| skip)
local macro_rules | `(tactic| walk_at "pad") => `(tactic| skip)
local macro_rules | `(tactic| walk_at "pad") => `(tactic| skip)
local macro_rules | `(tactic| walk_at "pad") => `(tactic| skip)
local macro_rules | `(tactic| walk_at "pad") => `(tactic| skip)
local macro_rules | `(tactic| walk_at "pad") => `(tactic| skip)
local macro_rules | `(tactic| walk_at "pad") => `(tactic| skip)
local macro_rules | `(tactic| walk_at "pad") => `(tactic| skip)
local macro_rules | `(tactic| walk_at "pad") => `(tactic| skip)
local macro_rules | `(tactic| walk_at "pad") => `(tactic| skip)
local macro_rules | `(tactic| walk_at "pad") => `(tactic| skip)
local macro_rules | `(tactic| walk_at "pad") => `(tactic| skip)
local macro_rules | `(tactic| walk_at "pad") => `(tactic| skip)
local macro_rules | `(tactic| walk_at "pad") => `(tactic| skip)
local macro_rules | `(tactic| walk_at "pad") => `(tactic| skip)
local macro_rules | `(tactic| walk_at "pad") => `(tactic| skip)
local macro_rules | `(tactic| walk_at "pad") => `(tactic| skip)
local macro_rules | `(tactic| walk_at "pad") => `(tactic| skip)
local macro_rules | `(tactic| walk_at "pad") => `(tactic| skip)
local macro_rules | `(tactic| walk_at "pad") => `(tactic| skip)
local macro_rules | `(tactic| walk_at "pad") => `(tactic| skip)
local macro_rules | `(tactic| walk_at "pad") => `(tactic| skip)
local macro_rules | `(tactic| walk_at "pad") => `(tactic| skip)
local macro_rules | `(tactic| walk_at "pad") => `(tactic| skip)
local macro_rules | `(tactic| walk_at "pad") => `(tactic| skip)
local macro_rules | `(tactic| walk_at "pad") => `(tactic| skip)
local macro_rules | `(tactic| walk_at "pad") => `(tactic| skip)
local macro_rules | `(tactic| walk_at "pad") => `(tactic| skip)
local macro_rules | `(tactic| walk_at "pad") => `(tactic| skip)
local macro_rules | `(tactic| walk_at "pad") => `(tactic| skip)
local macro_rules | `(tactic| walk_at "pad") => `(tactic| skip)
local macro_rules | `(tactic| walk_at "pad") => `(tactic| skip)
local macro_rules | `(tactic| walk_at "pad") => `(tactic| skip)
local macro_rules | `(tactic| walk_at "pad") => `(tactic| skip)
local macro_rules | `(tactic| walk_at "pad") => `(tactic| skip)
local macro_rules | `(tactic| walk_at "pad") => `(tactic| skip)
local macro_rules | `(tactic| walk_at "pad") => `(tactic| skip)
local macro_rules | `(tactic| walk_at "pad") => `(tactic| skip)
local macro_rules | `(tactic| walk_at "pad") => `(tactic| skip)
local macro_rules | `(tactic| walk_at "pad") => `(tactic| skip)
local macro_rules | `(tactic| walk_at "pad") => `(tactic| skip)
local macro_rules | `(tactic| walk_at "pad") => `(tactic| skip)
local macro_rules | `(tactic| walk_at "pad") => `(tactic| skip)
local macro_rules | `(tactic| walk_at "pad") => `(tactic| skip)
local macro_rules | `(tactic| walk_at "pad") => `(tactic| skip)
local macro_rules | `(tactic| walk_at "pad") => `(tactic| skip)
local macro_rules | `(tactic| walk_at "pad") => `(tactic| skip)
local macro_rules | `(tactic| walk_at "pad") => `(tactic| skip)
local macro_rules | `(tactic| walk_at "pad") => `(tactic| skip)
local macro_rules | `(tactic| walk_at "pad") => `(tactic| skip)
local macro_rules | `(tactic| walk_at "pad") => `(tactic| skip)
theorem fresh_Y8 : True := by
  w_top off
  trivial
local macro_rules | `(tactic| walk_at "my steps") => `(tactic| repeat' (first | (k_unfold; (try dsimp only)) | (k_end; wrow_close) | ((try dsimp only); walk1) | (leave1; walk_say "STEP leave1"; try dsimp only) | fail "no step"))
local macro_rules | `(tactic| k_mem) => `(tactic| assumption)
local macro_rules | `(tactic| k_all) => `(tactic| first | assumption | exact low_ne (by assumption) (by omega))
local macro_rules | `(tactic| walk_at "eval Name") => `(tactic| (k_dflt (refine' ldM ?k1 ?k2 ?_ ?k3 ?k4 ?k5; (case k1 => k_asm); (case k2 => assumption); (case k3 => exact rfl); (case k4 => exact rfl); (case k5 => decide)); (try dsimp only)))
local macro_rules | `(tactic| walk_at "exec For") => `(tactic| ((rename Fr _ _ _ _ => lF'); (with_unfolding_all refine' For_invVF lF' ?k1 ?k2 ?_; (case k1 => exact rfl); (case k2 => exact rfl))))
local macro_rules | `(tactic| walk_at "TurnPost") => `(tactic| dsimp only [TurnPost])
local macro_rules | `(tactic| walk_at "call type:range") => `(tactic| (k_dflt (first | (refine' range2N ?F ?N ?_; (case F => k_asm); (case N => k_asm)) | (refine' range1N ?F ?N ?_; (case F => k_asm); (case N => k_asm))); intro r' h' tk' t1' t2' t3' F' N' l1; (try k_lt l1); (try k_sweep)))
local macro_rules | `(tactic| walk_at "eval ListComp") => `(tactic| ((rename Fr _ _ _ _ => lF'); (with_unfolding_all refine' cx_eval lF' ?k1 ?k2 ?k3 ?k4 ?k5 ?_; (case k1 => first | exact rfl | with_unfolding_all rfl); (case k2 => decide +kernel); (case k3 => exact rfl); (case k4 => decide +kernel); (case k5 => (intro _; with_unfolding_all rfl)))))
local macro_rules | `(tactic| walk_at "CxSrc") => `(tactic| fail "here")
local macro_rules | `(tactic| walk_at "call ref") => `(tactic| ((with_reducible show wpAny _ _ (call (Value.ref 153) [Value.ref _, Value.ref _]) _ _ _); k_dflt ((refine' use_spec (answers_spec _ _ _ _ _ _ ?a1 ?a2 ?a3 _ _ _ ?a4) ?k1 ?k2 ?k3 ?k4 ?k5 ?kK ?kp ?kd ?ku ?_); (case k1 => k_asm); (case k2 => k_asm); (case k3 => k_asm); (case k4 => k_asm); (case k5 => k_asm); (case kK => first | exact rfl | assumption); (case kp => exact ⟨by k_mem, by k_mem, RulesIn.mono (by assumption) (by kcj_all)⟩); (case kd => ktr_room); (case ku => ktr_units); (case a1 => assumption); (case a2 => assumption); (case a3 => assumption); (case a4 => assumption)); intro r9 tl9 h9 tk9 F9 N9 lt9 o9; (try dsimp only)))
local macro_rules | `(tactic| walk_at "compareOp NotEq ref ref") => `(tactic| (k_dflt ((refine' ne_bools ?N ?a ?b ?x ?y ?u ?_); (case N => k_asm); (case a => assumption); (case b => assumption); (case x => assumption); (case y => assumption); (case u => ke_room)); (try dsimp only)))
section
variable {w : World} {p : Program} {loose : List Str} {mean : ExcName → Option Value} {mg mb : Str → Option Value} {g : Heap} {L fa : Addr} {m : Str → Option Value} {rest : Led} {s : Shared} {Q : Flow → Shared → Prop} {E : Value → Shared → Prop} {sc : Scope} {st : Stmt}
theorem S7 {H lR U : Addr} {oR : Obj} {ds : List (Str × Bool)} {hvs rvs bvs : List Value} {hs : List Str} {bs : List Bool} {kH kR kU : Nat} (hsc : sc = lawScope) (hst : some st = lawBody[7]?)
    (B : Below callerA g [] g) (F : Fr g L s.heap m) (X : (hd.heap_39 w.params).In g) (N : News g L s.heap rest) (T : Top p loose mean mg mb g)
    (hmH : m (Str.ofString "hosts") = some (.ref H)) (hlH : (H, W.listOf hvs.toArray kH) ∈ rest) (hS : StrsAre hvs hs) (hh : ∀ x ∈ hs, x ∈ hostsL) (h4 : hs.length ≤ 4)
    (hcR : (L + 1 + 1 + 1, oR) ∈ rest) (hdR : oR.data = .cell (some (.ref lR))) (hlR : (lR, W.listOf rvs.toArray kR) ∈ rest) (hR : RulesIn w rest rvs ds) (h100 : rvs.length ≤ 100)
    (hmU : m (Str.ofString "due") = some (.ref U)) (hlU : (U, W.listOf bvs.toArray kU) ∈ rest) (hU : BoolsAre bvs bs) (heq : answersF ds hs = bs)
    (hQ : ∀ h' tk', Fr g L h' m → News g L h' rest → Q .next { s with heap := h', toks := tk' }) :
    wpAny (model Row.prog w) (LawA sc L fa) (exec st (lawEnv sc L fa)) Q E s := by
  conv at hsc => rhs; whnf
  conv at hst => rhs; whnf
  have hst := Option.some.inj hst
  subst hsc hst
  dsimp only [LawA, lawEnv, LawE]
  walk_at "my steps"
  rename_i r1 tl1 h1 tk1 F1 N1 lt1 o1
  obtain ⟨a1, us1, n1, rfl, hm1, hs1⟩ := o1
  rw [heq] at hs1
  have hm1' : (a1, W.listOf us1.toArray n1) ∈ tl1 ++ rest := List.mem_append_left _ hm1
  have hlU' : (U, W.listOf bvs.toArray kU) ∈ tl1 ++ rest := List.mem_append_right _ hlU
  have hdec : (!decide (bs = bs)) = false := by simp
  walk_at "my steps"
  exact hQ _ _ (by k_asm) (news_sub N1 fun p hp => List.mem_append_right _ hp)
end
end Mine

/- Srt3 -/
namespace Mine
set_option maxHeartbeats 1000000
set_option linter.unusedVariables false
theorem ints_perm {vs out : List Value} (h : vs.Perm out) : ∀ {ns : List Int}, IntsAre vs ns → ∃ ns', IntsAre out ns' ∧ ns'.Perm ns := by
  induction h with
  | nil => intro ns hi; exact ⟨ns, hi, List.Perm.refl _⟩
  | cons x _ ih =>
    intro ns hi
    cases hi with
    | cons n t hr =>
      obtain ⟨ns', a, b⟩ := ih hr
      exact ⟨n :: ns', .cons n t a, b.cons n⟩
  | swap x y l =>
    intro ns hi
    cases hi with
    | cons n t hr =>
      cases hr with
      | cons n' t' hr' => exact ⟨n' :: n :: _, .cons _ _ (.cons _ _ hr'), List.Perm.swap _ _ _⟩
  | trans _ _ ih1 ih2 =>
    intro ns hi
    obtain ⟨n1, a, b⟩ := ih1 hi
    obtain ⟨n2, c, d⟩ := ih2 a
    exact ⟨n2, c, d.trans b⟩
def rangeI (n : Nat) : List Int := (List.range n).map fun i : Nat => (i : Int)
theorem items_ints {n : Nat} {acc : Array Value} (h : ItemsOf (fun i v => ∃ t, v = .int (0 + (i : Int) * 1) t) acc n) : IntsAre acc.toList (rangeI n) := by
  have go : ∀ (l : List Value) (ns : List Int), l.length = ns.length → (∀ (i : Nat) v k, l[i]? = some v → ns[i]? = some k → ∃ t, v = .int k t) → IntsAre l ns := by
    intro l
    induction l with
    | nil =>
      intro ns hl _
      cases ns with
      | nil => exact .nil
      | cons k r => simp at hl
    | cons v l ih =>
      intro ns hl hh
      cases ns with
      | nil => simp at hl
      | cons k ns =>
        obtain ⟨t, rfl⟩ := hh 0 v k rfl rfl
        exact .cons k t (ih ns (by simpa using hl) fun i v' k' a b => hh (i + 1) v' k' (by simpa using a) (by simpa using b))
  refine go _ _ (by rw [Array.length_toList, h.1]; simp [rangeI]) fun i v k hv hk => ?_
  obtain ⟨t, rfl⟩ := h.2 i v (by simpa using hv)
  have hi : i < n := by
    have := (List.getElem?_eq_some_iff.mp hv).1
    rw [Array.length_toList, h.1] at this; exact this
  unfold rangeI at hk
  simp [hi] at hk
  exact ⟨t, by rw [← hk]; congr 1; omega⟩
section
variable {prog : Program} {w : World} {A : Around} {E : Value → Shared → Prop} {s : Shared} {h₀ : Heap} {L : Addr} {m : Str → Option Value} {news : Led}
theorem collect_range {r : Addr} {b : Int} {t u v : Tok} {n : Nat} {Q : List Value → Shared → Prop} (hh : A.handled = none) (hr : IsRange s.heap r 0 b 1 t u v) (hb : 0 ≤ b ∧ b ≤ 1000) (hn : b.toNat = n)
    (h : ∀ vs h' tk, IntsAre vs (rangeI n) → (∀ b o, s.heap.get? b = some o → h'.get? b = some o) → Q vs { s with heap := h', toks := tk }) : wpAny (model prog w) A (collect (.ref r)) Q E s := by
  have hsz : Builtin.Range.rangeSize 0 b 1 = ((n : Nat) : Int) := by rw [rangeSize_nat]; congr 1; omega
  have ext : ∀ R : Result → Shared → Prop, (∀ h' tk acc' c', (∀ b o, b ≠ s.heap.objs.size → (s.heap.push (seqObj "list" #[] 0)).get? b = some o → h'.get? b = some o) → h'.get? s.heap.objs.size = some { cls := .type "list", dict := none, data := .seq acc' c', slots := #[] } →
      ItemsOf (fun i v => ∃ t, v = .int (0 + (i : Int) * 1) t) acc' n → R (.ok (.ret (.ref s.heap.objs.size))) { s with heap := h', toks := tk }) → codeAny (model prog w) A (.builtin "list.__iadd__" ⟨[.ref s.heap.objs.size, .ref r], []⟩) R { s with heap := s.heap.push (seqObj "list" #[] 0) } := fun R hR =>
    codeAny_builtin entry_list_iadd' (by
      rw [Around.under_plainId (show plainId "list.__iadd__" = true by decide +kernel)]
      exact wpAny_extend_range (s := { s with heap := s.heap.push (seqObj "list" #[] 0) }) (c₀ := 0) (by exact hh) (Heap.get?_push_of_some _ hr) (smallR (by decide) hb) hsz (by omega) s.heap.objs.size _ (Heap.get?_push_size _ rfl) hR)
  unfold collect
  refine wpAny_bind (wpAny_runValue (codeAny_builtin entry_proto_collect' ?_))
  show wpAny _ _ (do again (.builtin "list.__iadd__" ⟨[← newList [], .ref r], []⟩)) _ _ s
  refine wpAny_bind (wpAny_newList (wpAny_pure ⟨Code.quiet_builtin _ (by decide +kernel), ext _ fun h' tk acc' c' keep hS hacc => ?_⟩))
  show wpAny (model prog w) A (do
      let o ← load s.heap.objs.size
      match o.data with
      | .seq xs _ => pure xs.toList
      | _ => unsupported "internal:collect") Q E { s with heap := h', toks := tk }
  refine wpAny_bind (wpAny_load (s := { s with heap := h', toks := tk }) hS ?_)
  exact wpAny_pure (h _ h' tk (items_ints hacc) fun b o e => keep b o (Nat.ne_of_lt (Heap.lt_size e)) (Heap.get?_push_of_some _ e))
theorem sortR {r f : Addr} {b : Int} {t u v : Tok} {n : Nat} {Q : Value → Shared → Prop} (G : Nat → Int) (hh : A.handled = none) (F : Fr h₀ L s.heap m) (N : News h₀ L s.heap news) (hr : (r, rngO 0 b t u v) ∈ news) (hb : 0 ≤ b ∧ b ≤ 1000) (hn : b.toNat = n) (h4 : n ≤ 4)
    (turn : ∀ (i : Nat) (k : Tok) (h : Heap) (tk : Nat) (own : Led), i < n → Fr h₀ L h m → News h₀ L h (news ++ own) →
      wpAny (model prog w) A.in1.in1 (call (.ref f) [.int (i : Int) k]) (KskEnd h₀ L m (news ++ own) (G i) { s with heap := h, toks := tk }) (fun _ _ => False) { s with heap := h, toks := tk })
    (h : ∀ D h' tk out c (os : List Nat), Fr h₀ L h' m → News h₀ L h' ((D, W.listOf out.toArray c) :: news) → (∀ q ∈ news, q.1 < D) → IntsAre out (os.map fun i : Nat => (i : Int)) → os.Perm (List.range n) → Q (.ref D) { s with heap := h', toks := tk }) :
    wpAny (model prog w) A (call (.builtin "sorted") [.ref r] [(Str.ofString "key", .ref f)]) Q E s := by
  refine call_function_entry_kw kind_sorted plain_sorted entry_sorted (ksk_s1 _ _) ?_
  unfold Builtin.«sorted»
  refine wpAny_bind (m := checkCount "sorted" 1 1 _) (wpAny_pure (wpAny_bind (collect_range (by exact hh) (N _ hr).1 hb hn fun vs h₁ tk₁ hi keep => ?_)))
  have hlen : vs.length = n := by rw [hi.length]; simp [rangeI]
  refine wpAny_bind (wpAny_newList (s := { s with heap := h₁, toks := tk₁ }) ?_ (by rw [sizeLine_eq]; omega))
  have F1 : Fr h₀ L h₁ m := F.kept keep
  have N1 : News h₀ L h₁ news := N.grown keep
  have lt1 : ∀ q ∈ news, q.1 < h₁.objs.size := fun q hq => Heap.lt_size (N1 q hq).1
  have o1 : (h₁.push (seqObj "list" vs.toArray 0)).get? h₁.objs.size = some (seqObj "list" vs.toArray 0) := Heap.get?_push_size _ rfl
  refine wpAny_bind (wpAny_holding (wpAny_call_entry_kw (s := { s with heap := h₁.push (seqObj "list" vs.toArray 0), toks := tk₁ }) slot_list_sort ⟨_, o1, rfl⟩ entry_list_sort ?body (ksk_l1 _ _)))
  show wpAny (model prog w) A.in1.in1 (Builtin.«list.sort» ⟨[.ref h₁.objs.size], [(Str.ofString "key", .ref f)]⟩) _ _ _
  rw [ksk_t1]
  refine ksk_sort (s := { s with heap := h₁.push (seqObj "list" vs.toArray 0), toks := tk₁ }) (vs := vs) (kz := (List.range n).map G) (b := false) (news := news) (F1.push _) (N1.grown fun _ _ e => Heap.get?_push_of_some _ e) o1 (Nat.ne_of_gt F1.ns.lt) (next_is_new F1) (fun p hp => Nat.ne_of_lt (lt1 p hp)) (by simp [hlen]) (by omega)
    (fun i v k hv hk h tk own F' N' => ?_) fun h' tk out c F' N' ko => ⟨_, rfl, ?_⟩
  · obtain ⟨z, t', rfl, hz⟩ := hi.at i v hv
    have hin : i < n := by
      have := (List.getElem?_eq_some_iff.mp hv).1
      omega
    unfold rangeI at hz
    simp [hin] at hz hk
    subst hz hk
    exact turn i t' h tk own hin F' N'
  · obtain ⟨ps, hp, ho, _⟩ := ko
    have hperm : vs.Perm out.toList := by
      have e1 := hp.map Prod.snd
      rw [← ho] at e1
      have e2 : (((List.range n).map G).zip vs).map Prod.snd = vs := List.map_snd_zip (by simp [hlen])
      rw [e2] at e1
      exact e1.symm
    obtain ⟨ns', hi', hp'⟩ := ints_perm hperm hi
    have hos : ∃ os : List Nat, ns' = os.map (fun i : Nat => (i : Int)) ∧ os.Perm (List.range n) := by
      refine ⟨ns'.map Int.toNat, ?_, ?_⟩
      · rw [List.map_map]
        have : ∀ z ∈ ns', ((fun i : Nat => (i : Int)) ∘ Int.toNat) z = z := fun z hz => by
          have hz' := hp'.mem_iff.mp hz
          unfold rangeI at hz'
          obtain ⟨i, _, rfl⟩ := List.mem_map.mp hz'
          rfl
        exact (List.map_id' ns').symm.trans (List.map_congr_left fun z hz => (this z hz).symm)
      · have := hp'.map Int.toNat
        unfold rangeI at this
        rw [List.map_map] at this
        have e : (List.range n).map (Int.toNat ∘ fun i : Nat => (i : Int)) = List.range n := (List.map_congr_left fun i _ => rfl).trans (List.map_id' _)
        rw [e] at this
        exact this
    obtain ⟨os, rfl, hos⟩ := hos
    refine wpAny_pure ⟨_, rfl, h _ h' tk out.toList c os F' ?_ lt1 hi' hos⟩
    simpa using N'
end
end Mine

/- Y9 -/
namespace Mine
set_option maxHeartbeats 1000000
set_option pp.deepTerms false
set_option pp.deepTerms.threshold 8
set_option linter.unusedVariables false
local macro_rules | `(tactic| walk_at "pad") => `(tactic| skip)
local macro_rules | `(tactic| walk_at "pad") => `(tactic| skip)
local macro_rules | `(tactic| walk_at "pad") => `(tactic| skip)
local macro_rules | `(tactic| walk_at "pad") => `(tactic| skip)
local macro_rules | `(tactic| walk_at "pad") => `(tactic| skip)
local macro_rules | `(tactic| walk_at "pad") => `(tactic| skip)
local macro_rules | `(tactic| walk_at "pad") => `(tactic| skip)
local macro_rules | `(tactic| walk_at "pad") => `(tactic| skip)
local macro_rules | `(tactic| walk_at "pad") => `(tactic| skip)
local macro_rules | `(tactic| walk_at "pad") => `(tactic| skip)
local macro_rules | `(tactic| walk_at "pad") => `(tactic| skip)
local macro_rules | `(tactic| walk_at "pad") => `(tactic| skip)
local macro_rules | `(tactic| walk_at "pad") => `(tactic| skip)
local macro_rules | `(tactic| walk_at "pad") => `(tactic| skip)
local macro_rules | `(tactic| walk_at "pad") => `(tactic| skip)
local macro_rules | `(tactic| walk_at "pad") => `(tactic| skip)
local macro_rules | `(tactic| walk_at "pad") => `(tactic| skip)
local macro_rules | `(tactic| walk_at "pad") => `(tactic| skip)
local macro_rules | `(tactic| walk_at "pad") => `(tactic| skip)
local macro_rules | `(tactic| walk_at "pad") => `(tactic| skip)
local macro_rules | `(tactic| walk_at "pad") => `(tactic| skip)
local macro_rules | `(tactic| walk_at "pad") => `(tactic| skip)
local macro_rules | `(tactic| walk_at "pad") => `(tactic| skip)
local macro_rules | `(tactic| walk_at "pad") => `(tactic| skip)
local macro_rules | `(tactic| walk_at "pad") => `(tactic| skip)
local macro_rules | `(tactic| walk_at "pad") => `(tactic| skip)
local macro_rules | `(tactic| walk_at "pad") => `(tactic| skip)
local macro_rules | `(tactic| walk_at "pad") => `(tactic| skip)
local macro_rules | `(tactic| walk_at "pad") => `(tactic| skip)
local macro_rules | `(tactic| walk_at "pad") => `(tactic| skip)
local macro_rules | `(tactic| walk_at "pad") => `(tactic| skip)
local macro_rules | `(tactic| walk_at "pad") => `(tactic| skip)
local macro_rules | `(tactic| walk_at "pad") => `(tactic| skip)
local macro_rules | `(tactic| walk_at "pad") => `(tactic| skip)
local macro_rules | `(tactic| walk_at "pad") => `(tactic| skip)
local macro_rules | `(tactic| walk_at "pad") => `(tactic| skip)
local macro_rules | `(tactic| walk_at "pad") => `(tactic| skip)
local macro_rules | `(tactic| walk_at "pad") => `(tactic| skip)
local macro_rules | `(tactic| walk_at "pad") => `(tactic| skip)
local macro_rules | `(tactic| walk_at "pad") => `(tactic| skip)
local macro_rules | `(tactic| walk_at "pad") => `(tactic| skip)
local macro_rules | `(tactic| walk_at "pad") => `(tactic| skip)
local macro_rules | `(tactic| walk_at "pad") => `(tactic| skip)
local macro_rules | `(tactic| walk_at "pad") => `(tactic| skip)
local macro_rules | `(tactic| walk_at "pad") => `(tactic| skip)
local macro_rules | `(tactic| walk_at "pad") => `(tactic| skip)
local macro_rules | `(tactic| walk_at "pad") => `(tactic| skip)
local macro_rules | `(tactic| walk_at "pad") => `(tactic| skip)
local macro_rules | `(tactic| walk_at "pad") => `(tactic| skip)
local macro_rules | `(tactic| walk_at "pad") => `(tactic| skip)
local macro_rules | `(tactic| walk_at "pad") => `(tactic| skip)
local macro_rules | `(tactic| walk_at "pad") => `(tactic| skip)
local macro_rules | `(tactic| walk_at "pad") => `(tactic| skip)
local macro_rules | `(tactic| walk_at "pad") => `(tactic| skip)
local macro_rules | `(tactic| walk_at "pad") => `(tactic| skip)
local macro_rules | `(tactic| walk_at "pad") => `(tactic| skip)
local macro_rules | `(tactic| walk_at "pad") => `(tactic| skip)
local macro_rules | `(tactic| walk_at "pad") => `(tactic| skip)
local macro_rules | `(tactic| walk_at "pad") => `(tactic| skip)
local macro_rules | `(tactic| walk_at "pad") => `(tactic| skip)
local macro_rules | `(tactic| walk_at "pad") => `(tactic| skip)
local macro_rules | `(tactic| walk_at "pad") => `(tactic| skip)
local macro_rules | `(tactic| walk_at "pad") => `(tactic| skip)
local macro_rules | `(tactic| walk_at "pad") => `(tactic| skip)
local macro_rules | `(tactic| walk_at "pad") => `(tactic| skip)
local macro_rules | `(tactic| walk_at "pad") => `(tactic| skip)
local macro_rules | `(tactic| walk_at "pad") => `(tactic| skip)
local macro_rules | `(tactic| walk_at "pad") => `(tactic| skip)
local macro_rules | `(tactic| walk_at "pad") => `(tactic| skip)
local macro_rules | `(tactic| walk_at "pad") => `(tactic| skip)
local macro_rules | `(tactic| walk_at "pad") => `(tactic| skip)
local macro_rules | `(tactic| walk_at "pad") => `(tactic| skip)
local macro_rules | `(tactic| walk_at "pad") => `(tactic| skip)
local macro_rules | `(tactic| walk_at "pad") => `(tactic| skip)
local macro_rules | `(tactic| walk_at "pad") => `(tactic| skip)
local macro_rules | `(tactic| walk_at "pad") => `(tactic| skip)
local macro_rules | `(tactic| walk_at "pad") => `(tactic| skip)
local macro_rules | `(tactic| walk_at "pad") => `(tactic| skip)
local macro_rules | `(tactic| walk_at "pad") => `(tactic| skip)
local macro_rules | `(tactic| walk_at "pad") => `(tactic| skip)
local macro_rules | `(tactic| walk_at "pad") => `(tactic| skip)
local macro_rules | `(tactic| walk_at "pad") => `(tactic| skip)
local macro_rules | `(tactic| walk_at "pad") => `(tactic| skip)
local macro_rules | `(tactic| walk_at "pad") => `(tactic| skip)
local macro_rules | `(tactic| walk_at "pad") => `(tactic| skip)
local macro_rules | `(tactic| walk_at "pad") => `(tactic| skip)
local macro_rules | `(tactic| walk_at "pad") => `(tactic| skip)
local macro_rules | `(tactic| walk_at "pad") => `(tactic| skip)
local macro_rules | `(tactic| walk_at "pad") => `(tactic| skip)
local macro_rules | `(tactic| walk_at "pad") => `(tactic| skip)
local macro_rules | `(tactic| walk_at "pad") => `(tactic| skip)
local macro_rules | `(tactic| walk_at "pad") => `(tactic| skip)
local macro_rules | `(tactic| walk_at "pad") => `(tactic| skip)
local macro_rules | `(tactic| walk_at "pad") => `(tactic| skip)
local macro_rules | `(tactic| walk_at "pad") => `(tactic| skip)
local macro_rules | `(tactic| walk_at "pad") => `(tactic| skip)
local macro_rules | `(tactic| walk_at "pad") => `(tactic| skip)
local macro_rules | `(tactic| walk_at "pad") => `(tactic| skip)
local macro_rules | `(tactic| walk_at "pad") => `(tactic| skip)
local macro_rules | `(tactic| walk_at "pad") => `(tactic| skip)
local macro_rules | `(tactic| walk_at "pad") => `(tactic| skip)
local macro_rules | `(tactic| walk_at "pad") => `(tactic| skip)
local macro_rules | `(tactic| walk_at "pad") => `(tactic| skip)
local macro_rules | `(tactic| walk_at "pad") => `(tactic| skip)
local macro_rules | `(tactic| walk_at "pad") => `(tactic| skip)
local macro_rules | `(tactic| walk_at "pad") => `(tactic| skip)
local macro_rules | `(tactic| walk_at "pad") => `(tactic| skip)
local macro_rules | `(tactic| walk_at "pad") => `(tactic| skip)
local macro_rules | `(tactic| walk_at "pad") => `(tactic| skip)
local macro_rules | `(tactic| walk_at "pad") => `(tactic| skip)
local macro_rules | `(tactic| walk_at "pad") => `(tactic| skip)
local macro_rules | `(tactic| walk_at "pad") => `(tactic| skip)
local macro_rules | `(tactic| walk_at "pad") => `(tactic| skip)
local macro_rules | `(tactic| walk_at "pad") => `(tactic| skip)
local macro_rules | `(tactic| walk_at "pad") => `(tactic| skip)
local macro_rules | `(tactic| walk_at "pad") => `(tactic| skip)
local macro_rules | `(tactic| walk_at "pad") => `(tactic| skip)
local macro_rules | `(tactic| walk_at "pad") => `(tactic| skip)
local macro_rules | `(tactic| walk_at "pad") => `(tactic| skip)
local macro_rules | `(tactic| walk_at "pad") => `(tactic| skip)
local macro_rules | `(tactic| walk_at "pad") => `(tactic| skip)
local macro_rules | `(tactic| walk_at "pad") => `(tactic| skip)
local macro_rules | `(tactic| walk_at "pad") => `(tactic| skip)
local macro_rules | `(tactic| walk_at "pad") => `(tactic| skip)
local macro_rules | `(tactic| walk_at "pad") => `(tactic| skip)
local macro_rules | `(tactic| walk_at "pad") => `(tactic| skip)
local macro_rules | `(tactic| walk_at "pad") => `(tactic| skip)
local macro_rules | `(tactic| walk_at "pad") => `(tactic| skip)
local macro_rules | `(tactic| walk_at "pad") => `(tactic| skip)
local macro_rules | `(tactic| walk_at "pad") => `(tactic| skip)
local macro_rules | `(tactic| walk_at "pad") => `(tactic| skip)
local macro_rules | `(tactic| walk_at "pad") => `(tactic| skip)
local macro_rules | `(tactic| walk_at "pad") => `(tactic| skip)
local macro_rules | `(tactic| walk_at "pad") => `(tactic| skip)
local macro_rules | `(tactic| walk_at "pad") => `(tactic| skip)
local macro_rules | `(tactic| walk_at "pad") => `(tactic| skip)
local macro_rules | `(tactic| walk_at "pad") => `(tactic| skip)
local macro_rules | `(tactic| walk_at "pad") => `(tactic| skip)
local macro_rules | `(tactic| walk_at "pad") => `(tactic| skip)
local macro_rules | `(tactic| walk_at "pad") => `(tactic| skip)
local macro_rules | `(tactic| walk_at "pad") => `(tactic| skip)
local macro_rules | `(tactic| walk_at "pad") => `(tactic| skip)
local macro_rules | `(tactic| walk_at "pad") => `(tactic| skip)
local macro_rules | `(tactic| walk_at "pad") => `(tactic| skip)
local macro_rules | `(tactic| walk_at "pad") => `(tactic| skip)
local macro_rules | `(tactic| walk_at "pad") => `(tactic| skip)
theorem fresh_Y9 : True := by
  w_top off
  trivial
local macro_rules | `(tactic| walk_at "my steps") => `(tactic| repeat' (first | (k_unfold; (try dsimp only)) | (k_end; wrow_close) | ((try dsimp only); walk1) | (leave1; walk_say "STEP leave1"; try dsimp only) | fail "no step"))
local macro_rules | `(tactic| k_mem) => `(tactic| assumption)
local macro_rules | `(tactic| k_all) => `(tactic| first | assumption | exact low_ne (by assumption) (by omega))
local macro_rules | `(tactic| walk_at "eval Name") => `(tactic| (k_dflt (refine' ldM ?k1 ?k2 ?_ ?k3 ?k4 ?k5; (case k1 => k_asm); (case k2 => assumption); (case k3 => exact rfl); (case k4 => exact rfl); (case k5 => decide)); (try dsimp only)))
local macro_rules | `(tactic| walk_at "exec For") => `(tactic| ((rename Fr _ _ _ _ => lF'); (with_unfolding_all refine' For_invVF lF' ?k1 ?k2 ?_; (case k1 => exact rfl); (case k2 => exact rfl))))
local macro_rules | `(tactic| walk_at "TurnPost") => `(tactic| dsimp only [TurnPost])
local macro_rules | `(tactic| walk_at "call type:range") => `(tactic| (k_dflt (first | (refine' range2N ?F ?N ?_; (case F => k_asm); (case N => k_asm)) | (refine' range1N ?F ?N ?_; (case F => k_asm); (case N => k_asm))); intro r' h' tk' t1' t2' t3' F' N' l1; (try k_lt l1); (try k_sweep)))
local macro_rules | `(tactic| walk_at "eval ListComp") => `(tactic| ((rename Fr _ _ _ _ => lF'); (with_unfolding_all refine' cx_eval lF' ?k1 ?k2 ?k3 ?k4 ?k5 ?_; (case k1 => first | exact rfl | with_unfolding_all rfl); (case k2 => decide +kernel); (case k3 => exact rfl); (case k4 => decide +kernel); (case k5 => (intro _; with_unfolding_all rfl)))))
local macro_rules | `(tactic| walk_at "CxSrc") => `(tactic| fail "here")
section
variable {prog : Program} {w : World} {A : Around} {E : Value → Shared → Prop} {s : Shared} {h₀ : Heap} {L : Addr} {m : Str → Option Value} {news : Led}
theorem intItemL {value slice : Expr} {l : Addr} {vs : List Value} {ns : List Int} {i k : Nat} {u : Tok} {Q : Value → Shared → Prop} (N : News h₀ L s.heap news) (hm : (l, W.listOf vs.toArray k) ∈ news) (hi : IntsAre vs ns) (hlt : i < ns.length) (h100 : ns.length ≤ 100) (h : ∀ t, Q (.int (ns.getD i 0) t) s)
    (hs : subscripted slice false (.ref l) (.int (i : Int) u) = operate [.ref l, .int (i : Int) u] (getItem (.ref l) (.int (i : Int) u))) (hg : ∀ r, letTemporaryGo value (.ref l) r = pure ()) :
    wpAny (model prog w) A (subscriptTail value slice (.ref l) (.int (i : Int) u)) Q E s := by
  have hlv : i < vs.length := by rw [hi.length]; exact hlt
  obtain ⟨z, t, e, hz⟩ := hi.at i _ (List.getElem?_eq_getElem hlv)
  refine item_listL (isL N hm) (by omega) (by omega) (x := .int (ns.getD i 0) t) ?_ (h t) hs hg
  rw [show ((i : Int)).toNat = i from Int.toNat_natCast i, List.getElem?_eq_getElem hlv, e, List.getD_eq_getElem?_getD, hz]; rfl
end
local macro_rules | `(tactic| walk_at "call builtin:len") => `(tactic| (k_dflt ((refine' lenL ?N ?M ?K ?L ?_); (case N => k_asm); (case M => k_mem); (case K => assumption); (case L => assumption)); intro t' tk'; (try dsimp only)))
local macro_rules | `(tactic| walk_at "subscriptTail") => `(tactic| ((with_reducible show wpAny _ _ (subscriptTail _ _ (Value.ref _) (Value.int _ _)) _ _ _); k_dflt ((refine' intItemL ?N ?M ?V ?lt ?l1 ?_ ?hs ?hg); (case N => k_asm); (case M => k_mem); (case V => assumption); (case lt => assumption); (case l1 => omega); (case hs => with_unfolding_all rfl); (case hg => (intro _; with_unfolding_all rfl))); intro t'; (try dsimp only)))
section
variable {w : World} {p : Program} {loose : List Str} {mean : ExcName → Option Value} {mg mb : Str → Option Value} {g : Heap} {L fa : Addr} {m : Str → Option Value} {rest : Led} {s : Shared} {Q : Flow → Shared → Prop} {E : Value → Shared → Prop} {sc : Scope} {st : Stmt}
theorem S8 {lD lN : Addr} {oD oN : Obj} {dvs nvs : List Value} {nums : List Int} {kD kN n : Nat} (hsc : sc = lawScope) (hst : some st = lawBody[8]?)
    (B : Below callerA g [] g) (F : Fr g L s.heap m) (X : (hd.heap_39 w.params).In g) (N : News g L s.heap ((155, tabObj #[]) :: rest)) (T : Top p loose mean mg mb g) (C155 : CodeHd g 157 155) (hne : ∀ p ∈ rest, p.1 ≠ 155)
    (hcD : (L + 1, oD) ∈ rest) (hdD : oD.data = .cell (some (.ref lD))) (hlD : (lD, W.listOf dvs.toArray kD) ∈ rest) (hn : dvs.length = n) (h4 : n ≤ 4)
    (hcN : (L + 1 + 1 + 1 + 1 + 1, oN) ∈ rest) (hdN : oN.data = .cell (some (.ref lN))) (hlN : (lN, W.listOf nvs.toArray kN) ∈ rest) (hi : IntsAre nvs nums) (hln : nums.length = n)
    (hQ : ∀ h' tk' O ovs (os : List Nat) k ps, Fr g L h' (fun z => if z = Str.ofString "order" then some (.ref O) else m z) → News g L h' ((155, tabObj ps) :: (O, W.listOf ovs.toArray k) :: rest) → (∀ q ∈ (155, tabObj #[]) :: rest, q.1 < O) → IntsAre ovs (os.map fun i : Nat => (i : Int)) → os.Perm (List.range n) → Q .next { s with heap := h', toks := tk' }) :
    wpAny (model Row.prog w) (LawA sc L fa) (exec st (lawEnv sc L fa)) Q E s := by
  conv at hsc => rhs; whnf
  conv at hst => rhs; whnf
  have hst := Option.some.inj hst
  subst hsc hst
  dsimp only [LawA, lawEnv, LawE]
  have hcD' : (L + 1, oD) ∈ (155, tabObj #[]) :: rest := .tail _ hcD
  have hcN' : (L + 1 + 1 + 1 + 1 + 1, oN) ∈ (155, tabObj #[]) :: rest := .tail _ hcN
  have h100 : n ≤ 100 := by omega
  walk_at "my steps"
  with_unfolding_all show wpAny _ _ (call (.builtin "sorted") [.ref _] [(Str.ofString "key", .ref _)]) _ _ _
  refine sortR (n := n) (fun i => (nums.getD i 0).fdiv 64) rfl (by k_asm) (by k_asm) (.tail _ (.tail _ (.head _))) ⟨by omega, by omega⟩ (Int.toNat_natCast _) h4 ?turn ?done
  case turn =>
    intro i k h tk own hin F9 N9
    have hin' : i < nums.length := by omega
    simp only [List.cons_append] at N9
    have hcN9 : (L + 1 + 1 + 1 + 1 + 1, oN) ∈ rest ++ own := List.mem_append_left _ hcN
    have hlN9 : (lN, W.listOf nvs.toArray kN) ∈ rest ++ own := List.mem_append_left _ hlN
    obtain ⟨rest9, hr9⟩ : ∃ r, r = rest ++ own := ⟨_, rfl⟩
    rw [← hr9] at N9 hcN9 hlN9
    walk_at "my steps"
  case done =>
    intro D h tk out c os F9 N9 lt9 hi9 hp9
    walk_at "my steps"
    refine hQ _ _ D out os c _ (by k_asm) (news_sub (by assumption) (List.forall_mem_cons.mpr ⟨.tail _ (.tail _ (.tail _ (.tail _ (.head _)))), List.forall_mem_cons.mpr ⟨.head _, fun p hp => .tail _ (.tail _ (.tail _ (.tail _ (.tail _ hp))))⟩⟩)) ?l1 hi9 hp9
    case l1 =>
      intro q hq
      rcases List.mem_cons.mp hq with rfl | hq
      · have h155 := lt9 _ (List.Mem.tail _ (List.Mem.tail _ (List.Mem.tail _ (List.Mem.head _))))
        exact h155
      · exact lt9 q (.tail _ (.tail _ (.tail _ (.tail _ hq))))
end
end Mine

/- Y10 -/
namespace Mine
set_option maxHeartbeats 1000000
set_option pp.deepTerms false
set_option pp.deepTerms.threshold 8
set_option linter.unusedVariables false
local macro_rules | `(tactic| walk_at "pad") => `(tactic| skip)
local macro_rules | `(tactic| walk_at "pad") => `(tactic| skip)
local macro_rules | `(tactic| walk_at "pad") => `(tactic| skip)
local macro_rules | `(tactic| walk_at "pad") => `(tactic| skip)
local macro_rules | `(tactic| walk_at "pad") => `(tactic| skip)
local macro_rules | `(tactic| walk_at "pad") => `(tactic| skip)
local macro_rules | `(tactic| walk_at "pad") => `(tactic| skip)
local macro_rules | `(tactic| walk_at "pad") => `(tactic| skip)
local macro_rules | `(tactic| walk_at "pad") => `(tactic| skip)
local macro_rules | `(tactic| walk_at "pad") => `(tactic| skip)
local macro_rules | `(tactic| walk_at "pad") => `(tactic| skip)
local macro_rules | `(tactic| walk_at "pad") => `(tactic| skip)
local macro_rules | `(tactic| walk_at "pad") => `(tactic| skip)
local macro_rules | `(tactic| walk_at "pad") => `(tactic| skip)
local macro_rules | `(tactic| walk_at "pad") => `(tactic| skip)
local macro_rules | `(tactic| walk_at "pad") => `(tactic| skip)
local macro_rules | `(tactic| walk_at "pad") => `(tactic| skip)
local macro_rules | `(tactic| walk_at "pad") => `(tactic| skip)
local macro_rules | `(tactic| walk_at "pad") => `(tactic| skip)
local macro_rules | `(tactic| walk_at "pad") => `(tactic| skip)
local macro_rules | `(tactic| walk_at "pad") => `(tactic| skip)
local macro_rules | `(tactic| walk_at "pad") => `(tactic| skip)
local macro_rules | `(tactic| walk_at "pad") => `(tactic| skip)
local macro_rules | `(tactic| walk_at "pad") => `(tactic| skip)
local macro_rules | `(tactic| walk_at "pad") => `(tactic| skip)
local macro_rules | `(tactic| walk_at "pad") => `(tactic| skip)
local macro_rules | `(tactic| walk_at "pad") => `(tactic| skip)
local macro_rules | `(tactic| walk_at "pad") => `(tactic| skip)
local macro_rules | `(tactic| walk_at "pad") => `(tactic| skip)
local macro_rules | `(tactic| walk_at "pad") => `(tactic| skip)
local macro_rules | `(tactic| walk_at "pad") => `(tactic| skip)
local macro_rules | `(tactic| walk_at "pad") => `(tactic| skip)
local macro_rules | `(tactic| walk_at "pad") => `(tactic| skip)
local macro_rules | `(tactic| walk_at "pad") => `(tactic| skip)
local macro_rules | `(tactic| walk_at "pad") => `(tactic| skip)
local macro_rules | `(tactic| walk_at "pad") => `(tactic| skip)
local macro_rules | `(tactic| walk_at "pad") => `(tactic| skip)
local macro_rules | `(tactic| walk_at "pad") => `(tactic| skip)
local macro_rules | `(tactic| walk_at "pad") => `(tactic| skip)
local macro_rules | `(tactic| walk_at "pad") => `(tactic| skip)
local macro_rules | `(tactic| walk_at "pad") => `(tactic| skip)
local macro_rules | `(tactic| walk_at "pad") => `(tactic| skip)
local macro_rules | `(tactic| walk_at "pad") => `(tactic| skip)
local macro_rules | `(tactic| walk_at "pad") => `(tactic| skip)
local macro_rules | `(tactic| walk_at "pad") => `(tactic| skip)
local macro_rules | `(tactic| walk_at "pad") => `(tactic| skip)
local macro_rules | `(tactic| walk_at "pad") => `(tactic| skip)
local macro_rules | `(tactic| walk_at "pad") => `(tactic| skip)
local macro_rules | `(tactic| walk_at "pad") => `(tactic| skip)
local macro_rules | `(tactic| walk_at "pad") => `(tactic| skip)
local macro_rules | `(tactic| walk_at "pad") => `(tactic| skip)
local macro_rules | `(tactic| walk_at "pad") => `(tactic| skip)
local macro_rules | `(tactic| walk_at "pad") => `(tactic| skip)
local macro_rules | `(tactic| walk_at "pad") => `(tactic| skip)
local macro_rules | `(tactic| walk_at "pad") => `(tactic| skip)
local macro_rules | `(tactic| walk_at "pad") => `(tactic| skip)
local macro_rules | `(tactic| walk_at "pad") => `(tactic| skip)
local macro_rules | `(tactic| walk_at "pad") => `(tactic| skip)
local macro_rules | `(tactic| walk_at "pad") => `(tactic| skip)
local macro_rules | `(tactic| walk_at "pad") => `(tactic| skip)
local macro_rules | `(tactic| walk_at "pad") => `(tactic| skip)
local macro_rules | `(tactic| walk_at "pad") => `(tactic| skip)
local macro_rules | `(tactic| walk_at "pad") => `(tactic| skip)
local macro_rules | `(tactic| walk_at "pad") => `(tactic| skip)
local macro_rules | `(tactic| walk_at "pad") => `(tactic| skip)
local macro_rules | `(tactic| walk_at "pad") => `(tactic| skip)
local macro_rules | `(tactic| walk_at "pad") => `(tactic| skip)
local macro_rules | `(tactic| walk_at "pad") => `(tactic| skip)
local macro_rules | `(tactic| walk_at "pad") => `(tactic| skip)
local macro_rules | `(tactic| walk_at "pad") => `(tactic| skip)
local macro_rules | `(tactic| walk_at "pad") => `(tactic| skip)
local macro_rules | `(tactic| walk_at "pad") => `(tactic| skip)
local macro_rules | `(tactic| walk_at "pad") => `(tactic| skip)
local macro_rules | `(tactic| walk_at "pad") => `(tactic| skip)
local macro_rules | `(tactic| walk_at "pad") => `(tactic| skip)
local macro_rules | `(tactic| walk_at "pad") => `(tactic| skip)
local macro_rules | `(tactic| walk_at "pad") => `(tactic| skip)
local macro_rules | `(tactic| walk_at "pad") => `(tactic| skip)
local macro_rules | `(tactic| walk_at "pad") => `(tactic| skip)
local macro_rules | `(tactic| walk_at "pad") => `(tactic| skip)
local macro_rules | `(tactic| walk_at "pad") => `(tactic| skip)
local macro_rules | `(tactic| walk_at "pad") => `(tactic| skip)
local macro_rules | `(tactic| walk_at "pad") => `(tactic| skip)
local macro_rules | `(tactic| walk_at "pad") => `(tactic| skip)
local macro_rules | `(tactic| walk_at "pad") => `(tactic| skip)
local macro_rules | `(tactic| walk_at "pad") => `(tactic| skip)
local macro_rules | `(tactic| walk_at "pad") => `(tactic| skip)
local macro_rules | `(tactic| walk_at "pad") => `(tactic| skip)
local macro_rules | `(tactic| walk_at "pad") => `(tactic| skip)
local macro_rules | `(tactic| walk_at "pad") => `(tactic| skip)
local macro_rules | `(tactic| walk_at "pad") => `(tactic| skip)
local macro_rules | `(tactic| walk_at "pad") => `(tactic| skip)
local macro_rules | `(tactic| walk_at "pad") => `(tactic| skip)
local macro_rules | `(tactic| walk_at "pad") => `(tactic| skip)
local macro_rules | `(tactic| walk_at "pad") => `(tactic| skip)
local macro_rules | `(tactic| walk_at "pad") => `(tactic| skip)
local macro_rules | `(tactic| walk_at "pad") => `(tactic| skip)
local macro_rules | `(tactic| walk_at "pad") => `(tactic| skip)
local macro_rules | `(tactic| walk_at "pad") => `(tactic| skip)
local macro_rules | `(tactic| walk_at "pad") => `(tactic| skip)
local macro_rules | `(tactic| walk_at "pad") => `(tactic| skip)
local macro_rules | `(tactic| walk_at "pad") => `(tactic| skip)
local macro_rules | `(tactic| walk_at "pad") => `(tactic| skip)
local macro_rules | `(tactic| walk_at "pad") => `(tactic| skip)
local macro_rules | `(tactic| walk_at "pad") => `(tactic| skip)
local macro_rules | `(tactic| walk_at "pad") => `(tactic| skip)
local macro_rules | `(tactic| walk_at "pad") => `(tactic| skip)
local macro_rules | `(tactic| walk_at "pad") => `(tactic| skip)
local macro_rules | `(tactic| walk_at "pad") => `(tactic| skip)
local macro_rules | `(tactic| walk_at "pad") => `(tactic| skip)
local macro_rules | `(tactic| walk_at "pad") => `(tactic| skip)
local macro_rules | `(tactic| walk_at "pad") => `(tactic| skip)
local macro_rules | `(tactic| walk_at "pad") => `(tactic| skip)
local macro_rules | `(tactic| walk_at "pad") => `(tactic| skip)
local macro_rules | `(tactic| walk_at "pad") => `(tactic| skip)
local macro_rules | `(tactic| walk_at "pad") => `(tactic| skip)
local macro_rules | `(tactic| walk_at "pad") => `(tactic| skip)
local macro_rules | `(tactic| walk_at "pad") => `(tactic| skip)
local macro_rules | `(tactic| walk_at "pad") => `(tactic| skip)
local macro_rules | `(tactic| walk_at "pad") => `(tactic| skip)
local macro_rules | `(tactic| walk_at "pad") => `(tactic| skip)
local macro_rules | `(tactic| walk_at "pad") => `(tactic| skip)
local macro_rules | `(tactic| walk_at "pad") => `(tactic| skip)
local macro_rules | `(tactic| walk_at "pad") => `(tactic| skip)
local macro_rules | `(tactic| walk_at "pad") => `(tactic| skip)
local macro_rules | `(tactic| walk_at "pad") => `(tactic| skip)
local macro_rules | `(tactic| walk_at "pad") => `(tactic| skip)
local macro_rules | `(tactic| walk_at "pad") => `(tactic| skip)
local macro_rules | `(tactic| walk_at "pad") => `(tactic| skip)
local macro_rules | `(tactic| walk_at "pad") => `(tactic| skip)
local macro_rules | `(tactic| walk_at "pad") => `(tactic| skip)
local macro_rules | `(tactic| walk_at "pad") => `(tactic| skip)
local macro_rules | `(tactic| walk_at "pad") => `(tactic| skip)
local macro_rules | `(tactic| walk_at "pad") => `(tactic| skip)
local macro_rules | `(tactic| walk_at "pad") => `(tactic| skip)
local macro_rules | `(tactic| walk_at "pad") => `(tactic| skip)
local macro_rules | `(tactic| walk_at "pad") => `(tactic| skip)
local macro_rules | `(tactic| walk_at "pad") => `(tactic| skip)
local macro_rules | `(tactic| walk_at "pad") => `(tactic| skip)
local macro_rules | `(tactic| walk_at "pad") => `(tactic| skip)
local macro_rules | `(tactic| walk_at "pad") => `(tactic| skip)
local macro_rules | `(tactic| walk_at "pad") => `(tactic| skip)
local macro_rules | `(tactic| walk_at "pad") => `(tactic| skip)
local macro_rules | `(tactic| walk_at "pad") => `(tactic| skip)
local macro_rules | `(tactic| walk_at "pad") => `(tactic| skip)
local macro_rules | `(tactic| walk_at "pad") => `(tactic| skip)
local macro_rules | `(tactic| walk_at "pad") => `(tactic| skip)
local macro_rules | `(tactic| walk_at "pad") => `(tactic| skip)
local macro_rules | `(tactic| walk_at "pad") => `(tactic| skip)
local macro_rules | `(tactic| walk_at "pad") => `(tactic| skip)
local macro_rules | `(tactic| walk_at "pad") => `(tactic| skip)
local macro_rules | `(tactic| walk_at "pad") => `(tactic| skip)
local macro_rules | `(tactic| walk_at "pad") => `(tactic| skip)
local macro_rules | `(tactic| walk_at "pad") => `(tactic| skip)
local macro_rules | `(tactic| walk_at "pad") => `(tactic| skip)
local macro_rules | `(tactic| walk_at "pad") => `(tactic| skip)
theorem fresh_Y10 : True := by
  w_top off
  trivial
local macro_rules | `(tactic| walk_at "my steps") => `(tactic| repeat' (first | (k_unfold; (try dsimp only)) | (k_end; wrow_close) | ((try dsimp only); walk1) | (leave1; walk_say "STEP leave1"; try dsimp only) | fail "no step"))
local macro_rules | `(tactic| k_mem) => `(tactic| assumption)
local macro_rules | `(tactic| k_all) => `(tactic| first | assumption | exact low_ne (by assumption) (by omega))
local macro_rules | `(tactic| walk_at "eval Name") => `(tactic| (k_dflt (refine' ldM ?k1 ?k2 ?_ ?k3 ?k4 ?k5; (case k1 => k_asm); (case k2 => assumption); (case k3 => exact rfl); (case k4 => exact rfl); (case k5 => decide)); (try dsimp only)))
local macro_rules | `(tactic| walk_at "exec For") => `(tactic| ((rename Fr _ _ _ _ => lF'); (with_unfolding_all refine' For_invVF lF' ?k1 ?k2 ?_; (case k1 => exact rfl); (case k2 => exact rfl))))
local macro_rules | `(tactic| walk_at "TurnPost") => `(tactic| dsimp only [TurnPost])
local macro_rules | `(tactic| walk_at "call type:range") => `(tactic| (k_dflt (first | (refine' range2N ?F ?N ?_; (case F => k_asm); (case N => k_asm)) | (refine' range1N ?F ?N ?_; (case F => k_asm); (case N => k_asm))); intro r' h' tk' t1' t2' t3' F' N' l1; (try k_lt l1); (try k_sweep)))
local macro_rules | `(tactic| walk_at "eval ListComp") => `(tactic| ((rename Fr _ _ _ _ => lF'); (with_unfolding_all refine' cx_eval lF' ?k1 ?k2 ?k3 ?k4 ?k5 ?_; (case k1 => first | exact rfl | with_unfolding_all rfl); (case k2 => decide +kernel); (case k3 => exact rfl); (case k4 => decide +kernel); (case k5 => (intro _; with_unfolding_all rfl)))))
local macro_rules | `(tactic| walk_at "CxSrc") => `(tactic| fail "here")
section
variable {prog : Program} {w : World} {A : Around} {E : Value → Shared → Prop} {s : Shared} {h₀ : Heap} {L : Addr} {m : Str → Option Value} {news : Led}
theorem listR {r : Addr} {b : Int} {t u v : Tok} {n : Nat} {Q : Value → Shared → Prop} (hh : A.handled = none) (F : Fr h₀ L s.heap m) (N : News h₀ L s.heap news) (hr : (r, rngO 0 b t u v) ∈ news) (hb : 0 ≤ b ∧ b ≤ 1000) (hn : b.toNat = n)
    (h : ∀ D vs h' tk c, IntsAre vs (rangeI n) → Fr h₀ L h' m → News h₀ L h' ((D, W.listOf vs.toArray c) :: news) → (∀ q ∈ news, q.1 < D) → Q (.ref D) { s with heap := h', toks := tk }) :
    wpAny (model prog w) A (call (.type "list") [.ref r]) Q E s := by
  have hsz : Builtin.Range.rangeSize 0 b 1 = ((n : Nat) : Int) := by rw [rangeSize_nat]; congr 1; omega
  refine call_list_range hh (N _ hr).1 (smallR (by decide) hb) hsz (by omega) fun h' tk acc' c' keep hS hacc => ?_
  exact h _ acc'.toList h' tk c' (items_ints hacc) (F.kept keep) (N.kept_cons F keep (Nat.le_refl _) (by simpa using hS)) fun q hq => Heap.lt_size (N q hq).1
end
local macro_rules | `(tactic| walk_at "call builtin:len") => `(tactic| (k_dflt ((refine' lenL ?N ?M ?K ?L ?_); (case N => k_asm); (case M => k_mem); (case K => assumption); (case L => assumption)); intro t' tk'; (try dsimp only)))
local macro_rules | `(tactic| walk_at "call type:list") => `(tactic| (k_dflt ((refine' listR ?hh ?F ?N ?r ?b ?n ?_); (case hh => exact rfl); (case F => k_asm); (case N => k_asm); (case r => k_mem); (case b => omega); (case n => exact Int.toNat_natCast _)); intro D' v' h' tk' c' hi' F' N' l1; (try k_lt l1); (try k_sweep)))
section
variable {w : World} {p : Program} {loose : List Str} {mean : ExcName → Option Value} {mg mb : Str → Option Value} {g : Heap} {L fa : Addr} {m : Str → Option Value} {rest : Led} {s : Shared} {Q : Flow → Shared → Prop} {E : Value → Shared → Prop} {sc : Scope} {st : Stmt}
theorem S9 {lD : Addr} {oD : Obj} {dvs : List Value} {kD n : Nat} (hsc : sc = lawScope) (hst : some st = lawBody[9]?)
    (B : Below callerA g [] g) (F : Fr g L s.heap m) (X : (hd.heap_39 w.params).In g) (N : News g L s.heap rest) (T : Top p loose mean mg mb g)
    (hcD : (L + 1, oD) ∈ rest) (hdD : oD.data = .cell (some (.ref lD))) (hlD : (lD, W.listOf dvs.toArray kD) ∈ rest) (hn : dvs.length = n) (h4 : n ≤ 4)
    (hQ : ∀ h' tk' K kvs k, Fr g L h' (fun z => if z = Str.ofString "kept" then some (.ref K) else m z) → News g L h' ((K, W.listOf kvs.toArray k) :: rest) → (∀ q ∈ rest, q.1 < K) → IntsAre kvs (rangeI n) → Q .next { s with heap := h', toks := tk' }) :
    wpAny (model Row.prog w) (LawA sc L fa) (exec st (lawEnv sc L fa)) Q E s := by
  conv at hsc => rhs; whnf
  conv at hst => rhs; whnf
  have hst := Option.some.inj hst
  subst hsc hst
  dsimp only [LawA, lawEnv, LawE]
  have h100 : n ≤ 100 := by omega
  walk_at "my steps"
  refine hQ _ _ _ _ _ (by k_asm) (news_sub (by assumption) (List.forall_mem_cons.mpr ⟨.head _, fun p hp => .tail _ (.tail _ hp)⟩)) (allLt_mem (And.right (by assumption))) (by assumption)
theorem S11 (hsc : sc = lawScope) (hst : some st = lawBody[11]?)
    (B : Below callerA g [] g) (F : Fr g L s.heap m) (X : (hd.heap_39 w.params).In g) (N : News g L s.heap rest) (T : Top p loose mean mg mb g)
    (hQ : ∀ h' tk' D, Fr g L h' (fun z => if z = Str.ofString "needed" then some (.ref D) else m z) → News g L h' ((D, W.listOf ([] : List Value).toArray 0) :: rest) → (∀ q ∈ rest, q.1 < D) → Q .next { s with heap := h', toks := tk' }) :
    wpAny (model Row.prog w) (LawA sc L fa) (exec st (lawEnv sc L fa)) Q E s := by
  conv at hsc => rhs; whnf
  conv at hst => rhs; whnf
  have hst := Option.some.inj hst
  subst hsc hst
  dsimp only [LawA, lawEnv, LawE]
  walk_at "my steps"
  exact hQ _ _ _ (by k_asm) (by k_asm) (by first | assumption | exact allLt_mem (by assumption))
end
end Mine

/- Y11 -/
namespace Mine
set_option maxHeartbeats 1000000
set_option pp.deepTerms false
set_option pp.deepTerms.threshold 8
set_option linter.unusedVariables false
local macro_rules | `(tactic| walk_at "pad") => `(tactic| skip)
local macro_rules | `(tactic| walk_at "pad") => `(tactic| skip)
local macro_rules | `(tactic| walk_at "pad") => `(tactic| skip)
local macro_rules | `(tactic| walk_at "pad") => `(tactic| skip)
local macro_rules | `(tactic| walk_at "pad") => `(tactic| skip)
local macro_rules | `(tactic| walk_at "pad") => `(tactic| skip)
local macro_rules | `(tactic| walk_at "pad") => `(tactic| skip)
local macro_rules | `(tactic| walk_at "pad") => `(tactic| skip)
local macro_rules | `(tactic| walk_at "pad") => `(tactic| skip)
local macro_rules | `(tactic| walk_at "pad") => `(tactic| skip)
local macro_rules | `(tactic| walk_at "pad") => `(tactic| skip)
local macro_rules | `(tactic| walk_at "pad") => `(tactic| skip)
local macro_rules | `(tactic| walk_at "pad") => `(tactic| skip)
local macro_rules | `(tactic| walk_at "pad") => `(tactic| skip)
local macro_rules | `(tactic| walk_at "pad") => `(tactic| skip)
local macro_rules | `(tactic| walk_at "pad") => `(tactic| skip)
local macro_rules | `(tactic| walk_at "pad") => `(tactic| skip)
local macro_rules | `(tactic| walk_at "pad") => `(tactic| skip)
local macro_rules | `(tactic| walk_at "pad") => `(tactic| skip)
local macro_rules | `(tactic| walk_at "pad") => `(tactic| skip)
local macro_rules | `(tactic| walk_at "pad") => `(tactic| skip)
local macro_rules | `(tactic| walk_at "pad") => `(tactic| skip)
local macro_rules | `(tactic| walk_at "pad") => `(tactic| skip)
local macro_rules | `(tactic| walk_at "pad") => `(tactic| skip)
local macro_rules | `(tactic| walk_at "pad") => `(tactic| skip)
local macro_rules | `(tactic| walk_at "pad") => `(tactic| skip)
local macro_rules | `(tactic| walk_at "pad") => `(tactic| skip)
local macro_rules | `(tactic| walk_at "pad") => `(tactic| skip)
local macro_rules | `(tactic| walk_at "pad") => `(tactic| skip)
local macro_rules | `(tactic| walk_at "pad") => `(tactic| skip)
local macro_rules | `(tactic| walk_at "pad") => `(tactic| skip)
local macro_rules | `(tactic| walk_at "pad") => `(tactic| skip)
local macro_rules | `(tactic| walk_at "pad") => `(tactic| skip)
local macro_rules | `(tactic| walk_at "pad") => `(tactic| skip)
local macro_rules | `(tactic| walk_at "pad") => `(tactic| skip)
local macro_rules | `(tactic| walk_at "pad") => `(tactic| skip)
local macro_rules | `(tactic| walk_at "pad") => `(tactic| skip)
local macro_rules | `(tactic| walk_at "pad") => `(tactic| skip)
local macro_rules | `(tactic| walk_at "pad") => `(tactic| skip)
local macro_rules | `(tactic| walk_at "pad") => `(tactic| skip)
local macro_rules | `(tactic| walk_at "pad") => `(tactic| skip)
local macro_rules | `(tactic| walk_at "pad") => `(tactic| skip)
local macro_rules | `(tactic| walk_at "pad") => `(tactic| skip)
local macro_rules | `(tactic| walk_at "pad") => `(tactic| skip)
local macro_rules | `(tactic| walk_at "pad") => `(tactic| skip)
local macro_rules | `(tactic| walk_at "pad") => `(tactic| skip)
local macro_rules | `(tactic| walk_at "pad") => `(tactic| skip)
local macro_rules | `(tactic| walk_at "pad") => `(tactic| skip)
local macro_rules | `(tactic| walk_at "pad") => `(tactic| skip)
local macro_rules | `(tactic| walk_at "pad") => `(tactic| skip)
local macro_rules | `(tactic| walk_at "pad") => `(tactic| skip)
local macro_rules | `(tactic| walk_at "pad") => `(tactic| skip)
local macro_rules | `(tactic| walk_at "pad") => `(tactic| skip)
local macro_rules | `(tactic| walk_at "pad") => `(tactic| skip)
local macro_rules | `(tactic| walk_at "pad") => `(tactic| skip)
local macro_rules | `(tactic| walk_at "pad") => `(tactic| skip)
local macro_rules | `(tactic| walk_at "pad") => `(tactic| skip)
local macro_rules | `(tactic| walk_at "pad") => `(tactic| skip)
local macro_rules | `(tactic| walk_at "pad") => `(tactic| skip)
local macro_rules | `(tactic| walk_at "pad") => `(tactic| skip)
local macro_rules | `(tactic| walk_at "pad") => `(tactic| skip)
local macro_rules | `(tactic| walk_at "pad") => `(tactic| skip)
local macro_rules | `(tactic| walk_at "pad") => `(tactic| skip)
local macro_rules | `(tactic| walk_at "pad") => `(tactic| skip)
local macro_rules | `(tactic| walk_at "pad") => `(tactic| skip)
local macro_rules | `(tactic| walk_at "pad") => `(tactic| skip)
local macro_rules | `(tactic| walk_at "pad") => `(tactic| skip)
local macro_rules | `(tactic| walk_at "pad") => `(tactic| skip)
local macro_rules | `(tactic| walk_at "pad") => `(tactic| skip)
local macro_rules | `(tactic| walk_at "pad") => `(tactic| skip)
local macro_rules | `(tactic| walk_at "pad") => `(tactic| skip)
local macro_rules | `(tactic| walk_at "pad") => `(tactic| skip)
local macro_rules | `(tactic| walk_at "pad") => `(tactic| skip)
local macro_rules | `(tactic| walk_at "pad") => `(tactic| skip)
local macro_rules | `(tactic| walk_at "pad") => `(tactic| skip)
local macro_rules | `(tactic| walk_at "pad") => `(tactic| skip)
local macro_rules | `(tactic| walk_at "pad") => `(tactic| skip)
local macro_rules | `(tactic| walk_at "pad") => `(tactic| skip)
local macro_rules | `(tactic| walk_at "pad") => `(tactic| skip)
local macro_rules | `(tactic| walk_at "pad") => `(tactic| skip)
local macro_rules | `(tactic| walk_at "pad") => `(tactic| skip)
local macro_rules | `(tactic| walk_at "pad") => `(tactic| skip)
local macro_rules | `(tactic| walk_at "pad") => `(tactic| skip)
local macro_rules | `(tactic| walk_at "pad") => `(tactic| skip)
local macro_rules | `(tactic| walk_at "pad") => `(tactic| skip)
local macro_rules | `(tactic| walk_at "pad") => `(tactic| skip)
local macro_rules | `(tactic| walk_at "pad") => `(tactic| skip)
local macro_rules | `(tactic| walk_at "pad") => `(tactic| skip)
local macro_rules | `(tactic| walk_at "pad") => `(tactic| skip)
local macro_rules | `(tactic| walk_at "pad") => `(tactic| skip)
local macro_rules | `(tactic| walk_at "pad") => `(tactic| skip)
local macro_rules | `(tactic| walk_at "pad") => `(tactic| skip)
local macro_rules | `(tactic| walk_at "pad") => `(tactic| skip)
local macro_rules | `(tactic| walk_at "pad") => `(tactic| skip)
local macro_rules | `(tactic| walk_at "pad") => `(tactic| skip)
local macro_rules | `(tactic| walk_at "pad") => `(tactic| skip)
local macro_rules | `(tactic| walk_at "pad") => `(tactic| skip)
local macro_rules | `(tactic| walk_at "pad") => `(tactic| skip)
local macro_rules | `(tactic| walk_at "pad") => `(tactic| skip)
local macro_rules | `(tactic| walk_at "pad") => `(tactic| skip)
local macro_rules | `(tactic| walk_at "pad") => `(tactic| skip)
local macro_rules | `(tactic| walk_at "pad") => `(tactic| skip)
local macro_rules | `(tactic| walk_at "pad") => `(tactic| skip)
local macro_rules | `(tactic| walk_at "pad") => `(tactic| skip)
local macro_rules | `(tactic| walk_at "pad") => `(tactic| skip)
local macro_rules | `(tactic| walk_at "pad") => `(tactic| skip)
local macro_rules | `(tactic| walk_at "pad") => `(tactic| skip)
local macro_rules | `(tactic| walk_at "pad") => `(tactic| skip)
local macro_rules | `(tactic| walk_at "pad") => `(tactic| skip)
local macro_rules | `(tactic| walk_at "pad") => `(tactic| skip)
local macro_rules | `(tactic| walk_at "pad") => `(tactic| skip)
local macro_rules | `(tactic| walk_at "pad") => `(tactic| skip)
local macro_rules | `(tactic| walk_at "pad") => `(tactic| skip)
local macro_rules | `(tactic| walk_at "pad") => `(tactic| skip)
local macro_rules | `(tactic| walk_at "pad") => `(tactic| skip)
local macro_rules | `(tactic| walk_at "pad") => `(tactic| skip)
local macro_rules | `(tactic| walk_at "pad") => `(tactic| skip)
local macro_rules | `(tactic| walk_at "pad") => `(tactic| skip)
local macro_rules | `(tactic| walk_at "pad") => `(tactic| skip)
local macro_rules | `(tactic| walk_at "pad") => `(tactic| skip)
local macro_rules | `(tactic| walk_at "pad") => `(tactic| skip)
local macro_rules | `(tactic| walk_at "pad") => `(tactic| skip)
local macro_rules | `(tactic| walk_at "pad") => `(tactic| skip)
local macro_rules | `(tactic| walk_at "pad") => `(tactic| skip)
local macro_rules | `(tactic| walk_at "pad") => `(tactic| skip)
local macro_rules | `(tactic| walk_at "pad") => `(tactic| skip)
local macro_rules | `(tactic| walk_at "pad") => `(tactic| skip)
local macro_rules | `(tactic| walk_at "pad") => `(tactic| skip)
local macro_rules | `(tactic| walk_at "pad") => `(tactic| skip)
local macro_rules | `(tactic| walk_at "pad") => `(tactic| skip)
local macro_rules | `(tactic| walk_at "pad") => `(tactic| skip)
local macro_rules | `(tactic| walk_at "pad") => `(tactic| skip)
local macro_rules | `(tactic| walk_at "pad") => `(tactic| skip)
local macro_rules | `(tactic| walk_at "pad") => `(tactic| skip)
local macro_rules | `(tactic| walk_at "pad") => `(tactic| skip)
local macro_rules | `(tactic| walk_at "pad") => `(tactic| skip)
local macro_rules | `(tactic| walk_at "pad") => `(tactic| skip)
local macro_rules | `(tactic| walk_at "pad") => `(tactic| skip)
local macro_rules | `(tactic| walk_at "pad") => `(tactic| skip)
local macro_rules | `(tactic| walk_at "pad") => `(tactic| skip)
local macro_rules | `(tactic| walk_at "pad") => `(tactic| skip)
local macro_rules | `(tactic| walk_at "pad") => `(tactic| skip)
local macro_rules | `(tactic| walk_at "pad") => `(tactic| skip)
local macro_rules | `(tactic| walk_at "pad") => `(tactic| skip)
local macro_rules | `(tactic| walk_at "pad") => `(tactic| skip)
local macro_rules | `(tactic| walk_at "pad") => `(tactic| skip)
local macro_rules | `(tactic| walk_at "pad") => `(tactic| skip)
local macro_rules | `(tactic| walk_at "pad") => `(tactic| skip)
local macro_rules | `(tactic| walk_at "pad") => `(tactic| skip)
local macro_rules | `(tactic| walk_at "pad") => `(tactic| skip)
local macro_rules | `(tactic| walk_at "pad") => `(tactic| skip)
local macro_rules | `(tactic| walk_at "pad") => `(tactic| skip)
local macro_rules | `(tactic| walk_at "pad") => `(tactic| skip)
local macro_rules | `(tactic| walk_at "pad") => `(tactic| skip)
local macro_rules | `(tactic| walk_at "pad") => `(tactic| skip)
local macro_rules | `(tactic| walk_at "pad") => `(tactic| skip)
local macro_rules | `(tactic| walk_at "pad") => `(tactic| skip)
local macro_rules | `(tactic| walk_at "pad") => `(tactic| skip)
local macro_rules | `(tactic| walk_at "pad") => `(tactic| skip)
local macro_rules | `(tactic| walk_at "pad") => `(tactic| skip)
local macro_rules | `(tactic| walk_at "pad") => `(tactic| skip)
local macro_rules | `(tactic| walk_at "pad") => `(tactic| skip)
local macro_rules | `(tactic| walk_at "pad") => `(tactic| skip)
local macro_rules | `(tactic| walk_at "pad") => `(tactic| skip)
local macro_rules | `(tactic| walk_at "pad") => `(tactic| skip)
local macro_rules | `(tactic| walk_at "pad") => `(tactic| skip)
theorem fresh_Y11 : True := by
  w_top off
  trivial
local macro_rules | `(tactic| walk_at "my steps") => `(tactic| repeat' (first | (k_unfold; (try dsimp only)) | (k_end; wrow_close) | ((try dsimp only); walk1) | (leave1; walk_say "STEP leave1"; try dsimp only) | fail "no step"))
local macro_rules | `(tactic| k_mem) => `(tactic| assumption)
local macro_rules | `(tactic| k_all) => `(tactic| first | assumption | exact low_ne (by assumption) (by omega))
local macro_rules | `(tactic| walk_at "eval Name") => `(tactic| (k_dflt (refine' ldM ?k1 ?k2 ?_ ?k3 ?k4 ?k5; (case k1 => k_asm); (case k2 => assumption); (case k3 => exact rfl); (case k4 => exact rfl); (case k5 => decide)); (try dsimp only)))
local macro_rules | `(tactic| walk_at "exec For") => `(tactic| ((rename Fr _ _ _ _ => lF'); (with_unfolding_all refine' For_invVF lF' ?k1 ?k2 ?_; (case k1 => exact rfl); (case k2 => exact rfl))))
local macro_rules | `(tactic| walk_at "TurnPost") => `(tactic| dsimp only [TurnPost])
local macro_rules | `(tactic| walk_at "call type:range") => `(tactic| (k_dflt (first | (refine' range2N ?F ?N ?_; (case F => k_asm); (case N => k_asm)) | (refine' range1N ?F ?N ?_; (case F => k_asm); (case N => k_asm))); intro r' h' tk' t1' t2' t3' F' N' l1; (try k_lt l1); (try k_sweep)))
local macro_rules | `(tactic| walk_at "eval ListComp") => `(tactic| ((rename Fr _ _ _ _ => lF'); (with_unfolding_all refine' cx_eval lF' ?k1 ?k2 ?k3 ?k4 ?k5 ?_; (case k1 => first | exact rfl | with_unfolding_all rfl); (case k2 => decide +kernel); (case k3 => exact rfl); (case k4 => decide +kernel); (case k5 => (intro _; with_unfolding_all rfl)))))
local macro_rules | `(tactic| walk_at "CxSrc") => `(tactic| fail "here")
section
variable {prog : Program} {w : World} {A : Around} {E : Value → Shared → Prop} {s : Shared} {h₀ : Heap} {L : Addr} {m : Str → Option Value} {news : Led}
theorem addLb {a b : Addr} {vs ws : List Value} {n k : Nat} {Q : Value → Shared → Prop} (F : Fr h₀ L s.heap m) (N : News h₀ L s.heap news) (ha : (a, W.listOf vs.toArray n) ∈ news) (hb : (b, W.listOf ws.toArray k) ∈ news) (hz : vs.length + ws.length ≤ 100)
    (h : ∀ D h', Fr h₀ L h' m → News h₀ L h' ((D, W.listOf (vs ++ ws).toArray 0) :: news) → (∀ p ∈ news, p.1 < D) → Q (.ref D) { s with heap := h' }) :
    wpAny (model prog w) A (binaryOp .Add (.ref a) (.ref b)) Q E s :=
  add_lists F N (isL N ha) (isL N hb) (fun h' F' N' => h _ h' F' N' fun p hp => Heap.lt_size (N p hp).1) (by rw [sizeLine_eq]; omega)
theorem rungs3b : ∀ x ∈ hostsL, (rungsF x).length ≤ 4 := by decide +kernel
end
section
variable {prog : Program} {w : World} {A : Around} {E : Value → Shared → Prop} {s : Shared} {h₀ : Heap} {L : Addr} {m : Str → Option Value} {news : Led}
open PySem.SeqAt in
theorem inL {l : Addr} {vs : List Value} {ns : List Int} {k : Nat} {x : Int} {t : Tok} {Q : Value → Shared → Prop} (N : News h₀ L s.heap news) (hm : (l, W.listOf vs.toArray k) ∈ news) (hi : IntsAre vs ns) (h : Q (.bool (decide (x ∈ ns))) s)  :
    wpAny (model prog w) A (compareOp .In (.int x t) (.ref l)) Q E s := by
  refine in_list_ints (isL N hm) hi ?_
  have e : ns.any (· == x) = decide (x ∈ ns) := by
    rw [Bool.eq_iff_iff, decide_eq_true_eq, List.any_eq_true]
    constructor
    · rintro ⟨y, hy, e⟩; rw [← show y = x by simpa using e]; exact hy
    · intro hx; exact ⟨x, hx, by simp⟩
  rw [e]; exact h
theorem RulesIn.pick {led : Led} {vs : List Value} {ps : List (Str × Bool)} (h : RulesIn w led vs ps) {i : Nat} (hi : i < ps.length) : RuleIn w led (vs.getD i Value.none) (at0 ps i).1 (at0 ps i).2 := by
  have hi' : i < vs.length := by rw [h.length]; exact hi
  obtain ⟨d, b, e, hp⟩ := h.get i _ (List.getElem?_eq_getElem hi')
  rw [nat_getD hi']
  unfold at0
  rw [List.getD_eq_getElem?_getD, e]
  exact hp
theorem itemL {value slice : Expr} {l : Addr} {vs : List Value} {i k : Nat} {u : Tok} {Q : Value → Shared → Prop} (N : News h₀ L s.heap news) (hm : (l, W.listOf vs.toArray k) ∈ news) (hlt : i < vs.length) (h100 : vs.length ≤ 100) (h : Q (vs.getD i Value.none) s)
    (hs : subscripted slice false (.ref l) (.int (i : Int) u) = operate [.ref l, .int (i : Int) u] (getItem (.ref l) (.int (i : Int) u))) (hg : ∀ r, letTemporaryGo value (.ref l) r = pure ()) :
    wpAny (model prog w) A (subscriptTail value slice (.ref l) (.int (i : Int) u)) Q E s := by
  refine item_listL (isL N hm) (by omega) (by omega) ?_ h hs hg
  rw [show ((i : Int)).toNat = i from Int.toNat_natCast i, nat_getD hlt, List.getElem?_eq_getElem hlt]
def natsI (K : List Nat) : List Int := K.map fun i : Nat => (i : Int)
theorem natsI_at {K : List Nat} {i : Nat} {z : Int} (h : (natsI K)[i]? = some z) : ∃ j, K[i]? = some j ∧ z = (j : Int) := by
  unfold natsI at h
  rw [List.getElem?_map] at h
  cases e : K[i]? with
  | none => rw [e] at h; cases h
  | some k => rw [e] at h; simp at h; exact ⟨k, rfl, h.symm⟩
theorem nats_mem {K : List Nat} {k : Nat} (h : (k : Int) ∈ natsI K) : k ∈ K := by
  obtain ⟨j, hj, e⟩ := List.mem_map.mp h
  rw [← Int.ofNat.inj e]; exact hj
theorem strike_out {ds : List (Str × Bool)} {K : List Nat} {k : Nat} (h : ¬ (k : Int) ∈ natsI K) : strikeF ds K k = K := by
  unfold strikeF
  rw [if_neg fun q => h (List.mem_map.mpr ⟨k, q.1, rfl⟩)]
theorem strike_no {ds : List (Str × Bool)} {K : List Nat} {k : Nat} (h : ¬ answersF (sub ds (drp K k)) (hostsOf (verdF ds)) = dueOf (verdF ds)) : strikeF ds K k = K := by
  unfold strikeF
  rw [if_neg fun q => h q.2]
theorem drp_in {K : List Nat} {i j k : Nat} (h : K[i]? = some j) (hne : j ≠ k) : natsI (drp (K.take (i + 1)) k) = natsI (drp (K.take i) k) ++ [(j : Int)] := by
  unfold drp natsI
  rw [List.take_add_one, h, List.filter_append, List.map_append]
  simp [hne]
theorem drp_out {K : List Nat} {i j k : Nat} (h : K[i]? = some j) (hne : j = k) : natsI (drp (K.take (i + 1)) k) = natsI (drp (K.take i) k) := by
  unfold drp natsI
  rw [List.take_add_one, h, List.filter_append, List.map_append]
  simp [hne]
end
local macro_rules | `(tactic| walk_at "exec Assign cons ListComp") => `(tactic| ((with_reducible show wpAny _ _ (exec (Stmt.Assign [_] (Expr.ListComp _ _ _ _) _) _) _ _ _); (rename Fr _ _ _ _ => lF'); (with_unfolding_all refine' cx_assign lF' rfl ?ksw ?k1 ?k2 ?k3 ?k4 ?ky ?kp ?k5 ?_; (case ksw => first | exact rfl | with_unfolding_all rfl); (case k1 => first | exact rfl | with_unfolding_all rfl); (case k2 => decide +kernel); (case k3 => exact rfl); (case k4 => decide +kernel); (case ky => exact rfl); (case kp => exact rfl); (case k5 => (intro _; with_unfolding_all rfl)))))
local macro_rules | `(tactic| walk_at "call ref") => `(tactic| ((with_reducible show wpAny _ _ (call (Value.ref 153) [Value.ref _, Value.ref _]) _ _ _); k_dflt ((refine' use_spec (answers_spec _ _ _ _ _ _ ?a1 ?a2 ?a3 _ _ _ ?a4) ?k1 ?k2 ?k3 ?k4 ?k5 ?kK ?kp ?kd ?ku ?_); (case k1 => k_asm); (case k2 => k_asm); (case k3 => k_asm); (case k4 => k_asm); (case k5 => k_asm); (case kK => first | exact rfl | assumption); (case kp => exact ⟨by k_mem, by k_mem, RulesIn.mono (by assumption) (by kcj_all)⟩); (case kd => ktr_room); (case ku => ktr_units); (case a1 => assumption); (case a2 => assumption); (case a3 => assumption); (case a4 => assumption)); intro r9 tl9 h9 tk9 F9 N9 lt9 o9; (try dsimp only)))
local macro_rules | `(tactic| walk_at "binaryOp Add ref ref") => `(tactic| (k_dflt ((refine' addLb ?F ?N ?a ?b ?z ?_); (case F => k_asm); (case N => k_asm); (case a => k_mem); (case b => k_mem); (case z => assumption)); intro D' h' F' N' l1; (try k_lt l1); (try k_sweep)))
local macro_rules | `(tactic| walk_at "exec For") => `(tactic| ((with_reducible show wpAny _ _ (exec (Stmt.For (Expr.Name (PySem.Str.ofString "k") _) _ _ _ _) _) _ _ _); (rename Fr _ _ _ _ => lF'); (with_unfolding_all refine' For_invTF lF' ?_ ?h2; (case h2 => (intro _; rfl)))))
local macro_rules | `(tactic| walk_at "compareOp In int ref") => `(tactic| (k_dflt ((refine' inL ?N ?M ?V ?_); (case N => k_asm); (case M => k_mem); (case V => assumption)); (try dsimp only)))
local macro_rules | `(tactic| walk_at "subscriptTail") => `(tactic| ((with_reducible show wpAny _ _ (subscriptTail _ _ (Value.ref _) (Value.int _ _)) _ _ _); k_dflt ((refine' itemL ?N ?M ?lt ?l1 ?_ ?hs ?hg); (case N => k_asm); (case M => k_mem); (case lt => assumption); (case l1 => omega); (case hs => with_unfolding_all rfl); (case hg => (intro _; with_unfolding_all rfl))); (try dsimp only)))
local macro_rules | `(tactic| walk_at "compareOp Eq ref ref") => `(tactic| (k_dflt ((refine' eq_bools ?N ?a ?b ?x ?y ?u ?_); (case N => k_asm); (case a => assumption); (case b => assumption); (case x => assumption); (case y => assumption); (case u => ke_room)); (try dsimp only)))
section
variable {w : World} {p : Program} {loose : List Str} {mean : ExcName → Option Value} {mg mb : Str → Option Value} {g : Heap} {L fa : Addr} {m : Str → Option Value} {rest : Led} {s : Shared} {Q : Flow → Shared → Prop} {E : Value → Shared → Prop} {sc : Scope} {st : Stmt}
theorem S10 {H lR U O K0 : Addr} {oR oK : Obj} {ds : List (Str × Bool)} {hvs rvs bvs ovs kvs : List Value} {hs : List Str} {bs : List Bool} {os : List Nat} {kH kR kU kO kk n : Nat} {v0 : Option Value} (hsc : sc = lawScope) (hst : some st = lawBody[10]?)
    (B : Below callerA g [] g) (F : Fr g L s.heap m) (X : (hd.heap_39 w.params).In g) (N : News g L s.heap ((L + 1 + 1 + 1 + 1, oK) :: rest)) (T : Top p loose mean mg mb g)
    (hd : oK.data = .cell v0) (hne : ∀ p ∈ rest, p.1 ≠ L + 1 + 1 + 1 + 1)
    (hmH : m (Str.ofString "hosts") = some (.ref H)) (hlH : (H, W.listOf hvs.toArray kH) ∈ rest) (hS : StrsAre hvs hs) (hh : ∀ x ∈ hs, x ∈ hostsL) (h4 : hs.length ≤ 4)
    (hcR : (L + 1 + 1 + 1, oR) ∈ rest) (hdR : oR.data = .cell (some (.ref lR))) (hlR : (lR, W.listOf rvs.toArray kR) ∈ rest) (hR : RulesIn w rest rvs ds) (hn : ds.length = n) (hn4 : n ≤ 4)
    (hmU : m (Str.ofString "due") = some (.ref U)) (hlU : (U, W.listOf bvs.toArray kU) ∈ rest) (hU : BoolsAre bvs bs)
    (hmO : m (Str.ofString "order") = some (.ref O)) (hlO : (O, W.listOf ovs.toArray kO) ∈ rest) (hO : IntsAre ovs (os.map fun i : Nat => (i : Int))) (hop : os.Perm (List.range n))
    (hmK : m (Str.ofString "kept") = some (.ref K0)) (hlK : (K0, W.listOf kvs.toArray kk) ∈ rest) (hK : IntsAre kvs (rangeI n)) (hhs : hs = hostsOf (verdF ds)) (hbs : bs = dueOf (verdF ds))
    (hQ : ∀ h' tk' (u : Str → Option Value) K kvs k oK' tl, Fr g L h' (fun z => if z = Str.ofString "fewer" then u z else if z = Str.ofString "kept" then some (.ref K) else m z) → News g L h' ((L + 1 + 1 + 1 + 1, oK') :: (tl ++ rest)) → (∀ q ∈ (L + 1 + 1 + 1 + 1, oK) :: rest, ∀ p ∈ tl, q.1 < p.1) →
      (K, W.listOf kvs.toArray k) ∈ tl ++ rest → IntsAre kvs (((os ++ os).foldl (strikeF ds) (List.range n)).map fun i : Nat => (i : Int)) → Q .next { s with heap := h', toks := tk' }) :
    wpAny (model Row.prog w) (LawA sc L fa) (exec st (lawEnv sc L fa)) Q (LawE w sc L fa E) s := by
  conv at hsc => rhs; whnf
  conv at hst => rhs; whnf
  have hst := Option.some.inj hst
  subst hsc hst
  dsimp only [LawA, lawEnv, LawE]
  subst hhs hbs
  have hlO' : (O, W.listOf ovs.toArray kO) ∈ (L + 1 + 1 + 1 + 1, oK) :: rest := .tail _ hlO
  have hz : ovs.length + ovs.length ≤ 100 := by
    have e1 := hO.length
    have e2 := hop.length_eq
    simp at e1 e2
    omega
  walk_at "my steps"
  rename_i D' h' F' N' l1'
  have hK' : @LT.lt Nat _ (L + 1 + 1 + 1 + 1) D' := l1'.1
  have hlt' : ∀ p ∈ rest, p.1 < D' := allLt_mem l1'.2
  have N9 : News g L h' ((L + 1 + 1 + 1 + 1, oK) :: (D', W.listOf (ovs ++ ovs).toArray 0) :: rest) := news_sub N' (by intro p hp; simp only [List.mem_cons] at hp ⊢; grind)
  clear N' l1'
  have hOO : IntsAre (ovs ++ ovs) ((os ++ os).map fun i : Nat => (i : Int)) := by rw [List.map_append]; exact hO.append hO
  refine' iter_ledT (σ := Addr) (fun m₀ σ u z => if z = Str.ofString "fewer" then u z else if z = Str.ofString "kept" then some (.ref σ) else m₀ z)
    (fun i σ nw => ∃ oK' tl kvs kk Ks, nw = (L + 1 + 1 + 1 + 1, oK') :: (tl ++ ((D', W.listOf (ovs ++ ovs).toArray 0) :: rest)) ∧ (∃ v, oK'.data = .cell v) ∧ (∀ q ∈ (L + 1 + 1 + 1 + 1, oK) :: (D', W.listOf (ovs ++ ovs).toArray 0) :: rest, ∀ p ∈ tl, q.1 < p.1) ∧ (σ, W.listOf kvs.toArray kk) ∈ tl ++ ((D', W.listOf (ovs ++ ovs).toArray 0) :: rest) ∧
      IntsAre kvs (natsI Ks) ∧ Ks = ((os ++ os).take i).foldl (strikeF ds) (List.range n) ∧ (∀ j ∈ Ks, j < n) ∧ Ks.length ≤ 4) K0 rfl ?F N9 (.tail _ (.head _)) ?hm0 ⟨oK, [], kvs, kk, List.range n, rfl, ⟨v0, hd⟩, (fun _ _ _ h => nomatch h), .tail _ hlK, hK, by simp, fun j hj => List.mem_range.mp hj, by simpa using hn4⟩ ?turn ?done
  case F => k_asm
  case hm0 =>
    intro z
    by_cases h1 : z = Str.ofString "fewer"
    · simp [h1]
    by_cases h2 : z = Str.ofString "kept"
    · simp only [if_neg h1, if_pos h2]; rw [h2]; exact hmK
    simp only [if_neg h1, if_neg h2]
  case turn =>
    rintro i v σ u news₁ s₁ I oI hvi ⟨oK', tl, kvs', kk', Ks, rfl, ⟨v1, hd1⟩, htl, hlk, hik, hKs, hlt, h44⟩ lt ne hlI F₁ N₁
    obtain ⟨z, t, rfl, hz⟩ := hOO.at i v hvi
    obtain ⟨k, hk, rfl⟩ : ∃ k : Nat, (os ++ os)[i]? = some k ∧ z = (k : Int) := by
      rw [List.getElem?_map] at hz
      cases e : (os ++ os)[i]? with
      | none => rw [e] at hz; cases hz
      | some k => rw [e] at hz; simp at hz; exact ⟨k, rfl, hz.symm⟩
    have hIK : @LT.lt Nat _ (L + 1 + 1 + 1 + 1) I := lt _ (.head _)
    have hne9 : ∀ p ∈ tl ++ ((D', W.listOf (ovs ++ ovs).toArray 0) :: rest), p.1 ≠ L + 1 + 1 + 1 + 1 := by
      intro p hp
      rcases List.mem_append.mp hp with hp | hp
      · exact Nat.ne_of_gt (htl _ (.head _) p hp)
      rcases List.mem_cons.mp hp with rfl | hp
      · exact Nat.ne_of_gt hK'
      · exact hne p hp
    walk_at "my steps"
    rename_i h2 o2 F2 N2 d2
    have hlk2 : (σ, W.listOf kvs'.toArray kk') ∈ (I, oI) :: (D', W.listOf (ovs ++ ovs).toArray 0) :: (L + 1 + 1 + 1 + 1, o2) :: (tl ++ ((D', W.listOf (ovs ++ ovs).toArray 0) :: rest)) := .tail _ (.tail _ (.tail _ hlk))
    have hkl : kvs'.length = Ks.length := by rw [hik.length]; simp [natsI]
    refine cx_led (l := σ) (vs := kvs') (k := kk') (fun i' ys nw => nw = _ ∧ IntsAre ys (natsI (drp (Ks.take i') k))) rfl (by k_asm) N2 hlk2 (by omega) rfl rfl ⟨rfl, by simpa [natsI, drp] using IntsAre.nil⟩ ?hJ1 ?turn1 ?done1
    case hJ1 => rintro i' ys nw ⟨rfl, _⟩; exact hlk2
    case turn1 =>
      rintro i' v' ys nw I2 oI2 C oC D2 m₂ h3 tk3 E3 hv' ⟨rfl, hJ1⟩ hC9 hm₂ F9 N9' off1 ne1 lt1
      obtain ⟨z', t', rfl, hz'⟩ := hik.at i' v' hv'
      obtain ⟨j, hj, rfl⟩ := natsI_at hz'
      dsimp only [CTurn]
      walk_at "my steps"
      · refine ⟨_, _, _, rfl, by k_asm, by k_asm, off1, rfl, ?_⟩
        rw [drp_in hj (fun e => absurd (congrArg (fun x : Nat => (x : Int)) e) (by assumption))]
        exact hJ1.append (.cons _ _ .nil)
      · refine ⟨_, _, _, rfl, by k_asm, by k_asm, off1, rfl, ?_⟩
        rw [drp_out hj (Int.ofNat.inj (by assumption))]
        exact hJ1
    case done1 =>
      rintro D2 h3 tk3 ys nw F9 N9' off1 lt1 ⟨rfl, hJ1⟩
      rw [hkl, List.take_length] at hJ1
      have mR : ∀ {x : Addr × Obj}, x ∈ rest → x ∈ tl ++ ((D', W.listOf (ovs ++ ovs).toArray 0) :: rest) := fun h => List.mem_append_right _ (.tail _ h)
      have hcR9 := mR hcR
      have hlR9 := mR hlR
      have hlH9 := mR hlH
      have hlU9 := mR hlU
      have hrl := hR.length
      have hyl : ys.length ≤ 4 := by
        have e1 := hJ1.length
        have e2 : (drp Ks k).length ≤ Ks.length := List.length_filter_le _ _
        simp [natsI] at e1
        omega
      have hdlt : ∀ j ∈ drp Ks k, j < n := fun j hj => hlt j (mem_drp.mp hj).1
      have hne8 : ∀ p ∈ (L + 1 + 1 + 1 + 1, o2) :: (tl ++ ((D', W.listOf (ovs ++ ovs).toArray 0) :: rest)), p.1 ≠ I := fun p hp => by
        rcases List.mem_cons.mp hp with rfl | hp
        · exact Nat.ne_of_lt hIK
        · exact ne p (.tail _ hp)
      have hfold : ((os ++ os).take (i + 1)).foldl (strikeF ds) (List.range n) = strikeF ds Ks k := by
        rw [List.take_add_one, hk, List.foldl_append, ← hKs]; rfl
      have keep : ∀ h9 tk9, strikeF ds Ks k = Ks → (Fr g L h9 fun z => if z = Str.ofString "fewer" then some (.ref D2) else if z = Str.ofString "fewer" then u z else if z = Str.ofString "kept" then some (.ref σ) else m z) →
          News g L h9 ((I, oI) :: (D', W.listOf (ovs ++ ovs).toArray 0) :: (L + 1 + 1 + 1 + 1, o2) :: (tl ++ ((D', W.listOf (ovs ++ ovs).toArray 0) :: rest))) →
          TurnEnd g L I oI D' (W.listOf (ovs ++ ovs).toArray 0) (fun m' nw => ∃ σ', (∀ z, m' z = if z = Str.ofString "fewer" then m' z else if z = Str.ofString "kept" then some (.ref σ') else m z) ∧ ∃ oK' tl kvs kk Ks, nw = (L + 1 + 1 + 1 + 1, oK') :: (tl ++ ((D', W.listOf (ovs ++ ovs).toArray 0) :: rest)) ∧ (∃ v, oK'.data = .cell v) ∧ (∀ q ∈ (L + 1 + 1 + 1 + 1, oK) :: (D', W.listOf (ovs ++ ovs).toArray 0) :: rest, ∀ p ∈ tl, q.1 < p.1) ∧ (σ', W.listOf kvs.toArray kk) ∈ tl ++ ((D', W.listOf (ovs ++ ovs).toArray 0) :: rest) ∧
      IntsAre kvs (natsI Ks) ∧ Ks = ((os ++ os).take (i + 1)).foldl (strikeF ds) (List.range n) ∧ (∀ j ∈ Ks, j < n) ∧ Ks.length ≤ 4) s₁ { s₁ with heap := h9, toks := tk9 } := fun h9 tk9 hs F N =>
        ⟨h9, tk9, _, _, rfl, F, N, hne8, σ, fun z => (by
          by_cases h1 : z = Str.ofString "fewer"
          · simp [h1]
          · simp [h1]), o2, tl, kvs', kk', Ks, rfl, ⟨_, d2⟩, htl, hlk, hik, (by rw [hfold, hs]), hlt, h44⟩
      walk_at "my steps"
      case refine_1 => exact rfl
      case refine_2 => exact keep _ _ (strike_out (by assumption)) (by k_asm) (news_sub N9' fun p hp => .tail _ hp)
      have hin : k ∈ Ks := nats_mem (by assumption)
      refine cx_led (l := D2) (vs := ys) (fun i' ys2 nw => nw = _ ∧ RulesIn w rest ys2 (sub ds ((drp Ks k).take i'))) rfl (by k_asm) N9' (.head _) (by omega) rfl rfl ⟨rfl, by simpa [sub] using RulesIn.nil⟩ ?hJ2 ?turn2 ?done2
      case hJ2 => rintro i' ys nw ⟨rfl, _⟩; exact .head _
      case turn2 =>
        rintro i' v' ys2 nw I3 oI3 C3 oC3 D3 m₃ h4' tk4 E4 hv' ⟨rfl, hJ2⟩ hC8 hm₃ F8 N8 off2 ne2 lt2
        obtain ⟨z', t', rfl, hz'⟩ := hJ1.at i' v' hv'
        obtain ⟨j, hj, rfl⟩ := natsI_at hz'
        have hjn : j < n := hdlt j (List.mem_of_getElem? hj)
        have hjr : j < rvs.length := by omega
        dsimp only [CTurn]
        walk_at "my steps"
        refine ⟨_, _, _, rfl, by k_asm, by k_asm, off2, rfl, ?_⟩
        rw [List.take_add_one, hj]
        show RulesIn w rest (ys2 ++ [rvs.getD j Value.none]) (((drp Ks k).take i' ++ [j]).map (at0 ds))
        rw [List.map_append]
        exact hJ2.snoc (hR.pick (by omega))
      case done2 =>
        rintro D3 h5 tk5 ys2 nw F7 N7 off2 lt2 ⟨rfl, hJ2⟩
        have hyk : ys.length = (drp Ks k).length := by rw [hJ1.length]; simp [natsI]
        rw [hyk, List.take_length] at hJ2
        have hy2 : ys2.length ≤ 100 := by
          have e1 := hJ2.length
          simp [sub] at e1
          omega
        have hR9 : RulesIn w ((D3, LCg.lst ys2) :: (D2, LCg.lst ys) :: (I, oI) :: (D', W.listOf (ovs ++ ovs).toArray 0) :: (L + 1 + 1 + 1 + 1, o2) :: (tl ++ ((D', W.listOf (ovs ++ ovs).toArray 0) :: rest))) ys2 (sub ds (drp Ks k)) := hJ2.mono fun p hp => .tail _ (.tail _ (.tail _ (.tail _ (.tail _ (mR hp)))))
        walk_at "my steps"
        rename_i r1 tl1 h6 tk6 F6 N6 lt6 o6
        obtain ⟨a1, us1, n1, rfl, hm1, hs1⟩ := o6
        have hm1' : (a1, W.listOf us1.toArray n1) ∈ tl1 ++ ((D3, LCg.lst ys2) :: (D2, LCg.lst ys) :: (I, oI) :: (D', W.listOf (ovs ++ ovs).toArray 0) :: (L + 1 + 1 + 1 + 1, o2) :: (tl ++ ((D', W.listOf (ovs ++ ovs).toArray 0) :: rest))) := List.mem_append_left _ hm1
        have hlU' : (U, W.listOf bvs.toArray kU) ∈ tl1 ++ ((D3, LCg.lst ys2) :: (D2, LCg.lst ys) :: (I, oI) :: (D', W.listOf (ovs ++ ovs).toArray 0) :: (L + 1 + 1 + 1 + 1, o2) :: (tl ++ ((D', W.listOf (ovs ++ ovs).toArray 0) :: rest))) := List.mem_append_right _ (.tail _ (.tail _ (.tail _ (.tail _ (.tail _ hlU9)))))
        walk_at "my steps"
        · exact rfl
        · refine' ⟨_, _, _, (L + 1 + 1 + 1 + 1, o2) :: (((D2, LCg.lst ys) :: tl) ++ ((D', W.listOf (ovs ++ ovs).toArray 0) :: rest)), rfl, by k_asm, news_sub (by assumption) ?nA, ?neA, D2, ?mpA, o2, (D2, LCg.lst ys) :: tl, ys, _, drp Ks k, rfl, ⟨_, d2⟩, ?ltA, .head _, hJ1, ?fA, hdlt, ?lA⟩
          case nA => intro p hp; simp only [List.mem_cons, List.mem_append] at hp ⊢; grind
          case neA =>
            intro p hp
            rcases List.mem_cons.mp hp with rfl | hp
            · exact Nat.ne_of_lt hIK
            rcases List.mem_cons.mp hp with rfl | hp
            · exact Nat.ne_of_gt (lt1 _ (.head _))
            · exact hne8 p (.tail _ hp)
          case mpA =>
            intro z
            by_cases h1 : z = Str.ofString "fewer"
            · simp [h1]
            by_cases h2 : z = Str.ofString "kept"
            · simp [h1, h2]
            simp [h1, h2]
          case ltA =>
            intro q hq p hp
            rcases List.mem_cons.mp hp with rfl | hp
            · rcases List.mem_cons.mp hq with rfl | hq
              · have h9 := lt1 _ (List.Mem.tail _ (List.Mem.tail _ (List.Mem.head _)))
                exact h9
              · exact lt1 _ (.tail _ (.tail _ (.tail _ (List.mem_append_right _ hq))))
            · exact htl q hq p hp
          case fA => rw [hfold]; unfold strikeF; rw [if_pos ⟨hin, by assumption⟩]
          case lA => rw [← hyk]; exact hyl
        · exact rfl
        · exact keep _ _ (strike_no (by assumption)) (by k_asm) (news_sub N6 fun p hp => List.mem_append_right _ (.tail _ (.tail _ hp)))
  case done =>
    rintro h8 tk σ u news' F₁ N₁ ⟨oK', tl, kvs', kk', Ks, rfl, ⟨v1, hd1⟩, htl, hlk, hik, hKs, hlt, h44⟩
    have e : (tl ++ [(D', W.listOf (ovs ++ ovs).toArray 0)]) ++ rest = tl ++ ((D', W.listOf (ovs ++ ovs).toArray 0) :: rest) := by rw [List.append_assoc]; rfl
    refine hQ _ _ u σ kvs' kk' oK' (tl ++ [(D', W.listOf (ovs ++ ovs).toArray 0)]) F₁ (news_sub N₁ ?n9) ?l9 ?m9 ?i9
    case n9 => rw [e]; exact fun p hp => .tail _ hp
    case l9 =>
      intro q hq p hp
      rcases List.mem_append.mp hp with hp | hp
      · refine htl q ?_ p hp
        rcases List.mem_cons.mp hq with rfl | hq
        · exact .head _
        · exact .tail _ (.tail _ hq)
      · rw [List.mem_singleton.mp hp]
        rcases List.mem_cons.mp hq with rfl | hq
        · exact hK'
        · exact hlt' q hq
    case m9 => rw [e]; exact hlk
    case i9 =>
      have hle : (os ++ os).length ≤ (ovs ++ ovs).length := by
        have e1 := hO.length
        simp at e1 ⊢
        omega
      rw [List.take_of_length_le hle] at hKs
      rw [← hKs]; exact hik
end
end Mine

/- Y12 -/
namespace Mine
set_option maxHeartbeats 1000000
set_option pp.deepTerms false
set_option pp.deepTerms.threshold 8
set_option linter.unusedVariables false
local macro_rules | `(tactic| walk_at "pad") => `(tactic| skip)
local macro_rules | `(tactic| walk_at "pad") => `(tactic| skip)
local macro_rules | `(tactic| walk_at "pad") => `(tactic| skip)
local macro_rules | `(tactic| walk_at "pad") => `(tactic| skip)
local macro_rules | `(tactic| walk_at "pad") => `(tactic| skip)
local macro_rules | `(tactic| walk_at "pad") => `(tactic| skip)
local macro_rules | `(tactic| walk_at "pad") => `(tactic| skip)
local macro_rules | `(tactic| walk_at "pad") => `(tactic| skip)
local macro_rules | `(tactic| walk_at "pad") => `(tactic| skip)
local macro_rules | `(tactic| walk_at "pad") => `(tactic| skip)
local macro_rules | `(tactic| walk_at "pad") => `(tactic| skip)
local macro_rules | `(tactic| walk_at "pad") => `(tactic| skip)
local macro_rules | `(tactic| walk_at "pad") => `(tactic| skip)
local macro_rules | `(tactic| walk_at "pad") => `(tactic| skip)
local macro_rules | `(tactic| walk_at "pad") => `(tactic| skip)
local macro_rules | `(tactic| walk_at "pad") => `(tactic| skip)
local macro_rules | `(tactic| walk_at "pad") => `(tactic| skip)
local macro_rules | `(tactic| walk_at "pad") => `(tactic| skip)
local macro_rules | `(tactic| walk_at "pad") => `(tactic| skip)
local macro_rules | `(tactic| walk_at "pad") => `(tactic| skip)
local macro_rules | `(tactic| walk_at "pad") => `(tactic| skip)
local macro_rules | `(tactic| walk_at "pad") => `(tactic| skip)
local macro_rules | `(tactic| walk_at "pad") => `(tactic| skip)
local macro_rules | `(tactic| walk_at "pad") => `(tactic| skip)
local macro_rules | `(tactic| walk_at "pad") => `(tactic| skip)
local macro_rules | `(tactic| walk_at "pad") => `(tactic| skip)
local macro_rules | `(tactic| walk_at "pad") => `(tactic| skip)
local macro_rules | `(tactic| walk_at "pad") => `(tactic| skip)
local macro_rules | `(tactic| walk_at "pad") => `(tactic| skip)
local macro_rules | `(tactic| walk_at "pad") => `(tactic| skip)
local macro_rules | `(tactic| walk_at "pad") => `(tactic| skip)
local macro_rules | `(tactic| walk_at "pad") => `(tactic| skip)
local macro_rules | `(tactic| walk_at "pad") => `(tactic| skip)
local macro_rules | `(tactic| walk_at "pad") => `(tactic| skip)
local macro_rules | `(tactic| walk_at "pad") => `(tactic| skip)
local macro_rules | `(tactic| walk_at "pad") => `(tactic| skip)
local macro_rules | `(tactic| walk_at "pad") => `(tactic| skip)
local macro_rules | `(tactic| walk_at "pad") => `(tactic| skip)
local macro_rules | `(tactic| walk_at "pad") => `(tactic| skip)
local macro_rules | `(tactic| walk_at "pad") => `(tactic| skip)
local macro_rules | `(tactic| walk_at "pad") => `(tactic| skip)
local macro_rules | `(tactic| walk_at "pad") => `(tactic| skip)
local macro_rules | `(tactic| walk_at "pad") => `(tactic| skip)
local macro_rules | `(tactic| walk_at "pad") => `(tactic| skip)
local macro_rules | `(tactic| walk_at "pad") => `(tactic| skip)
local macro_rules | `(tactic| walk_at "pad") => `(tactic| skip)
local macro_rules | `(tactic| walk_at "pad") => `(tactic| skip)
local macro_rules | `(tactic| walk_at "pad") => `(tactic| skip)
local macro_rules | `(tactic| walk_at "pad") => `(tactic| skip)
local macro_rules | `(tactic| walk_at "pad") => `(tactic| skip)
local macro_rules | `(tactic| walk_at "pad") => `(tactic| skip)
local macro_rules | `(tactic| walk_at "pad") => `(tactic| skip)
local macro_rules | `(tactic| walk_at "pad") => `(tactic| skip)
local macro_rules | `(tactic| walk_at "pad") => `(tactic| skip)
local macro_rules | `(tactic| walk_at "pad") => `(tactic| skip)
local macro_rules | `(tactic| walk_at "pad") => `(tactic| skip)
local macro_rules | `(tactic| walk_at "pad") => `(tactic| skip)
local macro_rules | `(tactic| walk_at "pad") => `(tactic| skip)
local macro_rules | `(tactic| walk_at "pad") => `(tactic| skip)
local macro_rules | `(tactic| walk_at "pad") => `(tactic| skip)
local macro_rules | `(tactic| walk_at "pad") => `(tactic| skip)
local macro_rules | `(tactic| walk_at "pad") => `(tactic| skip)
local macro_rules | `(tactic| walk_at "pad") => `(tactic| skip)
local macro_rules | `(tactic| walk_at "pad") => `(tactic| skip)
local macro_rules | `(tactic| walk_at "pad") => `(tactic| skip)
local macro_rules | `(tactic| walk_at "pad") => `(tactic| skip)
local macro_rules | `(tactic| walk_at "pad") => `(tactic| skip)
local macro_rules | `(tactic| walk_at "pad") => `(tactic| skip)
local macro_rules | `(tactic| walk_at "pad") => `(tactic| skip)
local macro_rules | `(tactic| walk_at "pad") => `(tactic| skip)
local macro_rules | `(tactic| walk_at "pad") => `(tactic| skip)
local macro_rules | `(tactic| walk_at "pad") => `(tactic| skip)
local macro_rules | `(tactic| walk_at "pad") => `(tactic| skip)
local macro_rules | `(tactic| walk_at "pad") => `(tactic| skip)
local macro_rules | `(tactic| walk_at "pad") => `(tactic| skip)
local macro_rules | `(tactic| walk_at "pad") => `(tactic| skip)
local macro_rules | `(tactic| walk_at "pad") => `(tactic| skip)
local macro_rules | `(tactic| walk_at "pad") => `(tactic| skip)
local macro_rules | `(tactic| walk_at "pad") => `(tactic| skip)
local macro_rules | `(tactic| walk_at "pad") => `(tactic| skip)
local macro_rules | `(tactic| walk_at "pad") => `(tactic| skip)
local macro_rules | `(tactic| walk_at "pad") => `(tactic| skip)
local macro_rules | `(tactic| walk_at "pad") => `(tactic| skip)
local macro_rules | `(tactic| walk_at "pad") => `(tactic| skip)
local macro_rules | `(tactic| walk_at "pad") => `(tactic| skip)
local macro_rules | `(tactic| walk_at "pad") => `(tactic| skip)
local macro_rules | `(tactic| walk_at "pad") => `(tactic| skip)
local macro_rules | `(tactic| walk_at "pad") => `(tactic| skip)
local macro_rules | `(tactic| walk_at "pad") => `(tactic| skip)
local macro_rules | `(tactic| walk_at "pad") => `(tactic| skip)
local macro_rules | `(tactic| walk_at "pad") => `(tactic| skip)
local macro_rules | `(tactic| walk_at "pad") => `(tactic| skip)
local macro_rules | `(tactic| walk_at "pad") => `(tactic| skip)
local macro_rules | `(tactic| walk_at "pad") => `(tactic| skip)
local macro_rules | `(tactic| walk_at "pad") => `(tactic| skip)
local macro_rules | `(tactic| walk_at "pad") => `(tactic| skip)
local macro_rules | `(tactic| walk_at "pad") => `(tactic| skip)
local macro_rules | `(tactic| walk_at "pad") => `(tactic| skip)
local macro_rules | `(tactic| walk_at "pad") => `(tactic| skip)
local macro_rules | `(tactic| walk_at "pad") => `(tactic| skip)
local macro_rules | `(tactic| walk_at "pad") => `(tactic| skip)
local macro_rules | `(tactic| walk_at "pad") => `(tactic| skip)
local macro_rules | `(tactic| walk_at "pad") => `(tactic| skip)
local macro_rules | `(tactic| walk_at "pad") => `(tactic| skip)
local macro_rules | `(tactic| walk_at "pad") => `(tactic| skip)
local macro_rules | `(tactic| walk_at "pad") => `(tactic| skip)
local macro_rules | `(tactic| walk_at "pad") => `(tactic| skip)
local macro_rules | `(tactic| walk_at "pad") => `(tactic| skip)
local macro_rules | `(tactic| walk_at "pad") => `(tactic| skip)
local macro_rules | `(tactic| walk_at "pad") => `(tactic| skip)
local macro_rules | `(tactic| walk_at "pad") => `(tactic| skip)
local macro_rules | `(tactic| walk_at "pad") => `(tactic| skip)
local macro_rules | `(tactic| walk_at "pad") => `(tactic| skip)
local macro_rules | `(tactic| walk_at "pad") => `(tactic| skip)
local macro_rules | `(tactic| walk_at "pad") => `(tactic| skip)
local macro_rules | `(tactic| walk_at "pad") => `(tactic| skip)
local macro_rules | `(tactic| walk_at "pad") => `(tactic| skip)
local macro_rules | `(tactic| walk_at "pad") => `(tactic| skip)
local macro_rules | `(tactic| walk_at "pad") => `(tactic| skip)
local macro_rules | `(tactic| walk_at "pad") => `(tactic| skip)
local macro_rules | `(tactic| walk_at "pad") => `(tactic| skip)
local macro_rules | `(tactic| walk_at "pad") => `(tactic| skip)
local macro_rules | `(tactic| walk_at "pad") => `(tactic| skip)
local macro_rules | `(tactic| walk_at "pad") => `(tactic| skip)
local macro_rules | `(tactic| walk_at "pad") => `(tactic| skip)
local macro_rules | `(tactic| walk_at "pad") => `(tactic| skip)
local macro_rules | `(tactic| walk_at "pad") => `(tactic| skip)
local macro_rules | `(tactic| walk_at "pad") => `(tactic| skip)
local macro_rules | `(tactic| walk_at "pad") => `(tactic| skip)
local macro_rules | `(tactic| walk_at "pad") => `(tactic| skip)
local macro_rules | `(tactic| walk_at "pad") => `(tactic| skip)
local macro_rules | `(tactic| walk_at "pad") => `(tactic| skip)
local macro_rules | `(tactic| walk_at "pad") => `(tactic| skip)
local macro_rules | `(tactic| walk_at "pad") => `(tactic| skip)
local macro_rules | `(tactic| walk_at "pad") => `(tactic| skip)
local macro_rules | `(tactic| walk_at "pad") => `(tactic| skip)
local macro_rules | `(tactic| walk_at "pad") => `(tactic| skip)
local macro_rules | `(tactic| walk_at "pad") => `(tactic| skip)
local macro_rules | `(tactic| walk_at "pad") => `(tactic| skip)
local macro_rules | `(tactic| walk_at "pad") => `(tactic| skip)
local macro_rules | `(tactic| walk_at "pad") => `(tactic| skip)
local macro_rules | `(tactic| walk_at "pad") => `(tactic| skip)
local macro_rules | `(tactic| walk_at "pad") => `(tactic| skip)
local macro_rules | `(tactic| walk_at "pad") => `(tactic| skip)
local macro_rules | `(tactic| walk_at "pad") => `(tactic| skip)
local macro_rules | `(tactic| walk_at "pad") => `(tactic| skip)
local macro_rules | `(tactic| walk_at "pad") => `(tactic| skip)
local macro_rules | `(tactic| walk_at "pad") => `(tactic| skip)
local macro_rules | `(tactic| walk_at "pad") => `(tactic| skip)
local macro_rules | `(tactic| walk_at "pad") => `(tactic| skip)
local macro_rules | `(tactic| walk_at "pad") => `(tactic| skip)
local macro_rules | `(tactic| walk_at "pad") => `(tactic| skip)
local macro_rules | `(tactic| walk_at "pad") => `(tactic| skip)
local macro_rules | `(tactic| walk_at "pad") => `(tactic| skip)
local macro_rules | `(tactic| walk_at "pad") => `(tactic| skip)
local macro_rules | `(tactic| walk_at "pad") => `(tactic| skip)
local macro_rules | `(tactic| walk_at "pad") => `(tactic| skip)
local macro_rules | `(tactic| walk_at "pad") => `(tactic| skip)
local macro_rules | `(tactic| walk_at "pad") => `(tactic| skip)
local macro_rules | `(tactic| walk_at "pad") => `(tactic| skip)
local macro_rules | `(tactic| walk_at "pad") => `(tactic| skip)
local macro_rules | `(tactic| walk_at "pad") => `(tactic| skip)
local macro_rules | `(tactic| walk_at "pad") => `(tactic| skip)
local macro_rules | `(tactic| walk_at "pad") => `(tactic| skip)
local macro_rules | `(tactic| walk_at "pad") => `(tactic| skip)
local macro_rules | `(tactic| walk_at "pad") => `(tactic| skip)
local macro_rules | `(tactic| walk_at "pad") => `(tactic| skip)
local macro_rules | `(tactic| walk_at "pad") => `(tactic| skip)
local macro_rules | `(tactic| walk_at "pad") => `(tactic| skip)
local macro_rules | `(tactic| walk_at "pad") => `(tactic| skip)
local macro_rules | `(tactic| walk_at "pad") => `(tactic| skip)
local macro_rules | `(tactic| walk_at "pad") => `(tactic| skip)
local macro_rules | `(tactic| walk_at "pad") => `(tactic| skip)
local macro_rules | `(tactic| walk_at "pad") => `(tactic| skip)
local macro_rules | `(tactic| walk_at "pad") => `(tactic| skip)
local macro_rules | `(tactic| walk_at "pad") => `(tactic| skip)
local macro_rules | `(tactic| walk_at "pad") => `(tactic| skip)
local macro_rules | `(tactic| walk_at "pad") => `(tactic| skip)
local macro_rules | `(tactic| walk_at "pad") => `(tactic| skip)
local macro_rules | `(tactic| walk_at "pad") => `(tactic| skip)
local macro_rules | `(tactic| walk_at "pad") => `(tactic| skip)
theorem fresh_Y12 : True := by
  w_top off
  trivial
local macro_rules | `(tactic| walk_at "my steps") => `(tactic| repeat' (first | (k_unfold; (try dsimp only)) | (k_end; wrow_close) | ((try dsimp only); walk1) | (leave1; walk_say "STEP leave1"; try dsimp only) | fail "no step"))
local macro_rules | `(tactic| k_mem) => `(tactic| assumption)
local macro_rules | `(tactic| k_all) => `(tactic| first | assumption | exact low_ne (by assumption) (by omega))
local macro_rules | `(tactic| walk_at "eval Name") => `(tactic| (k_dflt (refine' ldM ?k1 ?k2 ?_ ?k3 ?k4 ?k5; (case k1 => k_asm); (case k2 => assumption); (case k3 => exact rfl); (case k4 => exact rfl); (case k5 => decide)); (try dsimp only)))
local macro_rules | `(tactic| walk_at "exec For") => `(tactic| ((rename Fr _ _ _ _ => lF'); (with_unfolding_all refine' For_invVF lF' ?k1 ?k2 ?_; (case k1 => exact rfl); (case k2 => exact rfl))))
local macro_rules | `(tactic| walk_at "TurnPost") => `(tactic| dsimp only [TurnPost])
local macro_rules | `(tactic| walk_at "call type:range") => `(tactic| (k_dflt (first | (refine' range2N ?F ?N ?_; (case F => k_asm); (case N => k_asm)) | (refine' range1N ?F ?N ?_; (case F => k_asm); (case N => k_asm))); intro r' h' tk' t1' t2' t3' F' N' l1; (try k_lt l1); (try k_sweep)))
local macro_rules | `(tactic| walk_at "eval ListComp") => `(tactic| ((rename Fr _ _ _ _ => lF'); (with_unfolding_all refine' cx_eval lF' ?k1 ?k2 ?k3 ?k4 ?k5 ?_; (case k1 => first | exact rfl | with_unfolding_all rfl); (case k2 => decide +kernel); (case k3 => exact rfl); (case k4 => decide +kernel); (case k5 => (intro _; with_unfolding_all rfl)))))
local macro_rules | `(tactic| walk_at "CxSrc") => `(tactic| fail "here")
section
variable {w : World} {lv : Nat} {f : Addr} {vs : List Value} {xs : List Str} {p : Program} {loose : List Str} {mean : ExcName → Option Value} {mg mb : Str → Option Value} {dp un : Nat} {gd : Option (List Code)} {cn : Str} {cs : Scope} {a : Addr} {ccd : Value} {cl : List (Str × Addr)} {outer : List Env} {A₀ : Around} {base h₀ : Heap} {L : Addr} {m : Str → Option Value}
    {news : Led} {s : Shared} {Q E : Value → Shared → Prop}
theorem use_specL (S : Spec w lv f vs (fun _ => True) (fun led r => ∃ a us n, r = .ref a ∧ (a, W.listOf us.toArray n) ∈ led ∧ StrsAre us xs)) (B : Below A₀ base outer h₀) (F : Fr h₀ L s.heap m) (X : (hd.heap_39 w.params).In h₀) (N : News h₀ L s.heap news) (T : Top p loose mean mg mb h₀) (hk : cs.kind = .function)
    (hd : dp + lv < recursionLimit) (hu : un + 20 * lv < cLine)
    (k : ∀ a us n h' tk', Fr h₀ L h' m → News h₀ L h' ((a, W.listOf us.toArray n) :: news) → (∀ q ∈ news, q.1 < a) → StrsAre us xs → Q (.ref a) { s with heap := h', toks := tk' }) :
    wpAny (model Row.prog w) (ktrTop dp un gd cn cs L a ccd cl outer) (call (.ref f) vs) Q E s :=
  use_spec S B F X N T hk trivial hd hu fun r tl h' tk' F' N' lt ⟨a, us, n, e, hm, hs⟩ => by
    subst e
    refine k a us n h' tk' F' (news_sub N' fun p hp => ?_) (fun q hq => lt q hq _ hm) hs
    rcases List.mem_cons.mp hp with rfl | hp
    · exact List.mem_append_left _ hm
    · exact List.mem_append_right _ hp
end
theorem hostImp {c : Prop} {x : Str} (h : c → x ∈ hostsL) (hc : c) : x ∈ hostsL := h hc
def needOk (vd : List (Str × Bool)) (p : Str × Bool) : Bool := (p.2 != closestF (up p.1) vd) && !deadD p.1
theorem needF_eq (ds : List (Str × Bool)) : needF ds = (verdF ds).filter (needOk (verdF ds)) := rfl
theorem need_take {vd W : List (Str × Bool)} {i : Nat} {q : Str × Bool} (h : vd[i]? = some q) : (vd.take (i + 1)).filter (needOk W) = (vd.take i).filter (needOk W) ++ (if needOk W q = true then [q] else []) := by
  rw [List.take_add_one, h, List.filter_append]
  by_cases e : needOk W q = true <;> simp [e]
theorem domW2 : ∀ d ∈ domsL, d.length ≤ 20 ∧ 1 ≤ d.length := by decide +kernel
local macro_rules | `(tactic| walk_at "call ref") => `(tactic| ((with_reducible show wpAny _ _ (call (Value.ref 132) [Value.str _ _]) _ _ _); k_dflt ((refine' use_specL (rungs_spec _ _ _ ?hx) ?k1 ?k2 ?k3 ?k4 ?k5 ?kK ?kd ?ku ?_); (case k1 => k_asm); (case k2 => k_asm); (case k3 => k_asm); (case k4 => k_asm); (case k5 => k_asm); (case kK => first | exact rfl | assumption); (case kd => ktr_room); (case ku => ktr_units); (case hx => first | assumption | exact hostImp (by assumption) (by assumption))); intro a9 us9 n9 h9 tk9 F9 N9 l9 hs9; (try dsimp only); (try k_lt l9); (try k_sweep)))
local macro_rules | `(tactic| walk_at "call ref") => `(tactic| ((with_reducible show wpAny _ _ (call (Value.ref 146) [Value.ref _, Value.ref _]) _ _ _); k_dflt ((refine' use_specV (closest_spec _ _ _ _ _ _ ?hv _) ?k1 ?k2 ?k3 ?k4 ?k5 ?kK ?kp ?kd ?ku ?_); (case k1 => k_asm); (case k2 => k_asm); (case k3 => k_asm); (case k4 => k_asm); (case k5 => k_asm); (case kK => first | exact rfl | assumption); (case kp => exact ⟨by k_mem, VerdIn.mono (by assumption) (by intro q hq; simp only [List.mem_cons, List.mem_append] at hq ⊢; grind)⟩); (case kd => ktr_room); (case ku => ktr_units); (case hv => assumption)); intro t9 h9 tk9 F9 N9; (try dsimp only); (try k_sweep)))
local macro_rules | `(tactic| walk_at "subscriptTail") => `(tactic| ((with_reducible show wpAny _ _ (subscriptTail _ _ (Value.ref _) (Value.str _ _)) _ _ _); k_dflt ((refine' item_verd ?N ?V ?S ?hb ?_ ?h1 ?h2); (case N => k_asm); (case V => assumption); (case S => (intro q hq; simp only [List.mem_cons, List.mem_append] at hq ⊢; grind)); (case hb => assumption); (case h1 => with_unfolding_all rfl); (case h2 => (intro _; with_unfolding_all rfl)))))
local macro_rules | `(tactic| walk_at "call builtin:list.append") => `(tactic| (k_dflt ((refine' appendL ?F ?N ?U ?z ?_); (case F => k_asm); (case N => k_asm); (case U => k_updF); (case z => assumption)); intro h' n' F' N'; (try dsimp only at N'); (try k_sweep)))
section
variable {w : World} {p : Program} {loose : List Str} {mean : ExcName → Option Value} {mg mb : Str → Option Value} {g : Heap} {L fa : Addr} {m : Str → Option Value} {rest : Led} {s : Shared} {Q : Flow → Shared → Prop} {E : Value → Shared → Prop} {sc : Scope} {st : Stmt}
theorem S12 {dV Nd : Addr} {oV : Obj} {ds : List (Str × Bool)} (hsc : sc = lawScope) (hst : some st = lawBody[12]?)
    (B : Below callerA g [] g) (F : Fr g L s.heap m) (X : (hd.heap_39 w.params).In g) (N : News g L s.heap ((Nd, W.listOf ([] : List Value).toArray 0) :: rest)) (T : Top p loose mean mg mb g)
    (hmN : m (Str.ofString "needed") = some (.ref Nd)) (hltN : ∀ p ∈ rest, p.1 < Nd)
    (hcV : (L + 1 + 1, oV) ∈ rest) (hdV : oV.data = .cell (some (.ref dV))) (hV : VerdIn w rest dV (verdF ds)) (h4 : (verdF ds).length ≤ 4) (hdm : ∀ p ∈ verdF ds, p.1 ∈ domsL)
    (hQ : ∀ h' tk' (u : Str → Option Value) nvs kN tl, Fr g L h' (fun z => if z = Str.ofString "domain" then u z else if z = Str.ofString "dotted" then u z else if z = Str.ofString "above" then u z else m z) → News g L h' ((Nd, W.listOf nvs.toArray kN) :: (tl ++ rest)) → (∀ q ∈ (Nd, W.listOf ([] : List Value).toArray 0) :: rest, ∀ p ∈ tl, q.1 < p.1) →
      PairsIn tl nvs (needF ds) → Q .next { s with heap := h', toks := tk' }) :
    wpAny (model Row.prog w) (LawA sc L fa) (exec st (lawEnv sc L fa)) Q (LawE w sc L fa E) s := by
  conv at hsc => rhs; whnf
  conv at hst => rhs; whnf
  have hst := Option.some.inj hst
  subst hsc hst
  dsimp only [LawA, lawEnv, LawE]
  obtain ⟨oD, hmD, hdD⟩ := hV.obj
  have hcV' : (L + 1 + 1, oV) ∈ (Nd, W.listOf ([] : List Value).toArray 0) :: rest := .tail _ hcV
  walk_at "my steps"
  refine' iter_dictS (σ := Unit) (d := dV) (o := oD) (kvs := kvOf (verdF ds)) (fun m₀ _ u z => if z = Str.ofString "domain" then u z else if z = Str.ofString "dotted" then u z else if z = Str.ofString "above" then u z else m₀ z)
    (fun i _ nw => ∃ tl nvs kN, nw = (Nd, W.listOf nvs.toArray kN) :: (tl ++ rest) ∧ (∀ q ∈ (Nd, W.listOf ([] : List Value).toArray 0) :: rest, ∀ p ∈ tl, q.1 < p.1) ∧ PairsIn tl nvs (((verdF ds).take i).filter (needOk (verdF ds)))) () rfl ?F N (.tail _ hmD) hV.lo hdD ?hm0 ⟨[], [], 0, rfl, (fun _ _ _ h => nomatch h), by simpa using PairsIn.nil⟩ ?turn ?done
  case F => k_asm
  case hm0 =>
    intro z
    by_cases h1 : z = Str.ofString "domain"
    · simp [h1]
    by_cases h2 : z = Str.ofString "dotted"
    · simp [h2]
    by_cases h3 : z = Str.ofString "above"
    · simp [h3]
    simp only [if_neg h1, if_neg h2, if_neg h3]
  case turn =>
    rintro i k v t σ u news₁ h tk I oI hki ⟨tl, nvs, kN, rfl, htl, hP⟩ lt ne hlI F₁ N₁
    obtain ⟨b, hvd, rfl⟩ : ∃ b, (verdF ds)[i]? = some (k, b) ∧ v = .bool b := by
      unfold kvOf at hki
      rw [List.getElem?_map] at hki
      cases e : (verdF ds)[i]? with
      | none => rw [e] at hki; cases hki
      | some q => rw [e] at hki; simp at hki; exact ⟨q.2, by rw [← hki.1], hki.2.symm⟩
    have hmem := List.mem_of_getElem? hvd
    have hkd : k ∈ domsL := hdm _ hmem
    have hlook : look (verdF ds) k = some b := (look_mem (verdF_keys ds) k b).mp hmem
    obtain ⟨hk20, hk1⟩ := domW2 k hkd
    have hb1 : (Txt.item k 0 == Str.ofString ".") = true → Txt.slice k (some 1) none ∈ hostsL := fun e => by
      have := (domFact k hkd).2.1
      unfold bareD dotD at this
      rw [if_pos e] at this; exact this
    have hb2 : (Txt.item k 0 == Str.ofString ".") = false → k ∈ hostsL := fun e => by
      have := (domFact k hkd).2.1
      unfold bareD dotD at this
      rw [if_neg (by rw [e]; decide)] at this; exact this
    have hIN : @LT.lt Nat _ Nd I := lt _ (.head _)
    have hdN : @LT.lt Nat _ dV Nd := hltN _ hmD
    have hcV9 : (L + 1 + 1, oV) ∈ tl ++ rest := List.mem_append_right _ hcV
    have hne9 : ∀ p ∈ tl ++ rest, p.1 ≠ Nd := fun p hp => by
      rcases List.mem_append.mp hp with hp | hp
      · exact Nat.ne_of_gt (htl _ (.head _) p hp)
      · exact Nat.ne_of_lt (hltN p hp)
    have hn100 : nvs.length ≤ 100 := by
      have e1 := hP.length
      have e2 : (((verdF ds).take i).filter (needOk (verdF ds))).length ≤ ((verdF ds).take i).length := List.length_filter_le _ _
      simp at e2
      omega
    have fin : ∀ h9 tk9 m9 nvs' kN' tlA, (Fr g L h9 m9) → (∀ z, m9 z = if z = Str.ofString "domain" then m9 z else if z = Str.ofString "dotted" then m9 z else if z = Str.ofString "above" then m9 z else m z) →
        News g L h9 ((I, oI) :: (dV, oD) :: (Nd, W.listOf nvs'.toArray kN') :: (tlA ++ (tl ++ rest))) → (∀ q ∈ (I, oI) :: (Nd, W.listOf ([] : List Value).toArray 0) :: (tl ++ rest), ∀ p ∈ tlA, q.1 < p.1) → PairsIn (tlA ++ tl) nvs' (((verdF ds).take (i + 1)).filter (needOk (verdF ds))) →
        TurnEnd g L I oI dV oD (fun m' nw => ∃ σ' : Unit, (∀ z, m' z = if z = Str.ofString "domain" then m' z else if z = Str.ofString "dotted" then m' z else if z = Str.ofString "above" then m' z else m z) ∧ ∃ tl nvs kN, nw = (Nd, W.listOf nvs.toArray kN) :: (tl ++ rest) ∧ (∀ q ∈ (Nd, W.listOf ([] : List Value).toArray 0) :: rest, ∀ p ∈ tl, q.1 < p.1) ∧ PairsIn tl nvs (((verdF ds).take (i + 1)).filter (needOk (verdF ds))))
          { s with heap := h, toks := tk } { s with heap := h9, toks := tk9 } := fun h9 tk9 m9 nvs' kN' tlA F N1 N2 hA hP' => by
      refine ⟨h9, tk9, m9, (Nd, W.listOf nvs'.toArray kN') :: ((tlA ++ tl) ++ rest), rfl, F, by rw [List.append_assoc]; exact N2, ?_, (), N1, tlA ++ tl, nvs', kN', rfl, ?_, hP'⟩
      · intro p hp
        rcases List.mem_cons.mp hp with rfl | hp
        · exact Nat.ne_of_lt hIN
        rw [List.append_assoc] at hp
        rcases List.mem_append.mp hp with hp | hp
        · exact Nat.ne_of_gt (hA _ (.head _) p hp)
        · exact ne p (.tail _ hp)
      · intro q hq p hp
        rcases List.mem_append.mp hp with hp | hp
        · rcases List.mem_cons.mp hq with rfl | hq
          · exact hA _ (.tail _ (.head _)) p hp
          · exact hA q (.tail _ (.tail _ (List.mem_append_right _ hq))) p hp
        · exact htl q hq p hp
    have same : needOk (verdF ds) (k, b) = false → PairsIn ([] ++ tl) nvs (((verdF ds).take (i + 1)).filter (needOk (verdF ds))) := fun e => by
      rw [need_take hvd, e]; simpa using hP
    have more : needOk (verdF ds) (k, b) = true → ∀ l, PairsIn ([(l, W.listOf #[.str k t, .bool b] 0)] ++ tl) (nvs ++ [.ref l]) (((verdF ds).take (i + 1)).filter (needOk (verdF ds))) := fun e l => by
      rw [need_take hvd, e]
      exact (hP.mono memL).snoc ⟨l, t, 0, rfl, .head _⟩
    walk_at "my steps"
    all_goals first
      | (refine fin _ _ _ nvs kN [] (by k_asm) ?mp (news_sub (by assumption) fun p hp => .tail _ hp) (fun _ _ _ h => nomatch h) (same ?ok)
         case mp =>
           intro z
           by_cases h1 : z = Str.ofString "domain"
           · simp [h1]
           by_cases h2 : z = Str.ofString "dotted"
           · simp [h2]
           by_cases h3 : z = Str.ofString "above"
           · simp [h3]
           simp only [if_neg h1, if_neg h2, if_neg h3]
         case ok => simp [needOk, deadD, up, bareD, dotD, *])
      | (refine fin _ _ _ (nvs ++ [_]) _ [(_, W.listOf #[.str k t, .bool b] 0)] (by k_asm) ?mp (news_sub (by assumption) (List.forall_mem_cons.mpr ⟨.tail _ (.tail _ (.head _)), List.forall_mem_cons.mpr ⟨.tail _ (.tail _ (.tail _ (.head _))), List.forall_mem_cons.mpr ⟨.tail _ (.tail _ (.tail _ (.tail _ (.head _)))), List.forall_mem_cons.mpr ⟨.head _, fun p hp => .tail _ (.tail _ (.tail _ (.tail _ (.tail _ hp))))⟩⟩⟩⟩)) ?la (more ?ok _)
         case la =>
           have hl := (show _ ∧ _ ∧ _ ∧ _ ∧ AllLt _ (tl ++ rest) by assumption)
           intro q hq p hp
           rw [List.mem_singleton.mp hp]
           rcases List.mem_cons.mp hq with rfl | hq
           · exact hl.2.1
           rcases List.mem_cons.mp hq with rfl | hq
           · exact hl.2.2.2.1
           · exact allLt_mem hl.2.2.2.2 q hq
         case mp =>
           intro z
           by_cases h1 : z = Str.ofString "domain"
           · simp [h1]
           by_cases h2 : z = Str.ofString "dotted"
           · simp [h2]
           by_cases h3 : z = Str.ofString "above"
           · simp [h3]
           simp only [if_neg h1, if_neg h2, if_neg h3]
         case ok => simp [needOk, deadD, up, bareD, dotD, *])
  case done =>
    rintro h8 tk σ u news' F₁ N₁ ⟨tl, nvs, kN, rfl, htl, hP⟩
    rw [List.take_of_length_le (by unfold kvOf; simp)] at hP
    exact hQ _ _ u nvs kN tl F₁ (news_sub N₁ fun p hp => .tail _ hp) htl hP
end
end Mine

/- Y13 -/
namespace Mine
set_option maxHeartbeats 1000000
set_option pp.deepTerms false
set_option pp.deepTerms.threshold 8
set_option linter.unusedVariables false
local macro_rules | `(tactic| walk_at "pad") => `(tactic| skip)
local macro_rules | `(tactic| walk_at "pad") => `(tactic| skip)
local macro_rules | `(tactic| walk_at "pad") => `(tactic| skip)
local macro_rules | `(tactic| walk_at "pad") => `(tactic| skip)
local macro_rules | `(tactic| walk_at "pad") => `(tactic| skip)
local macro_rules | `(tactic| walk_at "pad") => `(tactic| skip)
local macro_rules | `(tactic| walk_at "pad") => `(tactic| skip)
local macro_rules | `(tactic| walk_at "pad") => `(tactic| skip)
local macro_rules | `(tactic| walk_at "pad") => `(tactic| skip)
local macro_rules | `(tactic| walk_at "pad") => `(tactic| skip)
local macro_rules | `(tactic| walk_at "pad") => `(tactic| skip)
local macro_rules | `(tactic| walk_at "pad") => `(tactic| skip)
local macro_rules | `(tactic| walk_at "pad") => `(tactic| skip)
local macro_rules | `(tactic| walk_at "pad") => `(tactic| skip)
local macro_rules | `(tactic| walk_at "pad") => `(tactic| skip)
local macro_rules | `(tactic| walk_at "pad") => `(tactic| skip)
local macro_rules | `(tactic| walk_at "pad") => `(tactic| skip)
local macro_rules | `(tactic| walk_at "pad") => `(tactic| skip)
local macro_rules | `(tactic| walk_at "pad") => `(tactic| skip)
local macro_rules | `(tactic| walk_at "pad") => `(tactic| skip)
local macro_rules | `(tactic| walk_at "pad") => `(tactic| skip)
local macro_rules | `(tactic| walk_at "pad") => `(tactic| skip)
local macro_rules | `(tactic| walk_at "pad") => `(tactic| skip)
local macro_rules | `(tactic| walk_at "pad") => `(tactic| skip)
local macro_rules | `(tactic| walk_at "pad") => `(tactic| skip)
local macro_rules | `(tactic| walk_at "pad") => `(tactic| skip)
local macro_rules | `(tactic| walk_at "pad") => `(tactic| skip)
local macro_rules | `(tactic| walk_at "pad") => `(tactic| skip)
local macro_rules | `(tactic| walk_at "pad") => `(tactic| skip)
local macro_rules | `(tactic| walk_at "pad") => `(tactic| skip)
local macro_rules | `(tactic| walk_at "pad") => `(tactic| skip)
local macro_rules | `(tactic| walk_at "pad") => `(tactic| skip)
local macro_rules | `(tactic| walk_at "pad") => `(tactic| skip)
local macro_rules | `(tactic| walk_at "pad") => `(tactic| skip)
local macro_rules | `(tactic| walk_at "pad") => `(tactic| skip)
local macro_rules | `(tactic| walk_at "pad") => `(tactic| skip)
local macro_rules | `(tactic| walk_at "pad") => `(tactic| skip)
local macro_rules | `(tactic| walk_at "pad") => `(tactic| skip)
local macro_rules | `(tactic| walk_at "pad") => `(tactic| skip)
local macro_rules | `(tactic| walk_at "pad") => `(tactic| skip)
local macro_rules | `(tactic| walk_at "pad") => `(tactic| skip)
local macro_rules | `(tactic| walk_at "pad") => `(tactic| skip)
local macro_rules | `(tactic| walk_at "pad") => `(tactic| skip)
local macro_rules | `(tactic| walk_at "pad") => `(tactic| skip)
local macro_rules | `(tactic| walk_at "pad") => `(tactic| skip)
local macro_rules | `(tactic| walk_at "pad") => `(tactic| skip)
local macro_rules | `(tactic| walk_at "pad") => `(tactic| skip)
local macro_rules | `(tactic| walk_at "pad") => `(tactic| skip)
local macro_rules | `(tactic| walk_at "pad") => `(tactic| skip)
local macro_rules | `(tactic| walk_at "pad") => `(tactic| skip)
local macro_rules | `(tactic| walk_at "pad") => `(tactic| skip)
local macro_rules | `(tactic| walk_at "pad") => `(tactic| skip)
local macro_rules | `(tactic| walk_at "pad") => `(tactic| skip)
local macro_rules | `(tactic| walk_at "pad") => `(tactic| skip)
local macro_rules | `(tactic| walk_at "pad") => `(tactic| skip)
local macro_rules | `(tactic| walk_at "pad") => `(tactic| skip)
local macro_rules | `(tactic| walk_at "pad") => `(tactic| skip)
local macro_rules | `(tactic| walk_at "pad") => `(tactic| skip)
local macro_rules | `(tactic| walk_at "pad") => `(tactic| skip)
local macro_rules | `(tactic| walk_at "pad") => `(tactic| skip)
local macro_rules | `(tactic| walk_at "pad") => `(tactic| skip)
local macro_rules | `(tactic| walk_at "pad") => `(tactic| skip)
local macro_rules | `(tactic| walk_at "pad") => `(tactic| skip)
local macro_rules | `(tactic| walk_at "pad") => `(tactic| skip)
local macro_rules | `(tactic| walk_at "pad") => `(tactic| skip)
local macro_rules | `(tactic| walk_at "pad") => `(tactic| skip)
local macro_rules | `(tactic| walk_at "pad") => `(tactic| skip)
local macro_rules | `(tactic| walk_at "pad") => `(tactic| skip)
local macro_rules | `(tactic| walk_at "pad") => `(tactic| skip)
local macro_rules | `(tactic| walk_at "pad") => `(tactic| skip)
local macro_rules | `(tactic| walk_at "pad") => `(tactic| skip)
local macro_rules | `(tactic| walk_at "pad") => `(tactic| skip)
local macro_rules | `(tactic| walk_at "pad") => `(tactic| skip)
local macro_rules | `(tactic| walk_at "pad") => `(tactic| skip)
local macro_rules | `(tactic| walk_at "pad") => `(tactic| skip)
local macro_rules | `(tactic| walk_at "pad") => `(tactic| skip)
local macro_rules | `(tactic| walk_at "pad") => `(tactic| skip)
local macro_rules | `(tactic| walk_at "pad") => `(tactic| skip)
local macro_rules | `(tactic| walk_at "pad") => `(tactic| skip)
local macro_rules | `(tactic| walk_at "pad") => `(tactic| skip)
local macro_rules | `(tactic| walk_at "pad") => `(tactic| skip)
local macro_rules | `(tactic| walk_at "pad") => `(tactic| skip)
local macro_rules | `(tactic| walk_at "pad") => `(tactic| skip)
local macro_rules | `(tactic| walk_at "pad") => `(tactic| skip)
local macro_rules | `(tactic| walk_at "pad") => `(tactic| skip)
local macro_rules | `(tactic| walk_at "pad") => `(tactic| skip)
local macro_rules | `(tactic| walk_at "pad") => `(tactic| skip)
local macro_rules | `(tactic| walk_at "pad") => `(tactic| skip)
local macro_rules | `(tactic| walk_at "pad") => `(tactic| skip)
local macro_rules | `(tactic| walk_at "pad") => `(tactic| skip)
local macro_rules | `(tactic| walk_at "pad") => `(tactic| skip)
local macro_rules | `(tactic| walk_at "pad") => `(tactic| skip)
local macro_rules | `(tactic| walk_at "pad") => `(tactic| skip)
local macro_rules | `(tactic| walk_at "pad") => `(tactic| skip)
local macro_rules | `(tactic| walk_at "pad") => `(tactic| skip)
local macro_rules | `(tactic| walk_at "pad") => `(tactic| skip)
local macro_rules | `(tactic| walk_at "pad") => `(tactic| skip)
local macro_rules | `(tactic| walk_at "pad") => `(tactic| skip)
local macro_rules | `(tactic| walk_at "pad") => `(tactic| skip)
local macro_rules | `(tactic| walk_at "pad") => `(tactic| skip)
local macro_rules | `(tactic| walk_at "pad") => `(tactic| skip)
local macro_rules | `(tactic| walk_at "pad") => `(tactic| skip)
local macro_rules | `(tactic| walk_at "pad") => `(tactic| skip)
local macro_rules | `(tactic| walk_at "pad") => `(tactic| skip)
local macro_rules | `(tactic| walk_at "pad") => `(tactic| skip)
local macro_rules | `(tactic| walk_at "pad") => `(tactic| skip)
local macro_rules | `(tactic| walk_at "pad") => `(tactic| skip)
local macro_rules | `(tactic| walk_at "pad") => `(tactic| skip)
local macro_rules | `(tactic| walk_at "pad") => `(tactic| skip)
local macro_rules | `(tactic| walk_at "pad") => `(tactic| skip)
local macro_rules | `(tactic| walk_at "pad") => `(tactic| skip)
local macro_rules | `(tactic| walk_at "pad") => `(tactic| skip)
local macro_rules | `(tactic| walk_at "pad") => `(tactic| skip)
local macro_rules | `(tactic| walk_at "pad") => `(tactic| skip)
local macro_rules | `(tactic| walk_at "pad") => `(tactic| skip)
local macro_rules | `(tactic| walk_at "pad") => `(tactic| skip)
local macro_rules | `(tactic| walk_at "pad") => `(tactic| skip)
local macro_rules | `(tactic| walk_at "pad") => `(tactic| skip)
local macro_rules | `(tactic| walk_at "pad") => `(tactic| skip)
local macro_rules | `(tactic| walk_at "pad") => `(tactic| skip)
local macro_rules | `(tactic| walk_at "pad") => `(tactic| skip)
local macro_rules | `(tactic| walk_at "pad") => `(tactic| skip)
local macro_rules | `(tactic| walk_at "pad") => `(tactic| skip)
local macro_rules | `(tactic| walk_at "pad") => `(tactic| skip)
local macro_rules | `(tactic| walk_at "pad") => `(tactic| skip)
local macro_rules | `(tactic| walk_at "pad") => `(tactic| skip)
local macro_rules | `(tactic| walk_at "pad") => `(tactic| skip)
local macro_rules | `(tactic| walk_at "pad") => `(tactic| skip)
local macro_rules | `(tactic| walk_at "pad") => `(tactic| skip)
local macro_rules | `(tactic| walk_at "pad") => `(tactic| skip)
local macro_rules | `(tactic| walk_at "pad") => `(tactic| skip)
local macro_rules | `(tactic| walk_at "pad") => `(tactic| skip)
local macro_rules | `(tactic| walk_at "pad") => `(tactic| skip)
local macro_rules | `(tactic| walk_at "pad") => `(tactic| skip)
local macro_rules | `(tactic| walk_at "pad") => `(tactic| skip)
local macro_rules | `(tactic| walk_at "pad") => `(tactic| skip)
local macro_rules | `(tactic| walk_at "pad") => `(tactic| skip)
local macro_rules | `(tactic| walk_at "pad") => `(tactic| skip)
local macro_rules | `(tactic| walk_at "pad") => `(tactic| skip)
local macro_rules | `(tactic| walk_at "pad") => `(tactic| skip)
local macro_rules | `(tactic| walk_at "pad") => `(tactic| skip)
local macro_rules | `(tactic| walk_at "pad") => `(tactic| skip)
local macro_rules | `(tactic| walk_at "pad") => `(tactic| skip)
local macro_rules | `(tactic| walk_at "pad") => `(tactic| skip)
local macro_rules | `(tactic| walk_at "pad") => `(tactic| skip)
local macro_rules | `(tactic| walk_at "pad") => `(tactic| skip)
local macro_rules | `(tactic| walk_at "pad") => `(tactic| skip)
local macro_rules | `(tactic| walk_at "pad") => `(tactic| skip)
local macro_rules | `(tactic| walk_at "pad") => `(tactic| skip)
local macro_rules | `(tactic| walk_at "pad") => `(tactic| skip)
local macro_rules | `(tactic| walk_at "pad") => `(tactic| skip)
local macro_rules | `(tactic| walk_at "pad") => `(tactic| skip)
local macro_rules | `(tactic| walk_at "pad") => `(tactic| skip)
local macro_rules | `(tactic| walk_at "pad") => `(tactic| skip)
local macro_rules | `(tactic| walk_at "pad") => `(tactic| skip)
local macro_rules | `(tactic| walk_at "pad") => `(tactic| skip)
local macro_rules | `(tactic| walk_at "pad") => `(tactic| skip)
local macro_rules | `(tactic| walk_at "pad") => `(tactic| skip)
local macro_rules | `(tactic| walk_at "pad") => `(tactic| skip)
local macro_rules | `(tactic| walk_at "pad") => `(tactic| skip)
local macro_rules | `(tactic| walk_at "pad") => `(tactic| skip)
local macro_rules | `(tactic| walk_at "pad") => `(tactic| skip)
local macro_rules | `(tactic| walk_at "pad") => `(tactic| skip)
local macro_rules | `(tactic| walk_at "pad") => `(tactic| skip)
local macro_rules | `(tactic| walk_at "pad") => `(tactic| skip)
local macro_rules | `(tactic| walk_at "pad") => `(tactic| skip)
local macro_rules | `(tactic| walk_at "pad") => `(tactic| skip)
local macro_rules | `(tactic| walk_at "pad") => `(tactic| skip)
local macro_rules | `(tactic| walk_at "pad") => `(tactic| skip)
local macro_rules | `(tactic| walk_at "pad") => `(tactic| skip)
local macro_rules | `(tactic| walk_at "pad") => `(tactic| skip)
local macro_rules | `(tactic| walk_at "pad") => `(tactic| skip)
local macro_rules | `(tactic| walk_at "pad") => `(tactic| skip)
local macro_rules | `(tactic| walk_at "pad") => `(tactic| skip)
local macro_rules | `(tactic| walk_at "pad") => `(tactic| skip)
local macro_rules | `(tactic| walk_at "pad") => `(tactic| skip)
local macro_rules | `(tactic| walk_at "pad") => `(tactic| skip)
local macro_rules | `(tactic| walk_at "pad") => `(tactic| skip)
local macro_rules | `(tactic| walk_at "pad") => `(tactic| skip)
local macro_rules | `(tactic| walk_at "pad") => `(tactic| skip)
local macro_rules | `(tactic| walk_at "pad") => `(tactic| skip)
local macro_rules | `(tactic| walk_at "pad") => `(tactic| skip)
local macro_rules | `(tactic| walk_at "pad") => `(tactic| skip)
local macro_rules | `(tactic| walk_at "pad") => `(tactic| skip)
local macro_rules | `(tactic| walk_at "pad") => `(tactic| skip)
local macro_rules | `(tactic| walk_at "pad") => `(tactic| skip)
local macro_rules | `(tactic| walk_at "pad") => `(tactic| skip)
local macro_rules | `(tactic| walk_at "pad") => `(tactic| skip)
local macro_rules | `(tactic| walk_at "pad") => `(tactic| skip)
local macro_rules | `(tactic| walk_at "pad") => `(tactic| skip)
local macro_rules | `(tactic| walk_at "pad") => `(tactic| skip)
local macro_rules | `(tactic| walk_at "pad") => `(tactic| skip)
local macro_rules | `(tactic| walk_at "pad") => `(tactic| skip)
theorem fresh_Y13 : True := by
  w_top off
  trivial
local macro_rules | `(tactic| walk_at "my steps") => `(tactic| repeat' (first | (k_unfold; (try dsimp only)) | (k_end; wrow_close) | ((try dsimp only); walk1) | (leave1; walk_say "STEP leave1"; try dsimp only) | fail "no step"))
local macro_rules | `(tactic| k_mem) => `(tactic| assumption)
local macro_rules | `(tactic| k_all) => `(tactic| first | assumption | exact low_ne (by assumption) (by omega))
local macro_rules | `(tactic| walk_at "eval Name") => `(tactic| (k_dflt (refine' ldM ?k1 ?k2 ?_ ?k3 ?k4 ?k5; (case k1 => k_asm); (case k2 => assumption); (case k3 => exact rfl); (case k4 => exact rfl); (case k5 => decide)); (try dsimp only)))
local macro_rules | `(tactic| walk_at "exec For") => `(tactic| ((rename Fr _ _ _ _ => lF'); (with_unfolding_all refine' For_invVF lF' ?k1 ?k2 ?_; (case k1 => exact rfl); (case k2 => exact rfl))))
local macro_rules | `(tactic| walk_at "TurnPost") => `(tactic| dsimp only [TurnPost])
local macro_rules | `(tactic| walk_at "call type:range") => `(tactic| (k_dflt (first | (refine' range2N ?F ?N ?_; (case F => k_asm); (case N => k_asm)) | (refine' range1N ?F ?N ?_; (case F => k_asm); (case N => k_asm))); intro r' h' tk' t1' t2' t3' F' N' l1; (try k_lt l1); (try k_sweep)))
local macro_rules | `(tactic| walk_at "eval ListComp") => `(tactic| ((rename Fr _ _ _ _ => lF'); (with_unfolding_all refine' cx_eval lF' ?k1 ?k2 ?k3 ?k4 ?k5 ?_; (case k1 => first | exact rfl | with_unfolding_all rfl); (case k2 => decide +kernel); (case k3 => exact rfl); (case k4 => decide +kernel); (case k5 => (intro _; with_unfolding_all rfl)))))
local macro_rules | `(tactic| walk_at "CxSrc") => `(tactic| fail "here")
theorem eqSorted {p1 p2 a b : List (Str × Bool)} (h1 : p1.Perm a) (h2 : p2.Perm b) (hab : a.Perm b) (hd : ∀ p ∈ a, p.1 ∈ domsL) (s1 : p1.Pairwise fun p q => keyN p ≤ keyN q) (s2 : p2.Pairwise fun p q => keyN p ≤ keyN q) : p1 = p2 :=
  sorted_eq (fun p hp => hd p (h1.mem_iff.mp hp)) (h1.trans (hab.trans h2.symm)) s1 s2
section
variable {prog : Program} {w : World} {A : Around} {E : Value → Shared → Prop} {s : Shared} {h₀ : Heap} {L : Addr} {m : Str → Option Value} {news : Led} {a b : Addr} {us vs : List Value} {n k : Nat} {Q : Value → Shared → Prop}
theorem eq_pairs2 {ps qs : List (Str × Bool)} (N : News h₀ L s.heap news) (ha : (a, W.listOf us.toArray n) ∈ news) (hb : (b, W.listOf vs.toArray k) ∈ news) (hx : PairsIn news us ps) (hy : PairsIn news vs qs) (e : ps = qs) (hu : A.units + 64 < cLine) (h : Q (.bool true) s) :
    wpAny (model prog w) A (compareOp .Eq (.ref a) (.ref b)) Q E s := by
  subst e; exact eq_pairs N ha hb hx hy hu h
end
local macro_rules | `(tactic| walk_at "call builtin:sorted") => `(tactic| (k_dflt ((refine' sortP ?F ?N ?l ?P ?ps ?h4 ?u ?_); (case F => k_asm); (case N => k_asm); (case l => k_mem); (case P => exact PairsIn.mono (by assumption) (by intro q hq; simp only [List.mem_cons, List.mem_append] at hq ⊢; grind)); (case ps => assumption); (case h4 => assumption); (case u => ke_room)); intro D' vs' ps' c' h' F' N' l1 hp' hs' hP'; (try k_lt l1); (try k_sweep)))
local macro_rules | `(tactic| walk_at "compareOp Eq ref ref") => `(tactic| (k_dflt ((refine' eq_pairs2 ?N ?a ?b ?x ?y ?e ?u ?_); (case N => k_asm); (case a => k_mem); (case b => k_mem); (case x => exact PairsIn.mono (by assumption) (by intro q hq; simp only [List.mem_cons, List.mem_append] at hq ⊢; grind)); (case y => exact PairsIn.mono (by assumption) (by intro q hq; simp only [List.mem_cons, List.mem_append] at hq ⊢; grind)); (case e => exact eqSorted (by assumption) (by assumption) (by assumption) (by assumption) (by assumption) (by assumption)); (case u => ke_room)); (try dsimp only)))
local macro_rules | `(tactic| walk_at "subscriptTail") => `(tactic| ((with_reducible show wpAny _ _ (subscriptTail _ _ (Value.ref _) (Value.int _ _)) _ _ _); k_dflt ((refine' itemL ?N ?M ?lt ?l1 ?_ ?hs ?hg); (case N => k_asm); (case M => k_mem); (case lt => assumption); (case l1 => omega); (case hs => with_unfolding_all rfl); (case hg => (intro _; with_unfolding_all rfl))); (try dsimp only)))
section
variable {w : World} {p : Program} {loose : List Str} {mean : ExcName → Option Value} {mg mb : Str → Option Value} {g : Heap} {L fa : Addr} {m : Str → Option Value} {rest : Led} {s : Shared} {Q : Flow → Shared → Prop} {E : Value → Shared → Prop} {sc : Scope} {st : Stmt}
theorem S13 {lD K Nd : Addr} {oD : Obj} {ds nd : List (Str × Bool)} {dvs kvs nvs : List Value} {Kf : List Nat} {kD kK kN n : Nat} (hsc : sc = lawScope) (hst : some st = lawBody[13]?)
    (B : Below callerA g [] g) (F : Fr g L s.heap m) (X : (hd.heap_39 w.params).In g) (N : News g L s.heap rest) (T : Top p loose mean mg mb g)
    (hcD : (L + 1, oD) ∈ rest) (hdD : oD.data = .cell (some (.ref lD))) (hlD : (lD, W.listOf dvs.toArray kD) ∈ rest) (hP : PairsIn rest dvs ds) (hn : ds.length = n) (h4 : n ≤ 4) (hdm : ∀ p ∈ ds, p.1 ∈ domsL)
    (hmK : m (Str.ofString "kept") = some (.ref K)) (hlK : (K, W.listOf kvs.toArray kK) ∈ rest) (hK : IntsAre kvs (natsI Kf)) (hKlt : ∀ j ∈ Kf, j < n) (hK4 : Kf.length ≤ 4)
    (hmN : m (Str.ofString "needed") = some (.ref Nd)) (hlN : (Nd, W.listOf nvs.toArray kN) ∈ rest) (hPN : PairsIn rest nvs nd) (hperm : (sub ds Kf).Perm nd)
    (hQ : ∀ h' tk', Fr g L h' m → News g L h' rest → Q (.ret (.bool true)) { s with heap := h', toks := tk' }) :
    wpAny (model Row.prog w) (LawA sc L fa) (exec st (lawEnv sc L fa)) Q E s := by
  conv at hsc => rhs; whnf
  conv at hst => rhs; whnf
  have hst := Option.some.inj hst
  subst hsc hst
  dsimp only [LawA, lawEnv, LawE]
  have hdl := hP.length
  have hsd : ∀ p ∈ sub ds Kf, p.1 ∈ domsL := at0_dom hdm (.inr trivial) Kf fun i hi => by rw [hn]; exact hKlt i hi
  have hnd : ∀ p ∈ nd, p.1 ∈ domsL := fun p hp => hsd p (hperm.mem_iff.mpr hp)
  have hs4 : (sub ds Kf).length ≤ 4 := by simp [sub]; exact hK4
  have hn4 : nd.length ≤ 4 := by rw [← hperm.length_eq]; exact hs4
  walk_at "my steps"
  refine cx_led (l := K) (vs := kvs) (k := kK) (news := rest) (fun i ys nw => nw = rest ∧ PairsIn rest ys (sub ds (Kf.take i))) rfl (by k_asm) (by k_asm) hlK (by rw [hK.length]; simp [natsI]; omega) rfl rfl
    ⟨rfl, by simpa [sub] using PairsIn.nil⟩ ?hJ ?turn ?done
  case hJ => rintro i ys nw ⟨rfl, _⟩; exact hlK
  case turn =>
    rintro i v ys nw I oI C oC D m₂ h tk E' hvi ⟨rfl, hJ⟩ hC9 hm₂ F9 N9 off ne lt
    obtain ⟨z, t, rfl, hz⟩ := hK.at i v hvi
    obtain ⟨j, hj, rfl⟩ := natsI_at hz
    have hjn : j < n := hKlt j (List.mem_of_getElem? hj)
    have hjd : j < dvs.length := by omega
    dsimp only [CTurn]
    walk_at "my steps"
    refine ⟨_, _, _, rfl, by k_asm, by k_asm, off, rfl, ?_⟩
    rw [List.take_add_one, hj]
    show PairsIn _ (ys ++ [dvs.getD j Value.none]) ((Kf.take i ++ [j]).map (at0 ds))
    rw [List.map_append]
    exact hJ.snoc (hP.pick (by omega))
  case done =>
    rintro D h tk ys nw F9 N9 off lt ⟨rfl, hJ⟩
    have e : kvs.length = Kf.length := by rw [hK.length]; simp [natsI]
    rw [e, List.take_length] at hJ
    walk_at "my steps"
    exact hQ _ _ (by k_asm) (news_sub (by assumption) fun p hp => .tail _ (.tail _ (.tail _ hp)))
end
end Mine

/- Z2 -/
namespace Mine
set_option maxHeartbeats 1000000
set_option pp.deepTerms false
set_option pp.deepTerms.threshold 8
set_option linter.unusedVariables false
section
variable {M : Model} {A : Around} {env : Env} {Q : Flow → Shared → Prop} {E : Value → Shared → Prop} {s : Shared}
theorem step_law {i : Nat} {st : Stmt} (hst : some st = lawBody[i]?) (h : wpAny M A (exec st env) (fun f s' => match f with | .next => wpAny M A (execs (lawBody.drop (i + 1)) env) Q E s' | f => Q f s') E s) : wpAny M A (execs (lawBody.drop i) env) Q E s := by
  have hlt : i < lawBody.length := (List.getElem?_eq_some_iff.mp hst.symm).1
  have e : lawBody.drop i = st :: lawBody.drop (i + 1) := by
    rw [List.drop_eq_getElem_cons hlt]
    congr 1
    rw [List.getElem?_eq_getElem hlt] at hst
    exact (Option.some.inj hst).symm
  rw [e]
  exact wpAny_execs_cons h
end
theorem strike_sub {ds : List (Str × Bool)} : ∀ (os K : List Nat), (os.foldl (strikeF ds) K).Sublist K
  | [], K => List.Sublist.refl _
  | o :: r, K => by
    refine (strike_sub r (strikeF ds K o)).trans ?_
    unfold strikeF
    split
    · exact List.filter_sublist
    · exact List.Sublist.refl _
theorem law_len : lawBody.length = 14 := by decide +kernel
theorem law_at {i : Nat} (h : i < 14) : ∃ st, some st = lawBody[i]? := ⟨lawBody[i]'(by rw [law_len]; exact h), (List.getElem?_eq_getElem _).symm⟩
section
variable {w : World} {p : Program} {loose : List Str} {mean : ExcName → Option Value} {mg mb : Str → Option Value} {g : Heap} {L fa : Addr} {m : Str → Option Value} {s : Shared} {Q : Flow → Shared → Prop} {E : Value → Shared → Prop} {sc : Scope}
theorem law_runs {ls : Addr} {o1 o2 o3 o4 o5 : Obj} {vs : List Value} {ns : List Int} (hsc : sc = lawScope)
    (B : Below callerA g [] g) (F : Fr g L s.heap m) (X : (hd.heap_39 w.params).In g) (T : Top p loose mean mg mb g) (C115 : CodeHd g 119 115) (C155 : CodeHd g 157 155)
    (N : News g L s.heap [(L + 1 + 1 + 1 + 1 + 1, o5), (L + 1 + 1 + 1 + 1, o4), (L + 1 + 1 + 1, o3), (L + 1 + 1, o2), (L + 1, o1), (115, tabObj #[]), (155, tabObj #[])])
    (d1 : o1.data = .cell none) (d2 : o2.data = .cell none) (d3 : o3.data = .cell none) (d4 : o4.data = .cell none) (d5 : o5.data = .cell none) (h115 : @LT.lt Nat _ 115 L) (h155 : @LT.lt Nat _ 155 L)
    (hs : m (Str.ofString "script") = some (.ref ls)) (hl : g.IsList ls vs.toArray) (hi : IntsAre vs ns) (hlen : ns.length ≤ 63)
    (hQ : ∀ h' tk' m' ps ps', Fr g L h' m' → News g L h' [(115, tabObj ps), (155, tabObj ps')] → Q (.ret (.bool true)) { s with heap := h', toks := tk' }) :
    wpAny (model Row.prog w) (LawA sc L fa) (execs (lawBody.drop 0) (lawEnv sc L fa)) Q (LawE w sc L fa E) s := by
  -- 0
  obtain ⟨st, hst⟩ := law_at (i := 0) (by decide)
  refine step_law hst (S0 hsc hst B F X N T d5 (by intro p hp; simp only [List.mem_cons, List.not_mem_nil, or_false] at hp; rcases hp with rfl | rfl | rfl | rfl | rfl | rfl <;> (refine neN ?_; dsimp only; omega)) hs hl hi hlen fun h0 tk0 o5' lN nvs kN nums F0 N0 d5' hnums hn4 hlt0 => ?_)
  have gN : @LT.lt Nat _ (L + 1 + 1 + 1 + 1 + 1) lN := hlt0 _ (.head _)
  clear F N st hst
  -- 1
  obtain ⟨st, hst⟩ := law_at (i := 1) (by decide)
  refine step_law hst (S1 (rest := [(L + 1 + 1 + 1 + 1 + 1, o5'), (L + 1 + 1 + 1 + 1, o4), (L + 1 + 1 + 1, o3), (L + 1 + 1, o2), (115, tabObj #[]), (155, tabObj #[]), (lN, W.listOf nvs.toArray kN)]) hsc hst B F0 X (news_sub N0 (by intro q hq; simp only [List.mem_cons, List.not_mem_nil, or_false] at hq ⊢; grind)) T d1
    (by intro p hp; simp only [List.mem_cons, List.not_mem_nil, or_false] at hp; rcases hp with rfl | rfl | rfl | rfl | rfl | rfl | rfl <;> (refine neN ?_; dsimp only; omega)) (.head _) d5' (.tail _ (.tail _ (.tail _ (.tail _ (.tail _ (.tail _ (.head _))))))) hnums hn4 fun h1 tk1 o1' lD dvs kD tl1 F1 N1 lt1 d1' hlD hP => ?_)
  have g1 : ∀ p ∈ tl1, @LT.lt Nat _ (L + 1 + 1 + 1 + 1 + 1) p.1 := fun p hp => lt1 _ (.tail _ (.head _)) p hp
  clear F0 N0 st hst
  obtain ⟨R1, hR1e⟩ : ∃ R : Led, R = tl1 ++ [(lN, W.listOf nvs.toArray kN)] := ⟨_, rfl⟩
  have hR1 : ∀ p ∈ R1, @LT.lt Nat _ (L + 1 + 1 + 1 + 1 + 1) p.1 := by
    rw [hR1e]; intro p hp
    rcases List.mem_append.mp hp with hp | hp
    · exact g1 p hp
    · rw [List.mem_singleton.mp hp]; exact gN
  have mlN : (lN, W.listOf nvs.toArray kN) ∈ R1 := by rw [hR1e]; exact List.mem_append_right _ (.head _)
  have mlD : (lD, W.listOf dvs.toArray kD) ∈ R1 := by rw [hR1e]; exact List.mem_append_left _ hlD
  have hP1 : PairsIn R1 dvs (nums.map fun x => (domOf x, verOf x)) := by rw [hR1e]; exact hP.mono fun p hp => List.mem_append_left _ hp
  have N1' : News g L h1 ((L + 1 + 1 + 1 + 1 + 1, o5') :: (L + 1 + 1 + 1 + 1, o4) :: (L + 1 + 1 + 1, o3) :: (L + 1 + 1, o2) :: (L + 1, o1') :: (115, tabObj #[]) :: (155, tabObj #[]) :: R1) := by rw [hR1e]; exact news_sub N1 (by intro q hq; simp only [List.mem_cons, List.mem_append, List.not_mem_nil, or_false] at hq ⊢; grind)
  clear N1 hR1e hP hlD lt1
  obtain ⟨ds, hds⟩ : ∃ ds, ds = nums.map fun x => (domOf x, verOf x) := ⟨_, rfl⟩
  have hdl : ds.length = nums.length := by rw [hds]; simp
  have hd4 : ds.length ≤ 4 := by omega
  have hdm : ∀ p ∈ ds, p.1 ∈ domsL := by
    rw [hds]; intro p hp
    obtain ⟨x, _, rfl⟩ := List.mem_map.mp hp
    exact domOf_mem x
  rw [← hds] at hP1
  have hvl : dvs.length = ds.length := hP1.length
  have hvd4 : (verdF ds).length ≤ 4 := by
    have := verdF_len ds []
    simp only [List.length_nil] at this
    unfold verdF; omega
  have hvdm := verd_dom hdm
  -- 2
  obtain ⟨st, hst⟩ := law_at (i := 2) (by decide)
  refine step_law hst (S2 (rest := (L + 1 + 1 + 1 + 1 + 1, o5') :: (L + 1 + 1 + 1 + 1, o4) :: (L + 1 + 1 + 1, o3) :: (L + 1, o1') :: (115, tabObj #[]) :: (155, tabObj #[]) :: R1) hsc hst B F1 X (news_sub N1' (by intro q hq; simp only [List.mem_cons, List.mem_append, List.not_mem_nil, or_false] at hq ⊢; grind)) T d2 (by intro p hp; simp only [List.mem_cons] at hp; rcases hp with rfl | rfl | rfl | rfl | rfl | rfl | hp <;> first | (refine neN ?_; dsimp only; omega) | (have h9 := hR1 _ hp; refine neN ?_; omega)) (by simp) d1' (.tail _ (.tail _ (.tail _ (.tail _ (.tail _ (.tail _ (mlD))))))) (hP1.mono (by intro q hq; simp only [List.mem_cons]; grind)) hd4 fun h2 tk2 o2' dV tl2 F2 N2 lt2 d2' hV => ?_)
  obtain ⟨R2, hR2e⟩ : ∃ R : Led, R = tl2 ++ R1 := ⟨_, rfl⟩
  have hR2 : ∀ p ∈ R2, @LT.lt Nat _ (L + 1 + 1 + 1 + 1 + 1) p.1 := by
    rw [hR2e]; intro p hp
    rcases List.mem_append.mp hp with hp | hp
    · exact lt2 _ (.tail _ (.head _)) p hp
    · exact hR1 p hp
  have s12 : ∀ p ∈ R1, p ∈ R2 := by rw [hR2e]; exact fun p hp => List.mem_append_right _ hp
  have hV2 : VerdIn w R2 dV (verdF ds) := by rw [hR2e]; exact hV.mono fun p hp => List.mem_append_left _ hp
  have N2' : News g L h2 ((L + 1 + 1 + 1 + 1 + 1, o5') :: (L + 1 + 1 + 1 + 1, o4) :: (L + 1 + 1 + 1, o3) :: (L + 1 + 1, o2') :: (L + 1, o1') :: (115, tabObj #[]) :: (155, tabObj #[]) :: R2) := by rw [hR2e]; exact news_sub N2 (by intro q hq; simp only [List.mem_cons, List.mem_append, List.not_mem_nil, or_false] at hq ⊢; grind)
  clear N2 hR2e hV lt2 F1 N1' st hst
  -- 3
  obtain ⟨st, hst⟩ := law_at (i := 3) (by decide)
  refine step_law hst (S3 (rest := (L + 1 + 1 + 1 + 1 + 1, o5') :: (L + 1 + 1 + 1 + 1, o4) :: (L + 1 + 1 + 1, o3) :: (L + 1 + 1, o2') :: (L + 1, o1') :: (115, tabObj #[]) :: (155, tabObj #[]) :: R2) hsc hst B F2 X N2' T (by simp) d2' (hV2.mono (by intro q hq; simp only [List.mem_cons]; grind)) hvd4 hvdm fun h3 tk3 H hvs kH F3 N3 lt3 hS => ?_)
  obtain ⟨R3, hR3e⟩ : ∃ R : Led, R = (H, W.listOf hvs.toArray kH) :: R2 := ⟨_, rfl⟩
  have hR3 : ∀ p ∈ R3, @LT.lt Nat _ (L + 1 + 1 + 1 + 1 + 1) p.1 := by
    rw [hR3e]; intro p hp
    rcases List.mem_cons.mp hp with rfl | hp
    · exact lt3 _ (.head _)
    · exact hR2 p hp
  have s23 : ∀ p ∈ R2, p ∈ R3 := by rw [hR3e]; exact fun p hp => .tail _ hp
  have e3 : (H, W.listOf hvs.toArray kH) ∈ R3 := by rw [hR3e]; exact .head _
  have N3' : News g L h3 ((L + 1 + 1 + 1 + 1 + 1, o5') :: (L + 1 + 1 + 1 + 1, o4) :: (L + 1 + 1 + 1, o3) :: (L + 1 + 1, o2') :: (L + 1, o1') :: (115, tabObj #[]) :: (155, tabObj #[]) :: R3) := by rw [hR3e]; exact news_sub N3 (by intro q hq; simp only [List.mem_cons, List.mem_append, List.not_mem_nil, or_false] at hq ⊢; grind)
  obtain ⟨m3, hm3⟩ : ∃ m' : Str → Option Value, m' = fun z => if z = Str.ofString "hosts" then some (.ref H) else m z := ⟨_, rfl⟩
  rw [← hm3] at F3
  have mH3 : m3 (Str.ofString "hosts") = some (.ref H) := by rw [hm3]; rfl
  have hhm : ∀ x ∈ hostsOf (verdF ds), x ∈ hostsL := by
    intro x hx
    obtain ⟨q, hq, rfl⟩ := List.mem_map.mp hx
    exact (domFact q.1 (hvdm q hq)).1
  have hh4 : (hostsOf (verdF ds)).length ≤ 4 := by unfold hostsOf; simpa using hvd4
  clear N3 hR3e lt3 F2 N2' hm3 st hst
  -- 4
  obtain ⟨st, hst⟩ := law_at (i := 4) (by decide)
  refine step_law hst (S4 (rest := (L + 1 + 1 + 1 + 1 + 1, o5') :: (L + 1 + 1 + 1 + 1, o4) :: (L + 1 + 1 + 1, o3) :: (L + 1 + 1, o2') :: (L + 1, o1') :: (115, tabObj #[]) :: (155, tabObj #[]) :: R3) hsc hst B F3 X N3' T mH3 (.tail _ (.tail _ (.tail _ (.tail _ (.tail _ (.tail _ (.tail _ (e3)))))))) hS hhm fun h4 tk4 u4 tl4 F4 N4 lt4 => ?_)
  have N4' : News g L h4 ((L + 1 + 1 + 1 + 1 + 1, o5') :: (L + 1 + 1 + 1 + 1, o4) :: (L + 1 + 1 + 1, o3) :: (L + 1 + 1, o2') :: (L + 1, o1') :: (115, tabObj #[]) :: (155, tabObj #[]) :: R3) := news_sub N4 fun p hp => List.mem_append_right _ hp
  obtain ⟨m4, hm4⟩ : ∃ m' : Str → Option Value, m' = fun z => if z = Str.ofString "host" then u4 z else m3 z := ⟨_, rfl⟩
  rw [← hm4] at F4
  have mH4 : m4 (Str.ofString "hosts") = some (.ref H) := by rw [hm4]; exact mH3
  clear N4 lt4 F3 N3' hm4 st hst
  -- 5
  obtain ⟨st, hst⟩ := law_at (i := 5) (by decide)
  refine step_law hst (S5 (rest := (L + 1 + 1 + 1 + 1 + 1, o5') :: (L + 1 + 1 + 1 + 1, o4) :: (L + 1 + 1 + 1, o3) :: (L + 1 + 1, o2') :: (L + 1, o1') :: (115, tabObj #[]) :: (155, tabObj #[]) :: R3) hsc hst B F4 X N4' T mH4 (.tail _ (.tail _ (.tail _ (.tail _ (.tail _ (.tail _ (.tail _ (e3)))))))) hS hhm hh4 (by simp) d2' (hV2.mono (by intro q hq; have := s23 q hq; simp only [List.mem_cons]; grind)) fun h5 tk5 U bvs kU F5 N5 lt5 hU => ?_)
  obtain ⟨R5, hR5e⟩ : ∃ R : Led, R = (U, W.listOf bvs.toArray kU) :: R3 := ⟨_, rfl⟩
  have hR5 : ∀ p ∈ R5, @LT.lt Nat _ (L + 1 + 1 + 1 + 1 + 1) p.1 := by
    rw [hR5e]; intro p hp
    rcases List.mem_cons.mp hp with rfl | hp
    · exact lt5 _ (.head _)
    · exact hR3 p hp
  have s35 : ∀ p ∈ R3, p ∈ R5 := by rw [hR5e]; exact fun p hp => .tail _ hp
  have e5 : (U, W.listOf bvs.toArray kU) ∈ R5 := by rw [hR5e]; exact .head _
  have N5' : News g L h5 ((L + 1 + 1 + 1 + 1 + 1, o5') :: (L + 1 + 1 + 1 + 1, o4) :: (L + 1 + 1 + 1, o3) :: (L + 1 + 1, o2') :: (L + 1, o1') :: (115, tabObj #[]) :: (155, tabObj #[]) :: R5) := by rw [hR5e]; exact news_sub N5 (by intro q hq; simp only [List.mem_cons, List.mem_append, List.not_mem_nil, or_false] at hq ⊢; grind)
  obtain ⟨m5, hm5⟩ : ∃ m' : Str → Option Value, m' = fun z => if z = Str.ofString "due" then some (.ref U) else m4 z := ⟨_, rfl⟩
  rw [← hm5] at F5
  have mH5 : m5 (Str.ofString "hosts") = some (.ref H) := by rw [hm5]; exact mH4
  have mU5 : m5 (Str.ofString "due") = some (.ref U) := by rw [hm5]; rfl
  have hU' : BoolsAre bvs (dueOf (verdF ds)) := hU
  clear N5 hR5e lt5 F4 N4' hm5 st hst
  -- 6
  obtain ⟨st, hst⟩ := law_at (i := 6) (by decide)
  refine step_law hst (S6 (rest := (L + 1 + 1 + 1 + 1 + 1, o5') :: (L + 1 + 1 + 1 + 1, o4) :: (L + 1 + 1, o2') :: (L + 1, o1') :: (155, tabObj #[]) :: R5) hsc hst B F5 X (news_sub N5' (by intro q hq; simp only [List.mem_cons, List.mem_append, List.not_mem_nil, or_false] at hq ⊢; grind)) T C115 d3 (by intro p hp; simp only [List.mem_cons] at hp; rcases hp with rfl | rfl | rfl | rfl | rfl | hp <;> first | (refine neN ?_; dsimp only; omega) | (have h9 := hR5 _ hp; refine neN ?_; omega)) (by intro p hp; simp only [List.mem_cons] at hp; rcases hp with rfl | rfl | rfl | rfl | rfl | rfl | hp <;> first | (refine neN ?_; dsimp only; omega) | (have h9 := hR5 _ hp; refine neN ?_; omega)) (by simp) d1' (.tail _ (.tail _ (.tail _ (.tail _ (.tail _ (s35 _ (s23 _ (s12 _ mlD)))))))) (hP1.mono (by intro q hq; have := s35 _ (s23 q (s12 q hq)); simp only [List.mem_cons]; grind)) hd4 hdm fun h6 tk6 o3' ps lR rvs kR tl6 F6 N6 lt6 d3' hlR hRu => ?_)
  obtain ⟨R6, hR6e⟩ : ∃ R : Led, R = tl6 ++ R5 := ⟨_, rfl⟩
  have hR6 : ∀ p ∈ R6, @LT.lt Nat _ (L + 1 + 1 + 1 + 1 + 1) p.1 := by
    rw [hR6e]; intro p hp
    rcases List.mem_append.mp hp with hp | hp
    · exact lt6 _ (.tail _ (.tail _ (.head _))) p hp
    · exact hR5 p hp
  have s56 : ∀ p ∈ R5, p ∈ R6 := by rw [hR6e]; exact fun p hp => List.mem_append_right _ hp
  have e6 : (lR, W.listOf rvs.toArray kR) ∈ R6 := by rw [hR6e]; exact List.mem_append_left _ hlR
  have hRu6 : RulesIn w R6 rvs ds := by rw [hR6e]; exact hRu.mono fun p hp => List.mem_append_left _ hp
  have hrl : rvs.length = ds.length := hRu6.length
  have N6' : News g L h6 ((L + 1 + 1 + 1 + 1 + 1, o5') :: (L + 1 + 1 + 1 + 1, o4) :: (L + 1 + 1 + 1, o3') :: (L + 1 + 1, o2') :: (L + 1, o1') :: (115, tabObj ps) :: (155, tabObj #[]) :: R6) := by rw [hR6e]; exact news_sub N6 (by intro q hq; simp only [List.mem_cons, List.mem_append, List.not_mem_nil, or_false] at hq ⊢; grind)
  clear N6 hR6e hRu lt6 F5 N5' st hst
  -- 7
  obtain ⟨st, hst⟩ := law_at (i := 7) (by decide)
  refine step_law hst (S7 (rest := (L + 1 + 1 + 1 + 1 + 1, o5') :: (L + 1 + 1 + 1 + 1, o4) :: (L + 1 + 1 + 1, o3') :: (L + 1 + 1, o2') :: (L + 1, o1') :: (115, tabObj ps) :: (155, tabObj #[]) :: R6) hsc hst B F6 X N6' T mH5 (.tail _ (.tail _ (.tail _ (.tail _ (.tail _ (.tail _ (.tail _ (s56 _ (s35 _ e3))))))))) hS hhm hh4 (by simp) d3' (.tail _ (.tail _ (.tail _ (.tail _ (.tail _ (.tail _ (.tail _ (e6)))))))) (hRu6.mono (by intro q hq; simp only [List.mem_cons]; grind)) (by omega) mU5 (.tail _ (.tail _ (.tail _ (.tail _ (.tail _ (.tail _ (.tail _ (s56 _ e5)))))))) hU' (ans_all hdm) fun h7 tk7 F7 N7 => ?_)
  clear F6 N6' st hst
  -- 8
  obtain ⟨st, hst⟩ := law_at (i := 8) (by decide)
  refine step_law hst (S8 (rest := (L + 1 + 1 + 1 + 1 + 1, o5') :: (L + 1 + 1 + 1 + 1, o4) :: (L + 1 + 1 + 1, o3') :: (L + 1 + 1, o2') :: (L + 1, o1') :: (115, tabObj ps) :: R6) (n := ds.length) hsc hst B F7 X (news_sub N7 (by intro q hq; simp only [List.mem_cons, List.mem_append, List.not_mem_nil, or_false] at hq ⊢; grind)) T C155 (by intro p hp; simp only [List.mem_cons] at hp; rcases hp with rfl | rfl | rfl | rfl | rfl | rfl | hp <;> first | (refine neN ?_; dsimp only; omega) | (have h9 := hR6 _ hp; refine neN ?_; omega)) (by simp) d1' (.tail _ (.tail _ (.tail _ (.tail _ (.tail _ (.tail _ (s56 _ (s35 _ (s23 _ (s12 _ mlD)))))))))) hvl hd4 (by simp) d5' (.tail _ (.tail _ (.tail _ (.tail _ (.tail _ (.tail _ (s56 _ (s35 _ (s23 _ (s12 _ mlN)))))))))) hnums hdl.symm fun h8 tk8 O ovs os kO ps' F8 N8 lt8 hO hop => ?_)
  obtain ⟨R8, hR8e⟩ : ∃ R : Led, R = (O, W.listOf ovs.toArray kO) :: R6 := ⟨_, rfl⟩
  have hR8 : ∀ p ∈ R8, @LT.lt Nat _ (L + 1 + 1 + 1 + 1 + 1) p.1 := by
    rw [hR8e]; intro p hp
    rcases List.mem_cons.mp hp with rfl | hp
    · exact lt8 _ (.tail _ (.head _))
    · exact hR6 p hp
  have s68 : ∀ p ∈ R6, p ∈ R8 := by rw [hR8e]; exact fun p hp => .tail _ hp
  have e8 : (O, W.listOf ovs.toArray kO) ∈ R8 := by rw [hR8e]; exact .head _
  have N8' : News g L h8 ((L + 1 + 1 + 1 + 1 + 1, o5') :: (L + 1 + 1 + 1 + 1, o4) :: (L + 1 + 1 + 1, o3') :: (L + 1 + 1, o2') :: (L + 1, o1') :: (115, tabObj ps) :: (155, tabObj ps') :: R8) := by rw [hR8e]; exact news_sub N8 (by intro q hq; simp only [List.mem_cons, List.mem_append, List.not_mem_nil, or_false] at hq ⊢; grind)
  obtain ⟨m8, hm8⟩ : ∃ m' : Str → Option Value, m' = fun z => if z = Str.ofString "order" then some (.ref O) else m5 z := ⟨_, rfl⟩
  rw [← hm8] at F8
  have mH8 : m8 (Str.ofString "hosts") = some (.ref H) := by rw [hm8]; exact mH5
  have mU8 : m8 (Str.ofString "due") = some (.ref U) := by rw [hm8]; exact mU5
  have mO8 : m8 (Str.ofString "order") = some (.ref O) := by rw [hm8]; rfl
  clear N8 hR8e lt8 F7 N7 hm8 st hst
  -- 9
  obtain ⟨st, hst⟩ := law_at (i := 9) (by decide)
  refine step_law hst (S9 (rest := (L + 1 + 1 + 1 + 1 + 1, o5') :: (L + 1 + 1 + 1 + 1, o4) :: (L + 1 + 1 + 1, o3') :: (L + 1 + 1, o2') :: (L + 1, o1') :: (115, tabObj ps) :: (155, tabObj ps') :: R8) (n := ds.length) hsc hst B F8 X N8' T (by simp) d1' (.tail _ (.tail _ (.tail _ (.tail _ (.tail _ (.tail _ (.tail _ (s68 _ (s56 _ (s35 _ (s23 _ (s12 _ mlD)))))))))))) hvl hd4 fun h9 tk9 K kvs kK F9 N9 lt9 hK => ?_)
  obtain ⟨R9, hR9e⟩ : ∃ R : Led, R = (K, W.listOf kvs.toArray kK) :: R8 := ⟨_, rfl⟩
  have hR9 : ∀ p ∈ R9, @LT.lt Nat _ (L + 1 + 1 + 1 + 1 + 1) p.1 := by
    rw [hR9e]; intro p hp
    rcases List.mem_cons.mp hp with rfl | hp
    · exact lt9 _ (.head _)
    · exact hR8 p hp
  have s89 : ∀ p ∈ R8, p ∈ R9 := by rw [hR9e]; exact fun p hp => .tail _ hp
  have e9 : (K, W.listOf kvs.toArray kK) ∈ R9 := by rw [hR9e]; exact .head _
  have N9' : News g L h9 ((L + 1 + 1 + 1 + 1 + 1, o5') :: (L + 1 + 1 + 1 + 1, o4) :: (L + 1 + 1 + 1, o3') :: (L + 1 + 1, o2') :: (L + 1, o1') :: (115, tabObj ps) :: (155, tabObj ps') :: R9) := by rw [hR9e]; exact news_sub N9 (by intro q hq; simp only [List.mem_cons, List.mem_append, List.not_mem_nil, or_false] at hq ⊢; grind)
  obtain ⟨m9, hm9⟩ : ∃ m' : Str → Option Value, m' = fun z => if z = Str.ofString "kept" then some (.ref K) else m8 z := ⟨_, rfl⟩
  rw [← hm9] at F9
  have mH9 : m9 (Str.ofString "hosts") = some (.ref H) := by rw [hm9]; exact mH8
  have mU9 : m9 (Str.ofString "due") = some (.ref U) := by rw [hm9]; exact mU8
  have mO9 : m9 (Str.ofString "order") = some (.ref O) := by rw [hm9]; exact mO8
  have mK9 : m9 (Str.ofString "kept") = some (.ref K) := by rw [hm9]; rfl
  have up9 : ∀ p ∈ R6, p ∈ R9 := fun p hp => s89 _ (s68 _ hp)
  clear N9 hR9e lt9 F8 N8' hm9 st hst
  -- 10
  obtain ⟨st, hst⟩ := law_at (i := 10) (by decide)
  refine step_law hst (S10 (rest := (L + 1 + 1 + 1 + 1 + 1, o5') :: (L + 1 + 1 + 1, o3') :: (L + 1 + 1, o2') :: (L + 1, o1') :: (115, tabObj ps) :: (155, tabObj ps') :: R9) (n := ds.length) hsc hst B F9 X (news_sub N9' (by intro q hq; simp only [List.mem_cons, List.mem_append, List.not_mem_nil, or_false] at hq ⊢; grind)) T d4 (by intro p hp; simp only [List.mem_cons] at hp; rcases hp with rfl | rfl | rfl | rfl | rfl | rfl | hp <;> first | (refine neN ?_; dsimp only; omega) | (have h9 := hR9 _ hp; refine neN ?_; omega)) mH9 (.tail _ (.tail _ (.tail _ (.tail _ (.tail _ (.tail _ (up9 _ (s56 _ (s35 _ e3))))))))) hS hhm hh4 (by simp) d3' (.tail _ (.tail _ (.tail _ (.tail _ (.tail _ (.tail _ (up9 _ e6))))))) (hRu6.mono (by intro q hq; have := up9 q hq; simp only [List.mem_cons]; grind)) rfl hd4 mU9 (.tail _ (.tail _ (.tail _ (.tail _ (.tail _ (.tail _ (up9 _ (s56 _ e5)))))))) hU' mO9 (.tail _ (.tail _ (.tail _ (.tail _ (.tail _ (.tail _ (s89 _ e8))))))) hO hop mK9 (.tail _ (.tail _ (.tail _ (.tail _ (.tail _ (.tail _ (e9))))))) hK rfl rfl fun h10 tk10 u10 K2 kvs2 kK2 o4' tl10 F10 N10 lt10 hlK2 hK2 => ?_)
  obtain ⟨R10, hR10e⟩ : ∃ R : Led, R = tl10 ++ R9 := ⟨_, rfl⟩
  have s910 : ∀ p ∈ R9, p ∈ R10 := by rw [hR10e]; exact fun p hp => List.mem_append_right _ hp
  have e10 : (K2, W.listOf kvs2.toArray kK2) ∈ (L + 1 + 1 + 1 + 1 + 1, o5') :: (L + 1 + 1 + 1 + 1, o4') :: (L + 1 + 1 + 1, o3') :: (L + 1 + 1, o2') :: (L + 1, o1') :: (115, tabObj ps) :: (155, tabObj ps') :: R10 := by
    rw [hR10e]; simp only [List.mem_cons, List.mem_append] at hlK2 ⊢; grind
  have N10' : News g L h10 ((L + 1 + 1 + 1 + 1 + 1, o5') :: (L + 1 + 1 + 1 + 1, o4') :: (L + 1 + 1 + 1, o3') :: (L + 1 + 1, o2') :: (L + 1, o1') :: (115, tabObj ps) :: (155, tabObj ps') :: R10) := by rw [hR10e]; exact news_sub N10 (by intro q hq; simp only [List.mem_cons, List.mem_append, List.not_mem_nil, or_false] at hq ⊢; grind)
  obtain ⟨m10, hm10⟩ : ∃ m' : Str → Option Value, m' = fun z => if z = Str.ofString "fewer" then u10 z else if z = Str.ofString "kept" then some (.ref K2) else m9 z := ⟨_, rfl⟩
  rw [← hm10] at F10
  have mK10 : m10 (Str.ofString "kept") = some (.ref K2) := by rw [hm10]; rfl
  obtain ⟨Kf, hKf⟩ : ∃ Kf, Kf = (os ++ os).foldl (strikeF ds) (List.range ds.length) := ⟨_, rfl⟩
  have hperm : (sub ds Kf).Perm (needF ds) := by
    rw [hKf]; exact law_plain hdm os fun k hk => hop.mem_iff.mpr (List.mem_range.mpr hk)
  rw [← hKf] at hK2
  have hKs : Kf.Sublist (List.range ds.length) := by rw [hKf]; exact strike_sub _ _
  have hKlt : ∀ j ∈ Kf, j < ds.length := fun j hj => List.mem_range.mp (hKs.subset hj)
  have hK4 : Kf.length ≤ 4 := by
    have := hKs.length_le
    simp at this; omega
  clear N10 hR10e hlK2 lt10 F9 N9' hm10 hKf st hst
  -- 11
  obtain ⟨st, hst⟩ := law_at (i := 11) (by decide)
  refine step_law hst (S11 (rest := (L + 1 + 1 + 1 + 1 + 1, o5') :: (L + 1 + 1 + 1 + 1, o4') :: (L + 1 + 1 + 1, o3') :: (L + 1 + 1, o2') :: (L + 1, o1') :: (115, tabObj ps) :: (155, tabObj ps') :: R10) hsc hst B F10 X N10' T fun h11 tk11 Nd F11 N11 lt11 => ?_)
  obtain ⟨m11, hm11⟩ : ∃ m' : Str → Option Value, m' = fun z => if z = Str.ofString "needed" then some (.ref Nd) else m10 z := ⟨_, rfl⟩
  rw [← hm11] at F11
  have mK11 : m11 (Str.ofString "kept") = some (.ref K2) := by rw [hm11]; exact mK10
  have mN11 : m11 (Str.ofString "needed") = some (.ref Nd) := by rw [hm11]; rfl
  clear F10 N10' hm11 st hst
  -- 12
  obtain ⟨st, hst⟩ := law_at (i := 12) (by decide)
  refine step_law hst (S12 (rest := (L + 1 + 1 + 1 + 1 + 1, o5') :: (L + 1 + 1 + 1 + 1, o4') :: (L + 1 + 1 + 1, o3') :: (L + 1 + 1, o2') :: (L + 1, o1') :: (115, tabObj ps) :: (155, tabObj ps') :: R10) hsc hst B F11 X N11 T mN11 lt11 (by simp) d2' (hV2.mono (by intro q hq; have := s910 _ (up9 _ (s56 _ (s35 _ (s23 q hq)))); simp only [List.mem_cons]; grind)) hvd4 hvdm fun h12 tk12 u12 nvs2 kN2 tl12 F12 N12 lt12 hPN => ?_)
  obtain ⟨m12, hm12⟩ : ∃ m' : Str → Option Value, m' = fun z => if z = Str.ofString "domain" then u12 z else if z = Str.ofString "dotted" then u12 z else if z = Str.ofString "above" then u12 z else m11 z := ⟨_, rfl⟩
  rw [← hm12] at F12
  have mK12 : m12 (Str.ofString "kept") = some (.ref K2) := by rw [hm12]; exact mK11
  have mN12 : m12 (Str.ofString "needed") = some (.ref Nd) := by rw [hm12]; exact mN11
  clear F11 N11 hm12 st hst
  -- 13
  obtain ⟨st, hst⟩ := law_at (i := 13) (by decide)
  refine step_law hst (S13 (rest := (Nd, W.listOf nvs2.toArray kN2) :: (tl12 ++ ((L + 1 + 1 + 1 + 1 + 1, o5') :: (L + 1 + 1 + 1 + 1, o4') :: (L + 1 + 1 + 1, o3') :: (L + 1 + 1, o2') :: (L + 1, o1') :: (115, tabObj ps) :: (155, tabObj ps') :: R10))) (n := ds.length) hsc hst B F12 X N12 T (by simp) d1' (.tail _ (List.mem_append_right _ (.tail _ (.tail _ (.tail _ (.tail _ (.tail _ (.tail _ (.tail _ (s910 _ (up9 _ (s56 _ (s35 _ (s23 _ (s12 _ mlD))))))))))))))) (hP1.mono (by intro q hq; have := s910 _ (up9 _ (s56 _ (s35 _ (s23 _ (s12 q hq))))); simp only [List.mem_cons, List.mem_append]; grind)) rfl hd4 hdm mK12 (.tail _ (List.mem_append_right _ e10)) hK2 hKlt hK4 mN12 (.head _) (hPN.mono fun p hp => .tail _ (List.mem_append_left _ hp)) hperm fun h13 tk13 F13 N13 => ?_)
  exact hQ h13 tk13 m12 ps ps' F13 (news_sub N13 (by intro q hq; simp only [List.mem_cons, List.mem_append, List.not_mem_nil, or_false] at hq ⊢; grind))
end
end Mine

set_option maxHeartbeats 4000000 in
theorem PySem.Challenge.cw_re0061_01_holds : PySem.Challenge.rw_re0061_01.Holds := by
  refine Mine.hd ?_
  k_go0
  (all_goals try k_fold)
  refine Mine.law_runs (E := fun e s'' => GoodW _ _ _ _ _ (.error e) s'' ∧ GrownAll [(119, 115), (157, 155)] s''.heap) rfl (by assumption) (by assumption) (by assumption) (by assumption) (by assumption) (by assumption) (by assumption) (by assumption) (by assumption) (by assumption) (by assumption) (by assumption) (And.left (by assumption)) (And.right (by assumption)) rfl (by assumption) (by assumption) (by omega) ?_
  intro h' tk' m' ps ps' F N
  refine ⟨?good, ?grown⟩
  case grown => exact ⟨GrownAt.of N (.head _), GrownAt.of N (.tail _ (.head _)), trivial⟩
  case good =>
    dsimp only
    refine goodW_bool F (by assumption) (raisesW_false ?_) ?_
    · wrow_none_raised
    · wrow_post
