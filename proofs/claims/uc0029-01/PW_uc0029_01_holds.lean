import PyProof.Rows.All
import PyProof.Cells
import PyProof.MinMaxWalk
import PyProof.TupleKey
import PyProof.Rows.StrClose
import PyProof.Rows.SortKeyStr
import KE.KBytesCut
import KE.LcTurns
import KE.KNest
import KE.KLam
import KE.KEqDat
import KE.KItemsList
import KE.KSortTup
import KE.KxDecode
import Wide.FinOn
import OpenK.AllK
import Wide.All
import PySem.Challenge.RW_uc0029_01
set_option Elab.async false
set_option compiler.extract_closed false
section
open PySem PySem.W PySem.Calls PyProof.Rows
set_option maxRecDepth 100000
namespace Mine
/-- a text of plain letters -/
def Clean (v : Str) : Prop := v.cps.size ≤ 1000 ∧ ∀ c ∈ v.cps, 65 ≤ c ∧ c ≤ 122
section sre
open PySem.Sre
abbrev FirstInfo (code : Array Nat) : Prop := ops[code.getD 0 0]? = some .INFO
def codeN : Array Nat := #[14, 10, 4, 1, 1, 22, 0, 31, 16, 127, 0, 13, 7, 22, 0, 31, 16, 127, 0, 1]
def codeV : Array Nat := #[14, 14, 4, 1, 1, 9, 4294966783, 0, 0, 2147483648, 0, 0, 0, 0, 0, 13, 11, 9, 4294966783, 0, 0, 2147483648, 0, 0, 0, 0, 0, 1]
theorem inSetN {c : Nat} (h : 65 ≤ c ∧ c ≤ 122) (seen : Sre.Seen) : ∃ s', inSet codeN c codeN.size 5 true seen = .ok (false, s') := by
  refine ⟨((seen.add 22).add 16).add 0, ?_⟩
  have h1 : ¬ (c ≤ 31) := by omega
  have h2 : ¬ (c = 127) := by omega
  show inSet codeN c 20 5 true seen = _
  simp [inSet, codeN, ops, h1, h2]
theorem bitV : ∀ c : Fin 123, 65 ≤ c.val → (codeV.getD (5 + (1 + c.val / 32)) 0).testBit (c.val % 32) = false := by decide +kernel
theorem inSetV {c : Nat} (h : 65 ≤ c ∧ c ≤ 122) (seen : Sre.Seen) : ∃ s', inSet codeV c codeV.size 5 true seen = .ok (false, s') := by
  refine ⟨(seen.add 9).add 0, ?_⟩
  have h1 := bitV ⟨c, by omega⟩ h.1
  show inSet codeV c 28 5 true seen = _
  unfold inSet
  dsimp only
  rw [show (1 + c / 32) = (1 + (⟨c, by omega⟩ : Fin 123).val / 32) from rfl, show (c % 32) = ((⟨c, by omega⟩ : Fin 123).val % 32) from rfl, h1]
  simp [inSet, codeV, ops]
theorem admitted_none {code text : Array Nat} (hs : ∀ c, 65 ≤ c ∧ c ≤ 122 → ∀ seen, ∃ s', inSet code c code.size 5 true seen = .ok (false, s')) (ht : ∀ c ∈ text, 65 ≤ c ∧ c ≤ 122)
    (m : M) (hc : m.code = code) (hx : m.text = text) (hl : m.lim = text.size) : ∀ (fuel s : Nat) (seen : Sre.Seen), ∃ s', m.admitted fuel s seen = .ok (none, s') := by
  intro fuel
  induction fuel with
  | zero => intro s seen; exact ⟨seen, rfl⟩
  | succ n ih =>
    intro s seen
    unfold M.admitted
    by_cases h : s ≥ m.lim
    · rw [if_pos h]; exact ⟨_, rfl⟩
    · rw [if_neg h]
      have hlt : s < text.size := by omega
      have hcs : 65 ≤ text.getD s 0 ∧ text.getD s 0 ≤ 122 := by
        have e : text.getD s 0 = text[s] := by simp [Array.getD, hlt]
        rw [e]; exact ht _ (Array.getElem_mem hlt)
      obtain ⟨s', e⟩ := hs _ hcs seen
      rw [hc, hx, e]
      exact ih _ _
theorem last_fails : ∀ m : M, m.answer = some false → m.frames = [] → m.outcome = none → (m.runFor 4).outcome = some .failed := by
  intro m ha hf ho
  simp [M.runFor, M.step, ha, hf, ho]
theorem attempt_fails {code text : Array Nat} (hs : ∀ c, 65 ≤ c ∧ c ≤ 122 → ∀ seen, ∃ s', inSet code c code.size 5 true seen = .ok (false, s')) (ht : ∀ c ∈ text, 65 ≤ c ∧ c ≤ 122)
    (h1 : FirstInfo code) (h2 : code.getD 2 0 = 4) (m : M) (hc : m.code = code) (hx : m.text = text) (hl : m.lim = text.size) (hf : m.frames = []) (ho : m.outcome = none) :
    ((m.attemptFrom 0 true).runFor 4).outcome = some .failed := by
  unfold M.attemptFrom
  have e1 : m.hasFirstSet = true := by unfold M.hasFirstSet; rw [hc, h2, show ops[code.getD 0 0]? = some .INFO from h1]; rfl
  rw [e1]
  obtain ⟨s', e⟩ := admitted_none hs ht m hc hx hl (m.lim + 1 - 0) 0 m.seen
  rw [e]
  exact last_fails _ rfl hf ho
theorem search_fails {code text : Array Nat} (hs : ∀ c, 65 ≤ c ∧ c ≤ 122 → ∀ seen, ∃ s', inSet code c code.size 5 true seen = .ok (false, s')) (ht : ∀ c ∈ text, 65 ≤ c ∧ c ≤ 122)
    (h1 : FirstInfo code) (h2 : code.getD 2 0 = 4) :
    ((forSearch code text 0 0 text.size false).runFor 4).outcome = some .failed := by
  unfold forSearch
  dsimp only
  split
  · exact last_fails _ rfl rfl rfl
  · exact attempt_fails hs ht h1 h2 _ rfl rfl rfl rfl rfl
end sre
section
open Builtin Builtin.Re
theorem plainAttrs_re : PlainAttrs "re.Pattern" :=
  ⟨⟨"object.__getattribute__", by rw [typeLookup_type, builtinLookup_eq_fast]; kernel_rfl, by decide +kernel⟩, by rw [typeLookup_type, builtinLookup_eq_fast]; kernel_rfl⟩
theorem slot_re_search : Slot "re.Pattern" "search" "re.Pattern.search" :=
  .of (owner := "re.Pattern") (n := "search") (by rw [typeLookup_type, builtinLookup_eq_fast]; kernel_rfl) (by decide +kernel) (by decide +kernel) (by decide +kernel)
    (by first | exact .inl (by decide +kernel) | exact .inr (by decide +kernel)) (by rw [isSubtype_type]; kernel_rfl)
theorem type_re_search : typeOf (.builtin "re.Pattern.search") = pure (.type "method_descriptor") := by show builtinType _ = _; rw [builtinType_eq_fast]; kernel_rfl
theorem entry_re_search : entryFor table "re.Pattern.search" = some Builtin.«re.Pattern.search» := entryFor_of_tree (by kernel_rfl)
theorem args_re_search (a : Addr) (x : Str) (t : Tok) : argsOk "re.Pattern.search" ⟨[.ref a, .str x t], []⟩ := by unfold argsOk; kernel_rfl
theorem named_search (x : Str) (t : Tok) : reNamed "re.Pattern.search" "search" ["string", "pos", "endpos"] 1 [.str x t] [] = pure [some (.str x t), none, none] := by rfl
end
end Mine
end
section
open PySem PySem.W PySem.Calls PyProof.Rows
set_option maxRecDepth 100000
namespace Mine
section
open Builtin Builtin.Re
variable {prog : Program} {w : World} {M : Model} {A : Around} {E : Value → Shared → Prop} {s : Shared}
theorem drive_one {turns : Nat} {m : Sre.M} {Q : Sre.M → Shared → Prop} (h : (m.runFor 4).outcome.isSome = true) (hQ : Q (m.runFor 4) s) : wpAny M A (reDrive (turns + 1) m) Q E s := by
  unfold reDrive
  dsimp only
  rw [show reTurnSteps = 4 from rfl, if_pos h]
  exact wpAny_pure hQ
theorem rules_pass (f : Nat → Bool) (g : Nat → String) : ∀ (l : List Nat) {Q : PUnit → Shared → Prop}, Q ⟨⟩ s → wpAny M A (forIn l PUnit.unit (fun i _ => if f i = true then (do rule (g i); pure (ForInStep.yield PUnit.unit)) else pure (ForInStep.yield PUnit.unit))) Q E s
  | [], Q, h => wpAny_pure h
  | i :: r, Q, h => by
    rw [List.forIn_cons]
    refine wpAny_bind ?_
    split
    · exact wpAny_bind (wpAny_rule (wpAny_pure (rules_pass f g r h)))
    · exact wpAny_pure (rules_pass f g r h)
theorem run_fails {m : Sre.M} {Q : Option Sre.M → Shared → Prop} (h : (m.runFor 4).outcome = some .failed) (hQ : Q none s) : wpAny M A (reRunToEnd m) Q E s := by
  unfold reRunToEnd
  refine wpAny_bind ?_
  have e : (2 ^ 64 : Nat) = (2 ^ 64 - 1) + 1 := by decide
  rw [e]
  refine drive_one (by rw [h]; rfl) ?_
  refine wpAny_bind ?_
  refine rules_pass (fun i => (m.runFor 4).seen.has i) (fun i => Sre.names.getD i "") _ ?_
  rw [h]
  exact wpAny_pure hQ
theorem re_search_none {a ct : Addr} {p₀ : Value} {f1 : Int} {t1 t2 t6 : Tok} {items : Array Value} {n : Nat} {oc : Obj} {x : Str} {t : Tok} {code : Array Nat} {Q : Value → Shared → Prop}
    (hp : s.heap.get? a = some { cls := .type "re.Pattern", data := .fields #[p₀, .int f1 t1, .int 0 t2, .none, .none, .ref ct, .int 0 t6] }) (hc : s.heap.get? ct = some oc) (hd : oc.data = .seq items n)
    (hcode : (items.map reRawOf).map (·.toNat) = code)
    (hs : ∀ c, 65 ≤ c ∧ c ≤ 122 → ∀ seen, ∃ s', Sre.inSet code c code.size 5 true seen = .ok (false, s')) (h1 : FirstInfo code) (h2 : code.getD 2 0 = 4) (hx : Clean x) (h : Q .none s) :
    wpAny (model prog w) A (call (.builtin "re.Pattern.search") [.ref a, .str x t]) Q E s := by
  refine wpAny_call_entry slot_re_search ⟨_, hp, rfl⟩ entry_re_search ?_ (args_re_search _ _ _)
  unfold «re.Pattern.search»
  refine wpAny_bind ?_
  unfold reTarget
  show wpAny _ _ (reNamed "re.Pattern.search" "search" ["string", "pos", "endpos"] 1 [.str x t] [] >>= _) _ _ _
  rw [named_search]
  refine wpAny_bind (wpAny_pure ?_)
  dsimp only
  refine wpAny_bind (wpAny_pure ?_)
  refine wpAny_bind (wpAny_pure ?_)
  refine wpAny_bind (wpAny_fieldsOf hp rfl ?_)
  refine wpAny_bind ?_
  refine wpAny_mono (Q := fun r s' => r = (x.cps, 0) ∧ s' = s) (E := fun _ _ => False) ?_ ?_ (fun _ _ e => e.elim)
  · unfold reTextOf
    exact wpAny_bind (wpAny_pure (wpAny_pure ⟨rfl, rfl⟩))
  rintro r s' ⟨rfl, rfl⟩
  show wpAny _ _ (do
      reNoCollectionInside (Value.str x t) 0
      let __do_lift ← reRawItems (.ref ct)
      pure ({ pattern := Value.ref a, string := Value.str x t, code := Array.map (fun x => x.toNat) __do_lift, text := x.cps, kind := 0, groups := 0, pos := Min.min (Int.toNat 0) x.cps.size, lim := Min.min (2 ^ 63 - 1 : Int).toNat x.cps.size } : ReTarget)) _ _ _
  refine wpAny_bind (wpAny_pure ?_)
  refine wpAny_bind ?_
  unfold reRawItems
  refine wpAny_bind (wpAny_seqItems hc hd ?_)
  refine wpAny_pure (wpAny_pure ?_)
  show wpAny _ _ (reAnswer _ (Sre.forSearch ((items.map reRawOf).map (·.toNat)) x.cps 0 (Min.min (Int.toNat 0) x.cps.size) (Min.min (2 ^ 63 - 1 : Int).toNat x.cps.size) false)) _ _ _
  have e1 : Min.min (Int.toNat 0) x.cps.size = 0 := by simp
  have e2 : Min.min (2 ^ 63 - 1 : Int).toNat x.cps.size = x.cps.size := by
    have := hx.1
    have : (2 ^ 63 - 1 : Int).toNat = 9223372036854775807 := by decide
    omega
  rw [hcode, e1, e2]
  unfold reAnswer
  exact wpAny_bind (run_fails (search_fails hs hx.2 h1 h2) (wpAny_pure ⟨_, rfl, h⟩))
end
end Mine
end
section
open PySem PySem.W PySem.Calls PyProof.Rows
set_option maxRecDepth 100000
namespace Mine
section
variable {prog : Program} {w : World} {M : Model} {A : Around} {E : Value → Shared → Prop} {s : Shared} {K : Frag} {h₀ : Heap} {L a ct : Addr} {m : Str → Option Value}
theorem re_method_K {d : Data} {pl : Sem Bool} {Q : Value × List Value → Shared → Prop} (F : Fr h₀ L s.heap m) (X : K.In h₀) (hl : K.lookup a = some { cls := .type "re.Pattern", data := d }) (h : Q (.builtin "re.Pattern.search", [.ref a]) s) :
    wpAny M A (getMethod (.ref a) "search" pl) Q E s :=
  getMethod_builtin ⟨_, (X.keeps F.keep) _ _ hl, rfl⟩ plainAttrs_re slot_re_search type_re_search (fun b e => ⟨_, by cases e; exact (X.keeps F.keep) _ _ hl, rfl⟩) h
def codeOf (items : Array Value) : Array Nat := (items.map Builtin.Re.reRawOf).map (·.toNat)
theorem re_search_K {p₀ : Value} {f1 : Int} {t1 t2 t6 : Tok} {items : Array Value} {n : Nat} {x : Str} {t : Tok} {Q : Value → Shared → Prop} (F : Fr h₀ L s.heap m) (X : K.In h₀)
    (hl : K.lookup a = some { cls := .type "re.Pattern", data := .fields #[p₀, .int f1 t1, .int 0 t2, .none, .none, .ref ct, .int 0 t6] }) (hc : K.lookup ct = some { cls := .type "tuple", data := .seq items n })
    (hcode : codeOf items = codeN ∨ codeOf items = codeV) (hx : Clean x) (h : Q .none s) :
    wpAny (model prog w) A (call (.builtin "re.Pattern.search") [.ref a, .str x t]) Q E s := by
  rcases hcode with hcode | hcode
  · exact re_search_none ((X.keeps F.keep) _ _ hl) ((X.keeps F.keep) _ _ hc) rfl hcode (fun c h seen => inSetN h seen) rfl rfl hx h
  · exact re_search_none ((X.keeps F.keep) _ _ hl) ((X.keeps F.keep) _ _ hc) rfl hcode (fun c h seen => inSetV h seen) rfl rfl hx h
end
end Mine
end
section
open PySem PySem.W PySem.Calls PyProof.Rows
set_option maxRecDepth 100000
namespace Mine
theorem newsName {h₀ h : Heap} {L : Addr} {nx : List (Addr × Obj)} (_N : News h₀ L h nx) : ∃ X, nx = X := ⟨_, rfl⟩
def Hold (P : Prop) : Prop := P
theorem Hold.out {P : Prop} (h : Hold P) : P := h
def ForStep (h₀ : Heap) (L : Addr) (s : Shared) (I : Addr) (J : Nat → (Str → Option Value) → List (Addr × Obj) → Prop) (Q : Flow → Shared → Prop) (i : Nat) (io : Obj) (f : Flow) (s₃ : Shared) : Prop :=
  match f with
  | .next | .cont => ∃ h' tk m₂ news₂, s₃ = { s with heap := h', toks := tk } ∧ Fr h₀ L h' m₂ ∧ News h₀ L h' ((I, io) :: news₂) ∧ (∀ p ∈ news₂, p.1 ≠ I) ∧ J (i + 1) m₂ news₂
  | .brk => Q .next s₃
  | .ret v => Q (.ret v) s₃
theorem ForStep.next {h₀ : Heap} {L : Addr} {s : Shared} {I : Addr} {J : Nat → (Str → Option Value) → List (Addr × Obj) → Prop} {Q : Flow → Shared → Prop} {i : Nat} {io : Obj} {h' : Heap} {tk : Nat} {m₂ : Str → Option Value} {news₂ news' : List (Addr × Obj)}
    (F : Fr h₀ L h' m₂) (N : News h₀ L h' news') (hN : ∀ p ∈ (I, io) :: news₂, p ∈ news') (hI : ∀ p ∈ news₂, p.1 ≠ I) (hJ : J (i + 1) m₂ news₂) : ForStep h₀ L s I J Q i io .next { s with heap := h', toks := tk } :=
  ⟨h', tk, m₂, news₂, rfl, F, fun p hp => N p (hN p hp), hI, hJ⟩
theorem ForStep.cont {h₀ : Heap} {L : Addr} {s : Shared} {I : Addr} {J : Nat → (Str → Option Value) → List (Addr × Obj) → Prop} {Q : Flow → Shared → Prop} {i : Nat} {io : Obj} {h' : Heap} {tk : Nat} {m₂ : Str → Option Value} {news₂ news' : List (Addr × Obj)}
    (F : Fr h₀ L h' m₂) (N : News h₀ L h' news') (hN : ∀ p ∈ (I, io) :: news₂, p ∈ news') (hI : ∀ p ∈ news₂, p.1 ≠ I) (hJ : J (i + 1) m₂ news₂) : ForStep h₀ L s I J Q i io .cont { s with heap := h', toks := tk } :=
  ⟨h', tk, m₂, news₂, rfl, F, fun p hp => N p (hN p hp), hI, hJ⟩

theorem frPut {h₀ h : Heap} {L : Addr} {m : Str → Option Value} {x : Str} {v : Value} (F : Fr h₀ L h m) (e : m x = some v) : Fr h₀ L h (fun y => if y = x then some v else m y) := by
  have : (fun y => if y = x then some v else m y) = m := by
    funext y
    by_cases hy : y = x
    · rw [if_pos hy, hy, e]
    · rw [if_neg hy]
  rw [this]; exact F
theorem frPut2 {h₀ h : Heap} {L : Addr} {m : Str → Option Value} {x1 x2 : Str} {v1 v2 : Value} (F : Fr h₀ L h m) (e1 : m x1 = some v1) (e2 : m x2 = some v2) : Fr h₀ L h (fun y => if y = x1 then some v1 else if y = x2 then some v2 else m y) := by
  have : (fun y => if y = x1 then some v1 else if y = x2 then some v2 else m y) = m := by
    funext y
    (repeat' split) <;> first | rfl | (subst_vars; symm; assumption) | simp_all
  rw [this]; exact F
theorem frPut3 {h₀ h : Heap} {L : Addr} {m : Str → Option Value} {x1 x2 x3 : Str} {v1 v2 v3 : Value} (F : Fr h₀ L h m) (e1 : m x1 = some v1) (e2 : m x2 = some v2) (e3 : m x3 = some v3) : Fr h₀ L h (fun y => if y = x1 then some v1 else if y = x2 then some v2 else if y = x3 then some v3 else m y) := by
  have : (fun y => if y = x1 then some v1 else if y = x2 then some v2 else if y = x3 then some v3 else m y) = m := by
    funext y
    (repeat' split) <;> first | rfl | (subst_vars; symm; assumption) | simp_all
  rw [this]; exact F
theorem frPut4 {h₀ h : Heap} {L : Addr} {m : Str → Option Value} {x1 x2 x3 x4 : Str} {v1 v2 v3 v4 : Value} (F : Fr h₀ L h m) (e1 : m x1 = some v1) (e2 : m x2 = some v2) (e3 : m x3 = some v3) (e4 : m x4 = some v4) : Fr h₀ L h (fun y => if y = x1 then some v1 else if y = x2 then some v2 else if y = x3 then some v3 else if y = x4 then some v4 else m y) := by
  have : (fun y => if y = x1 then some v1 else if y = x2 then some v2 else if y = x3 then some v3 else if y = x4 then some v4 else m y) = m := by
    funext y
    (repeat' split) <;> first | rfl | (subst_vars; symm; assumption) | simp_all
  rw [this]; exact F
theorem frPut5 {h₀ h : Heap} {L : Addr} {m : Str → Option Value} {x1 x2 x3 x4 x5 : Str} {v1 v2 v3 v4 v5 : Value} (F : Fr h₀ L h m) (e1 : m x1 = some v1) (e2 : m x2 = some v2) (e3 : m x3 = some v3) (e4 : m x4 = some v4) (e5 : m x5 = some v5) : Fr h₀ L h (fun y => if y = x1 then some v1 else if y = x2 then some v2 else if y = x3 then some v3 else if y = x4 then some v4 else if y = x5 then some v5 else m y) := by
  have : (fun y => if y = x1 then some v1 else if y = x2 then some v2 else if y = x3 then some v3 else if y = x4 then some v4 else if y = x5 then some v5 else m y) = m := by
    funext y
    (repeat' split) <;> first | rfl | (subst_vars; symm; assumption) | simp_all
  rw [this]; exact F
theorem allLt_mem {d : Addr} : ∀ {l : List (Addr × Obj)}, AllLt d l → ∀ p ∈ l, p.1 < d
  | [], _, _, h => nomatch h
  | _ :: _, x, p, h => by
    rcases List.mem_cons.mp h with rfl | h
    · exact x.1
    · exact allLt_mem x.2 p h
theorem allLt_ne {d e : Nat} {l : List (Addr × Obj)} (h : AllLt d l) (he : d ≤ e) : ∀ p ∈ l, p.1 ≠ e := fun p hp => Nat.ne_of_lt (Nat.lt_of_lt_of_le (allLt_mem h p hp) he)
section
variable {prog : Program} {w : World} {A : Around} {E : Value → Shared → Prop} {s : Shared} {env : Env} {h₀ : Heap} {target : Expr} {body : List Stmt} {Q : Flow → Shared → Prop}
inductive ForAt (prog : Program) (w : World) (A : Around) (h₀ : Heap) (env : Env) (target : Expr) (body : List Stmt) (Q : Flow → Shared → Prop) (E : Value → Shared → Prop) (it : Value) (s₂ : Shared) : Prop
  | mk (I : Addr) (fp : List Addr) (n : Nat) (P : Nat → Value → Prop) (St : Nat → Heap → Prop) (m : Str → Option Value) (news : List (Addr × Obj)) (J : Nat → (Str → Option Value) → List (Addr × Obj) → Prop)
    (eq : it = .ref I) (walks : Walks prog w A I fp [I] n P St) (has : ∃ io, s₂.heap.get? I = some io) (ne : env.locals ≠ I) (fresh : h₀.get? I = none) (off : ∀ p ∈ news, p.1 ≠ I)
    (reads : ∀ b ∈ fp, b = I ∨ (∃ o, h₀.get? b = some o) ∨ (∃ o, ∀ i m nx, J i m nx → (b, o) ∈ nx)) (st : St 0 s₂.heap) (F : Fr h₀ env.locals s₂.heap m) (N : News h₀ env.locals s₂.heap news) (hJ : J 0 m news)
    (hio : ∀ i h, St i h → ∃ io, h.get? I = some io)
    (hgo : ∀ i (s' : Shared) v (Q' : Unit → Shared → Prop), St i s'.heap → Q' () s' → wpAny (model prog w) A (letOwnedTupleGo target (.ref I) v) Q' E s')
    (turn : ∀ i v m₁ nx h tk io, i < n → P i v → J i m₁ nx → (∀ p ∈ nx, p.1 ≠ I) → St (i + 1) h → Fr h₀ env.locals h m₁ → News h₀ env.locals h ((I, io) :: nx) →
      wpAny (model prog w) A (assign target env v) (fun _ s' => wpAny (model prog w) A (execs body env) (ForStep h₀ env.locals { s₂ with heap := h, toks := tk } I J Q i io) E s') E { s₂ with heap := h, toks := tk })
    (done : ∀ m₁ nx h tk, J n m₁ nx → Fr h₀ env.locals h m₁ → News h₀ env.locals h nx → Q .next { s₂ with heap := h, toks := tk }) : ForAt prog w A h₀ env target body Q E it s₂

theorem For_my {iter : Expr} {pos : Pos} (h₀ : Heap)
    (h : wpAny (model prog w) A (eval iter env) (fun xv s₁ => wpAny (model prog w) A (pyIter xv) (fun it s₂ => ForAt prog w A h₀ env target body Q E it s₂) E s₁) E s)
    (hs : ∀ x, foldedSetIterable iter env x = pure x := by intro _; rfl)
    (hE : PassesOwn (model prog w) A env E := by passes_own) :
    wpAny (model prog w) A (exec (.For target iter body [] pos) env) Q E s := by
  refine wpAny_For (wpAny_mono h (fun xv s₁ h₁ => wpAny_mono h₁ (fun it s₂ h₂ => ?_) fun _ _ e => e) fun _ _ e => e) hs
  obtain ⟨I, fp, n, P, St, m, news, J, rfl, W, -, hLI, hI0, hnI, hfp, hst, F, N, hJ, hio, hgo, turn, done⟩ := h₂
  have old : ∀ b o, h₀.get? b = some o → b ∉ [I] := fun b o e hb => by rw [List.mem_singleton.mp hb, hI0] at e; cases e
  have hLw : env.locals ∉ [I] := fun h => hLI (List.mem_singleton.mp h)
  refine codeAny_forLoop_any
    (fun k s' => ∃ h' tk m' nx i, s' = { s₂ with heap := h', toks := tk } ∧ St i h' ∧ Fr h₀ env.locals h' m' ∧ News h₀ env.locals h' nx ∧ (∀ p ∈ nx, p.1 ≠ I) ∧ J i m' nx ∧ i ≤ n ∧ k = n + 1 - i) ?_ (n + 1)
    ⟨s₂.heap, s₂.toks, m, news, 0, rfl, hst, F, N, hnI, hJ, Nat.zero_le _, rfl⟩
  rintro k s' ⟨h', tk, m', nx, i, rfl, hst', F', N', hnx, hJ', hi, rfl⟩
  have next : ∀ h₁ : Heap, (∀ b o, b ∉ [I] → h'.get? b = some o → h₁.get? b = some o) → Fr h₀ env.locals h₁ m' ∧ News h₀ env.locals h₁ nx := fun h₁ hk₁ =>
    ⟨⟨F'.ns.at' fun o e => hk₁ _ o hLw e, fun b o e => hk₁ b o (old b o e) (F'.keep b o e), F'.above⟩, fun p hp => ⟨hk₁ _ _ (fun e => hnx p hp (List.mem_singleton.mp e)) (N' p hp).1, (N' p hp).2⟩⟩
  by_cases hlt : i < n
  · refine W.item i _ _ _ hlt hst' fun v h₁ tk₁ hP hst₁ hk₁ => ?_
    obtain ⟨F₁, N₁⟩ := next h₁ hk₁
    obtain ⟨io, hio₁⟩ := hio _ _ hst₁
    have N₂ : News h₀ env.locals h₁ ((I, io) :: nx) := fun p hp => by
      rcases List.mem_cons.mp hp with rfl | hp
      · exact ⟨hio₁, fun e => hLI e.symm, hI0⟩
      · exact N₁ p hp
    refine wpAny_mono (hgo (i + 1) _ v (fun _ s' => s' = { s₂ with heap := h₁, toks := tk₁ }) hst₁ rfl) (fun _ s' e => ?_) hE
    subst e
    have fin : ∀ s₃, (∃ h' tk m₂ news₂, s₃ = { s₂ with heap := h', toks := tk } ∧ Fr h₀ env.locals h' m₂ ∧ News h₀ env.locals h' ((I, io) :: news₂) ∧ (∀ p ∈ news₂, p.1 ≠ I) ∧ J (i + 1) m₂ news₂) →
        ∃ m, m < n + 1 - i ∧ ∃ h' tk m' nx i, s₃ = { s₂ with heap := h', toks := tk } ∧ St i h' ∧ Fr h₀ env.locals h' m' ∧ News h₀ env.locals h' nx ∧ (∀ p ∈ nx, p.1 ≠ I) ∧ J i m' nx ∧ i ≤ n ∧ m = n + 1 - i := by
      rintro s₃ ⟨h₃, tk₃, m₂, news₂, rfl, F₃, N₃, hI₃, hJ₃⟩
      refine ⟨n + 1 - (i + 1), by omega, h₃, tk₃, m₂, news₂, i + 1, rfl, ?_, F₃, fun p hp => N₃ p (.tail _ hp), hI₃, hJ₃, hlt, rfl⟩
      refine W.frame _ _ _ hst₁ fun b hb o e => ?_
      rcases hfp b hb with rfl | ⟨o', ho'⟩ | ⟨o', ho'⟩
      · rw [hio₁] at e; cases e
        exact (N₃ _ (.head _)).1
      · have := F₁.keep b o' ho'
        rw [e] at this; cases this
        exact F₃.keep b _ ho'
      · have := (N₁ _ (ho' _ _ _ hJ')).1
        rw [e] at this; cases this
        exact (N₃ _ (.tail _ (ho' _ _ _ hJ₃))).1
    refine wpAny_mono (turn i v m' nx h₁ tk₁ io hlt hP hJ' hnx hst₁ F₁ N₂) (fun _ s₃ h₃ => wpAny_mono h₃ (fun f s₄ h₄ => ?_) hE) hE
    cases f with
    | ret v => exact h₄
    | brk => exact h₄
    | next => exact fin _ h₄
    | cont => exact fin _ h₄
  · have hin : i = n := by omega
    subst hin
    refine W.done _ _ _ hst' fun h₁ tk₁ hk₁ => wpAny_execs_nil ?_
    obtain ⟨F₁, N₁⟩ := next h₁ hk₁
    exact done _ _ _ _ hJ' F₁ N₁
theorem For_myF {iter : Expr} {pos : Pos} {h₀ : Heap} {L : Addr} {hh : Heap} {m : Str → Option Value} (_F : Fr h₀ L hh m)
    (h : wpAny (model prog w) A (eval iter env) (fun xv s₁ => wpAny (model prog w) A (pyIter xv) (fun it s₂ => ForAt prog w A h₀ env target body Q E it s₂) E s₁) E s)
    (hs : ∀ x, foldedSetIterable iter env x = pure x := by intro _; rfl)
    (hE : PassesOwn (model prog w) A env E := by passes_own) :
    wpAny (model prog w) A (exec (.For target iter body [] pos) env) Q E s := For_my h₀ h hs hE
theorem letGo_list {I t : Addr} {i : Nat} {v : Value} {Q' : Unit → Shared → Prop} {s' : Shared} (hit : s'.heap.IsListIter I t i) (h : Q' () s') :
    wpAny (model prog w) A (letOwnedTupleGo target (.ref I) v) Q' E s' := by
  obtain ⟨o, ho, hc, hd⟩ := hit
  unfold letOwnedTupleGo
  cases target <;> first
    | exact wpAny_pure h
    | (cases v <;> first
        | exact wpAny_pure h
        | (refine wpAny_bind (wpAny_load ho ?_)
           rw [hc, hd]
           exact wpAny_pure h))
theorem letGo_range {I : Addr} {a b c : Int} {v : Value} {Q' : Unit → Shared → Prop} {s' : Shared} (hit : IsRangeIter s'.heap I a b c) (h : Q' () s') :
    wpAny (model prog w) A (letOwnedTupleGo target (.ref I) v) Q' E s' := by
  unfold letOwnedTupleGo
  cases target <;> first
    | exact wpAny_pure h
    | (cases v <;> first
        | exact wpAny_pure h
        | (refine wpAny_bind (wpAny_load hit ?_)
           exact wpAny_pure h))
/-- a loop over a list of the ledger that the loop leaves alone -/
theorem Iter_list_my {m : Str → Option Value} {news : List (Addr × Obj)} {l : Addr} {vs : List Value} {k : Nat} (J : Nat → (Str → Option Value) → List (Addr × Obj) → Prop)
    (hh : A.handled = none) (F : Fr h₀ env.locals s.heap m) (N : News h₀ env.locals s.heap news) (hl : ∀ i m nx, J i m nx → (l, listOf vs.toArray k) ∈ nx) (hJ : J 0 m news)
    (turn : ∀ I i v m₁ nx h tk io, vs[i]? = some v → J i m₁ nx → (∀ p ∈ nx, p.1 ≠ I) → Fr h₀ env.locals h m₁ → News h₀ env.locals h ((I, io) :: nx) →
      wpAny (model prog w) A (assign target env v) (fun _ s' => wpAny (model prog w) A (execs body env) (ForStep h₀ env.locals { s with heap := h, toks := tk } I J Q i io) E s') E { s with heap := h, toks := tk })
    (done : ∀ m₁ nx h tk, J vs.length m₁ nx → Fr h₀ env.locals h m₁ → News h₀ env.locals h nx → Q .next { s with heap := h, toks := tk }) :
    wpAny (model prog w) A (pyIter (.ref l)) (fun it s₂ => ForAt prog w A h₀ env target body Q E it s₂) E s := by
  have hl0 := hl _ _ _ hJ
  have hls : s.heap.IsList l vs.toArray := ⟨_, (N _ hl0).1, rfl, k, rfl⟩
  have hlt : l < s.heap.objs.size := Heap.lt_size (N _ hl0).1
  refine wpAny_pyIter_list hls ?_
  have W := Walks.list (prog := prog) (w := w) hh s.heap.objs.size l (Nat.ne_of_lt hlt) vs.toArray
  rw [show vs.toArray.size = vs.length from by simp] at W
  refine ⟨_, _, vs.length, _, _, m, news, J, rfl, W, ⟨_, Heap.get?_push_size _ rfl⟩, Nat.ne_of_lt F.ns.lt, next_is_new F, (fun p hp e => absurd (Heap.lt_size (N p hp).1) (e ▸ Nat.lt_irrefl _)), ?_, ⟨⟨_, Heap.get?_push_size _ rfl, rfl, rfl⟩, hls.at fun o e => Heap.get?_push_of_some _ e⟩, F.push _, (fun p hp => ⟨Heap.get?_push_of_some _ (N p hp).1, (N p hp).2⟩), hJ, (fun i h st => let ⟨o, ho, _⟩ := st.1; ⟨o, ho⟩), (fun i s' v Q' st hq => letGo_list st.1 hq), ?_, ?_⟩
  · intro b hb
    rcases List.mem_cons.mp hb with e | hb
    · exact .inl e
    · exact .inr (.inr ⟨_, fun i m nx hj => (List.mem_singleton.mp hb) ▸ hl i m nx hj⟩)
  · intro i v m₁ nx h tk io hi hP hj hnx st F₁ N₁
    exact turn _ i v m₁ nx h tk io (by simpa using hP) hj hnx F₁ N₁
  · exact done
/-- a loop over range(a, b), written or not -/
theorem Iter_range_my {m : Str → Option Value} {news : List (Addr × Obj)} {r : Addr} {a b c : Int} {t u v : Tok} {n : Nat} (J : Nat → (Str → Option Value) → List (Addr × Obj) → Prop)
    (hh : A.handled = none) (hr : IsRange s.heap r a b c t u v) (hsmall : Builtin.Range.small a b c = true) (hn : Builtin.Range.rangeSize a b c = (n : Int)) (F : Fr h₀ env.locals s.heap m) (N : News h₀ env.locals s.heap news) (hJ : J 0 m news)
    (turn : ∀ I i t m₁ nx h tk io, i < n → J i m₁ nx → (∀ p ∈ nx, p.1 ≠ I) → Fr h₀ env.locals h m₁ → News h₀ env.locals h ((I, io) :: nx) →
      wpAny (model prog w) A (assign target env (.int (a + i * c) t)) (fun _ s' => wpAny (model prog w) A (execs body env) (ForStep h₀ env.locals { s with heap := h, toks := tk } I J Q i io) E s') E { s with heap := h, toks := tk })
    (done : ∀ m₁ nx h tk, J n m₁ nx → Fr h₀ env.locals h m₁ → News h₀ env.locals h nx → Q .next { s with heap := h, toks := tk }) :
    wpAny (model prog w) A (pyIter (.ref r)) (fun it s₂ => ForAt prog w A h₀ env target body Q E it s₂) E s := by
  refine wpAny_pyIter_range hr hsmall ?_
  have W := Walks.range (prog := prog) (w := w) hh s.heap.objs.size a c n
  refine ⟨_, _, n, _, _, m, news, J, rfl, W, ⟨_, Heap.get?_push_size _ rfl⟩, Nat.ne_of_lt F.ns.lt, next_is_new F, (fun p hp e => absurd (Heap.lt_size (N p hp).1) (e ▸ Nat.lt_irrefl _)), ?_, ?_, F.push _, (fun p hp => ⟨Heap.get?_push_of_some _ (N p hp).1, (N p hp).2⟩), hJ, (fun i h st => ⟨_, st⟩), (fun i s' v Q' st hq => letGo_range st hq), ?_, ?_⟩
  · intro b hb
    exact .inl (List.mem_singleton.mp hb)
  · rw [hn]; simpa [IsRangeIter, rawInt] using Heap.get?_push_size _ rfl
  · rintro i v m₁ nx h tk io hi ⟨t, rfl⟩ hj hnx st F₁ N₁
    exact turn _ i t m₁ nx h tk io hi hj hnx F₁ N₁
  · exact done
end
end Mine
end
section
open PySem PySem.W PySem.Calls PyProof.Rows
set_option maxRecDepth 100000
namespace Mine
def lowS (x : Str) : Str := ⟨x.cps.map lo1⟩
theorem lo1_range {c : Nat} (h : 65 ≤ c ∧ c ≤ 122) : 65 ≤ lo1 c ∧ lo1 c ≤ 122 := by
  unfold lo1; split <;> omega
theorem Clean.low {x : Str} (h : Clean x) : Clean (lowS x) := by
  refine ⟨by simpa [lowS] using h.1, fun c hc => ?_⟩
  simp only [lowS, Array.mem_map] at hc
  obtain ⟨d, hd, rfl⟩ := hc
  exact lo1_range (h.2 d hd)
theorem lowS_low (x : Str) : lowS (lowS x) = lowS x := by
  unfold lowS
  simp only [Array.map_map, Str.mk.injEq]
  apply Array.map_congr_left
  intro c _
  simp only [Function.comp, lo1]
  (repeat' split) <;> omega
section
variable {prog : Program} {w : World} {M : Model} {A : Around} {E : Value → Shared → Prop} {s : Shared}
theorem lower_K {x : Str} {t : Tok} {Q : Value → Shared → Prop} (hx : Clean x) (h : ∀ t k, Q (.str (lowS x) t) { s with toks := k }) : wpAny (model prog w) A (call (.builtin "str.lower") [.str x t]) Q E s := by
  have e : Txt.lower x = lowS x := lower_ascii fun c hc => by have := hx.2 c (by simpa using hc); omega
  have hz : Builtin.Str.tooLong (Txt.lower x).length = false := by
    rw [e]
    have := hx.1
    simp only [Builtin.Str.tooLong, Str.length, lowS, Array.size_map, decide_eq_false_iff_not]
    unfold sizeLine
    omega
  refine SC.lower hz ?_
  rw [e]
  exact h _ _
end
end Mine
end
section
open PySem PySem.W PySem.Calls PyProof.Rows
set_option maxRecDepth 100000
namespace Mine
/-- the figures to the base 16, the highest first -/
def hexF : Nat → Nat → List Nat
  | 0, _ => []
  | f + 1, n => if n = 0 then [] else hexF f (n / 16) ++ [n % 16]
def hexL (n : Nat) : List Nat := hexF n n
theorem hexF_eq : ∀ (f g n : Nat), n ≤ f → n ≤ g → hexF f n = hexF g n
  | 0, 0, _, _, _ => rfl
  | 0, g + 1, n, h, _ => by rw [show n = 0 from Nat.le_zero.mp h]; rfl
  | f + 1, 0, n, _, h => by rw [show n = 0 from Nat.le_zero.mp h]; rfl
  | f + 1, g + 1, n, hf, hg => by
    by_cases h : n = 0
    · subst h; rfl
    · have := Nat.div_lt_self (Nat.pos_of_ne_zero h) (show 1 < 16 by decide)
      show (if n = 0 then [] else hexF f (n / 16) ++ [n % 16]) = if n = 0 then [] else hexF g (n / 16) ++ [n % 16]
      rw [if_neg h, if_neg h, hexF_eq f g (n / 16) (Nat.le_of_lt_succ (Nat.lt_of_lt_of_le this hf)) (Nat.le_of_lt_succ (Nat.lt_of_lt_of_le this hg))]
theorem hexL_zero : hexL 0 = [] := rfl
theorem hexL_pos {n : Nat} (h : n ≠ 0) : hexL n = hexL (n / 16) ++ [n % 16] := by
  cases n with
  | zero => exact absurd rfl h
  | succ n =>
    have := Nat.div_lt_self (Nat.pos_of_ne_zero h) (show 1 < 16 by decide)
    show (if n + 1 = 0 then [] else hexF n ((n + 1) / 16) ++ [(n + 1) % 16]) = _
    rw [if_neg h, hexF_eq n ((n + 1) / 16) _ (Nat.le_of_lt_succ this) (Nat.le_refl _)]
    rfl
theorem hexL_lt : ∀ (n : Nat), ∀ d ∈ hexL n, d < 16 := by
  intro n
  induction n using Nat.strongRecOn with
  | ind n ih =>
    by_cases h : n = 0
    · subst h; rw [hexL_zero]; simp
    · rw [hexL_pos h]
      intro d hd
      rcases List.mem_append.mp hd with hd | hd
      · exact ih (n / 16) (Nat.div_lt_self (Nat.pos_of_ne_zero h) (by decide)) d hd
      · simp at hd; omega
def apB (n : Nat) : Array UInt8 := ((hexL n).map fun d => UInt8.ofNat (65 + d)).toArray
theorem apB_zero : apB 0 = #[] := by rw [apB, hexL_zero]; rfl
theorem apB_pos {n : Nat} (h : n ≠ 0) (v : Array UInt8) : apB (n / 16) ++ (#[UInt8.ofNat (65 + n % 16)] ++ v) = apB n ++ v := by
  rw [apB, apB, hexL_pos h, List.map_append]
  simp
theorem hexL_size : ∀ (k n : Nat), n < 16 ^ k → (hexL n).length ≤ k := by
  intro k
  induction k with
  | zero => intro n h; have : n = 0 := by simpa using h
            subst this; rw [hexL_zero]; simp
  | succ k ih =>
    intro n h
    by_cases h0 : n = 0
    · subst h0; rw [hexL_zero]; simp
    · rw [hexL_pos h0, List.length_append]
      have := ih (n / 16) (by rw [Nat.pow_succ] at h; omega)
      simp only [List.length_singleton]; omega
theorem apB_size {n : Nat} (h : n < 16 ^ 16) : (apB n).size ≤ 16 := by
  have := hexL_size 16 n h
  simpa [apB] using this
theorem ap_step {k : Nat} {v u : Array UInt8} (h0 : (k : Int) ≠ 0) (h : apB k ++ v = u) : apB (k / 16) ++ (#[UInt8.ofNat (65 + ((k : Int).fmod 16).toNat)] ++ v) = u := by
  have e : ((k : Int).fmod 16).toNat = k % 16 := by rw [Int.fmod_eq_emod_of_nonneg _ (by decide)]; first | rfl | omega
  rw [e, apB_pos (by omega), h]
theorem ap_div (k : Nat) : (k : Int).fdiv 16 = ((k / 16 : Nat) : Int) := by rw [Int.fdiv_eq_ediv_of_nonneg _ (by decide)]; first | rfl | omega
theorem ap_size_le {k : Nat} {v u : Array UInt8} (h : apB k ++ v = u) (hu : u.size ≤ 16) : v.size ≤ 16 := by
  have := congrArg Array.size h
  simp only [Array.size_append] at this; omega
abbrev apBytes : Array UInt8 := #[65, 66, 67, 68, 69, 70, 71, 72, 73, 74, 75, 76, 77, 78, 79, 80]
theorem ap_picked : ∀ k : Fin 16, KBy.picked apBytes (some ((k.val : Nat) : Int)) (some (((k.val : Nat) : Int) + 1)) = #[UInt8.ofNat (65 + k.val)] := by decide +kernel
section
variable {prog : Program} {w : World} {A : Around} {E : Value → Shared → Prop} {s : Shared} {value slice : PySem.Expr} {t : Tok} {h₀ : Heap} {L : Addr} {m : PySem.Str → Option Value} {news : List (Addr × Obj)} {Q : Value → Shared → Prop} {k : Int} {t1 t2 : Tok}
theorem ap_slice_K (hF : Fr h₀ L s.heap m) (hN : News h₀ L s.heap news) (hk : 0 ≤ k) (hk' : k < 16)
    (h : ∀ h' t' k', Fr h₀ L h' m → News h₀ L h' news → Q (.bytes #[UInt8.ofNat (65 + k.toNat)] t') { s with heap := h', toks := k' })
    (hs : subscripted slice false (.bytes apBytes t) (.ref s.heap.objs.size) = operate [.ref s.heap.objs.size, .bytes apBytes t] (getItem (.bytes apBytes t) (.ref s.heap.objs.size)) := by with_unfolding_all rfl)
    (ht : ∀ r, letTemporaryGo value (.bytes apBytes t) r = pure () := by intro _; with_unfolding_all rfl) :
    wpAny (model prog w) A (subscriptTail value slice (.bytes apBytes t) (.ref s.heap.objs.size)) Q E { s with heap := s.heap.push { cls := .type "slice", data := .fields #[.int k t1, .int (k + 1) t2, .none] } } := by
  refine KBc.slice_K (lo := some k) (hi := some (k + 1)) hF hN rfl (by constructor) (by constructor) (by decide +kernel) (fun h' t' k' F' N' _ => ?_) hs ht
  have e := ap_picked ⟨k.toNat, by omega⟩
  have e2 : ((k.toNat : Nat) : Int) = k := Int.toNat_of_nonneg hk
  simp only [e2] at e
  rw [e]
  exact h h' t' k' F' N'
end
end Mine
end
section
open PySem PySem.W PySem.Calls PyProof.Rows
set_option maxRecDepth 100000
namespace Mine
open PyProof.Rows.LCg PyProof.Rows.LCt
theorem compEnd_mono {h₀ : Heap} {L I C D : Addr} {m : Str → Option Value} {s₁ s₂ : Shared} {oI oC oD : Obj} {S : List (Addr × Obj) → Prop} {r r' : Value → List (Addr × Obj) → Prop} {y : Value}
    (h : CompEnd h₀ L m s₁ I oI C oC D oD S r y s₂) (hr : ∀ y nx, r y nx → r' y nx) : CompEnd h₀ L m s₁ I oI C oC D oD S r' y s₂ :=
  let ⟨h', tk, nx, e, F, N, off, hS, h9⟩ := h; ⟨h', tk, nx, e, F, N, off, hS, hr _ _ h9⟩
section
variable {prog : Program} {w : World} {A : Around} {h₀ : Heap} {L : Addr} {m : Str → Option Value} {env : Env} {ct elt : Expr} {x : Str} {scope : Scope} {cl : List (Str × Addr)} {s : Shared} {S : List (Addr × Obj) → Prop} {P : Nat → Value → Prop}
  {Fin : List Value → List (Addr × Obj) → Prop} {n : Nat}
theorem compT_inv (J : Nat → List Value → List (Addr × Obj) → Prop)
    (turn : ∀ i v ys nx I oI C oC D m₂ h tk (E' : Value → Shared → Prop), i < n → P i v → J i ys nx → NsObj oC m₂ → m₂ x = some v → Fr h₀ L h m → News h₀ L h ((I, oI) :: (C, oC) :: (D, lst ys) :: nx) → Off3 I C D nx → ((@Ne Nat I C) ∧ (@Ne Nat I D) ∧ (@Ne Nat C D)) →
      wpAny (model prog w) A (isTrue ct (compEnvC scope cl C env) (eval ct (compEnvC scope cl C env))) (fun ok s' => if ok = true then
        wpAny (model prog w) A (eval elt (compEnvC scope cl C env)) (CompEnd h₀ L m { s with heap := h, toks := tk } I oI C oC D (lst ys) S (fun y nx' => J (i + 1) (ys ++ [y]) nx')) E' s'
        else CompEnd h₀ L m { s with heap := h, toks := tk } I oI C oC D (lst ys) S (fun _ nx' => J (i + 1) ys nx') Value.none s') E' { s with heap := h, toks := tk })
    (done : ∀ ys nx, J n ys nx → Fin ys nx) :
    ∀ k i ys nx, i + k = n → J i ys nx → CompRestT prog w A h₀ L m env ct elt x scope cl s S P Fin k i ys nx := by
  intro k
  induction k with
  | zero => intro i ys nx e j; have : i = n := by omega
            subst this; exact CompRestT.zero (done _ _ j)
  | succ k ih =>
    intro i ys nx e j
    refine CompRestT.succ fun v I oI C oC D m₂ h tk E' hv hC hx F N off ne => ?_
    refine wpAny_mono (turn i v ys nx I oI C oC D m₂ h tk E' (by omega) hv j hC hx F N off ne) (fun ok s' q => ?_) fun _ _ e => e
    split
    · rename_i e1
      rw [if_pos e1] at q
      exact wpAny_mono q (fun y s₂ z => compEnd_mono z fun y nx' j' => ih _ _ _ (by omega) j') fun _ _ e => e
    · rename_i e1
      rw [if_neg e1] at q
      exact compEnd_mono q fun y nx' j' => ih _ _ _ (by omega) j'
theorem compU_inv (J : Nat → List Value → List (Addr × Obj) → Prop)
    (turn : ∀ i v ys nx I oI C oC D m₂ h tk (E' : Value → Shared → Prop), i < n → P i v → J i ys nx → NsObj oC m₂ → m₂ x = some v → Fr h₀ L h m → News h₀ L h ((I, oI) :: (C, oC) :: (D, lst ys) :: nx) → Off3 I C D nx → ((@Ne Nat I C) ∧ (@Ne Nat I D) ∧ (@Ne Nat C D)) →
      wpAny (model prog w) A (eval elt (compEnvC scope cl C env)) (CompEnd h₀ L m { s with heap := h, toks := tk } I oI C oC D (lst ys) S (fun y nx' => J (i + 1) (ys ++ [y]) nx')) E' { s with heap := h, toks := tk })
    (done : ∀ ys nx, J n ys nx → Fin ys nx) :
    ∀ k i ys nx, i + k = n → J i ys nx → CompRest prog w A h₀ L m env elt x scope cl s S P Fin k i ys nx := by
  intro k
  induction k with
  | zero => intro i ys nx e j; have : i = n := by omega
            subst this; exact CompRest.zero (done _ _ j)
  | succ k ih =>
    intro i ys nx e j
    refine CompRest.succ fun v I oI C oC D m₂ h tk E' hv hC hx F N off ne => ?_
    exact wpAny_mono (turn i v ys nx I oI C oC D m₂ h tk E' (by omega) hv j hC hx F N off ne) (fun y s₂ z => compEnd_mono z fun y nx' j' => ih _ _ _ (by omega) j') fun _ _ e => e
end
end Mine
end
section
open PySem PySem.W PySem.Calls PyProof.Rows
set_option maxRecDepth 100000
namespace Mine
section
open Builtin Builtin.List
variable {prog : Program} {w : World} {A : Around} {E : Value → Shared → Prop} {s : Shared}
theorem setItem_all {l a d : Addr} {its ys : Array Value} {n k : Nat} {Q : Unit → Shared → Prop} (hl : s.heap.get? l = some (listOf its n)) (ha : s.heap.get? a = some { cls := .type "slice", data := .fields #[.none, .none, .none] }) (hd : s.heap.get? d = some (listOf ys k)) (hld : l ≠ d)
    (hz : its.size ≤ 1000) (hz' : ys.size ≤ 1000) (h : ∀ h' n', h'.get? l = some (listOf ys n') → Heap.SameBut l s.heap h' → Q () { s with heap := h' }) :
    wpAny (model prog w) A (setItem (.ref l) (.ref a) (.ref d)) Q E s := by
  have hlT : s.TypeIs (.ref l) "list" := ⟨_, hl, rfl⟩
  have hdT : s.TypeIs (.ref d) "list" := ⟨_, hd, rfl⟩
  have haT : s.TypeIs (.ref a) "slice" := ⟨_, ha, rfl⟩
  unfold setItem
  try with_reducible refine wpAny_holding ?_
  first | refine wpAny_bind (wpAny_pure ?_) | skip
  refine wpAny_bind (wpAny_sequenceKey hlT (by decide) ?_)
  refine wpAny_bind (wpAny_callSpecial?_slot (name := Str.ofString "__setitem__") hlT slot_list_setitem
    (wpAny_call_entry slot_list_setitem hlT entry_list_setitem ?_ (args_list_setitem _ _ _)))
  show wpAny _ _ (Builtin.List.listSubscript? (.ref a) >>= _) _ _ s
  refine wpAny_bind ?_
  unfold Builtin.List.listSubscript?
  refine wpAny_bind (wpAny_specialOf haT slice_no_index (wpAny_pure ?_))
  refine wpAny_bind (wpAny_typeOf haT ?_)
  dsimp only
  rw [if_neg (by simp)]
  have same : listSameRef (Value.ref l) (Value.ref d) = false := by simp [listSameRef, hld]
  rw [same]
  refine wpAny_bind (wpAny_mono (Q := fun r s' => r = (.none, .none, .none) ∧ s' = s) (E := fun _ _ => False) ?_ ?_ fun _ _ e => e.elim)
  · unfold listSliceParts
    dsimp only
    refine wpAny_bind (wpAny_field (x := .none) ha rfl rfl ?_)
    rw [if_pos (by rfl)]
    refine wpAny_bind (wpAny_pure ?_)
    rw [if_neg (by decide)]
    refine wpAny_bind (wpAny_field (x := .none) ha rfl rfl ?_)
    rw [if_pos (by rfl)]
    refine wpAny_bind (wpAny_pure ?_)
    refine wpAny_bind (wpAny_field (x := .none) ha rfl rfl ?_)
    rw [if_pos (by rfl)]
    exact wpAny_bind (wpAny_pure (wpAny_pure ⟨rfl, rfl⟩))
  rintro r s' ⟨rfl, rfl⟩
  dsimp only
  rw [if_neg (by simp)]
  refine wpAny_bind ?_
  unfold listAllItems
  refine wpAny_bind (wpAny_typeOf hdT ?_)
  rw [if_pos (by decide)]
  unfold listItems
  refine wpAny_bind (wpAny_seqItems hd rfl (wpAny_pure ?_))
  refine wpAny_bind (wpAny_bind (wpAny_seqItems hl rfl (wpAny_pure ?_)))
  rw [show sliceIndices Value.none Value.none Value.none its.size = pure (sliceBounds none none none its.size) from sliceIndices_raw none none none its.size (fun e => nomatch e)]
  refine wpAny_bind (wpAny_pure ?_)
  have e : sliceBounds none none none its.size = (0, (its.size : Int), 1) := by rfl
  rw [e]
  dsimp only
  rw [if_pos (by rfl)]
  refine wpAny_bind (wpAny_rule ?_)
  rw [if_neg (by unfold listTooLong sizeLine; simp; omega)]
  unfold listUpdate
  dsimp only
  have e2 : its.extract 0 (Int.toNat 0) ++ ys ++ its.extract (max 0 (its.size : Int)).toNat = ys := by
    have : (max 0 (its.size : Int)).toNat = its.size := by omega
    rw [this]; simp
  refine wpAny_bind (wpAny_updateSeq hl rfl ?_ (by rw [sizeLine_eq]; omega) (by rw [e2, sizeLine_eq]; omega))
  refine wpAny_bind (wpAny_letGo ?_)
  refine wpAny_pure ⟨_, rfl, wpAny_pure ?_⟩
  refine h _ (if ys.size == its.size then n else n + 1) ?_ (Heap.SameBut.update ..)
  rw [Heap.get?_update_self _ hl rfl]
  simp only [Obj.mapSeq, e2]
theorem setItem_all_K {h₀ : Heap} {L l d : Addr} {m : Str → Option Value} {its ys : Array Value} {n k : Nat} {news : List (Addr × Obj)} {g : Obj → List (Addr × Obj)} {Q : Unit → Shared → Prop} (F : Fr h₀ L s.heap m) (N : News h₀ L s.heap news) (U : UpdF l (listOf its n) news g) (hd : (d, listOf ys k) ∈ news) (hld : l ≠ d)
    (hz : its.size ≤ 1000) (hz' : ys.size ≤ 1000) (h : ∀ h' n', Fr h₀ L h' m → News h₀ L h' (g (listOf ys n')) → Q () { s with heap := h' }) :
    wpAny (model prog w) A (setItem (.ref l) (.ref s.heap.objs.size) (.ref d)) Q E { s with heap := s.heap.push { cls := .type "slice", data := .fields #[.none, .none, .none] } } := by
  obtain ⟨own, rest, rfl, hg, h1, h2⟩ := U.split
  have hmem := N (l, listOf its n) (List.mem_append_right _ (.head _))
  have F' := F.push (o := { cls := .type "slice", data := .fields #[.none, .none, .none] })
  have N' : News h₀ L (s.heap.push { cls := .type "slice", data := .fields #[.none, .none, .none] }) _ := News.pushKeep N _
  refine setItem_all (Heap.get?_push_of_some _ hmem.1) (Heap.get?_push_size _ rfl) (Heap.get?_push_of_some _ (N _ hd).1) hld hz hz' fun h' n' hl' hs => ?_
  exact h h' n' (F'.change hs hmem.2.1 hmem.2.2) (hg _ ▸ N'.setAt h1 h2 hs hl')
end
section
variable {M : Model} {A : Around} {E : Value → Shared → Prop} {s : Shared} {K : Frag} {x C L f : Addr} {h₀ : Heap} {m : Str → Option Value} {ox : Obj} {od : Option Obj} {i : Value}
theorem delItem_inst {Q : Unit → Shared → Prop} (F : Fr h₀ L s.heap m) (X₀ : K.In h₀) (I : InstAt s.heap x ox C od) (hq : noSeq K C = true) (hs : findIn K (.ref C) "__delitem__" = some (some (.ref f))) (hf : isFn K (.ref f) = true)
    (h : wpAny M A (call (.ref f) [.ref x, i]) (fun _ s' => Q () s') E s) : wpAny M A (delItem (.ref x) i) Q E s := by
  have X := X₀.keeps F.keep
  unfold delItem sequenceKey
  refine wpAny_holding (wpAny_bind (wpAny_bind (I.type.here ?_)))
  refine wpAny_bind ((anyM_none X hq).here ?_)
  rw [if_pos (show (!false) = true from rfl)]
  exact wpAny_pure (wpAny_bind (special_fn X I hs (beq_iff_eq.mp hf) (wpAny_mono h (fun _ _ z => wpAny_pure z) fun _ _ z => z)))
end
theorem pick_all (l : List Value) : kms_pick l none none = l := by simp [kms_pick, kms_lo, kms_hi]
theorem pick_init (l : List Value) : kms_pick l none (some (-1)) = l.dropLast := by
  simp [kms_pick, kms_lo, kms_hi, List.dropLast_eq_take]
theorem pick_take (l : List Value) (k : Nat) : kms_pick l none (some (k : Int)) = l.take k := by
  have : ¬ ((k : Int) < 0) := by omega
  simp only [kms_pick, kms_lo, kms_hi, if_neg this, List.drop_zero, Int.toNat_natCast, Nat.sub_zero]
  rw [kmk_take_min]
theorem pick_lit (l : List Value) (k : Nat) : kms_pick l none (some (@OfNat.ofNat Int k instOfNat)) = l.take k := pick_take l k
end Mine
end
section
open PySem PySem.W PySem.Calls PyProof.Rows
set_option maxRecDepth 100000
namespace Mine
/-- halving: right says which way a true test goes -/
def bisRun {σ : Type} (right : Bool) (test : Nat → Bool) (nx : σ → Nat → σ) : Nat → Nat → Nat → σ → Nat × σ
  | 0, lo, _, st => (lo, st)
  | f + 1, lo, hi, st => if lo < hi then
      (if test ((lo + hi) / 2) == right then bisRun right test nx f lo ((lo + hi) / 2) (nx st ((lo + hi) / 2)) else bisRun right test nx f ((lo + hi) / 2 + 1) hi (nx st ((lo + hi) / 2)))
    else (lo, st)
theorem bisRun_done {σ : Type} {right : Bool} {test : Nat → Bool} {nx : σ → Nat → σ} {f lo hi : Nat} {st : σ} (h : ¬ lo < hi) : bisRun right test nx f lo hi st = (lo, st) := by
  cases f with
  | zero => rfl
  | succ f => unfold bisRun; rw [if_neg h]
theorem bisRun_yes {σ : Type} {right : Bool} {test : Nat → Bool} {nx : σ → Nat → σ} {f lo hi : Nat} {st : σ} (h : lo < hi) (ht : (test ((lo + hi) / 2) == right) = true) :
    bisRun right test nx (f + 1) lo hi st = bisRun right test nx f lo ((lo + hi) / 2) (nx st ((lo + hi) / 2)) := by
  rw [bisRun, if_pos h, if_pos ht]
theorem bisRun_no {σ : Type} {right : Bool} {test : Nat → Bool} {nx : σ → Nat → σ} {f lo hi : Nat} {st : σ} (h : lo < hi) (ht : (test ((lo + hi) / 2) == right) = false) :
    bisRun right test nx (f + 1) lo hi st = bisRun right test nx f ((lo + hi) / 2 + 1) hi (nx st ((lo + hi) / 2)) := by
  rw [bisRun, if_pos h, if_neg (by rw [ht]; exact Bool.false_ne_true)]
theorem bisRun_le {σ : Type} {right : Bool} {test : Nat → Bool} {nx : σ → Nat → σ} : ∀ (f lo hi : Nat) (st : σ), lo ≤ hi → (bisRun right test nx f lo hi st).1 ≤ hi
  | 0, lo, hi, st, h => h
  | f + 1, lo, hi, st, h => by
    by_cases hl : lo < hi
    · cases ht : (test ((lo + hi) / 2) == right) with
      | true => rw [bisRun_yes hl ht]; exact Nat.le_trans (bisRun_le f _ _ _ (by omega)) (by omega)
      | false => rw [bisRun_no hl ht]; exact bisRun_le f _ _ _ (by omega)
    · rw [bisRun_done hl]; exact h
def CmpK (prog : Program) (w : World) (x r : Value) (right b : Bool) : Prop :=
  ∀ (A : Around) (Q E : Value → Shared → Prop) (s : Shared), (∀ k, Q (.bool b) { s with toks := k }) → wpAny (model prog w) A (if right = true then compareOp .Lt x r else compareOp .Lt r x) Q E s
theorem CmpK.right {prog : Program} {w : World} {x r : Value} {b : Bool} (h : CmpK prog w x r true b) {A : Around} {Q E : Value → Shared → Prop} {s : Shared} (hq : ∀ k, Q (.bool b) { s with toks := k }) : wpAny (model prog w) A (compareOp .Lt x r) Q E s := by
  simpa using h A Q E s hq
theorem CmpK.left {prog : Program} {w : World} {x r : Value} {b : Bool} (h : CmpK prog w x r false b) {A : Around} {Q E : Value → Shared → Prop} {s : Shared} (hq : ∀ k, Q (.bool b) { s with toks := k }) : wpAny (model prog w) A (compareOp .Lt r x) Q E s := by
  simpa using h A Q E s hq
theorem mid_eq (lo hi : Nat) : ((lo : Int) + (hi : Int)).fdiv 2 = (((lo + hi) / 2 : Nat) : Int) := by rw [Int.fdiv_eq_ediv_of_nonneg _ (by decide)]; first | rfl | omega
theorem mid_one (k : Nat) : ((k : Nat) : Int) + 1 = ((k + 1 : Nat) : Int) := by omega
theorem kl_ins_at {vs : List Value} {k : Nat} {y : Value} (h : k ≤ vs.length) : kl_ins vs.toArray.toList ((k : Nat) : Int) y = vs.insertIdx k y := by
  unfold kl_ins
  have h0 : ¬ ((k : Int) < 0) := by omega
  simp only [if_neg h0, Int.toNat_natCast]
  rw [Nat.min_eq_left (by simpa using h)]
  induction vs generalizing k with
  | nil => have : k = 0 := by simpa using h
           subst this; simp
  | cons a r ih =>
    cases k with
    | zero => simp
    | succ k => simp only [List.insertIdx_succ_cons]; rw [← ih (k := k) (by simpa using h) (by omega)]; simp
theorem size_nat (k : Nat) : Builtin.Range.rangeSize 0 ((k : Nat) : Int) 1 = ((k : Nat) : Int) := by rw [rangeSize_nat]; omega
theorem small_nat (k : Nat) (h : k ≤ 100000) : Builtin.Range.small 0 ((k : Nat) : Int) 1 = true := by
  unfold Builtin.Range.small
  rw [size_nat]
  have f : ∀ i : Int, 0 ≤ i → i ≤ 100000 → Builtin.Range.rangeFitsLong i = true := fun i h0 h1 => by
    unfold Builtin.Range.rangeFitsLong
    exact Bool.and_eq_true_iff.mpr ⟨decide_eq_true (by omega), decide_eq_true (by omega)⟩
  rw [f 0 (by omega) (by omega), f k (by omega) (by omega), f 1 (by omega) (by omega), if_pos (by decide), f _ (by omega) (by omega)]
  simp
theorem fits_nat {k : Nat} (h : k ≤ 100000) : Builtin.List.listFitsIndex ((k : Nat) : Int) = true := by
  simp only [Builtin.List.listFitsIndex, Bool.and_eq_true, decide_eq_true_eq]; omega
section
variable {prog : Program} {w : World} {A : Around} {E : Value → Shared → Prop} {s : Shared} {h₀ : Heap} {L l : Addr} {news : List (Addr × Obj)} {vs : List Value} {n : Nat}
theorem item_at {value slice : Expr} {k : Int} {u : Tok} {v : Value} {Q : Value → Shared → Prop} (N : News h₀ L s.heap news) (hm : (l, listOf vs.toArray n) ∈ news) (h0 : 0 ≤ k) (hhi : k < 2 ^ 63) (hx : vs[k.toNat]? = some v) (h : Q v s)
    (hs : subscripted slice false (.ref l) (.int k u) = operate [.ref l, .int k u] (getItem (.ref l) (.int k u)) := by with_unfolding_all rfl) :
    wpAny (model prog w) A (subscriptTail value slice (.ref l) (.int k u)) Q E s :=
  tail_any (Heap.IsList.typeIs ⟨_, (N _ hm).1, rfl, _, rfl⟩) slot_list_getitem.lookup (wpAny_getItem_list ⟨_, (N _ hm).1, rfl, _, rfl⟩ h0 hhi (by simpa using hx) h) hs
theorem len_at {Q : Value → Shared → Prop} (N : News h₀ L s.heap news) (hm : (l, listOf vs.toArray n) ∈ news) (hz : vs.length ≤ 100000) (h : ∀ t k, Q (.int (vs.length : Nat) t) { s with toks := k }) :
    wpAny (model prog w) A (call (.builtin "len") [.ref l]) Q E s :=
  len_list (items := vs.toArray) ⟨_, (N _ hm).1, rfl, _, rfl⟩ (by simp; omega) (by simpa using h _ _)
end
end Mine
end
section
open PySem PySem.W PySem.Calls PyProof.Rows
set_option maxRecDepth 100000
namespace Mine
section
variable {prog : Program} {w : World} {A : Around} {E : Value → Shared → Prop} {s : Shared} {env : Env} {h₀ : Heap} {target : Expr} {body : List Stmt} {Q : Flow → Shared → Prop}
/-- a loop over a list of the ledger that the loop leaves alone -/
theorem Iter_list_my2 {m : Str → Option Value} {news : List (Addr × Obj)} {l : Addr} {vs : List Value} {k : Nat} (J : Nat → (Str → Option Value) → List (Addr × Obj) → Prop)
    (hh : A.handled = none) (F : Fr h₀ env.locals s.heap m) (N : News h₀ env.locals s.heap news) (hl : ∀ i m nx, J i m nx → (l, listOf vs.toArray k) ∈ nx) (hJ : J 0 m news)
    (turn : ∀ I i v m₁ nx h tk io, (io.cls = .type "list_iterator" ∧ io.data = .fields #[.ref l, .int ((i + 1 : Nat) : Int) 0]) → vs[i]? = some v → J i m₁ nx → (∀ p ∈ nx, p.1 ≠ I) → Fr h₀ env.locals h m₁ → News h₀ env.locals h ((I, io) :: nx) →
      wpAny (model prog w) A (assign target env v) (fun _ s' => wpAny (model prog w) A (execs body env) (ForStep h₀ env.locals { s with heap := h, toks := tk } I J Q i io) E s') E { s with heap := h, toks := tk })
    (done : ∀ m₁ nx h tk, J vs.length m₁ nx → Fr h₀ env.locals h m₁ → News h₀ env.locals h nx → Q .next { s with heap := h, toks := tk }) :
    wpAny (model prog w) A (pyIter (.ref l)) (fun it s₂ => ForAt prog w A h₀ env target body Q E it s₂) E s := by
  have hl0 := hl _ _ _ hJ
  have hls : s.heap.IsList l vs.toArray := ⟨_, (N _ hl0).1, rfl, k, rfl⟩
  have hlt : l < s.heap.objs.size := Heap.lt_size (N _ hl0).1
  refine wpAny_pyIter_list hls ?_
  have W := Walks.list (prog := prog) (w := w) hh s.heap.objs.size l (Nat.ne_of_lt hlt) vs.toArray
  rw [show vs.toArray.size = vs.length from by simp] at W
  refine ⟨_, _, vs.length, _, _, m, news, J, rfl, W, ⟨_, Heap.get?_push_size _ rfl⟩, Nat.ne_of_lt F.ns.lt, next_is_new F, (fun p hp e => absurd (Heap.lt_size (N p hp).1) (e ▸ Nat.lt_irrefl _)), ?_, ⟨⟨_, Heap.get?_push_size _ rfl, rfl, rfl⟩, hls.at fun o e => Heap.get?_push_of_some _ e⟩, F.push _, (fun p hp => ⟨Heap.get?_push_of_some _ (N p hp).1, (N p hp).2⟩), hJ, (fun i h st => let ⟨o, ho, _⟩ := st.1; ⟨o, ho⟩), (fun i s' v Q' st hq => letGo_list st.1 hq), ?_, ?_⟩
  · intro b hb
    rcases List.mem_cons.mp hb with e | hb
    · exact .inl e
    · exact .inr (.inr ⟨_, fun i m nx hj => (List.mem_singleton.mp hb) ▸ hl i m nx hj⟩)
  · intro i v m₁ nx h tk io hi hP hj hnx st F₁ N₁
    obtain ⟨o, ho, hc, hd⟩ := st.1
    have e := (N₁ _ (.head _)).1
    rw [ho] at e
    obtain rfl := Option.some.inj e
    exact turn _ i v m₁ nx h tk _ ⟨hc, hd⟩ (by simpa using hP) hj hnx F₁ N₁
  · exact done
end
end Mine
end
section
open PySem PySem.W PySem.Calls PyProof.Rows
set_option maxRecDepth 100000
namespace Mine
section
variable {prog : Program} {w : World} {A : Around} {E : Value → Shared → Prop} {s : Shared} {h₀ : Heap} {L a c P : Addr} {m mg mb : Str → Option Value} {cn : Str} {cs : Scope} {ccd : Value} {cl : List (Str × Addr)} {news : List (Addr × Obj)} {g : Obj → List (Addr × Obj)}
  {p : Program} {loose : List Str} {mean : ExcName → Option Value} {name qual : Str} {params : Arguments} {body : List Stmt} {scope : Scope} {ps : Array Value} {pos : Pos} {firstLine : Nat} {clos : List (Str × Addr)}
theorem nestBoth_K (avoid : Addr → Prop) {Q : Value → Shared → Prop} (hps : ps = #[] ∨ ∃ c' oc vs t, ps = #[rawInt pos.line, rawInt pos.col, .ref c'] ∧ (c', oc) ∈ news ∧ oc.data = .fields vs ∧ vs[1]? = some (.str qual t) ∧ avoid c') (hav : ∀ c', (∀ q ∈ news, q.1 < c') → avoid c')
    (F : Fr h₀ L s.heap m) (N : News h₀ L s.heap news) (T : Top p loose mean mg mb h₀) (C : CodeHd h₀ c P) (hcd : ccd = .ref c) (U : UpdF P (tabObj ps) news g)
    (hcl : closureFor scope (envX cn cs L a ccd cl) = pure clos)
    (h : ∀ f c' oc vs t ctv doc h' tk, Fr h₀ L h' m →
      News h₀ L h' ((f, fnMade name qual params body scope clos doc ((mg "__name__").getD .none) c' ctv) :: (c', oc) :: g (tabObj #[rawInt pos.line, rawInt pos.col, .ref c'])) →
      oc.data = .fields vs → vs[1]? = some (.str qual t) → avoid c' → (∀ q ∈ news, q.1 < f) → c' < f → Q (.ref f) { s with heap := h', toks := tk }) :
    wpAny (model prog w) A (makeFunction name qual params (.stmts body) scope (envX cn cs L a ccd cl) [] [] [] pos firstLine) Q E s := by
  rcases hps with rfl | ⟨c', oc, vs, t, rfl, hm, hd, hv, ha⟩
  · refine nest_K F N T C hcd U True.intro rfl hcl fun f c' oc vs t ctv doc h' tk F' N' a1 a2 a3 a4 => h f c' oc vs t ctv doc h' tk F' N' a1 a2 (hav _ a3) (fun q hq => Nat.lt_trans (a3 q hq) a4) a4
  · obtain ⟨pre, post, e1, e2, -, -⟩ := U.split
    have hP : (P, tabObj #[rawInt pos.line, rawInt pos.col, .ref c']) ∈ news := by rw [e1]; simp
    refine nestHit_K (c' := c') F N T C hcd hP (by simp [TriplesOk, rawInt]) (by simp [codeAmong, rawInt]) hcl fun f ctv doc h' tk F' N' a3 => h f c' oc vs t ctv doc h' tk F' ?_ hd hv ha a3 (a3 _ hm)
    rw [e2, ← e1]
    intro q hq
    rcases List.mem_cons.mp hq with rfl | hq
    · exact N' _ (.head _)
    · rcases List.mem_cons.mp hq with rfl | hq
      · exact N' _ (.tail _ hm)
      · exact N' _ (.tail _ hq)
end
end Mine
end
section
open PySem PySem.W PySem.Calls PyProof.Rows
set_option maxRecDepth 100000
namespace Mine
theorem codeAmong_snoc_ne {pos pos2 : Pos} {c : Value} (l : List Value) (h : TriplesOk l) (hn : pos2.line ≠ pos.line ∨ pos2.col ≠ pos.col) :
    codeAmong pos2 (l ++ [rawInt pos.line, rawInt pos.col, c]) = codeAmong pos2 l := by
  fun_induction TriplesOk l with
  | case1 => 
    simp only [List.nil_append, rawInt, codeAmong]
    rw [if_neg]
    simp only [Bool.and_eq_true, beq_iff_eq]
    omega
  | case2 a t b u x rest ih =>
    simp only [List.cons_append, codeAmong]
    split
    · rfl
    · exact ih h
  | case3 l h1 h2 => exact h.elim
/-- a lambda's place: not made yet, or made -/
def MadeL (pos : Pos) (qual : Str) (ps : Array Value) (nx : List (Addr × Obj)) : Prop := codeAmong pos ps.toList = none ∨ ∃ c' oc vs t, codeAmong pos ps.toList = some (.ref c') ∧ (c', oc) ∈ nx ∧ oc.data = .fields vs ∧ vs[1]? = some (.str qual t)
section
variable {prog : Program} {w : World} {A : Around} {E : Value → Shared → Prop} {s : Shared} {h₀ : Heap} {L a c P : Addr} {m mg mb : Str → Option Value} {cn : Str} {cs : Scope} {ccd : Value} {cl : List (Str × Addr)} {news : List (Addr × Obj)} {g : Obj → List (Addr × Obj)}
  {p : Program} {loose : List Str} {mean : ExcName → Option Value} {name qual : Str} {params : Arguments} {body : Expr} {scope : Scope} {ps : Array Value} {pos : Pos} {firstLine : Nat} {clos : List (Str × Addr)}
theorem klaBoth_K (avoid : Addr → Prop) {Q : Value → Shared → Prop} (ht : TriplesOk ps.toList) (hps : codeAmong pos ps.toList = none ∨ ∃ c' oc vs t, codeAmong pos ps.toList = some (.ref c') ∧ (c', oc) ∈ news ∧ oc.data = .fields vs ∧ vs[1]? = some (.str qual t) ∧ avoid c') (hav : ∀ c', (∀ q ∈ news, q.1 < c') → avoid c')
    (F : Fr h₀ L s.heap m) (N : News h₀ L s.heap news) (T : Top p loose mean mg mb h₀) (C : CodeHd h₀ c P) (hcd : ccd = .ref c) (U : UpdF P (tabObj ps) news g)
    (hcl : closureFor scope (envX cn cs L a ccd cl) = pure clos)
    (h : ∀ f c' oc vs t ctv h' tk ps', Fr h₀ L h' m →
      News h₀ L h' ((f, kla_obj name qual params body scope clos ((mg "__name__").getD .none) c' ctv) :: (c', oc) :: g (tabObj ps')) →
      oc.data = .fields vs → vs[1]? = some (.str qual t) → TriplesOk ps'.toList → codeAmong pos ps'.toList = some (.ref c') →
      (∀ pos2 : Pos, pos2.line ≠ pos.line ∨ pos2.col ≠ pos.col → codeAmong pos2 ps'.toList = codeAmong pos2 ps.toList) →
      avoid c' → (∀ q ∈ news, q.1 < f) → c' < f → Q (.ref f) { s with heap := h', toks := tk }) :
    wpAny (model prog w) A (makeFunction name qual params (.expr body) scope (envX cn cs L a ccd cl) [] [] [] pos firstLine) Q E s := by
  rcases hps with hps | ⟨c', oc, vs, t, hps, hm, hd, hv, ha⟩
  · refine kla_nest F N T C hcd U ht hps hcl fun f c' oc vs t ctv h' tk F' N' a1 a2 a3 a4 => h f c' oc vs t ctv h' tk _ F' N' a1 a2 ?_ ?_ (fun pos2 hp => ?_) (hav _ a3) (fun q hq => Nat.lt_trans (a3 q hq) a4) a4
    · simpa using TriplesOk_snoc _ _ _ _ ht
    · simpa using codeAmong_snoc _ ht hps
    · simpa using codeAmong_snoc_ne _ ht hp
  · obtain ⟨pre, post, e1, e2, -, -⟩ := U.split
    have hP : (P, tabObj ps) ∈ news := by rw [e1]; simp
    refine kla_hit (c' := c') F N T C hcd hP ht hps hcl fun f ctv h' tk F' N' a3 => h f c' oc vs t ctv h' tk ps F' ?_ hd hv ht hps (fun _ _ => rfl) ha a3 (a3 _ hm)
    rw [e2, ← e1]
    intro q hq
    rcases List.mem_cons.mp hq with rfl | hq
    · exact N' _ (.head _)
    · rcases List.mem_cons.mp hq with rfl | hq
      · exact N' _ (.tail _ hm)
      · exact N' _ (.tail _ hq)
end
section
variable {M : Model} {A : Around} {E : Value → Shared → Prop} {s : Shared} {h₀ : Heap} {L a : Addr} {m : Str → Option Value} {cn : Str} {cs : Scope} {ccd : Value} {cl : List (Str × Addr)}
  {x : Str} {v : Value} {news : List (Addr × Obj)} {g : Obj → List (Addr × Obj)} {c : Addr} {o : Obj} {v₀ : Option Value}
theorem storeX_C {Q : Unit → Shared → Prop} (F : Fr h₀ L s.heap m) (N : News h₀ L s.heap news) (hc : cl.lookup x = some c) (U : UpdF c o news g) (hd : o.data = .cell v₀)
    (h : ∀ h' o', Fr h₀ L h' m → News h₀ L h' (g o') → o'.data = .cell (some v) → Q () { s with heap := h' })
    (hk : cs.kind = .function := by rfl) (hx : (envX cn cs L a ccd cl).kindOf x = some .cell := by rfl) : wpAny M A (storeName (envX cn cs L a ccd cl) x v) Q E s := by
  obtain ⟨own, rest, rfl, hg, h1, h2⟩ := U.split
  have hmem := N (c, o) (List.mem_append_right _ (.head _))
  refine wpAny_storeName_cell hk hx hc ⟨o, hmem.1, hd⟩ fun h' hv hs => ?_
  obtain ⟨o', ho', hd'⟩ := hv
  refine h h' o' ⟨F.ns.sameBut hs (Ne.symm hmem.2.1), fun b ob e => (hs.2 b (fun q => ?_)).trans (F.keep b ob e), F.above⟩ (hg o' ▸ N.setAt h1 h2 hs ho') hd'
  rw [q, hmem.2.2] at e; cases e
end
end Mine
end
section
open PySem PySem.W PyProof.Rows
set_option maxRecDepth 100000
set_option maxHeartbeats 8000000
namespace Mine
open_top hd for PySem.Challenge.rw_uc0029_01
end Mine
end
section
open PySem PySem.W PySem.Calls PyProof.Rows Mine
set_option maxRecDepth 100000
namespace Mine
/-- what a call of f does, whoever calls -/
def C1 (w : World) (f : Value) (args : List Value) (kw : List (Str × Value)) (need : Nat) (news : List (Addr × Obj)) (Post : List (Addr × Obj) → Value → Prop) : Prop :=
  ∀ (p : Program) (loose : List Str) (mean : ExcName → Option Value) (mg mb : Str → Option Value) (dp un : Nat) (gd : Option (List Code)) (cn : Str) (nm : List (Str × NameKind)) (ig ic : Bool) (mr : List (Str × Const)) (a : Addr) (ccd : Value) (cl : List (Str × Addr)) (outer : List Env) (A₀ : Around) (base h₀ : Heap) (L : Addr) (m : Str → Option Value) (s : Shared) (Q E : Value → Shared → Prop),
   Below A₀ base outer h₀ → Fr h₀ L s.heap m → (hd.heap_39 w.params).In h₀ → News h₀ L s.heap news → Top p loose mean mg mb h₀ → dp + need < recursionLimit → un + 8 * need < cLine →
   (∀ r news' h' tk', Fr h₀ L h' m → News h₀ L h' news' → Post news' r → Q r { s with heap := h', toks := tk' }) →
   wpAny (model PySem.Challenge.rw_uc0029_01.row.prog w) (ktrTop dp un gd cn ⟨.function, nm, ig, ic, mr⟩ L a ccd cl outer) (call f args kw) Q E s
theorem C1.use {w : World} {f : Value} {args : List Value} {kw : List (Str × Value)} {need : Nat} {news : List (Addr × Obj)} {Post : List (Addr × Obj) → Value → Prop} (c : C1 w f args kw need news Post)
   {p : Program} {loose : List Str} {mean : ExcName → Option Value} {mg mb : Str → Option Value} {dp un : Nat} {gd : Option (List Code)} {cn : Str} {nm : List (Str × NameKind)} {ig ic : Bool} {mr : List (Str × Const)} {a : Addr} {ccd : Value} {cl : List (Str × Addr)} {outer : List Env} {A₀ : Around} {base h₀ : Heap} {L : Addr} {m : Str → Option Value} {hp : Heap} {gs : Array GenState} {dr : Drawn} {tk : Nat} {os : OsState} {Q E : Value → Shared → Prop}
   (B : Below A₀ base outer h₀) (F : Fr h₀ L hp m) (X : (hd.heap_39 w.params).In h₀) (N : News h₀ L hp news) (T : Top p loose mean mg mb h₀) (hd : dp + need < recursionLimit) (hu : un + 8 * need < cLine)
   (h : ∀ r news' h' tk', Fr h₀ L h' m → News h₀ L h' news' → Post news' r → Q r ⟨h', gs, dr, tk', os⟩) :
   wpAny (model PySem.Challenge.rw_uc0029_01.row.prog w) (ktrTop dp un gd cn ⟨.function, nm, ig, ic, mr⟩ L a ccd cl outer) (call f args kw) Q E ⟨hp, gs, dr, tk, os⟩ :=
  c p loose mean mg mb dp un gd cn nm ig ic mr a ccd cl outer A₀ base h₀ L m ⟨hp, gs, dr, tk, os⟩ Q E B F X N T hd hu h
theorem om_le {a b c : Nat} (h : a ≤ b) (hc : b ≤ c) : a ≤ c := Nat.le_trans h hc
theorem om_eq {a b c : Nat} (h : a = b) (hc : b ≤ c) : a ≤ c := h ▸ hc
theorem om_lt {i n : Nat} (h : i < n) (hn : n ≤ 9223372036854775808) : ((i : Nat) : Int) < 2 ^ 63 := by omega
theorem om_lt2 {i n : Nat} (h : i ≤ n) (hn : n < 9223372036854775808) : ((i : Nat) : Int) < 2 ^ 63 := by omega
theorem om_mod {a c : Nat} (n : Nat) (hn : 0 < n) (hc : n ≤ c) : a % n < c := Nat.lt_of_lt_of_le (Nat.mod_lt _ hn) hc
theorem room1 {a n k R : Nat} (h : a + n < R) (hk : 1 + k ≤ n) : a + 1 + k < R := by omega
theorem units1 {a n k R : Nat} (h : a + 8 * n < R) (hk : 3 + 8 * k ≤ 8 * n) : a + 3 + 8 * k < R := by omega
theorem news_drop {h₀ h : Heap} {L : Addr} {news news' : List (Addr × Obj)} (N : News h₀ L h news') (hs : ∀ p ∈ news, p ∈ news') : News h₀ L h news := fun p hp => N p (hs p hp)
end Mine
end
section
open PySem PySem.W PySem.Calls PyProof.Rows Mine
set_option maxRecDepth 100000
namespace Mine
abbrev tupOf (vs : List Value) : Obj := { cls := .type "tuple", data := .seq vs.toArray }
/-- a list's items are pairs of texts, borne by the ledger -/
inductive PairsIn (news : List (Addr × Obj)) : List Value → List (Str × Str) → Prop where
  | nil : PairsIn news [] []
  | cons {q : Addr} {k v : Str} {t u : Tok} {vs : List Value} {kvs : List (Str × Str)} : (q, tupOf [.str k t, .str v u]) ∈ news → PairsIn news vs kvs → PairsIn news (.ref q :: vs) ((k, v) :: kvs)
theorem PairsIn.mono {news news' : List (Addr × Obj)} {vs : List Value} {kvs : List (Str × Str)} (h : PairsIn news vs kvs) (hs : ∀ p ∈ news, p ∈ news') : PairsIn news' vs kvs := by
  induction h with
  | nil => exact .nil
  | cons hm _ ih => exact .cons (hs _ hm) ih
theorem PairsIn.length {news : List (Addr × Obj)} {vs : List Value} {kvs : List (Str × Str)} (h : PairsIn news vs kvs) : vs.length = kvs.length := by
  induction h with
  | nil => rfl
  | cons _ _ ih => simp [ih]
theorem PairsIn.at {news : List (Addr × Obj)} {vs : List Value} {kvs : List (Str × Str)} (h : PairsIn news vs kvs) : ∀ {i : Nat} {x : Value}, vs[i]? = some x → ∃ q k v t u, x = .ref q ∧ kvs[i]? = some (k, v) ∧ (q, tupOf [.str k t, .str v u]) ∈ news := by
  induction h with
  | nil => intro i x h; simp at h
  | cons hm _ ih =>
    intro i x hx
    cases i with
    | zero => simp at hx; subst hx; exact ⟨_, _, _, _, _, rfl, rfl, hm⟩
    | succ i => exact ih (by simpa using hx)
abbrev hdEntry (w : World) (tk : Tok) (l : Addr) : DictEntry := ⟨PyData.keyHash w.params "_headers", .str "_headers" tk, .ref l⟩
/-- a table of headers -/
structure TabIn (C : Addr) (w : World) (news : List (Addr × Obj)) (x l : Addr) (vs : List Value) (n : Nat) (kvs : List (Str × Str)) : Prop where
  inst : ∃ dx tk dn, (x, instObj C dx) ∈ news ∧ (dx, dictOf [hdEntry w tk l] dn) ∈ news
  list : (l, listOf vs.toArray n) ∈ news
  pairs : PairsIn news vs kvs
/-- a table of headers whose list stands apart from the rest of the ledger -/
structure TabL (C : Addr) (w : World) (rest : List (Addr × Obj)) (x l : Addr) (vs : List Value) (kvs : List (Str × Str)) : Prop where
  inst : ∃ dx tk dn, (x, instObj C dx) ∈ rest ∧ (dx, dictOf [hdEntry w tk l] dn) ∈ rest
  pairs : PairsIn rest vs kvs
  off : ∀ p ∈ rest, p.1 ≠ l
theorem TabL.toIn {C : Addr} {w : World} {rest : List (Addr × Obj)} {x l : Addr} {vs : List Value} {n : Nat} {kvs : List (Str × Str)} (h : TabL C w rest x l vs kvs) : TabIn C w ((l, listOf vs.toArray n) :: rest) x l vs n kvs :=
  ⟨let ⟨dx, tk, dn, a, b⟩ := h.inst; ⟨dx, tk, dn, .tail _ a, .tail _ b⟩, .head _, h.pairs.mono fun _ hp => .tail _ hp⟩
/-- the ledger has grown by new objects alone -/
def Grow (l : Addr) (rest rest' : List (Addr × Obj)) : Prop := (∀ p ∈ rest, p ∈ rest') ∧ ∀ p ∈ rest', p ∈ rest ∨ (l < p.1 ∧ ∀ q ∈ rest, q.1 < p.1)
theorem Grow.refl (l : Addr) (rest : List (Addr × Obj)) : Grow l rest rest := ⟨fun _ h => h, fun _ h => .inl h⟩
theorem Grow.one {l q : Addr} {o : Obj} {rest : List (Addr × Obj)} (h1 : l < q) (h2 : ∀ p ∈ rest, p.1 < q) : Grow l rest ((q, o) :: rest) :=
  ⟨fun _ h => .tail _ h, fun p h => by
    rcases List.mem_cons.mp h with rfl | h
    · exact .inr ⟨h1, h2⟩
    · exact .inl h⟩
theorem Grow.trans {l : Addr} {a b c : List (Addr × Obj)} (h1 : Grow l a b) (h2 : Grow l b c) : Grow l a c :=
  ⟨fun p h => h2.1 p (h1.1 p h), fun p h => by
    rcases h2.2 p h with h | ⟨h, h'⟩
    · exact h1.2 p h
    · exact .inr ⟨h, fun q hq => h' q (h1.1 q hq)⟩⟩
theorem PairsIn.snoc {news : List (Addr × Obj)} {vs : List Value} {kvs : List (Str × Str)} {q : Addr} {k v : Str} {t u : Tok} (h : PairsIn news vs kvs) (hq : (q, tupOf [.str k t, .str v u]) ∈ news) : PairsIn news (vs ++ [.ref q]) (kvs ++ [(k, v)]) := by
  induction h with
  | nil => exact .cons hq .nil
  | cons hm _ ih => exact .cons hm ih
theorem TabL.snoc {C : Addr} {w : World} {rest : List (Addr × Obj)} {x l q : Addr} {vs : List Value} {kvs : List (Str × Str)} {k v : Str} {t u : Tok} (h : TabL C w rest x l vs kvs) (hl : l < q) :
    TabL C w ((q, tupOf [.str k t, .str v u]) :: rest) x l (vs ++ [.ref q]) (kvs ++ [(k, v)]) :=
  ⟨let ⟨dx, tk, dn, a, b⟩ := h.inst; ⟨dx, tk, dn, .tail _ a, .tail _ b⟩, (h.pairs.mono fun _ hp => .tail _ hp).snoc (.head _), fun p hp => by
    rcases List.mem_cons.mp hp with rfl | hp
    · exact Nat.ne_of_gt hl
    · exact h.off p hp⟩
def getT (kvs : List (Str × Str)) (nm : Str) : Option Str := (kvs.find? fun kv => lowS kv.1 == nm).map (·.2)
theorem getT_some : ∀ {kvs : List (Str × Str)} {nm : Str} {i : Nat} {k v : Str}, kvs[i]? = some (k, v) → (∀ kv ∈ kvs.take i, lowS kv.1 ≠ nm) → (lowS k == nm) = true → getT kvs nm = some v
  | [], _, _, _, _, h, _, _ => by simp at h
  | a :: r, nm, 0, k, v, h, _, e => by
    simp at h; subst h
    simp [getT, List.find?_cons, e]
  | a :: r, nm, i + 1, k, v, h, hn, e => by
    have h1 : (lowS a.1 == nm) = false := by simpa using hn a (by simp)
    have := getT_some (kvs := r) (nm := nm) (i := i) (by simpa using h) (fun kv hk => hn kv (by simp [hk])) e
    simpa [getT, List.find?_cons, h1] using this
theorem getT_none {kvs : List (Str × Str)} {nm : Str} (h : ∀ kv ∈ kvs, lowS kv.1 ≠ nm) : getT kvs nm = none := by
  unfold getT
  rw [Option.map_eq_none_iff, List.find?_eq_none]
  intro kv hk
  simpa using h kv hk
theorem take_step {α : Type} {P : α → Prop} {l : List α} {i : Nat} {a : α} (h : l[i]? = some a) (ht : ∀ x ∈ l.take i, P x) (ha : P a) : ∀ x ∈ l.take (i + 1), P x := by
  intro x hx
  rw [List.take_add_one, h] at hx
  rcases List.mem_append.mp hx with hx | hx
  · exact ht x hx
  · simp at hx; subst hx; exact ha
def optV (o : Option Str) (r : Value) : Prop := match o with
  | some v => ∃ t, r = .str v t
  | none => r = .none
theorem filter_take_yes {α : Type} {p : α → Bool} {l : List α} {i : Nat} {a : α} (h : l[i]? = some a) (e : p a = true) : (l.take (i + 1)).filter p = (l.take i).filter p ++ [a] := by
  rw [List.take_add_one, h, List.filter_append]; simp [e]
theorem filter_take_no {α : Type} {p : α → Bool} {l : List α} {i : Nat} {a : α} (h : l[i]? = some a) (e : p a = false) : (l.take (i + 1)).filter p = (l.take i).filter p := by
  rw [List.take_add_one, h, List.filter_append]; simp [e]
theorem optV_cases {o : Option Str} {r : Value} (h : optV o r) : (o = none ∧ r = .none) ∨ ∃ v t, o = some v ∧ r = .str v t := by
  cases o with
  | none => exact .inl ⟨rfl, h⟩
  | some v => obtain ⟨t, e⟩ := h; exact .inr ⟨v, t, rfl, e⟩
def setD (kvs : List (Str × Str)) (nm val : Str) : List (Str × Str) := match getT kvs (lowS nm) with
  | some _ => kvs
  | none => kvs ++ [(nm, val)]
theorem setD_none {kvs : List (Str × Str)} {nm val : Str} (h : getT kvs (lowS nm) = none) : setD kvs nm val = kvs ++ [(nm, val)] := by unfold setD; rw [h]
theorem setD_some {kvs : List (Str × Str)} {nm val v : Str} (h : getT kvs (lowS nm) = some v) : setD kvs nm val = kvs := by unfold setD; rw [h]
def CleanT (kvs : List (Str × Str)) : Prop := kvs.length ≤ 100 ∧ ∀ kv ∈ kvs, Clean kv.1 ∧ Clean kv.2
/-- a key that bisect may ask -/
structure KeyC (w : World) (q : Addr) (x : Value) (right : Bool) (l : Addr) (vs : List Value) (n : Nat) (need : Nat) {σ : Type} (led : σ → List (Addr × Obj)) (sz : σ → Nat) (test : Nat → Bool) (nx : σ → Nat → σ) : Prop where
  fn : ∀ st, ∃ oc od fd sl, (q, (⟨oc, od, .func fd, sl⟩ : Obj)) ∈ led st
  list : ∀ st, (l, listOf vs.toArray n) ∈ led st
  step : ∀ st i, sz (nx st i) ≤ sz st + 1
  call : ∀ st i v, vs[i]? = some v → sz st ≤ 5000 → C1 w (.ref q) [v] [] need (led st) (fun news' r => led (nx st i) = news' ∧ CmpK PySem.Challenge.rw_uc0029_01.row.prog w x r right (test i))
/-- the figures of a way's letters -/
def figsOf (sh : Nat) (bits : List Nat) : List Nat := bits.mapIdx fun i b => (sh + 5 * i + 8 * b) % 16
def wholeF (w : Nat) (figs : List Nat) : Nat := figs.foldl (fun w f => 16 * w + f) w
def wordF (figs : List Nat) : Str := ⟨(66 :: figs.map (65 + ·)).toArray⟩
theorem intsSnoc {vs : List Value} {ns : List Int} {k : Int} {t : Tok} (h : IntsAre vs ns) : IntsAre (vs ++ [.int k t]) (ns ++ [k]) := by
  induction h with
  | nil => exact .cons _ _ .nil
  | cons _ _ _ ih => exact .cons _ _ ih
theorem newsHead {h₀ h : Heap} {L d : Addr} {o : Obj} {nx : List (Addr × Obj)} (_N : News h₀ L h ((d, o) :: nx)) : ∃ D, D = d := ⟨_, rfl⟩
theorem PyProof.Rows.IntsAre.at_nat {vs : List Value} {fs : List Nat} (h : IntsAre vs (fs.map fun b => ((b : Nat) : Int))) {i f : Nat} {v : Value} (hf : fs[i]? = some f) (hv : vs[i]? = some v) : ∃ t, v = .int ((f : Nat) : Int) t := by
  induction fs generalizing vs i with
  | nil => simp at hf
  | cons a r ih =>
    cases h with
    | cons k t h =>
      cases i with
      | zero => simp at hf hv; subst hf; exact ⟨t, hv.symm⟩
      | succ i => exact ih h (by simpa using hf) (by simpa using hv)
theorem figsOf_length (sh : Nat) (bits : List Nat) : (figsOf sh bits).length = bits.length := by simp [figsOf]
theorem figsOf_get {sh : Nat} {bits : List Nat} {i : Nat} (h : i < bits.length) : (figsOf sh bits)[i]? = some ((sh + 5 * i + 8 * bits.getD i 0) % 16) := by
  simp [figsOf, h]
theorem fig_val {sh : Nat} {bits : List Nat} {i : Nat} (h : i < bits.length) :
    ((sh : Int) + 5 * (0 + (i : Int)) + 8 * (bits.map fun b => ((b : Nat) : Int)).getD (0 + (i : Int)).toNat 0).fmod 16 = (((sh + 5 * i + 8 * bits.getD i 0) % 16 : Nat) : Int) := by
  have e1 : (0 + (i : Int)).toNat = i := by omega
  have e2 : (bits.map fun b => ((b : Nat) : Int)).getD i 0 = ((bits.getD i 0 : Nat) : Int) := by simp [List.getD, h]
  rw [e1, e2, Int.fmod_eq_emod_of_nonneg _ (by decide)]
  omega
theorem take_map_step {f : Nat → Int} {l : List Nat} {i a : Nat} (h : l[i]? = some a) : (l.take (i + 1)).map f = (l.take i).map f ++ [f a] := by
  rw [List.take_add_one, h]; simp
theorem figsOf_lt {sh : Nat} {bits : List Nat} : ∀ f ∈ figsOf sh bits, f < 16 := by
  intro f hf
  unfold figsOf at hf
  rw [List.mem_mapIdx] at hf
  obtain ⟨i, hi, rfl⟩ := hf
  omega
theorem cgen {M : Model} {A : Around} {x : Sem Value} {E : Value → Shared → Prop} {s : Shared} {P : Value → Shared → Prop} (h : ∀ Q' : Value → Shared → Prop, (∀ y s', P y s' → Q' y s') → wpAny M A x Q' E s) : wpAny M A x P E s := h P fun _ _ z => z
theorem qgen {M : Model} {A : Around} {env : Env} {body : List Stmt} {x : Sem Unit} {E : Value → Shared → Prop} {s : Shared} {P : Flow → Shared → Prop} (h : ∀ Q' : Flow → Shared → Prop, (∀ f s', P f s' → Q' f s') → wpAny M A x (fun _ s' => wpAny M A (execs body env) Q' E s') E s) : wpAny M A x (fun _ s' => wpAny M A (execs body env) P E s') E s := h P fun _ _ y => y
end Mine
end
section
open PySem PySem.W PySem.Calls PyProof.Rows PyProof.V PySem.Spec
open Builtin
set_option maxRecDepth 100000
namespace Mine
theorem forIn_count {σ : Type} (body : Nat → σ → Sem (ForInStep σ)) (f : Nat → σ) (n : Nat) (h : ∀ j i, i < n → body j (f i) = pure (.yield (f (i + 1)))) : ∀ k j i, i + k = n → forIn (List.range' j k) (f i) body = (pure (f n) : Sem σ) := by
  intro k
  induction k with
  | zero => intro j i e; have : i = n := by omega
            subst this; rfl
  | succ k ih =>
    intro j i e
    rw [List.range'_succ, List.forIn_cons, h j i (by omega)]
    exact ih (j + 1) (i + 1) (by omega)
theorem run_ascii {id : String} {b : Array UInt8} (h : ∀ x ∈ b.toList, x.toNat < 128) (hz : b.size ≤ 1000) : _codecs.runDecoder id _codecs.utf8Decoder none true b 0 [] = pure ((b.toList.map UInt8.toNat).toArray, b.size) := by
  unfold _codecs.runDecoder
  simp only [Std.Legacy.Range.forIn_eq_forIn_range', Std.Legacy.Range.size]
  rw [show (0, (#[] : Array Nat), ({ held := [] } : _codecs.Faults)) = (fun p => (p, ((b.toList.take p).map UInt8.toNat).toArray, ({ held := [] } : _codecs.Faults))) 0 from by simp]
  rw [forIn_count _ (fun p => (p, ((b.toList.take p).map UInt8.toNat).toArray, ({ held := [] } : _codecs.Faults))) b.size ?_ _ _ _ (by omega)]
  · refine Eq.trans (pure_bind _ _) ?_
    simp [List.take_of_length_le]
  · intro j i hi
    have h1 : ¬ ((((b.toList.take i).map UInt8.toNat).toArray).size > sizeLine) := by rw [sizeLine_eq]; simp; omega
    have h2 : ¬ (i ≥ b.size) := by omega
    simp only [if_neg h1, if_neg h2]
    have hc : (b.getD i 0).toNat < 128 := by
      have := h (b.getD i 0) (by simp [Array.getD, hi])
      exact this
    have e : _codecs.utf8Decoder.find true b i = .text [(b.getD i 0).toNat] (i + 1) := by
      have e1 : Bytes.utf8At b i = (.char (b.getD i 0).toNat, i + 1) := by
        unfold Bytes.utf8At
        simp only []
        rw [if_pos hc]
      show (match Bytes.utf8At b i with | (.char c, nxt) => _codecs.Found.char c nxt | (.bad _ stop reason, _) => _codecs.Found.bad stop reason _) = _
      rw [e1]
      rfl
    rw [e]
    refine congrArg (fun r => pure (ForInStep.yield (i + 1, r, ({ held := [] } : _codecs.Faults)))) ?_
    rw [List.take_add_one]
    simp [Array.getD, hi]
/-- a number's letters to the base 16 -/
def hexS (n : Nat) : Str := ⟨((hexL n).map (65 + ·)).toArray⟩
def hexC (n k : Nat) : Str := ⟨(((hexL n).take k).map (65 + ·)).toArray⟩
theorem apB_toNat (n : Nat) : (apB n).toList.map UInt8.toNat = (hexL n).map (65 + ·) := by
  unfold apB
  rw [List.toList_toArray, List.map_map]
  refine List.map_congr_left fun d hd => ?_
  have := hexL_lt n d hd
  show (UInt8.ofNat (65 + d)).toNat = _
  simp; omega
section
variable {prog : Program} {w : World} {A : Around} {E : Value → Shared → Prop} {s : Shared} {t : Tok} {Q : Value → Shared → Prop}
theorem decode_ns {b : Array UInt8} {ns : List Nat} (hb : b.toList.map UInt8.toNat = ns) (ha : ∀ n ∈ ns, n < 128) (hz : ns.length ≤ 1000) (hne : ns ≠ []) (h : ∀ t' k, Q (.str ⟨ns.toArray⟩ t') { s with toks := k }) :
    wpAny (model prog w) A (call (.builtin "bytes.decode") [.bytes b t]) Q E s := by
  have hl : b.size = ns.length := by rw [← hb]; simp
  obtain ⟨l⟩ := b
  cases l with
  | nil => exact absurd hb.symm hne
  | cons c cs =>
    refine KBd.decode (x := ⟨ns.toArray⟩) (n := (c :: cs).toArray.size) (fun id => ?_) (by show ns.toArray.size ≤ _; simp; omega) h
    rw [run_ascii (fun x hx => ha _ (by rw [← hb]; exact List.mem_map_of_mem hx)) (Nat.le_trans (Nat.le_of_eq hl) hz), hb]
theorem decode_hex {n : Nat} (hn : n ≠ 0) (hz : n < 16 ^ 16) (h : ∀ t' k, Q (.str (hexS n) t') { s with toks := k }) :
    wpAny (model prog w) A (call (.builtin "bytes.decode") [.bytes (apB n) t]) Q E s := by
  refine decode_ns (apB_toNat n) (fun x hx => ?_) ?_ ?_ h
  · obtain ⟨d, hd, rfl⟩ := List.mem_map.mp hx
    have := hexL_lt n d hd; omega
  · have := hexL_size 16 n hz; simp; omega
  · rw [hexL_pos hn]; simp
variable {value slice : PySem.Expr} {h₀ : Heap} {L : Addr} {m : PySem.Str → Option Value} {news : List (Addr × Obj)}
theorem toNat_of_ints {b : Array UInt8} {ns : List Nat} (h : KBw.bInts b = ns.map fun n => ((n : Nat) : Int)) : b.toList.map UInt8.toNat = ns := by
  have := congrArg (List.map Int.toNat) h
  simpa [KBw.bInts, Function.comp_def] using this
theorem ap_cut {n k : Nat} {t1 : Tok} (hF : Fr h₀ L s.heap m) (hN : News h₀ L s.heap news) (hn : n < 16 ^ 16)
    (h : ∀ b' h' t' k', Fr h₀ L h' m → News h₀ L h' news → b'.toList.map UInt8.toNat = ((hexL n).take k).map (65 + ·) → Q (.bytes b' t') { s with heap := h', toks := k' })
    (hs : subscripted slice false (.bytes (apB n) t) (.ref s.heap.objs.size) = operate [.ref s.heap.objs.size, .bytes (apB n) t] (getItem (.bytes (apB n) t) (.ref s.heap.objs.size)) := by with_unfolding_all rfl)
    (ht : ∀ r, letTemporaryGo value (.bytes (apB n) t) r = pure () := by intro _; with_unfolding_all rfl) :
    wpAny (model prog w) A (subscriptTail value slice (.bytes (apB n) t) (.ref s.heap.objs.size)) Q E { s with heap := s.heap.push { cls := .type "slice", data := .fields #[.none, .int ((k : Nat) : Int) t1, .none] } } := by
  have hsz := hexL_size 16 n hn
  have hks : KBw.bInts (apB n) = (hexL n).map fun d => ((65 + d : Nat) : Int) := by
    unfold KBw.bInts
    rw [show ((apB n).toList.map fun c => (c.toNat : Int)) = ((apB n).toList.map UInt8.toNat).map (fun n : Nat => (n : Int)) from by simp, apB_toNat, List.map_map]
    rfl
  refine KBc.slice_K (lo := none) (hi := some (k : Int)) hF hN hks (by constructor) (by constructor) (by simp; omega) (fun h' t' k' F' N' hp => ?_) hs ht
  refine h _ h' t' k' F' N' (toNat_of_ints ?_)
  rw [hp]
  simp only [Option.elim]
  rw [List.drop_zero, Nat.sub_zero]
  simp only [List.length_map, List.map_map]
  have e : clipAt (hexL n).length (k : Int) = min k (hexL n).length := by
    have := clipAt_cast (hexL n).length (k : Int)
    rw [if_neg (by omega)] at this
    omega
  rw [e, ← List.map_take]
  rw [show (hexL n).take (min k (hexL n).length) = (hexL n).take k from by rw [List.take_eq_take_iff]; omega]
  rfl
theorem decode_cut {n k : Nat} {b : Array UInt8} (hb : b.toList.map UInt8.toNat = ((hexL n).take k).map (65 + ·)) (hn : n ≠ 0) (hk : k ≠ 0) (hz : n < 16 ^ 16) (h : ∀ t' k', Q (.str (hexC n k) t') { s with toks := k' }) :
    wpAny (model prog w) A (call (.builtin "bytes.decode") [.bytes b t]) Q E s := by
  refine decode_ns hb (fun x hx => ?_) ?_ ?_ h
  · obtain ⟨d, hd, rfl⟩ := List.mem_map.mp hx
    have := hexL_lt n d (List.mem_of_mem_take hd); omega
  · have := hexL_size 16 n hz; simp; omega
  · rw [hexL_pos hn]
    obtain ⟨k, rfl⟩ : ∃ k', k = k' + 1 := ⟨k - 1, by omega⟩
    cases hexL (n / 16) <;> simp
end
end Mine
end
section
open PySem PySem.W PySem.Calls PyProof.Rows
set_option maxRecDepth 100000
namespace Mine
/-- the tree's end, told by a plain order; it asks of places below n alone -/
def sat (n : Nat) (lt : Nat → Nat → Bool) {α : Type} : KasT α → (α → Prop) → Prop
  | .ret a, R => R a
  | .ask i j k, R => i < n ∧ j < n ∧ sat n lt (k (lt i j)) R
theorem sat_bind {n : Nat} {lt : Nat → Nat → Bool} {α β : Type} {f : α → KasT β} {R : β → Prop} : ∀ (t : KasT α), sat n lt t (fun a => sat n lt (f a) R) → sat n lt (t.bind f) R
  | .ret _, h => h
  | .ask i j k, h => ⟨h.1, h.2.1, sat_bind (k (lt i j)) h.2.2⟩
theorem sat_mono {n : Nat} {lt : Nat → Nat → Bool} {α : Type} {R R' : α → Prop} (hr : ∀ a, R a → R' a) : ∀ (t : KasT α), sat n lt t R → sat n lt t R'
  | .ret _, h => hr _ h
  | .ask i j k, h => ⟨h.1, h.2.1, sat_mono hr (k (lt i j)) h.2.2⟩
theorem sat_wp {n : Nat} {lt : Nat → Nat → Bool} {α : Type} {cmp : Nat → Nat → (Bool → Shared → Prop) → Shared → Prop} {s : Shared} {Q : α → Shared → Prop} {R : α → Prop}
    (hc : ∀ i j (C : Bool → Shared → Prop), i < n → j < n → C (lt i j) s → cmp i j C s) (hR : ∀ a, R a → Q a s) : ∀ (t : KasT α), sat n lt t R → t.kasWp cmp Q s
  | .ret _, h => hR _ h
  | .ask i j k, h => hc i j _ h.1 h.2.1 (sat_wp hc hR (k (lt i j)) h.2.2)
section
variable {N : Nat} {lt : Nat → Nat → Bool}
def PermOf (N : Nat) (p : Array Nat) : Prop := p.toList.Perm (List.range N)
theorem PermOf.size {p : Array Nat} (h : PermOf N p) : p.size = N := by
  have := h.length_eq; simpa using this
theorem PermOf.low {p : Array Nat} (h : PermOf N p) {i : Nat} (hi : i < N) : p.getD i 0 < N := by
  have hs := h.size
  have : p.getD i 0 ∈ p.toList := by
    simp [Array.getD, hs, hi]
  have := h.mem_iff.mp this
  simpa using this
theorem PermOf.inj {p : Array Nat} (h : PermOf N p) {i j : Nat} (hi : i < N) (hj : j < N) (hne : i ≠ j) : p.getD i 0 ≠ p.getD j 0 := by
  have hs := h.size
  have hn : p.toList.Nodup := h.nodup_iff.mpr List.nodup_range
  intro e
  have e1 : p.getD i 0 = p.toList[i]'(by simpa [hs] using hi) := by simp [Array.getD, hs, hi]
  have e2 : p.getD j 0 = p.toList[j]'(by simpa [hs] using hj) := by simp [Array.getD, hs, hj]
  rw [e1, e2] at e
  have hpw := List.pairwise_iff_getElem.mp hn
  rcases Nat.lt_or_gt_of_ne hne with h' | h'
  · exact hpw i j _ _ h' e
  · exact hpw j i _ _ h' e.symm
theorem PermOf.bubble {p : Array Nat} (h : PermOf N p) (a b : Nat) : PermOf N (bubble p a b) := (bubble_perm p a b).toList.trans h
theorem PermOf.mirror {p : Array Nat} (h : PermOf N p) (a b c : Nat) : PermOf N (mirror p a b c) := (mirror_perm p a b c).toList.trans h
structure Tot (N : Nat) (lt : Nat → Nat → Bool) : Prop where
  irr : ∀ a, lt a a = false
  tr : ∀ a b c, lt a b = true → lt b c = true → lt a c = true
  tot : ∀ a b, a < N → b < N → a ≠ b → lt a b = false → lt b a = true
def Asc (lt : Nat → Nat → Bool) (p : Array Nat) (m : Nat) : Prop := ∀ i j, i < j → j < m → lt (p.getD i 0) (p.getD j 0) = true
def Desc (lt : Nat → Nat → Bool) (p : Array Nat) (m : Nat) : Prop := ∀ i j, i < j → j < m → lt (p.getD j 0) (p.getD i 0) = true
theorem Asc.succ (T : Tot N lt) {p : Array Nat} {n : Nat} (h : Asc lt p n) (h1 : 1 ≤ n) (hl : lt (p.getD (n - 1) 0) (p.getD n 0) = true) : Asc lt p (n + 1) := by
  intro i j hi hj
  by_cases hjn : j < n
  · exact h i j hi hjn
  · have : j = n := by omega
    subst this
    by_cases hin : i = j - 1
    · subst hin; exact hl
    · exact T.tr _ _ _ (h i (j - 1) (by omega) (by omega)) hl
theorem Desc.succ (T : Tot N lt) {p : Array Nat} {n : Nat} (h : Desc lt p n) (h1 : 1 ≤ n) (hl : lt (p.getD n 0) (p.getD (n - 1) 0) = true) : Desc lt p (n + 1) := by
  intro i j hi hj
  by_cases hjn : j < n
  · exact h i j hi hjn
  · have : j = n := by omega
    subst this
    by_cases hin : i = j - 1
    · subst hin; exact hl
    · exact T.tr _ _ _ hl (h i (j - 1) (by omega) (by omega))
theorem sat_asc (T : Tot N lt) {p : Array Nat} (hp : PermOf N p) : ∀ (f n : Nat), 1 ≤ n → n + f ≤ N → Asc lt p n → sat N lt (kas_asc p f n) fun m => n ≤ m ∧ m ≤ n + f ∧ Asc lt p m ∧ (m < n + f → lt (p.getD m 0) (p.getD (m - 1) 0) = true)
  | 0, n, _, _, h => ⟨Nat.le_refl _, Nat.le_refl _, h, fun h => by omega⟩
  | f + 1, n, h1, hf, h => by
    refine ⟨hp.low (by omega), hp.low (by omega), ?_⟩
    cases hl : lt (p.getD n 0) (p.getD (n - 1) 0) with
    | true => exact ⟨Nat.le_refl _, by omega, h, fun _ => hl⟩
    | false =>
      simp only [Bool.false_eq_true, if_false]
      have := T.tot _ _ (hp.low (by omega : n < N)) (hp.low (by omega : n - 1 < N)) (hp.inj (by omega) (by omega) (by omega)) hl
      refine sat_mono ?_ _ (sat_asc T hp f (n + 1) (by omega) (by omega) (h.succ T h1 this))
      rintro m ⟨a, b, c, d⟩
      exact ⟨by omega, by omega, c, fun h => d (by omega)⟩
theorem sat_desc (T : Tot N lt) {p : Array Nat} (hp : PermOf N p) : ∀ (f n : Nat), 1 ≤ n → n + f ≤ N → Desc lt p n → sat N lt (kas_desc f p n 0) fun r => ∃ m, r = (p, m, 0) ∧ n ≤ m ∧ m ≤ n + f ∧ Desc lt p m
  | 0, n, _, _, h => ⟨n, rfl, Nat.le_refl _, Nat.le_refl _, h⟩
  | f + 1, n, h1, hf, h => by
    refine ⟨hp.low (by omega), hp.low (by omega), ?_⟩
    cases hl : lt (p.getD n 0) (p.getD (n - 1) 0) with
    | true =>
      simp only [if_true, gt_iff_lt, Nat.lt_irrefl, if_false]
      refine sat_mono ?_ _ (sat_desc T hp f (n + 1) (by omega) (by omega) (h.succ T h1 hl))
      rintro r ⟨m, e, a, b, c⟩
      exact ⟨m, e, by omega, by omega, c⟩
    | false =>
      simp only [Bool.false_eq_true, if_false]
      refine ⟨hp.low (by omega), hp.low (by omega), ?_⟩
      have := T.tot _ _ (hp.low (by omega : n < N)) (hp.low (by omega : n - 1 < N)) (hp.inj (by omega) (by omega) (by omega)) hl
      rw [this]
      simp only [if_true]
      exact ⟨n, rfl, Nat.le_refl _, by omega, h⟩
theorem getD_of {p : Array Nat} {i : Nat} : p.getD i 0 = (p[i]?).getD 0 := by simp [Array.getD]; split <;> simp_all
theorem sat_tail3 (T : Tot N lt) {p : Array Nat} (hp : PermOf N p) {n : Nat} (h1 : 1 ≤ n) (hn : n ≤ N) (h : Desc lt p n) : sat N lt (kas_tail3 n N p) fun r => PermOf N r.2 ∧ 1 ≤ r.1 ∧ r.1 ≤ N ∧ Asc lt r.2 r.1 := by
  unfold kas_tail3
  have hp' : PermOf N (kas_rev p 0 n) := hp.mirror _ _ _
  have ha : Asc lt (kas_rev p 0 n) n := by
    intro i j hi hj
    have e : ∀ k, k < n → (kas_rev p 0 n).getD k 0 = p.getD (n - 1 - k) 0 := by
      intro k hk
      rw [getD_of, getD_of]
      unfold kas_rev
      rw [getElem?_mirror_all (by rw [hp.size]; exact hn), if_pos ⟨by omega, hk⟩]
      simp
    rw [e i (by omega), e j hj]
    exact h _ _ (by omega) (by omega)
  refine sat_bind _ (sat_mono ?_ _ (sat_asc T hp' (N - n) n h1 (by omega) ha))
  rintro m ⟨a, b, c, -⟩
  exact ⟨hp', by show 1 ≤ m; omega, by show m ≤ N; omega, c⟩
theorem sat_count (T : Tot N lt) {p : Array Nat} (hp : PermOf N p) (h1 : 1 ≤ N) : sat N lt (kas_count N p) fun r => PermOf N r.2 ∧ 1 ≤ r.1 ∧ r.1 ≤ N ∧ Asc lt r.2 r.1 := by
  unfold kas_count
  refine sat_bind _ (sat_mono ?_ _ (sat_asc T hp (N - 1) 1 (Nat.le_refl _) (by omega) fun i j hi hj => by omega))
  rintro n ⟨a, b, c, d⟩
  by_cases hn : n = N
  · rw [if_pos (by simp [hn])]
    exact ⟨hp, a, by show n ≤ N; omega, c⟩
  · rw [if_neg (by simpa using hn)]
    by_cases hn1 : n > 1
    · rw [if_pos hn1]
      refine ⟨hp.low (by omega), hp.low (by omega), ?_⟩
      rw [c 0 (n - 1) (by omega) (by omega)]
      simp only [if_true]
      exact ⟨hp, a, by show n ≤ N; omega, c⟩
    · rw [if_neg hn1]
      obtain rfl : n = 1 := by omega
      have hl := d (by omega)
      unfold kas_descPart
      have hd : Desc lt p 2 := by
        intro i j hi hj
        obtain rfl : i = 0 := by omega
        obtain rfl : j = 1 := by omega
        exact hl
      refine sat_bind _ (sat_mono ?_ _ (sat_desc T hp (N - 2) 2 (by omega) (by omega) hd))
      rintro r ⟨m, rfl, e1, e2, e3⟩
      simp only [gt_iff_lt, Nat.lt_irrefl, if_false]
      exact sat_tail3 T hp (by omega) (by omega) e3
theorem mid_b {l r : Nat} (h : l < r) : l ≤ (l + r) / 2 ∧ (l + r) / 2 < r := ⟨by omega, by omega⟩
theorem sat_place (T : Tot N lt) {p : Array Nat} (hp : PermOf N p) {k : Nat} (hk : k < N) (ha : Asc lt p k) : ∀ (f l r : Nat), l ≤ r → r ≤ k → r - l ≤ f → (∀ i, i < l → lt (p.getD i 0) (p.getD k 0) = true) → (∀ i, r ≤ i → i < k → lt (p.getD k 0) (p.getD i 0) = true) →
    sat N lt (kas_place p k f l r) fun l => l ≤ k ∧ (∀ i, i < l → lt (p.getD i 0) (p.getD k 0) = true) ∧ ∀ i, l ≤ i → i < k → lt (p.getD k 0) (p.getD i 0) = true
  | 0, l, r, h, hr, hf, h1, h2 => ⟨by omega, h1, fun i hi hik => h2 i (by omega) hik⟩
  | f + 1, l, r, h, hr, hf, h1, h2 => by
    unfold kas_place
    by_cases hlr : l ≥ r
    · rw [if_pos hlr]
      exact ⟨by omega, h1, fun i hi hik => h2 i (by omega) hik⟩
    · rw [if_neg hlr]
      have hlt : l < r := Nat.lt_of_not_le hlr
      have hb := mid_b hlt
      have hmk : (l + r) / 2 < k := Nat.lt_of_lt_of_le hb.2 hr
      have hmN : (l + r) / 2 < N := Nat.lt_trans hmk hk
      refine ⟨hp.low hk, hp.low hmN, ?_⟩
      cases hl : lt (p.getD k 0) (p.getD ((l + r) / 2) 0) with
      | true =>
        simp only [if_true]
        refine sat_place T hp hk ha f l ((l + r) / 2) hb.1 (Nat.le_of_lt hmk) (Nat.le_of_lt_succ (Nat.lt_of_lt_of_le (Nat.sub_lt_sub_right hb.1 hb.2) hf)) h1 fun i hi hik => ?_
        by_cases e : i = (l + r) / 2
        · rw [e]; exact hl
        · exact T.tr _ _ _ hl (ha _ _ (Nat.lt_of_le_of_ne hi (Ne.symm e)) hik)
      | false =>
        simp only [Bool.false_eq_true, if_false]
        have hg := T.tot _ _ (hp.low hk) (hp.low hmN) (hp.inj hk hmN (Nat.ne_of_gt hmk)) hl
        refine sat_place T hp hk ha f ((l + r) / 2 + 1) r hb.2 hr (Nat.le_of_lt_succ (Nat.lt_of_lt_of_le (Nat.sub_lt_sub_left hlt (Nat.lt_succ_of_le hb.1)) hf)) (fun i hi => ?_) h2
        by_cases e : i = (l + r) / 2
        · rw [e]; exact hg
        · exact T.tr _ _ _ (ha _ _ (Nat.lt_of_le_of_ne (Nat.le_of_lt_succ hi) e) hmk) hg
theorem sat_bin (T : Tot N lt) : ∀ (f k : Nat) (p : Array Nat), PermOf N p → 1 ≤ k → k + f = N → Asc lt p k → sat N lt (kas_bin f p k) fun p => PermOf N p ∧ Asc lt p N
  | 0, k, p, hp, _, hf, ha => ⟨hp, by obtain rfl : k = N := by omega
                                      exact ha⟩
  | f + 1, k, p, hp, h1, hf, ha => by
    unfold kas_bin
    refine sat_bind _ (sat_mono ?_ _ (sat_place T hp (by omega) ha k 0 k (Nat.zero_le _) (Nat.le_refl _) (by omega) (fun i hi => by omega) fun i hi hik => by omega))
    rintro l ⟨hlk, hb, hc⟩
    refine sat_bin T f (k + 1) _ (hp.bubble _ _) (by omega) (by omega) ?_
    have e : ∀ i, i ≤ k → (bubble p k (k - l)).getD i 0 = if i = l then p.getD k 0 else if l < i then p.getD (i - 1) 0 else p.getD i 0 := by
      intro i hi
      rw [getD_of, getElem?_bubble (by rw [hp.size]; omega) (k - l) (by omega) i, show k - (k - l) = l from by omega]
      by_cases e1 : i = l
      · rw [if_pos e1, if_pos e1, getD_of]
      · rw [if_neg e1, if_neg e1]
        by_cases e2 : l < i
        · rw [if_pos ⟨e2, hi⟩, if_pos e2, getD_of]
        · rw [if_neg (by omega), if_neg e2, getD_of]
    intro i j hi hj
    rw [e i (by omega), e j (by omega)]
    by_cases c1 : i = l
    · rw [if_pos c1, if_neg (by omega), if_pos (by omega)]
      exact hc _ (by omega) (by omega)
    · rw [if_neg c1]
      by_cases c2 : l < i
      · rw [if_pos c2, if_neg (by omega), if_pos (by omega)]
        exact ha _ _ (by omega) (by omega)
      · rw [if_neg c2]
        by_cases c3 : j = l
        · rw [if_pos c3]; exact hb _ (by omega)
        · rw [if_neg c3]
          by_cases c4 : l < j
          · rw [if_pos c4]
            exact ha _ _ (by omega) (by omega)
          · rw [if_neg c4]; exact ha _ _ hi (by omega)
theorem sat_sort (T : Tot N lt) (h1 : 1 ≤ N) : sat N lt (kas_sort N) fun p => PermOf N p ∧ Asc lt p N := by
  unfold kas_sort
  refine sat_bind _ (sat_mono ?_ _ (sat_count T (p := List.toArray (List.range N)) (by simp [PermOf]) h1))
  rintro ⟨m, p⟩ ⟨hp, e1, e2, ha⟩
  dsimp only at hp e1 e2 ha ⊢
  by_cases hm : m < N
  · rw [if_pos hm, show max m 1 = m from by omega]
    exact sat_bin T (N - m) m p hp e1 (by omega) ha
  · rw [if_neg hm]
    obtain rfl : m = N := by omega
    exact ⟨hp, ha⟩
end
end Mine
end
section
open PySem PySem.W PySem.Calls PyProof.Rows PyProof.V Mine
set_option maxRecDepth 100000
namespace Mine
def strLt (x y : Str) : Bool := decide (x.cps.toList < y.cps.toList)
theorem str_ext {x y : Str} (h : x.cps.toList = y.cps.toList) : x = y := by
  cases x; cases y; simp at h; subst h; rfl
theorem strLt_irr (x : Str) : strLt x x = false := by simp [strLt]
theorem strLt_tr {x y z : Str} (h1 : strLt x y = true) (h2 : strLt y z = true) : strLt x z = true := by
  simp only [strLt, decide_eq_true_eq] at *
  exact List.lt_trans h1 h2
theorem strLt_tot {x y : Str} (hn : x ≠ y) (h : strLt x y = false) : strLt y x = true := by
  simp only [strLt, decide_eq_true_eq, decide_eq_false_iff_not] at *
  rcases List.le_total x.cps.toList y.cps.toList with h' | h'
  · exact absurd (str_ext (List.le_antisymm h' (List.not_lt.mp h))) hn
  · by_cases e : y.cps.toList < x.cps.toList
    · exact e
    · exact absurd (str_ext (List.le_antisymm (List.not_lt.mp e) h')) hn
theorem tot_of {kvs : List (Str × Str)} (hn : (kvs.map (·.1)).Nodup) : Tot kvs.length (fun i j => strLt (kvs.getD i (⟨#[]⟩, ⟨#[]⟩)).1 (kvs.getD j (⟨#[]⟩, ⟨#[]⟩)).1) := by
  refine ⟨fun a => strLt_irr _, fun a b c h1 h2 => strLt_tr h1 h2, fun a b ha hb hne h => strLt_tot (fun e => ?_) h⟩
  have hpw := List.pairwise_iff_getElem.mp hn
  have ea : kvs.getD a (⟨#[]⟩, ⟨#[]⟩) = kvs[a] := by simp [List.getD, ha]
  have eb : kvs.getD b (⟨#[]⟩, ⟨#[]⟩) = kvs[b] := by simp [List.getD, hb]
  rw [ea, eb] at e
  rcases Nat.lt_or_gt_of_ne hne with h' | h'
  · exact hpw a b (by simpa using ha) (by simpa using hb) h' (by simpa using e)
  · exact hpw b a (by simpa using hb) (by simpa using ha) h' (by simpa using e.symm)
/-- the firsts of pairs -/
theorem pairs_tups {h : Heap} : ∀ {vs : List Value} {kvs : List (Str × Str)} {news : List (Addr × Obj)}, (∀ p ∈ news, h.get? p.1 = some p.2) → PairsIn news vs kvs → ∃ fs, KatTups h vs fs ∧ fs.length = kvs.length ∧ ∀ v ∈ fs, ∃ k t, v = .str k t
  | _, _, _, _, .nil => ⟨[], KatTups.nil, rfl, by simp⟩
  | _, _, _, hN, .cons (k := k) (t := t) hm r => by
    obtain ⟨fs, h1, h2, h3⟩ := pairs_tups hN r
    refine ⟨.str k t :: fs, KatTups.cons (hN _ hm) rfl rfl rfl h1, by simp [h2], ?_⟩
    intro v hv
    rcases List.mem_cons.mp hv with rfl | hv
    · exact ⟨_, _, rfl⟩
    · exact h3 v hv
theorem pairs_pick {news : List (Addr × Obj)} {vs : List Value} {kvs : List (Str × Str)} (hp : PairsIn news vs kvs) : ∀ (l : List Nat), (∀ i ∈ l, i < kvs.length) → PairsIn news (l.map fun i => vs.getD i .none) (l.map fun i => kvs.getD i (⟨#[]⟩, ⟨#[]⟩))
  | [], _ => .nil
  | i :: l, h => by
    have hi := h i (.head _)
    have hv : i < vs.length := by rw [hp.length]; exact hi
    obtain ⟨q, k, v, t, u, e1, e2, hm⟩ := hp.at (List.getElem?_eq_getElem hv)
    have ev : vs.getD i .none = .ref q := by simp [List.getD, hv, e1]
    have ek : kvs.getD i (⟨#[]⟩, ⟨#[]⟩) = (k, v) := by simp [List.getD, e2]
    simp only [List.map_cons, ev, ek]
    exact .cons hm (pairs_pick hp l fun j hj => h j (.tail _ hj))
section
variable {prog : Program} {w : World} {A : Around} {E : Value → Shared → Prop} {s : Shared} {h₀ : Heap} {L D : Addr} {m : Str → Option Value} {news : List (Addr × Obj)} {vs : List Value} {kvs : List (Str × Str)} {n : Nat}
theorem lsort_many {Q : Value → Shared → Prop} (F : Fr h₀ L s.heap m) (N : News h₀ L s.heap ((D, listOf vs.toArray n) :: news)) (hD : ∀ p ∈ news, p.1 ≠ D) (hp : PairsIn news vs kvs) (hnd : (kvs.map (·.1)).Nodup) (h2 : 2 ≤ kvs.length) (h64 : kvs.length < 64)
    (h : ∀ vs' kvs' n' h', Fr h₀ L h' m → News h₀ L h' ((D, listOf vs'.toArray n') :: news) → PairsIn news vs' kvs' → kvs'.Perm kvs → kvs'.Pairwise (fun a b => strLt a.1 b.1 = true) → Q .none { s with heap := h' }) :
    wpAny (model prog w) A (call (.builtin "list.sort") [.ref D]) Q E s := by
  have hl := hp.length
  refine kat_lsort (vs := vs) F N (UpdF.head hD) (by simp) (by omega) (by omega) fun e1 h' F' N' => ?_
  obtain ⟨fs, ht, hfl, hfs⟩ := pairs_tups (h := h') (fun p hp => (N' p (.tail _ hp)).1) hp
  refine kat_kind ht (by omega) (T := .type "str") (fun v hv => ?_) rfl ?_
  · obtain ⟨k, t, rfl⟩ := hfs v hv
    exact .now
  · rw [hl]
    refine sat_wp (lt := fun i j => strLt (kvs.getD i (⟨#[]⟩, ⟨#[]⟩)).1 (kvs.getD j (⟨#[]⟩, ⟨#[]⟩)).1) (n := kvs.length) (fun i j C hi hj hC => ?_) (fun p hR => ?_) _ (sat_sort (tot_of hnd) (by omega))
    · unfold kas_ask
      obtain ⟨q1, k1, v1, t1, u1, e1, e2, hm1⟩ := hp.at (List.getElem?_eq_getElem (by omega : i < vs.length))
      obtain ⟨q2, k2, v2, t2, u2, e3, e4, hm2⟩ := hp.at (List.getElem?_eq_getElem (by omega : j < vs.length))
      have ev : vs.getD i .none = .ref q1 := by simp [List.getD, hl, hi, e1]
      have ev2 : vs.getD j .none = .ref q2 := by simp [List.getD, hl, hj, e3]
      have ek : kvs.getD i (⟨#[]⟩, ⟨#[]⟩) = (k1, v1) := by simp [List.getD, e2]
      have ek2 : kvs.getD j (⟨#[]⟩, ⟨#[]⟩) = (k2, v2) := by simp [List.getD, e4]
      rw [ev, ev2]
      rw [ek, ek2] at hC
      dsimp only at hC
      refine kat_lt (N' _ (.tail _ hm1)).1 rfl (N' _ (.tail _ hm2)).1 rfl ?_
      refine kat_cons (wpAny_eqBool_str ?_)
      refine kat_go (fun he => kat_yes ?_) (fun he => kat_no ?_)
      · have he : k1 = k2 := by simpa using he
        have hij : i = j := by
          have hpw := List.pairwise_iff_getElem.mp hnd
          by_cases hne : i = j
          · exact hne
          · have g1 : kvs[i] = (k1, v1) := by rw [List.getElem?_eq_getElem hi] at e2; exact Option.some.inj e2
            have g2 : kvs[j] = (k2, v2) := by rw [List.getElem?_eq_getElem hj] at e4; exact Option.some.inj e4
            rcases Nat.lt_or_gt_of_ne hne with h' | h'
            · exact absurd (show (kvs.map (·.1))[i]'(by simpa using hi) = (kvs.map (·.1))[j]'(by simpa using hj) by rw [List.getElem_map, List.getElem_map, g1, g2]; exact he) (hpw i j (by simpa using hi) (by simpa using hj) h')
            · exact absurd (show (kvs.map (·.1))[j]'(by simpa using hj) = (kvs.map (·.1))[i]'(by simpa using hi) by rw [List.getElem_map, List.getElem_map, g1, g2]; exact he.symm) (hpw j i (by simpa using hj) (by simpa using hi) h')
        subst hij
        rw [e2] at e4
        obtain ⟨rfl, rfl⟩ := Prod.mk.inj (Option.some.inj e4)
        rw [strLt_irr] at hC
        refine kat_cons (wpAny_eqBool_str ?_)
        refine kat_go (fun _ => kat_yes (kat_nil hC)) (fun he => absurd he (by simp))
      · exact oneLt_str hC
    · obtain ⟨hpm, ha⟩ := hR
      have hlow : ∀ i ∈ p.toList, i < kvs.length := fun i hi => by
        have := hpm.mem_iff.mp hi; simpa using this
      refine KasFin.intro F' N' (UpdF.head hD) fun h'' c F'' N'' => ?_
      refine h _ (p.toList.map fun i => kvs.getD i (⟨#[]⟩, ⟨#[]⟩)) c h'' F'' N'' (pairs_pick hp _ hlow) ?_ ?_
      · refine (hpm.map fun i => kvs.getD i (⟨#[]⟩, ⟨#[]⟩)).trans ?_
        refine List.Perm.of_eq (List.ext_getElem (by simp) fun i h1 h2 => ?_)
        have : i < kvs.length := h2
        simp [List.getD, this]
      · rw [List.pairwise_map, List.pairwise_iff_getElem]
        intro i j hi hj hij
        have := ha i j hij (by have := hpm.size; simp at hj; omega)
        have hi' : i < p.size := by simpa using hi
        have hj' : j < p.size := by simpa using hj
        simpa [Array.getD, hi', hj'] using this
end
end Mine
end
section
open PySem PySem.W PySem.Calls PyProof.Rows PyProof.V Mine
set_option maxRecDepth 100000
namespace Mine
section
variable {prog : Program} {w : World} {A : Around} {E : Value → Shared → Prop} {s : Shared} {h₀ : Heap} {L D : Addr} {m : Str → Option Value} {news : List (Addr × Obj)} {vs : List Value} {kvs : List (Str × Str)} {n : Nat}
theorem lsort_few {Q : Value → Shared → Prop} (F : Fr h₀ L s.heap m) (N : News h₀ L s.heap ((D, listOf vs.toArray n) :: news)) (hD : ∀ p ∈ news, p.1 ≠ D) (h1 : vs.length < 2)
    (h : ∀ n' h', Fr h₀ L h' m → News h₀ L h' ((D, listOf vs.toArray n') :: news) → Q .none { s with heap := h' }) :
    wpAny (model prog w) A (call (.builtin "list.sort") [.ref D]) Q E s := by
  have nz := N _ (.head _)
  have ho : s.heap.get? D = some (seqObj "list" vs.toArray n) := nz.1
  have N₀ : News h₀ L s.heap news := fun p hp => N p (.tail _ hp)
  refine wpAny_call_entry slot_list_sort ⟨_, ho, rfl⟩ entry_list_sort ?_ (args_list_sort _)
  have s1 := Heap.SameBut.update s.heap D (Obj.mapSeq fun _ => (#[] : Array Value))
  obtain ⟨e1, ho1⟩ : ∃ e1, (s.heap.update D (Obj.mapSeq fun _ => (#[] : Array Value))).get? D = some (seqObj "list" #[] e1) := ⟨_, get?_update_seq ho fun _ => #[]⟩
  have F3 : Fr h₀ L (((s.heap.update D (Obj.mapSeq fun _ => (#[] : Array Value))).push (seqObj "tuple" vs.toArray 0)).push (seqObj "list" #[] 0)) m := ((kas_fr F s1 nz.2.1 nz.2.2).push _).push _
  have N2 : News h₀ L (((s.heap.update D (Obj.mapSeq fun _ => (#[] : Array Value))).push (seqObj "tuple" vs.toArray 0)).push (seqObj "list" #[] 0)) news :=
    (kas_news N₀ s1 hD).grown fun b x e => Heap.get?_push_of_some _ (Heap.get?_push_of_some _ e)
  have ho6 : (((s.heap.update D (Obj.mapSeq fun _ => (#[] : Array Value))).push (seqObj "tuple" vs.toArray 0)).push (seqObj "list" #[] 0)).get? D = some (seqObj "list" #[] e1) := Heap.get?_push_of_some _ (Heap.get?_push_of_some _ ho1)
  rw [list_sort_plain]
  refine wpAny_bind (listItems_at ho rfl ?_)
  refine wpAny_bind (listUpdate_at ho rfl ?_ (by rw [List.size_toArray, sizeLine_eq]; omega) (Nat.zero_le _))
  refine wpAny_bind (seqEpoch_at ho1 rfl ?_)
  refine wpAny_bind (wpAny_newTuple ?_ (by show vs.length ≤ _; rw [sizeLine_eq]; omega))
  refine wpAny_bind (wpAny_newList ?_ (Nat.zero_le _))
  refine wpAny_holding ?_
  show wpAny (model prog w) _ _ _ _ { s with heap := ((s.heap.update D (Obj.mapSeq fun _ => (#[] : Array Value))).push (seqObj "tuple" vs.toArray 0)).push (seqObj "list" #[] 0) }
  dsimp only
  have hn2 : vs.toArray.size < 2 := by rw [List.size_toArray]; exact h1
  rw [if_pos hn2, if_pos hn2]
  refine wpAny_bind (wpAny_pure ?_)
  rw [StateT.run_pure]
  refine wpAny_bind (wpAny_pure ?_)
  dsimp only
  refine wpAny_bind (seqEpoch_at ho6 rfl ?_)
  have hout : (arrOf (SortSt.mk' general' (vs.toArray.zip vs.toArray) #[] 7 none)).map (·.2) = vs.toArray := by
    show (vs.toArray.zip vs.toArray).map (·.2) = vs.toArray
    apply Array.toList_inj.mp
    simp [List.map_snd_zip]
  rw [hout]
  have s2 := Heap.SameBut.update (((s.heap.update D (Obj.mapSeq fun _ => (#[] : Array Value))).push (seqObj "tuple" vs.toArray 0)).push (seqObj "list" #[] 0)) D (Obj.mapSeq fun _ => vs.toArray)
  obtain ⟨c2, hc2⟩ : ∃ c2, ((((s.heap.update D (Obj.mapSeq fun _ => (#[] : Array Value))).push (seqObj "tuple" vs.toArray 0)).push (seqObj "list" #[] 0)).update D (Obj.mapSeq fun _ => vs.toArray)).get? D = some (seqObj "list" vs.toArray c2) := ⟨_, get?_update_seq ho6 fun _ => vs.toArray⟩
  refine wpAny_bind (listUpdate_at ho6 rfl ?_ (Nat.zero_le _) (by rw [List.size_toArray, sizeLine_eq]; omega))
  simp only [bne_self_eq_false, Bool.false_eq_true, if_false]
  refine wpAny_pure ⟨_, rfl, h c2 _ (kas_fr F3 s2 nz.2.1 nz.2.2) ?_⟩
  intro p hp
  rcases List.mem_cons.mp hp with rfl | hp
  · exact ⟨hc2, nz.2⟩
  · exact (kas_news N2 s2 hD) p hp
theorem lsort_pairs {Q : Value → Shared → Prop} (F : Fr h₀ L s.heap m) (N : News h₀ L s.heap ((D, listOf vs.toArray n) :: news)) (hD : ∀ p ∈ news, p.1 ≠ D) (hp : PairsIn news vs kvs) (hnd : (kvs.map (·.1)).Nodup) (h64 : kvs.length < 64)
    (h : ∀ vs' kvs' n' h', Fr h₀ L h' m → News h₀ L h' ((D, listOf vs'.toArray n') :: news) → PairsIn news vs' kvs' → kvs'.Perm kvs → kvs'.Pairwise (fun a b => strLt a.1 b.1 = true) → Q .none { s with heap := h' }) :
    wpAny (model prog w) A (call (.builtin "list.sort") [.ref D]) Q E s := by
  by_cases h2 : 2 ≤ kvs.length
  · exact lsort_many F N hD hp hnd h2 h64 h
  · refine lsort_few F N hD (by rw [hp.length]; omega) fun n' h' F' N' => h vs kvs n' h' F' N' hp (.refl _) ?_
    match kvs, h2 with
    | [], _ => exact .nil
    | [_], _ => exact List.pairwise_singleton _ _
    | _ :: _ :: _, h2 => simp at h2
theorem sorted_list {l : Addr} {Q : Value → Shared → Prop} (F : Fr h₀ L s.heap m) (N : News h₀ L s.heap news) (hl : (l, listOf vs.toArray n) ∈ news) (h64 : vs.length < 64)
    (h : ∀ B h', Fr h₀ L h' m → News h₀ L h' ((B, listOf vs.toArray 0) :: news) → (∀ q ∈ news, q.1 < B) →
      wpAny (model prog w) A.in1 (call (.builtin "list.sort") [.ref B]) (fun _ s' => Q (.ref B) s') E { s with heap := h' }) :
    wpAny (model prog w) A (call (.builtin "sorted") [.ref l]) Q E s := by
  have hli : s.heap.IsList l vs.toArray := ⟨_, (N _ hl).1, rfl, _, rfl⟩
  refine Calls.call_function_entry kind_sorted plain_sorted entry_sorted (args_sorted1 _) ?_
  unfold Builtin.«sorted»
  refine wpAny_bind (m := checkCount "sorted" 1 1 _) (wpAny_pure ?_)
  refine wpAny_bind (collect_list hli ?_ (by rw [sizeLine_eq]; omega))
  refine wpAny_bind (wpAny_newList ?_ (by rw [sizeLine_eq]; omega))
  have hsz : ((s.heap.push (seqObj "list" #[] 0)).update s.heap.objs.size (Obj.mapSeq (· ++ vs.toArray))).objs.size = s.heap.objs.size + 1 := by
    rw [Heap.size_update, size_push']
  have hoL : (((s.heap.push (seqObj "list" #[] 0)).update s.heap.objs.size (Obj.mapSeq (· ++ vs.toArray))).push (seqObj "list" vs.toArray 0)).get? (s.heap.objs.size + 1) = some (seqObj "list" vs.toArray 0) := by
    rw [← hsz]; exact Heap.get?_push_size _ rfl
  have keep : ∀ b o, s.heap.get? b = some o → (((s.heap.push (seqObj "list" #[] 0)).update s.heap.objs.size (Obj.mapSeq (· ++ vs.toArray))).push (seqObj "list" vs.toArray 0)).get? b = some o := fun b o q => by
    have hlt : b < s.heap.objs.size := Heap.lt_size q
    rw [Heap.get?_push_ne _ _ _ (by rw [hsz]; exact Nat.ne_of_lt (Nat.lt_succ_of_lt hlt)), Heap.get?_update_ne _ _ _ _ (Nat.ne_of_lt hlt), Heap.get?_push_ne _ _ _ (Nat.ne_of_lt hlt)]
    exact q
  have hL : L < s.heap.objs.size := F.ns.lt
  show wpAny _ _ _ _ _ { s with heap := ((s.heap.push (seqObj "list" #[] 0)).update s.heap.objs.size (Obj.mapSeq (· ++ vs.toArray))).push (seqObj "list" vs.toArray 0) }
  rw [hsz]
  have hg := h (s.heap.objs.size + 1) _ (F.kept keep) (fun p hp => by
    rcases List.mem_cons.mp hp with rfl | hp
    · exact ⟨hoL, Nat.ne_of_gt (Nat.lt_succ_of_lt hL), Heap.get?_none_of_le (Nat.le_trans F.above (Nat.le_succ_of_le (Nat.le_of_lt hL)))⟩
    · exact (N.grown keep) p hp) (fun p hp => Nat.lt_succ_of_lt (Heap.lt_size (N p hp).1))
  refine wpAny_bind (wpAny_holding (wpAny_mono hg (fun _ s' x => ?_) fun _ _ e => e))
  exact wpAny_pure ⟨_, rfl, x⟩
theorem sorted_pairs {l : Addr} {Q : Value → Shared → Prop} (F : Fr h₀ L s.heap m) (N : News h₀ L s.heap news) (hl : (l, listOf vs.toArray n) ∈ news) (hp : PairsIn news vs kvs) (hnd : (kvs.map (·.1)).Nodup) (h64 : kvs.length < 64)
    (h : ∀ B vs' kvs' n' h', Fr h₀ L h' m → News h₀ L h' ((B, listOf vs'.toArray n') :: news) → (∀ q ∈ news, q.1 < B) → PairsIn news vs' kvs' → kvs'.Perm kvs → kvs'.Pairwise (fun a b => strLt a.1 b.1 = true) → Q (.ref B) { s with heap := h' }) :
    wpAny (model prog w) A (call (.builtin "sorted") [.ref l]) Q E s := by
  refine sorted_list F N hl (by rw [hp.length]; exact h64) fun B h' F' N' hlt => ?_
  exact lsort_pairs F' N' (fun p hp => Nat.ne_of_lt (hlt p hp)) hp hnd h64 fun vs' kvs' n' h'' F'' N'' hp' hperm hs => h B vs' kvs' n' h'' F'' N'' hlt hp' hperm hs
/-- the pairs of a dict of texts, as they were laid -/
theorem kdx_pairsIn {lo : Addr} {C : List Value → List (Addr × Obj) → Prop} {base : List (Addr × Obj)} (hC : ∀ vs tups, PairsIn (tups ++ base) vs kvs → (∀ q ∈ tups, lo < q.1) → C vs tups) : ∀ (r : List (Str × Str)) (ds : List (Str × Value)) (vs : List Value) (tups : List (Addr × Obj)) (done : List (Str × Str)),
    done ++ r = kvs → ds.length = r.length → (∀ (i : Nat) (x y : Str), r[i]? = some (x, y) → ∃ t, ds[i]? = some (x, .str y t)) → PairsIn (tups ++ base) vs done → (∀ q ∈ tups, lo < q.1) →
    KdxOpen lo base (ds.map fun p => (kyVal (PyData.str p.1), p.2)) vs tups C
  | [], [], vs, tups, done, e, _, _, hp, hlo => by
    refine KdxOpen.nil (hC vs tups ?_ hlo)
    rw [← e, List.append_nil]; exact hp
  | [], _ :: _, _, _, _, _, hl, _, _, _ => by simp at hl
  | _ :: _, [], _, _, _, _, hl, _, _, _ => by simp at hl
  | (x, y) :: r, d :: ds, vs, tups, done, e, hl, hd, hp, hlo => by
    refine KdxOpen.cons fun a t hla hn ht => ?_
    obtain ⟨u, hu⟩ := hd 0 x y rfl
    have hu : d = (x, .str y u) := by simpa using hu
    subst hu
    refine kdx_pairsIn hC r ds _ _ (done ++ [(x, y)]) (by rw [← e]; simp) (by simpa using hl) (fun i x' y' h => by simpa using hd (i + 1) x' y' (by simpa using h)) ?_ ?_
    · exact (hp.mono fun p hp => .tail _ hp).snoc (.head _)
    · intro q hq
      rcases List.mem_cons.mp hq with rfl | hq
      · exact hla
      · exact hlo q hq
theorem sorted_items {d v : Addr} {od : Obj} {ds : List (Str × Value)} {Q : Value → Shared → Prop} (hh : A.handled = none) (F : Fr h₀ L s.heap m) (N : News h₀ L s.heap news) (hvw : (v, { cls := .type "dict_items", data := .fields #[.ref d] }) ∈ news) (hmd : (d, od) ∈ news) (hod : od.IsDictOf (PySem.strKind prog w) ds)
    (hl : ds.length = kvs.length) (hds : ∀ (i : Nat) (x y : Str), kvs[i]? = some (x, y) → ∃ t, ds[i]? = some (x, .str y t)) (hnd : (kvs.map (·.1)).Nodup) (h64 : kvs.length < 64)
    (h : ∀ B tups vs' kvs' n' h' tk, Fr h₀ L h' m → News h₀ L h' ((B, listOf vs'.toArray n') :: (tups ++ news)) → PairsIn (tups ++ news) vs' kvs' → kvs'.Perm kvs → kvs'.Pairwise (fun a b => strLt a.1 b.1 = true) → Q (.ref B) { s with heap := h', toks := tk }) :
    wpAny (model prog w) A (call (.builtin "sorted") [.ref v]) Q E s := by
  refine kdx_sortedN (enc := PyData.str) hh F N hvw hmd hod (by omega) (fun k v hk => ?_) rfl fun lo hlo => ?_
  · obtain ⟨t, rfl⟩ := Value.isStrOf_shape hk
    exact ⟨t, rfl⟩
  · refine kdx_pairsIn (kvs := kvs) (base := news) (fun vs tups hp htl => ?_) kvs ds [] [] [] rfl hl hds .nil (by simp)
    intro B h' tk hB F' N'
    exact lsort_pairs (s := { s with heap := h', toks := tk }) F' N' (fun p hp => Nat.ne_of_lt (hB p hp)) hp hnd h64 fun vs' kvs' n' h'' F'' N'' hp' hperm hs => h B tups vs' kvs' n' h'' tk F'' N'' hp' hperm hs
end
end Mine
end
section
open PySem PySem.W PySem.Calls PyProof.Rows PyProof.V Mine
set_option maxRecDepth 100000
namespace Mine
/-- a comparison that may look at objects that stand -/
def CmpIn (prog : Program) (w : World) (A : Around) (Hp : Heap → Prop) (P : Nat → Value → Prop) (bt : Nat → Nat → Bool) : Prop :=
  ∀ i j vi vj (s : Shared) (Q : Value → Shared → Prop) (E : Value → Shared → Prop), Hp s.heap → P i vi → P j vj → Q (.bool (bt i j)) s → wpAny (model prog w) A (richCompare .Gt vi vj) Q E s
section
variable {prog : Program} {w : World} {A : Around} {R : Result → Shared → Prop} {I : Addr} {fp wr : List Addr} {n : Nat} {P : Nat → Value → Prop} {St : Nat → Heap → Prop} {Hp : Heap → Prop}
theorem maxIn_loop (W : Walks prog w A.in1 I fp wr n P St) (bt : Nat → Nat → Bool) (hcmp : CmpIn prog w A.in1 Hp P bt) (S : Addr) (hSf : S ∉ fp) (hHp : ∀ h h' : Heap, Hp h → (∀ b o, b ∉ wr → b ≠ S → h.get? b = some o → h'.get? b = some o) → Hp h') :
    ∀ (k j : Nat) (s : Shared) (vb : Value) (c : Nat), n - (j + 1) = k → j + 1 ≤ n → St (j + 1) s.heap → Hp s.heap → P (argBest bt j) vb →
    s.heap.get? S = some { cls := .type "list", dict := none, data := .seq #[vb, vb] c, slots := #[] } →
    (∀ v h' tk, P (argBest bt (n - 1)) v → (∀ b o, b ∉ wr → b ≠ S → s.heap.get? b = some o → h'.get? b = some o) → R (.ok (.ret v)) { s with heap := h', toks := tk }) →
    codeAny (model prog w) A (.builtin "max.loop" ⟨[.ref I, .none, .ref S], []⟩) R s := by
  have hSw : S ∉ wr := fun h => hSf (W.sub _ h)
  have hname : (toString "max" ++ toString ".loop" : String) = "max.loop" := by decide
  intro k
  induction k with
  | zero =>
    intro j s vb c hk hj hst hH hPb hS hR
    have hin : j + 1 = n := by omega
    refine codeAny_builtin F.entry_max_loop ?_
    rw [Around.under_plainId F.plain_max_loop _]
    show wpAny _ A.in1 (seqItems? (.ref S) >>= _) _ _ s
    refine wpAny_bind (wpAny_seqItems hS rfl ?_)
    show wpAny _ A.in1 (tryCatch (pyNext (.ref I)) _ >>= _) _ _ s
    refine wpAny_bind (wpAny_tryCatch (W.done s _ _ (hin ▸ hst) fun h' tk hk' => ?_))
    have hS' := hk' S _ hSw hS
    show wpAny _ A.in1 (updateSeq S (fun _ => #[]) >>= _) _ _ _
    refine wpAny_bind ?_
    refine wpAny_updateSeq hS' rfl (wpAny_bind (wpAny_letGo (wpAny_pure ?_)))
    exact hR vb _ tk (by rw [← hin]; exact hPb) fun b o hbw hbS e => (Heap.get?_update_other _ _ (Ne.symm hbS)).trans (hk' b o hbw e)
  | succ k ih =>
    intro j s vb c hk hj hst hH hPb hS hR
    have hlt : j + 1 < n := by omega
    refine codeAny_builtin F.entry_max_loop ?_
    rw [Around.under_plainId F.plain_max_loop _]
    show wpAny _ A.in1 (seqItems? (.ref S) >>= _) _ _ s
    refine wpAny_bind (wpAny_seqItems hS rfl ?_)
    show wpAny _ A.in1 (tryCatch (pyNext (.ref I)) _ >>= _) _ _ s
    refine wpAny_bind (wpAny_tryCatch (W.item (j + 1) s _ _ hlt hst fun v h' tk hP hst' hk' => ?_))
    have hS' := hk' S _ hSw hS
    have hH' : Hp h' := hHp _ _ hH fun b o hb _ e => hk' b o hb e
    show wpAny _ A.in1 (tryCatch (holding [v, v] (richCompare .Gt v vb >>= _)) _ >>= _) _ _ _
    refine wpAny_bind (wpAny_tryCatch (wpAny_holding (wpAny_bind (hcmp (j + 1) (argBest bt j) v vb _ _ _ hH' hP hPb ?_))))
    refine wpAny_bind (wpAny_holding (wpAny_truthy_bool ?_))
    refine wpAny_bind (wpAny_letGo (wpAny_pure ?_))
    cases hb : bt (j + 1) (argBest bt j) with
    | true =>
      simp only [if_true]
      refine wpAny_bind ?_
      refine wpAny_updateSeq hS' rfl (wpAny_bind (wpAny_letGo ?_))
      rw [hname]
      have hup : ∀ b o, b ∉ wr → b ≠ S → h'.get? b = some o → (h'.update S (Obj.mapSeq fun _ => #[v, v])).get? b = some o := fun b o _ hbS e => (Heap.get?_update_other _ _ (Ne.symm hbS)).trans e
      refine wpAny_pure ⟨plainId_quiet F.plain_max_loop _, ih (j + 1) _ v _ (by omega) hlt (W.frame _ _ _ hst' fun b hbf o e => ?_) (hHp _ _ hH' hup) (by simp only [argBest, hb, if_true]; exact hP) (Heap.get?_update_self _ hS' rfl)
        fun v' h'' tk'' hP' hk'' => ?_⟩
      · exact (Heap.get?_update_other _ _ (fun h : S = b => hSf (by rw [h]; exact hbf))).trans e
      · exact hR v' h'' tk'' hP' fun b o hbw hbS e => hk'' b o hbw hbS ((Heap.get?_update_other _ _ (Ne.symm hbS)).trans (hk' b o hbw e))
    | false =>
      simp only [Bool.false_eq_true, if_false]
      refine wpAny_bind (wpAny_letGo ?_)
      rw [hname]
      refine wpAny_pure ⟨plainId_quiet F.plain_max_loop _, ih (j + 1) _ vb c (by omega) hlt hst' hH' (by simp only [argBest, hb, Bool.false_eq_true, if_false]; exact hPb) hS' fun v' h'' tk'' hP' hk'' => ?_⟩
      exact hR v' h'' tk'' hP' fun b o hbw hbS e => hk'' b o hbw hbS (hk' b o hbw e)
theorem maxIn_first (W : Walks prog w A.in1 I fp wr n P St) (bt : Nat → Nat → Bool) (hcmp : CmpIn prog w A.in1 Hp P bt) (S : Addr) (hSf : S ∉ fp) (hHp : ∀ h h' : Heap, Hp h → (∀ b o, b ∉ wr → b ≠ S → h.get? b = some o → h'.get? b = some o) → Hp h') (hn : 0 < n) {s : Shared} {c : Nat} (hst : St 0 s.heap) (hH : Hp s.heap)
    (hS : s.heap.get? S = some { cls := .type "list", dict := none, data := .seq #[] c, slots := #[] })
    (hR : ∀ v h' tk, P (argBest bt (n - 1)) v → (∀ b o, b ∉ wr → b ≠ S → s.heap.get? b = some o → h'.get? b = some o) → R (.ok (.ret v)) { s with heap := h', toks := tk }) :
    codeAny (model prog w) A (.builtin "max.loop" ⟨[.ref I, .none, .ref S], []⟩) R s := by
  have hSw : S ∉ wr := fun h => hSf (W.sub _ h)
  have hname : (toString "max" ++ toString ".loop" : String) = "max.loop" := by decide
  refine codeAny_builtin F.entry_max_loop ?_
  rw [Around.under_plainId F.plain_max_loop _]
  show wpAny _ A.in1 (seqItems? (.ref S) >>= _) _ _ s
  refine wpAny_bind (wpAny_seqItems hS rfl ?_)
  show wpAny _ A.in1 (tryCatch (pyNext (.ref I)) _ >>= _) _ _ s
  refine wpAny_bind (wpAny_tryCatch (W.item 0 s _ _ hn hst fun v h' tk hP hst' hk' => ?_))
  have hS' := hk' S _ hSw hS
  have hH' : Hp h' := hHp _ _ hH fun b o hb _ e => hk' b o hb e
  show wpAny _ A.in1 (updateSeq S (fun _ => #[v, v]) >>= _) _ _ _
  refine wpAny_bind ?_
  refine wpAny_updateSeq hS' rfl ?_
  rw [hname]
  have hup : ∀ b o, b ∉ wr → b ≠ S → h'.get? b = some o → (h'.update S (Obj.mapSeq fun _ => #[v, v])).get? b = some o := fun b o _ hbS e => (Heap.get?_update_other _ _ (Ne.symm hbS)).trans e
  refine wpAny_pure ⟨plainId_quiet F.plain_max_loop _, maxIn_loop W bt hcmp S hSf hHp _ 0 _ v _ rfl hn (W.frame _ _ _ hst' fun b hbf o e => ?_) (hHp _ _ hH' hup) hP (Heap.get?_update_self _ hS' rfl) fun v' h'' tk'' hP' hk'' => ?_⟩
  · exact (Heap.get?_update_other _ _ (fun h : S = b => hSf (by rw [h]; exact hbf))).trans e
  · exact hR v' h'' tk'' hP' fun b o hbw hbS e => hk'' b o hbw hbS ((Heap.get?_update_other _ _ (Ne.symm hbS)).trans (hk' b o hbw e))
end
section
variable {prog : Program} {w : World} {A : Around} {E : Value → Shared → Prop} {s : Shared}
theorem gt_pair {q1 q2 : Addr} {a b a' b' : Int} {t1 t2 t3 t4 : Tok} {Q : Value → Shared → Prop} (h1 : s.heap.get? q1 = some (tupOf [.int a t1, .int b t2])) (h2 : s.heap.get? q2 = some (tupOf [.int a' t3, .int b' t4])) (hu : A.units < cLine)
    (h : Q (.bool (decide (a' < a ∨ (a = a' ∧ b' < b)))) s) : wpAny (model prog w) A (richCompare .Gt (.ref q1) (.ref q2)) Q E s := by
  have T1 : s.TypeIs (.ref q1) "tuple" := ⟨_, h1, rfl⟩
  have T2 : s.TypeIs (.ref q2) "tuple" := ⟨_, h2, rfl⟩
  refine wpAny_richCompare_same_room T1 T2 PySem.F.slot_tuple_gt (wpAny_call_entry PySem.F.slot_tuple_gt T1 PySem.F.entry_tuple_gt ?_ (PySem.F.args_tuple_gt_2 _ _)) hu
  show wpAny _ _ (isInstance (.ref q2) (.type "tuple") >>= _) _ _ s
  refine wpAny_bind (wpAny_isInstance T2 isSubtype_tuple_tuple ?_)
  simp only [Bool.not_true, Bool.false_eq_true, if_false]
  refine wpAny_bind (wpAny_tupleItemsOf h1 rfl ?_)
  refine wpAny_bind (wpAny_tupleItemsOf h2 rfl ?_)
  refine wpAny_bind ?_
  show wpAny _ _ (forIn [(Value.int a t1, Value.int a' t3), (Value.int b t2, Value.int b' t4)] _ _) _ _ _
  rw [List.forIn_cons]
  refine wpAny_bind (wpAny_bind (wpAny_eqBool_int ?_))
  have fin : ∀ (c : Bool), c = decide (a' < a ∨ (a = a' ∧ b' < b)) → Q (.bool c) s := fun c e => e ▸ h
  by_cases e1 : a = a'
  · subst e1
    rw [if_neg (by simp)]
    refine wpAny_pure ?_
    dsimp only
    rw [List.forIn_cons]
    refine wpAny_bind (wpAny_bind (wpAny_eqBool_int ?_))
    by_cases e2 : b = b'
    · subst e2
      rw [if_neg (by simp)]
      refine wpAny_pure ?_
      dsimp only
      rw [List.forIn_nil]
      refine wpAny_pure ?_
      dsimp only
      refine wpAny_pure ⟨.bool false, rfl, ?_, fin _ (by simp)⟩
      intro e; cases e
    · rw [if_pos (by simpa using e2)]
      refine wpAny_bind (wpAny_rule (wpAny_bind ?_))
      refine PyProof.Rows.gt_int (A := A.in1) ?_
      refine wpAny_bind (wpAny_pure (wpAny_pure ?_))
      dsimp only
      refine wpAny_pure (wpAny_pure ⟨.bool (decide (b' < b)), rfl, (fun e => nomatch e), fin _ (by simp)⟩)
  · rw [if_pos (by simpa using e1)]
    refine wpAny_bind (wpAny_rule (wpAny_bind ?_))
    refine PyProof.Rows.gt_int (A := A.in1) ?_
    refine wpAny_bind (wpAny_pure (wpAny_pure ?_))
    dsimp only
    refine wpAny_pure (wpAny_pure ⟨.bool (decide (a' < a)), rfl, (fun e => nomatch e), fin _ (by simp [e1])⟩)
/-- the pairs of ints of a list -/
def IPairs (h : Heap) (vs : List Value) (ws : List (Nat × Nat)) : Prop := vs.length = ws.length ∧ ∀ (i : Nat) (a b : Nat), ws[i]? = some (a, b) → ∃ q t u, vs[i]? = some (.ref q) ∧ h.get? q = some (tupOf [.int (a : Nat) t, .int (b : Nat) u])
def pairGt (ws : List (Nat × Nat)) (i j : Nat) : Bool := decide ((ws.getD j (0, 0)).1 < (ws.getD i (0, 0)).1 ∨ ((ws.getD i (0, 0)).1 = (ws.getD j (0, 0)).1 ∧ (ws.getD j (0, 0)).2 < (ws.getD i (0, 0)).2))
theorem max_pairs {h₀ : Heap} {L l : Addr} {m : Str → Option Value} {news : List (Addr × Obj)} {vs : List Value} {n : Nat} {ws : List (Nat × Nat)} {Q : Value → Shared → Prop} (hh : A.handled = none) (hu : A.units + 8 < cLine) (Fx : Fr h₀ L s.heap m) (N : News h₀ L s.heap news) (hl : (l, listOf vs.toArray n) ∈ news) (hw : IPairs s.heap vs ws) (h0 : 0 < ws.length)
    (h : ∀ (i : Nat) v h' tk, i = argBest (pairGt ws) (ws.length - 1) → vs[i]? = some v → Fr h₀ L h' m → News h₀ L h' news → Q v { s with heap := h', toks := tk }) :
    wpAny (model prog w) A (call (.builtin "max") [.ref l]) Q E s := by
  have hls : s.heap.IsList l vs.toArray := ⟨_, (N _ hl).1, rfl, n, rfl⟩
  have hlt : l < s.heap.objs.size := Heap.lt_size (N _ hl).1
  have hname : (toString "max" ++ toString ".loop" : String) = "max.loop" := by decide
  refine call_function_tree F.kind_max F.plain_max F.entry_max (F.args_max1 _) ?_
  show wpAny _ A.in1 (Builtin.Builtins.bindParams "max" ["key", "default"] 0 ⟨[], []⟩ >>= _) _ _ s
  refine wpAny_bind (wpAny_of_eq (show Builtin.Builtins.bindParams "max" ["key", "default"] 0 ⟨[], []⟩ = pure [none, none] from rfl) ?_)
  refine wpAny_bind (wpAny_pure ?_)
  refine wpAny_bind (wpAny_pyIter_list hls ?_)
  have W := Walks.list (prog := prog) (w := w) (A := A.in1) hh s.heap.objs.size l (Nat.ne_of_lt hlt) vs.toArray
  have hsz : vs.toArray.size = ws.length := by rw [List.size_toArray]; exact hw.1
  rw [hsz] at W
  refine wpAny_bind (wpAny_newObj_type ?_)
  rw [hname]
  refine wpAny_pure ⟨plainId_quiet F.plain_max_loop _, maxIn_first (c := 0) (Hp := fun h => ∀ (i : Nat) (a b : Nat), ws[i]? = some (a, b) → ∃ q t u, vs[i]? = some (.ref q) ∧ q < s.heap.objs.size ∧ h.get? q = some (tupOf [.int (a : Nat) t, .int (b : Nat) u]))
    W (pairGt ws) ?hcmp _ ?hSf ?hHp h0 ?hst ?hH ?hS ?hR⟩
  case hcmp =>
    intro i j vi vj s' Q' E' hp hi hj hq
    have hi' : vs[i]? = some vi := by simpa using hi
    have hj' : vs[j]? = some vj := by simpa using hj
    have il : i < ws.length := by rw [← hw.1]; exact (List.getElem?_eq_some_iff.mp hi').1
    have jl : j < ws.length := by rw [← hw.1]; exact (List.getElem?_eq_some_iff.mp hj').1
    obtain ⟨q, t, u, e1, -, e2⟩ := hp i _ _ (List.getElem?_eq_getElem il)
    obtain ⟨q', t', u', e3, -, e4⟩ := hp j _ _ (List.getElem?_eq_getElem jl)
    rw [hi'] at e1
    rw [hj'] at e3
    obtain rfl := Option.some.inj e1
    obtain rfl := Option.some.inj e3
    refine gt_pair e2 e4 (by have : A.in1.units ≤ A.units + 8 := by simp [Around.in1]
                             omega) ?_
    have g1 : ws.getD i (0, 0) = ws[i] := by simp [List.getD, il]
    have g2 : ws.getD j (0, 0) = ws[j] := by simp [List.getD, jl]
    have e : decide (((ws[j].1 : Nat) : Int) < (ws[i].1 : Nat) ∨ (((ws[i].1 : Nat) : Int) = (ws[j].1 : Nat) ∧ ((ws[j].2 : Nat) : Int) < (ws[i].2 : Nat))) = pairGt ws i j := by
      unfold pairGt
      rw [g1, g2, decide_eq_decide]
      omega
    simp only [List.get_eq_getElem]
    rw [e]
    exact hq
  case hSf =>
    intro hm
    rcases List.mem_cons.mp hm with e | hm
    · refine absurd e ?_
      show (s.heap.push _).objs.size ≠ s.heap.objs.size
      rw [Heap.size_push]; exact Nat.succ_ne_self _
    · refine absurd (List.mem_singleton.mp hm) ?_
      show (s.heap.push _).objs.size ≠ l
      rw [Heap.size_push]; exact Nat.ne_of_gt (Nat.lt_succ_of_lt hlt)
  case hHp =>
    intro h h' hp hk i a b e
    obtain ⟨q, t, u, e1, e2, e3⟩ := hp i a b e
    exact ⟨q, t, u, e1, e2, hk _ _ (fun hm => Nat.ne_of_lt e2 (List.mem_singleton.mp hm)) (by show q ≠ (s.heap.push _).objs.size; rw [Heap.size_push]; exact Nat.ne_of_lt (Nat.lt_succ_of_lt e2)) e3⟩
  case hst => exact ⟨⟨_, Heap.get?_push_of_some _ (Heap.get?_push_size _ rfl), rfl, rfl⟩, (hls.at fun o e => Heap.get?_push_of_some _ (Heap.get?_push_of_some _ e))⟩
  case hH =>
    intro i a b e
    obtain ⟨q, t, u, e1, e2⟩ := hw.2 i a b e
    exact ⟨q, t, u, e1, Heap.lt_size e2, Heap.get?_push_of_some _ (Heap.get?_push_of_some _ e2)⟩
  case hS => exact Heap.get?_push_size _ rfl
  case hR =>
    intro v h' tk hv hk
    have keep : ∀ b o, s.heap.get? b = some o → h'.get? b = some o := fun b o e => by
      have hb := Heap.lt_size e
      exact hk b o (fun hm => Nat.ne_of_lt hb (List.mem_singleton.mp hm)) (by show b ≠ (s.heap.push _).objs.size; rw [Heap.size_push]; exact Nat.ne_of_lt (Nat.lt_succ_of_lt hb)) (Heap.get?_push_of_some _ (Heap.get?_push_of_some _ e))
    exact h _ v h' tk rfl (by simpa using hv) (Fx.kept keep) (N.grown keep)
end
end Mine
end
section
open PySem PySem.W PySem.Calls PyProof.Rows PyProof.V PySem.Spec Mine
set_option maxRecDepth 100000
namespace Mine
/-- pairs of ints, as data -/
def dInts (ws : List (Nat × Nat)) : List PyData := ws.map fun p => .tuple [.int (p.1 : Nat), .int (p.2 : Nat)]
def dTexts (kvs : List (Str × Str)) : List PyData := kvs.map fun p => .tuple [.str p.1, .str p.2]
theorem dInts_lay : ∀ ws, PyData.canLayAll0 (dInts ws) = true
  | [] => rfl
  | p :: r => by simp [dInts, PyData.canLayAll0, PyData.canLay0]; exact dInts_lay r
theorem dInts_depth : ∀ ws, PyData.depthAll (dInts ws) ≤ 1
  | [] => by simp [dInts, PyData.depthAll]
  | p :: r => by
    have := dInts_depth r
    simp only [dInts, List.map_cons, PyData.depthAll, PyData.depth] at this ⊢
    omega
theorem dInts_shaped (ws : List (Nat × Nat)) : SeqAt.shaped (.list (dInts ws)) = true := by
  have h1 := dInts_lay ws
  have h2 := dInts_depth ws
  show (PyData.canLayAll0 (dInts ws) && decide (PyData.depthAll (dInts ws) + 1 ≤ 64)) = true
  rw [h1, Bool.true_and]
  exact decide_eq_true (by omega)
theorem clean_ok {x : Str} (h : Clean x) : PyData.strOk x = true := by
  unfold PyData.strOk
  rw [Array.all_eq_true_iff_forall_mem]
  intro c hc
  have := h.2 c hc
  exact decide_eq_true (by omega)
theorem dTexts_lay : ∀ kvs : List (Str × Str), (∀ kv ∈ kvs, Clean kv.1 ∧ Clean kv.2) → PyData.canLayAll0 (dTexts kvs) = true
  | [], _ => rfl
  | p :: r, h => by
    obtain ⟨h1, h2⟩ := h p (.head _)
    simp only [dTexts, List.map_cons, PyData.canLayAll0, PyData.canLay0, clean_ok h1, clean_ok h2, Bool.and_true, Bool.true_and]
    exact dTexts_lay r fun kv hk => h kv (.tail _ hk)
theorem dTexts_depth : ∀ kvs : List (Str × Str), PyData.depthAll (dTexts kvs) ≤ 1
  | [] => by simp [dTexts, PyData.depthAll]
  | p :: r => by
    have := dTexts_depth r
    simp only [dTexts, List.map_cons, PyData.depthAll, PyData.depth] at this ⊢
    omega
theorem dTexts_shaped (kvs : List (Str × Str)) (h : ∀ kv ∈ kvs, Clean kv.1 ∧ Clean kv.2) : SeqAt.shaped (.list (dTexts kvs)) = true := by
  have h1 := dTexts_lay kvs h
  have h2 := dTexts_depth kvs
  show (PyData.canLayAll0 (dTexts kvs) && decide (PyData.depthAll (dTexts kvs) + 1 ≤ 64)) = true
  rw [h1, Bool.true_and]
  exact decide_eq_true (by omega)
theorem reads_pairs {h : Heap} {news : List (Addr × Obj)} (hN : ∀ p ∈ news, h.get? p.1 = some p.2) {vs : List Value} {kvs : List (Str × Str)} (hp : PairsIn news vs kvs) : ∃ as, ReadsAll h vs (dTexts kvs) as := by
  induction hp with
  | nil => exact ⟨_, ReadsAll.nil⟩
  | cons hm _ ih =>
    obtain ⟨as, ih⟩ := ih
    exact ⟨_, ReadsAll.cons (reads_tuple_at (hN _ hm) rfl rfl (ReadsAll.cons (Reads.str _ _) (ReadsAll.cons (Reads.str _ _) ReadsAll.nil))) ih⟩
theorem eqvAll_nil (ws : List (Nat × Nat)) : PyData.eqv (.list (dInts ws)) (.list []) = decide (ws = []) := by
  cases ws <;> simp [PyData.eqv, PyData.eqvAll, dInts]
end Mine
end
section
open PySem PySem.W PySem.Calls PyProof.Rows Mine
set_option maxRecDepth 100000
namespace Mine
def cutS (x : Str) (n : Nat) : Str := Txt.slice x none (some (n : Int))
theorem cut_ix (j : Int) (h : 0 ≤ j) (len : Nat) : Builtin.Str.strSliceIndices none (some j) 1 len = sliceRange 0 (max 0 (min j len)) 1 := by
  unfold Builtin.Str.strSliceIndices
  simp only [show (1 : Int) > 0 from by decide, if_true]
  rw [if_neg (by omega)]
theorem cutS_take (x : Str) (n : Nat) : cutS x n = ⟨(x.cps.toList.take n).toArray⟩ := by
  by_cases h : n ≤ x.cps.toList.length
  · have := slice_closes_to (x := x) (j := (n : Int)) ⟨by omega, by omega⟩
    unfold cutS
    rw [beq_iff_eq.mp this]
    simp
  · have hl : x.cps.toList.length = x.length := by simp [Str.length]
    have e : cutS x n = cutS x x.length := by
      unfold cutS Txt.slice
      rw [cut_ix _ (by omega), cut_ix _ (by omega), show min (n : Int) (x.length : Int) = min ((x.length : Nat) : Int) (x.length : Int) from by omega]
    rw [e]
    have := slice_closes_to (x := x) (j := (x.length : Int)) ⟨by omega, by omega⟩
    unfold cutS
    rw [beq_iff_eq.mp this, List.take_of_length_le (l := x.cps.toList) (i := n) (by omega)]
    show (⟨((x.cps.toList.drop 0).take ((x.length : Int) - 0).toNat).toArray⟩ : Str) = ⟨x.cps.toList.toArray⟩
    rw [List.drop_zero, List.take_of_length_le (by omega)]
theorem cutS_length (x : Str) (n : Nat) : (cutS x n).length ≤ x.length := Txt.slice_le _ _ _
theorem cutS_clean {x : Str} {n : Nat} (h : Clean x) : Clean (cutS x n) := by
  refine ⟨Nat.le_trans (cutS_length x n) h.1, fun c hc => ?_⟩
  rw [cutS_take] at hc
  have : c ∈ x.cps.toList.take n := by simpa using hc
  exact h.2 c (by simpa using List.mem_of_mem_take this)
end Mine
end
section
open PySem PySem.W PySem.Calls PyProof.Rows PyProof.V Mine
open PyProof.Rows.LCg
set_option maxRecDepth 100000
namespace Mine
section
variable {prog : Program} {w : World} {A : Around} {E : Value → Shared → Prop} {s : Shared} {env : Env} {h₀ : Heap} {L : Addr} {m : Str → Option Value}
/-- the addresses of a comprehension whose loop name is a cell -/
def Off4 (I C K D : Addr) (nx : List (Addr × Obj)) : Prop := ∀ p ∈ nx, p.1 ≠ I ∧ p.1 ≠ C ∧ p.1 ≠ K ∧ p.1 ≠ D
/-- a stop for the walk -/
structure HoldS (P : Prop) : Prop where
  out : P
theorem funEnv_cell {scope : Scope} {outer : Env} {x : Str} {cl : List (Str × Addr)} {qual : Str} {Q : Env → Shared → Prop} (hk : scope.kind = .function)
    (hcells : ∀ n, cellsFrom n scope.names cl = (x, n) :: cl) (hpush : ∀ h : Heap, pushCells h scope.names = h.push { cls := .type "cell", data := .cell none })
    (h : Q { scope := scope, locals := s.heap.objs.size, globals := outer.globals, cells := (x, s.heap.objs.size + 1) :: cl, qual := qual, func := none, code := outer.code, frame := outer.frame, builtins := outer.builtins }
      { s with heap := (s.heap.push { cls := .type "dict", data := .dict #[] }).push { cls := .type "cell", data := .cell none } }) :
    wpAny (model prog w) A (newFunctionEnv scope outer.globals cl [] qual none .none (some outer)) Q E s := by
  simp only [newFunctionEnv, Option.isSome_some, if_true]
  refine wpAny_bind (wpAny_alloc ?_)
  refine wpAny_bind (wpAny_layCells _ (fun name kind cells => by cases hkc : kind == NameKind.cell <;> simp [hkc]) _ _ _ _ ?_)
  rw [hcells, hpush, show ({ s with heap := s.heap.push { cls := .type "dict", data := .dict #[] } } : Shared).heap.objs.size = s.heap.objs.size + 1 from Heap.size_push ..]
  refine wpAny_bind ?_
  rw [List.forIn_nil]
  exact wpAny_pure (wpAny_pure h)
theorem ListComp_cell {elt iter : Expr} {x : Str} {px : Pos} {scope : Scope} {cl : List (Str × Addr)} {pos : Pos} {Q : Value → Shared → Prop} (_F₀ : Fr h₀ L s.heap m) (J : Nat → List Value → List (Addr × Obj) → Prop)
    (hclos : closureFor scope env = pure cl) (hkind : scope.kind = .function) (hnames : ∀ y ∈ scope.names, y.2 = .local → scope.names.lookup y.1 = some .local)
    (hcells : ∀ n, cellsFrom n scope.names cl = (x, n) :: cl) (hpush : ∀ h : Heap, pushCells h scope.names = h.push { cls := .type "cell", data := .cell none })
    (hx : (relabel scope env).names.lookup x = some .cell)
    (h : wpAny (model prog w) A (eval iter env) (fun xv s₁ => HoldS (∃ ax its k news, xv = .ref ax ∧ A.handled = none ∧ Fr h₀ L s₁.heap m ∧ News h₀ L s₁.heap news ∧ (∀ i ys nx, J i ys nx → (ax, listOf (List.toArray its) k) ∈ nx) ∧ its.length ≤ sizeLine ∧ J 0 [] news ∧
      (∀ i v ys nx I oI C oC K oK D h tk (E' : Value → Shared → Prop), its[i]? = some v → J i ys nx → oK.data = .cell (some v) → Fr h₀ L h m → News h₀ L h ((I, oI) :: (C, oC) :: (K, oK) :: (D, lst ys) :: nx) → Off4 I C K D nx → ((@Ne Nat I C) ∧ (@Ne Nat I K) ∧ (@Ne Nat I D) ∧ (@Ne Nat C K) ∧ (@Ne Nat C D) ∧ (@Ne Nat K D)) →
        wpAny (model prog w) A (eval elt (compEnvC scope ((x, K) :: cl) C env)) (fun y s' => HoldS (∃ h' tk' nx', s' = { s₁ with heap := h', toks := tk' } ∧ Fr h₀ L h' m ∧ News h₀ L h' ((I, oI) :: (C, oC) :: (K, oK) :: (D, lst ys) :: nx') ∧ Off4 I C K D nx' ∧ J (i + 1) (ys ++ [y]) nx')) E' { s₁ with heap := h, toks := tk }) ∧
      (∀ D ys nx h tk, J its.length ys nx → Fr h₀ L h m → News h₀ L h ((D, lst ys) :: nx) → (∀ p ∈ nx, p.1 ≠ D) → Q (.ref D) { s₁ with heap := h, toks := tk }))) E s)
    (hs : ∀ x, foldedSetIterable iter env x = pure x := by intro _; rfl) :
    wpAny (model prog w) A (eval (.ListComp elt [⟨.Name x px, iter, [], 0⟩] scope pos) env) Q E s := by
  rw [eval_ListComp]
  refine wpAny_comprehension_free (use := none) rfl hs hclos hkind hnames (wpAny_mono h (fun xv s₁ h₁ => ?_) fun _ _ e => e)
  obtain ⟨ax, its, k, news, rfl, hh, F, N, hJl, hsz, hJ, turn, done⟩ := h₁.out
  have hls : s₁.heap.IsList ax its.toArray := ⟨_, (N _ (hJl _ _ _ hJ)).1, rfl, k, rfl⟩
  have hlt : ax < s₁.heap.objs.size := Heap.lt_size (N _ (hJl _ _ _ hJ)).1
  refine wpAny_pyIter_list hls ?_
  have W := Walks.list (prog := prog) (w := w) (A := A) hh s₁.heap.objs.size ax (Nat.ne_of_lt hlt) its.toArray
  rw [show its.toArray.size = its.length from by simp] at W
  refine wpAny_newObj_type (funEnv_cell (s := ⟨_, _, _, _, _⟩) hkind hcells hpush ?_)
  obtain ⟨I, hIe⟩ : ∃ I, I = s₁.heap.objs.size := ⟨_, rfl⟩
  obtain ⟨HI, hHI⟩ : ∃ H, H = s₁.heap.push { cls := .type "list_iterator", data := .fields #[.ref ax, .int 0 0] } := ⟨_, rfl⟩
  obtain ⟨HD, hHD⟩ : ∃ H, H = HI.push { cls := .type "list", data := .seq #[] } := ⟨_, rfl⟩
  obtain ⟨HC, hHC⟩ : ∃ H, H = HD.push { cls := .type "dict", data := .dict #[] } := ⟨_, rfl⟩
  obtain ⟨HK, hHK⟩ : ∃ H, H = HC.push { cls := .type "cell", data := .cell none } := ⟨_, rfl⟩
  have sI : HI.objs.size = I + 1 := by rw [hHI, Heap.size_push, hIe]
  have sD : HD.objs.size = I + 2 := by rw [hHD, Heap.size_push, sI]
  have sC : HC.objs.size = I + 3 := by rw [hHC, Heap.size_push, sD]
  have old : ∀ b o, s₁.heap.get? b = some o → HK.get? b = some o := fun b o e => by
    rw [hHK, hHC, hHD, hHI]
    exact Heap.get?_push_of_some _ (Heap.get?_push_of_some _ (Heap.get?_push_of_some _ (Heap.get?_push_of_some _ e)))
  have gI : HK.get? I = some { cls := .type "list_iterator", data := .fields #[.ref ax, .int 0 0] } := by
    rw [hHK, hHC, hHD]
    refine Heap.get?_push_of_some _ (Heap.get?_push_of_some _ (Heap.get?_push_of_some _ ?_))
    rw [hHI, hIe]; exact Heap.get?_push_size _ rfl
  have gD : HK.get? (I + 1) = some (lst []) := by
    rw [hHK, hHC]
    refine Heap.get?_push_of_some _ (Heap.get?_push_of_some _ ?_)
    rw [hHD, ← sI]; exact Heap.get?_push_size _ rfl
  have gC : HK.Ns (I + 2) (fun _ => none) := by
    have h1 : (HD.push { cls := .type "dict", data := .dict #[] }).Ns HD.objs.size (fun _ => none) := Heap.Ns.new HD (.type "dict")
    rw [sD, ← hHC] at h1
    rw [hHK]
    exact h1.at' fun o e => Heap.get?_push_of_some _ e
  have gK : HK.get? (I + 3) = some { cls := .type "cell", data := .cell none } := by
    rw [hHK, ← sC]; exact Heap.get?_push_size _ rfl
  have fresh : ∀ a, I ≤ a → h₀.get? a = none := fun a ha => by
    cases e : h₀.get? a with
    | none => rfl
    | some o' => have := Heap.lt_size (F.keep a o' e); rw [← hIe] at this; exact absurd this (Nat.not_lt.mpr ha)
  have hLI : L < I := by rw [hIe]; exact F.ns.lt
  rw [← hIe] at W
  have nLI : L ≠ I := Nat.ne_of_lt hLI
  have nLD : I + 1 ≠ L := Nat.ne_of_gt (Nat.lt_of_lt_of_le hLI (Nat.le_add_right _ _))
  have nLC : I + 2 ≠ L := Nat.ne_of_gt (Nat.lt_of_lt_of_le hLI (Nat.le_add_right _ _))
  have nLK : I + 3 ≠ L := Nat.ne_of_gt (Nat.lt_of_lt_of_le hLI (Nat.le_add_right _ _))
  have nI1 : I ≠ I + 1 := Nat.ne_of_lt (Nat.lt_succ_self _)
  have nI2 : I ≠ I + 2 := Nat.ne_of_lt (Nat.lt_add_of_pos_right (by decide))
  have nI3 : I ≠ I + 3 := Nat.ne_of_lt (Nat.lt_add_of_pos_right (by decide))
  have nCK : I + 2 ≠ I + 3 := Nat.ne_of_lt (Nat.lt_succ_self (I + 2))
  have nCD : I + 2 ≠ I + 1 := Nat.ne_of_gt (Nat.lt_succ_self (I + 1))
  have nKD : I + 3 ≠ I + 1 := Nat.ne_of_gt (Nat.lt_add_of_pos_right (n := I + 1) (k := 2) (by decide))
  have hnI : ∀ p ∈ news, p.1 < I := fun p hp => by rw [hIe]; exact Heap.lt_size (N p hp).1
  have off₀ : Off4 I (I + 2) (I + 3) (I + 1) news := fun p hp => by
    have := hnI p hp
    exact ⟨Nat.ne_of_lt this, Nat.ne_of_lt (Nat.lt_of_lt_of_le this (Nat.le_add_right _ _)), Nat.ne_of_lt (Nat.lt_of_lt_of_le this (Nat.le_add_right _ _)), Nat.ne_of_lt (Nat.lt_of_lt_of_le this (Nat.le_add_right _ _))⟩
  have goal : ∀ (I' D' C' K' : Addr) (s₃ : Shared), I' = I → D' = I + 1 → C' = I + 2 → K' = I + 3 → s₃ = { s₁ with heap := HK } → codeAny (model prog w) A (.compStart (.ListComp elt [⟨.Name x px, iter, [], 0⟩] scope pos) 0 (.ref I') (.ref D') (compEnvC scope ((x, K') :: cl) C' env)) (compPost (model prog w) A E none Q (.ref D') C') s₃ := by
    intro I' D' C' K' s₃ e1 e2 e3 e4 e5
    rw [e1, e2, e3, e4, e5]
    have loop : codeAny (model prog w) A (.compLoop (.ListComp elt [⟨.Name x px, iter, [], 0⟩] scope pos) 0 (.ref I) (.ref (I + 1)) (compEnvC scope ((x, I + 3) :: cl) (I + 2) env)) (compPost (model prog w) A E none Q (.ref (I + 1)) (I + 2)) { s₁ with heap := HK } := by
      refine codeAny_compLoop_tests
        (fun k' s' => ∃ h' tk i ys m' news' oK v0, s' = { s₁ with heap := h', toks := tk } ∧ i ≤ its.length ∧ k' = its.length + 1 - i ∧ ys.length = i ∧ h'.IsListIter I ax i ∧ Fr h₀ L h' m ∧ h'.Ns (I + 2) m' ∧ h'.get? (I + 3) = some oK ∧ oK.data = .cell v0 ∧ News h₀ L h' ((I + 1, lst ys) :: news') ∧
          Off4 I (I + 2) (I + 3) (I + 1) news' ∧ J i ys news') ?_ (its.length + 1)
        ⟨HK, s₁.toks, 0, [], _, news, _, _, rfl, Nat.zero_le _, rfl, rfl, ⟨_, gI, rfl, rfl⟩, F.keeps old, gC, gK, rfl, fun p hp => ?_, off₀, hJ⟩
      · rintro k' s' ⟨h', tk, i, ys, m', news', oK, v0, rfl, hi, rfl, hyl, hit, F', hn', hK, hKd, N', off', hJ'⟩
        have hlist : h'.IsList ax its.toArray := ⟨_, (N' _ (.tail _ (hJl _ _ _ hJ'))).1, rfl, k, rfl⟩
        by_cases hlt : i < its.length
        · refine W.item i _ _ _ hlt ⟨hit, hlist⟩ fun v h₂ tk₂ hPv hst₂ hk₂ => ?_
          have keep₂ : ∀ b o, b ≠ I → h'.get? b = some o → h₂.get? b = some o := fun b o hb e => hk₂ b o (by simpa using hb) e
          have hK₂ := keep₂ (I + 3) _ nI3.symm hK
          refine wpAny_assign_Name (wpAny_storeName_cell (by show (relabel scope env).kind = .function; exact hkind) hx (by show List.lookup x ((x, I + 3) :: cl) = _; simp) ⟨oK, hK₂, hKd⟩ fun h₃ hv₃ hs₃ => ?_)
          refine wpAny_tests_nil ?_
          simp only [if_true]
          obtain ⟨oK₃, hK₃, hKd₃⟩ := hv₃
          obtain ⟨oI, hI₂, hIc, hId⟩ := hst₂.1
          have hI₃ : h₃.get? I = some oI := hs₃.extBut _ _ nI3 hI₂
          have hn₃ : h₃.Ns (I + 2) m' := (hn'.at' fun o e => keep₂ _ o nI2.symm e).at' fun o e => hs₃.extBut _ _ nCK e
          obtain ⟨oC, heC, hoC⟩ := ns_obj hn₃
          have F₃ : Fr h₀ L h₃ m := (fr_but F' hk₂ nLI (fresh _ (Nat.le_refl _))).change hs₃ nLK (fresh _ (Nat.le_add_right _ _))
          have N₂ : News h₀ L h₂ ((I + 1, lst ys) :: news') := news_but N' hk₂ fun p hp => by
            rcases List.mem_cons.mp hp with rfl | hp
            · exact Nat.ne_of_gt (Nat.lt_succ_self I)
            · exact (off' p hp).1
          have N₃ : News h₀ L h₃ ((I, oI) :: (I + 2, oC) :: (I + 3, oK₃) :: (I + 1, lst ys) :: news') := fun p hp => by
            rcases List.mem_cons.mp hp with rfl | hp
            · exact ⟨hI₃, Nat.ne_of_gt hLI, fresh _ (Nat.le_refl _)⟩
            · rcases List.mem_cons.mp hp with rfl | hp
              · exact ⟨heC, Nat.ne_of_gt (Nat.lt_of_lt_of_le hLI (Nat.le_add_right _ _)), fresh _ (Nat.le_add_right _ _)⟩
              · rcases List.mem_cons.mp hp with rfl | hp
                · exact ⟨hK₃, Nat.ne_of_gt (Nat.lt_of_lt_of_le hLI (Nat.le_add_right _ _)), fresh _ (Nat.le_add_right _ _)⟩
                · refine ⟨hs₃.extBut _ _ ?_ (N₂ p hp).1, (N₂ p hp).2⟩
                  rcases List.mem_cons.mp hp with rfl | hp
                  · exact nKD.symm
                  · exact (off' p hp).2.2.1
          refine wpAny_mono (turn i v ys news' I oI (I + 2) oC (I + 3) oK₃ (I + 1) h₃ tk₂ _ (by simpa using hPv) hJ' hKd₃ F₃ N₃ off' ⟨nI2, nI3, nI1, nCK, nCD, nKD⟩) (fun y s₄ h₄ => ?_) fun _ _ e => e
          obtain ⟨h₄, tk₄, nx₄, rfl, F₄, N₄, off₄, J₄⟩ := h₄.out
          have zI := (N₄ _ (.head _)).1
          have zC := (N₄ _ (.tail _ (.head _))).1
          have zK := (N₄ _ (.tail _ (.tail _ (.head _)))).1
          have zD := N₄ _ (.tail _ (.tail _ (.tail _ (.head _))))
          refine append_at (hsz := by show ys.toArray.size ≤ sizeLine; rw [List.size_toArray, hyl]; exact Nat.le_trans hi hsz) zD.1 fun h₅ hs₅ hD₅ => ?_
          refine ⟨its.length + 1 - (i + 1), by omega, h₅, tk₄, i + 1, ys ++ [y], _, nx₄, oK₃, _, rfl, hlt, rfl, by rw [List.length_append, List.length_singleton, hyl], ⟨oI, hs₅.extBut _ _ nI1 zI, hIc, hId⟩, F₄.change hs₅ zD.2.1 zD.2.2,
            (hoC.ns zC).at' fun o e => hs₅.extBut _ _ nCD e, hs₅.extBut _ _ nKD zK, hKd₃, fun p hp => ?_, off₄, J₄⟩
          rcases List.mem_cons.mp hp with rfl | hp
          · exact ⟨hD₅.trans (congrArg some (lst_snoc ys y)), zD.2⟩
          · have z := N₄ p (.tail _ (.tail _ (.tail _ (.tail _ hp))))
            exact ⟨hs₅.extBut _ _ (off₄ p hp).2.2.2 z.1, z.2⟩
        · obtain rfl : i = its.length := Nat.le_antisymm hi (Nat.not_lt.mp hlt)
          refine W.done _ _ _ ⟨hit, hlist⟩ fun h₂ tk₂ hk₂ => ?_
          have N₂ : News h₀ L h₂ ((I + 1, lst ys) :: news') := news_but N' hk₂ fun p hp => by
            rcases List.mem_cons.mp hp with rfl | hp
            · exact Nat.ne_of_gt (Nat.lt_succ_self I)
            · exact (off' p hp).1
          have F₂ : Fr h₀ L h₂ m := fr_but F' hk₂ nLI (fresh _ (Nat.le_refl _))
          refine ⟨m', hn'.at' fun o e => hk₂ _ o (by simpa using nI2.symm) e, fun h'' hs'' => done (I + 1) ys news' h'' tk₂ hJ' (F₂.change hs'' nLC (fresh _ (Nat.le_add_right _ _))) (fun p hp => ⟨hs''.extBut _ _ ?_ (N₂ p hp).1, (N₂ p hp).2⟩) fun p hp => (off' p hp).2.2.2⟩
          rcases List.mem_cons.mp hp with rfl | hp
          · exact nCD.symm
          · exact (off' p hp).2.1
      · rcases List.mem_cons.mp hp with rfl | hp
        · exact ⟨gD, Nat.ne_of_gt (Nat.lt_of_lt_of_le hLI (Nat.le_add_right _ _)), fresh _ (Nat.le_add_right _ _)⟩
        · exact ⟨old _ _ (N p hp).1, (N p hp).2⟩
    exact codeAny_compStart_list loop (W.self 0 _ _ _ ⟨⟨_, gI, rfl, rfl⟩, hls.at fun o e => old _ _ e⟩ loop)
  subst hHK hHC hHD hHI
  exact goal _ _ _ _ _ hIe.symm sI sD (congrArg (· + 1) sD) rfl
end
end Mine
end
section
open PySem PySem.W PySem.Calls PyProof.Rows Mine
set_option maxRecDepth 100000
set_option maxHeartbeats 8000000
namespace Mine
local macro_rules | `(tactic| k_room) => `(tactic| ktr_room)
local macro_rules | `(tactic| k_units) => `(tactic| ktr_units)
local macro_rules | `(tactic| k_mem) => `(tactic| assumption)
local macro_rules | `(tactic| k_all) => `(tactic| first | assumption | exact allLt_ne (by assumption) (by omega) | exact allLt_ne (And.right (by assumption)) (by omega) | exact allLt_ne (And.right (And.right (by assumption))) (by omega) | exact allLt_ne (And.right (And.right (And.right (by assumption)))) (by omega))
local macro_rules | `(tactic| walk_at "call builtin:str.lower") => `(tactic| (k_here; refine lower_K (by first | assumption | exact Clean.low (by assumption)) ?_; intro _ _))
local macro_rules | `(tactic| walk_at "c1") => `(tactic| ((case k1 => k_asm); (case k2 => k_asm); (case k3 => k_asm); (case k4 => k_asm); (case k5 => k_asm); (case k6 => ktr_room); (case k7 => ktr_units)))
local macro_rules | `(tactic| size_fits) => `(tactic| ((try simp only [List.size_toArray, sizeLine_eq]); omega))
local macro_rules | `(tactic| walk_at "subscriptTail Name Slice ref ref") => `(tactic| (k_here; (with_reducible show wpAny _ _ (subscriptTail _ (PySem.Expr.Slice _ _ none _) (Value.ref _) (Value.ref _)) _ _ _); k_dflt (refine' kms_slice_lit ?F ?N ?l ?p ?q ?e ?_ ?s ?t ?z; (case F => k_asm); (case N => k_asm); (case l => kmk_list); (case p => kmk_part); (case q => kmk_part); (case e => exact rfl); (case s => with_unfolding_all rfl); (case t => kmk_pure); (case z => kmk_size)); intro D' h' F' N' l1; (try k_lt l1); (try simp only [List.toList_toArray, pick_all, pick_init, pick_lit] at N')))
local macro_rules | `(tactic| walk_at "call builtin:len") => `(tactic| (k_here; (refine' len_at ?q1 ?q2 ?q3 ?_); (case q1 => k_asm); (case q2 => k_mem); (case q3 => omega); intro _ _))
local macro_rules | `(tactic| walk_at "callWith ref") => `(tactic| (k_here; k_dflt (refine' callWith_F ?k1 ?_; (case k1 => exact FnAt.of (by k_asm) (by k_mem)); k_whole)))
local macro_rules | `(tactic| walk_at "callWith ref") => `(tactic| (k_here; (with_reducible show wpAny _ _ (callWith _ (Value.ref (OfNat.ofNat _)) _ (backTo _ (starEach (_ :: _) _)) (backToKw _ _)) _ _ _); k_dflt (refine' callWith_KW ?k1 ?k2 ?k3 ?_; (case k1 => k_asm); (case k2 => k_is); (case k3 => exact rfl); k_whole)))
local macro_rules | `(tactic| walk_at "callWith ref") => `(tactic| (k_here; (with_reducible show wpAny _ _ (callWith _ (Value.ref (OfNat.ofNat _)) _ (backTo _ (starEach (_ :: _) _)) []) _ _ _); k_dflt (refine' callWith_K ?k1 ?k2 ?_; (case k1 => k_asm); (case k2 => k_is); k_whole)))
local macro_rules | `(tactic| ktr_room) => `(tactic| first | exact room1 (by assumption) (by decide) | fail "room")
local macro_rules | `(tactic| ktr_units) => `(tactic| first | exact units1 (by assumption) (by decide) | fail "units")

section
open PySem PySem.W PySem.Calls PyProof.Rows Mine
set_option maxRecDepth 100000
set_option maxHeartbeats 8000000
theorem reset1 : True := by
  w_top off
  trivial
local macro_rules | `(tactic| walk_at "getMethod ref") => `(tactic| (k_here; (with_reducible show wpAny _ _ (getMethod (Value.ref _) (PySem.Str.ofString "search") _) _ _ _); k_dflt (refine' re_method_K ?F ?X ?l ?_; (case F => k_asm); (case X => k_asm); (case l => k_is))))
local macro_rules | `(tactic| walk_at "call builtin:re.Pattern.search") => `(tactic| (k_here; k_dflt (refine' re_search_K ?F ?X ?l ?c ?d ?x ?_; (case F => k_asm); (case X => k_asm); (case l => k_is); (case c => k_is); (case d => first | exact .inl (by decide +kernel) | exact .inr (by decide +kernel)); (case x => assumption))))
theorem conv (w : World) (x : Addr) (v : Str) (t : Tok) (b : Bool) (hv : Clean v) (news : List (Addr × Obj)) : C1 w (.ref 104) [.ref x, .str v t] [("name", .bool b)] 3 news (fun news' r => news = news' ∧ r = .str v t) := by
  unfold C1
  k_fill
  intro p loose mean mg mb dp un gd cn nm ig ic mr a ccd cl outer A₀ base h₀ L m s Q E B F X N T hd hu ret
  refine wpAny_call ?_
  k_dflt k_enter
  k_steps
  all_goals exact ret _ _ _ _ (by k_asm) (by k_asm) ⟨rfl, rfl⟩
end
section
open PySem PySem.W PySem.Calls PyProof.Rows Mine
set_option maxRecDepth 100000
set_option maxHeartbeats 8000000
local macro_rules | `(tactic| walk_at "pad") => `(tactic| skip)
theorem reset2 : True := by
  w_top off
  trivial
local macro_rules | `(tactic| walk_at "call ref") => `(tactic| (k_here; (with_reducible show wpAny _ _ (call (Value.ref 104) _ _) _ _ _); k_dflt (refine' C1.use (conv _ _ _ _ _ (by first | assumption | exact Clean.low (by assumption)) _) ?k1 ?k2 ?k3 ?k4 ?k5 ?k6 ?k7 ?_; walk_at "c1"; intro r9 news9 h' tk' F' N' P9; obtain ⟨e1, e2⟩ := P9; subst e1; subst e2; (try dsimp only))))
local macro_rules | `(tactic| walk_at "exec For Tuple Attribute cons nil") => `(tactic| (k_here; (with_reducible rename Fr _ _ _ _ => lF'); with_unfolding_all refine For_myF lF' ?_))
theorem hget (w : World) (x l : Addr) (vs : List Value) (n : Nat) (kvs : List (Str × Str)) (nm : Str) (t : Tok) (hn : Clean nm) (hk : CleanT kvs) (news : List (Addr × Obj)) (hT : TabIn 205 w news x l vs n kvs) :
    C1 w (.ref 152) [.ref x, .str nm t] [] 8 news (fun news' r => news = news' ∧ optV (getT kvs (lowS nm)) r) := by
  unfold C1
  k_fill
  intro p loose mean mg mb dp un gd cn nm' ig ic mr a ccd cl outer A₀ base h₀ L m s Q E B F X N T hd hu ret
  obtain ⟨⟨dx, tk, dn, hx, hdx⟩, hl, hp⟩ := hT
  refine wpAny_call ?_
  k_dflt k_enter
  k_steps
  (rename Fr _ _ _ _ => F₁); (rename News _ _ _ _ => N₁)
  refine Iter_list_my (k := n) (vs := vs) (fun i m₁ nx => (∃ t, m₁ (Str.ofString "name") = some (.str (lowS nm) t)) ∧ m₁ (Str.ofString "default") = some .none ∧ news = nx ∧ ∀ kv ∈ kvs.take i, lowS kv.1 ≠ lowS nm) rfl F₁ N₁ ?_ ?_ ?_ ?_
  · rintro i m nx ⟨-, -, rfl, -⟩; exact hl
  · exact ⟨⟨_, rfl⟩, rfl, rfl, by simp⟩
  · rintro I i v m₁ nx h tk io hv ⟨⟨tn, hm⟩, hm2, rfl, hno⟩ hI F' N'
    clear F₁ N₁
    replace F' := frPut2 F' hm hm2
    obtain ⟨q, k, v, t1, u1, rfl, hkv, hq⟩ := hp.at hv
    have hc := hk.2 (k, v) (List.mem_of_getElem? hkv)
    obtain ⟨hc1, hc2⟩ := hc
    k_steps
    · dsimp only [ForStep]
      k_steps
      (rename (lowS k == lowS nm) = true => he); (rename News _ _ _ _ => N9)
      exact ret _ _ _ _ (by k_asm) (news_drop N9 fun _ hp => .tail _ hp) ⟨rfl, by rw [getT_some hkv hno he]; exact ⟨_, rfl⟩⟩
    · (rename (lowS k == lowS nm) = false => he)
      exact ForStep.next (by k_asm) (by k_asm) (fun _ hp => hp) hI ⟨⟨_, rfl⟩, rfl, rfl, take_step hkv hno (by simpa using he)⟩
  · rintro m₁ nx h tk ⟨⟨tn, hm⟩, hm2, rfl, hno⟩ F' N'
    clear F₁ N₁
    replace F' := frPut2 F' hm hm2
    k_steps
    exact ret _ _ _ _ (by k_asm) (by k_asm) ⟨rfl, by rw [getT_none (by rw [hp.length, List.take_length] at hno; exact hno)]; rfl⟩
end
section
open PySem PySem.W PySem.Calls PyProof.Rows Mine
set_option maxRecDepth 100000
set_option maxHeartbeats 8000000
theorem reset3 : True := by
  w_top off
  trivial
local macro_rules | `(tactic| walk_at "call ref") => `(tactic| (k_here; (with_reducible show wpAny _ _ (call (Value.ref 104) _ _) _ _ _); k_dflt (refine' C1.use (conv _ _ _ _ _ (by first | assumption | exact Clean.low (by assumption)) _) ?k1 ?k2 ?k3 ?k4 ?k5 ?k6 ?k7 ?_; walk_at "c1"; intro r9 news9 h' tk' F' N' P9; obtain ⟨e1, e2⟩ := P9; subst e1; subst e2; (try dsimp only))))
local macro_rules | `(tactic| walk_at "call ref") => `(tactic| (k_here; (with_reducible show wpAny _ _ (call (Value.ref 152) _ _) _ _ _); k_dflt (refine' C1.use (hget _ _ _ _ _ _ _ _ ?c1 ?c2 _ ?c3) ?k1 ?k2 ?k3 ?k4 ?k5 ?k6 ?k7 ?_; walk_at "c1"; (case c3 => first | assumption | exact TabL.toIn (by assumption)); (case c2 => assumption); (case c1 => first | assumption | exact Clean.low (by assumption)); intro r9 news9 h' tk' F' N' P9; obtain ⟨e1, hgot⟩ := P9; subst e1; (try dsimp only); (obtain ⟨hgN, e2⟩ | ⟨v9, t9, hgS, e2⟩ := optV_cases hgot; all_goals (subst e2; clear hgot; (try dsimp only))))))
theorem hsetd (w : World) (x l : Addr) (vs : List Value) (n : Nat) (kvs : List (Str × Str)) (nm val : Str) (t u : Tok) (hn : Clean nm) (hv : Clean val) (hk : CleanT kvs) (rest : List (Addr × Obj)) (hT : TabL 205 w rest x l vs kvs) :
    C1 w (.ref 195) [.ref x, .str nm t, .str val u] [] 12 ((l, listOf vs.toArray n) :: rest) (fun news' r => ∃ vs' n' rest', news' = (l, listOf vs'.toArray n') :: rest' ∧ Grow l rest rest' ∧ TabL 205 w rest' x l vs' (setD kvs nm val) ∧ ∃ t, r = .str ((getT kvs (lowS nm)).getD val) t) := by
  unfold C1
  k_fill
  intro p loose mean mg mb dp un gd cn nm' ig ic mr a ccd cl outer A₀ base h₀ L m s Q E B F X N T hd hu ret
  obtain ⟨dx, tk, dn, hx, hdx⟩ := hT.inst
  have hoff := hT.off
  have hz : vs.length ≤ 100 := by rw [hT.pairs.length]; exact hk.1
  refine wpAny_call ?_
  k_dflt k_enter
  k_steps
  · (rename getT kvs (lowS nm) = none => hg); (rename News _ _ _ _ => N9); (rename _ ∧ AllLt _ rest => hl1)
    obtain ⟨hl1, hl2⟩ := hl1
    exact ret _ _ _ _ (by k_asm) (news_drop N9 (news := (l, _) :: (_, _) :: rest) (fun p hp => by
      rcases List.mem_cons.mp hp with rfl | hp
      · exact .tail _ (.head _)
      · rcases List.mem_cons.mp hp with rfl | hp
        · exact .head _
        · exact .tail _ (.tail _ hp))) ⟨vs ++ [_], _, _, by rw [List.push_toArray], Grow.one hl1 (allLt_mem hl2), by rw [setD_none hg]; exact hT.snoc hl1, _, by rw [hg]; rfl⟩
  · (rename getT kvs (lowS nm) = some _ => hg); (rename News _ _ _ _ => N9)
    exact ret _ _ _ _ (by k_asm) N9 ⟨_, _, _, rfl, Grow.refl _ _, by rw [setD_some hg]; exact hT, _, by rw [hg]; rfl⟩
end
section
open PySem PySem.W PySem.Calls PyProof.Rows Mine
set_option maxRecDepth 100000
set_option maxHeartbeats 8000000
theorem reset4 : True := by
  w_top off
  trivial
local macro_rules | `(tactic| walk_at "call ref") => `(tactic| (k_here; (with_reducible show wpAny _ _ (call (Value.ref 104) _ _) _ _ _); k_dflt (refine' C1.use (conv _ _ _ _ _ (by first | assumption | exact Clean.low (by assumption)) _) ?k1 ?k2 ?k3 ?k4 ?k5 ?k6 ?k7 ?_; walk_at "c1"; intro r9 news9 h' tk' F' N' P9; obtain ⟨e1, e2⟩ := P9; subst e1; subst e2; (try dsimp only))))
local macro_rules | `(tactic| walk_at "setItem ref ref ref") => `(tactic| (k_here; (with_reducible rename Fr _ _ _ _ => F'); (with_reducible rename News _ _ _ _ => N'); (refine' setItem_all_K (s := ⟨_, _, _, _, _⟩) F' N' ?u ?d ?ne ?z1 ?z2 ?_; (case u => k_updF); (case d => k_mem); (case ne => k_ne); (case z1 => ((try simp only [List.size_toArray]); omega)); (case z2 => ((try simp only [List.size_toArray]); omega))); intro h' n' F' N'; (try dsimp only at N')))
local macro_rules | `(tactic| walk_at "eval ListComp") => `(tactic| (k_here; k_dflt (refine LCt.ListComp_T (F₀ := by k_asm) (by with_unfolding_all rfl) (by decide) (by rfl) (by decide) (by rfl) ?_)))
local macro_rules | `(tactic| walk_at "CompSrcT") => `(tactic| refine Hold.out ?_)
theorem hdel (w : World) (x l : Addr) (vs : List Value) (n : Nat) (kvs : List (Str × Str)) (nm : Str) (t : Tok) (hn : Clean nm) (hk : CleanT kvs) (rest : List (Addr × Obj)) (hT : TabL 205 w rest x l vs kvs) :
    C1 w (.ref 123) [.ref x, .str nm t] [] 8 ((l, listOf vs.toArray n) :: rest) (fun news' r => ∃ vs' n' rest', news' = (l, listOf vs'.toArray n') :: rest' ∧ Grow l rest rest' ∧ TabL 205 w rest' x l vs' (kvs.filter fun kv => lowS kv.1 != lowS nm) ∧ vs'.length ≤ vs.length ∧ r = .none) := by
  unfold C1
  k_fill
  intro p loose mean mg mb dp un gd cn nm' ig ic mr a ccd cl outer A₀ base h₀ L m s Q E B F X N T hd hu ret
  obtain ⟨dx, tk, dn, hx, hdx⟩ := hT.inst
  have hoff := hT.off
  have hz : vs.length ≤ 100 := by rw [hT.pairs.length]; exact hk.1
  refine wpAny_call ?_
  k_dflt k_enter
  k_steps
  unfold Hold
  (rename Fr _ _ _ _ => F₁); (rename News _ _ _ _ => N₁)
  obtain ⟨X₁, hX⟩ := newsName N₁
  refine LCt.CompSrcT.ledger (by rfl) F₁ N₁ (by k_mem) (by size_fits) ?_
  intro g'
  refine compT_inv (n := vs.toArray.size) (fun i ys nx => nx = X₁ ∧ PairsIn rest ys ((kvs.take i).filter fun kv => lowS kv.1 != lowS nm)) ?_ ?_ _ _ _ _ (Nat.zero_add _) ⟨hX, by simpa using PairsIn.nil⟩
  · rintro i v ys nx I oI C oC D m₂ h tk E' hi hv ⟨rfl, hys⟩ hC hx F' N' off ne
    subst hX
    obtain ⟨q, k, v, t1, u1, rfl, hkv, hq⟩ := hT.pairs.at (by simpa using hv)
    have hc := hk.2 (k, v) (List.mem_of_getElem? hkv)
    obtain ⟨hc1, hc2⟩ := hc
    clear F₁ N₁
    k_steps
    · (rename (lowS k != lowS nm) = true => he)
      exact LCg.CompEnd.intro (by k_asm) N' _ (fun _ hp => hp) off (.inr ⟨_, by k_mem, rfl, _, rfl⟩) ⟨rfl, by rw [filter_take_yes hkv he]; exact hys.snoc hq⟩
    · (rename (lowS k != lowS nm) = false => he)
      exact LCg.CompEnd.intro (by k_asm) N' _ (fun _ hp => hp) off (.inr ⟨_, by k_mem, rfl, _, rfl⟩) ⟨rfl, by rw [filter_take_no hkv he]; exact hys⟩
  · rintro ys nx ⟨rfl, hys⟩
    subst hX
    clear F₁ N₁
    rw [show vs.toArray.size = kvs.length from by simp [hT.pairs.length], List.take_length] at hys
    have hz2 : ys.length ≤ 100 := by rw [hys.length]; exact Nat.le_trans (List.length_filter_le _ _) hk.1
    k_steps
    (rename News _ _ _ _ => N9)
    exact ret _ _ _ _ (by k_asm) (news_drop N9 fun _ hp => .tail _ (.tail _ hp)) ⟨_, _, rest, rfl, Grow.refl _ _, ⟨hT.inst, hys, hT.off⟩, by rw [hys.length, hT.pairs.length]; exact List.length_filter_le _ _, rfl⟩
end
section
open PySem PySem.W PySem.Calls PyProof.Rows Mine
set_option maxRecDepth 100000
set_option maxHeartbeats 8000000
theorem reset5 : True := by
  w_top off
  trivial
local macro_rules | `(tactic| walk_at "call ref") => `(tactic| (k_here; (with_reducible show wpAny _ _ (call (Value.ref 104) _ _) _ _ _); k_dflt (refine' C1.use (conv _ _ _ _ _ (by first | assumption | exact Clean.low (by assumption)) _) ?k1 ?k2 ?k3 ?k4 ?k5 ?k6 ?k7 ?_; walk_at "c1"; intro r9 news9 h' tk' F' N' P9; obtain ⟨e1, e2⟩ := P9; subst e1; subst e2; (try dsimp only))))
local macro_rules | `(tactic| walk_at "call ref") => `(tactic| (k_here; (with_reducible show wpAny _ _ (call (Value.ref 123) _ _) _ _ _); k_dflt (refine' C1.use (hdel _ _ _ _ _ _ _ _ ?c1 ?c2 _ ?c3) ?k1 ?k2 ?k3 ?k4 ?k5 ?k6 ?k7 ?_; walk_at "c1"; (case c3 => assumption); (case c2 => assumption); (case c1 => first | assumption | exact Clean.low (by assumption)); intro r9 news9 h' tk' F' N' P9; obtain ⟨vs9, n9, rest9, e1, hgrow, hT9, hz9, e2⟩ := P9; subst e1; subst e2; (have hoff9 := hT9.off); (obtain ⟨dx9, tk9, dn9, hx9, hdx9⟩ := hT9.inst); (try dsimp only))))
local macro_rules | `(tactic| walk_at "delItem ref") => `(tactic| (k_here; k_dflt (refine' delItem_inst ?k1 ?k2 ?k3 ?k4 ?k5 ?k6 ?_; (case k1 => k_asm); (case k2 => k_asm); (case k3 => k_inst); (case k4 => k_is); (case k5 => k_is); (case k6 => k_is))))
theorem hset (w : World) (x l : Addr) (vs : List Value) (n : Nat) (kvs : List (Str × Str)) (nm val : Str) (t u : Tok) (hn : Clean nm) (hv : Clean val) (hk : CleanT kvs) (rest : List (Addr × Obj)) (hT : TabL 205 w rest x l vs kvs) :
    C1 w (.ref 118) [.ref x, .str nm t, .str val u] [] 14 ((l, listOf vs.toArray n) :: rest) (fun news' r => ∃ vs' n' rest', news' = (l, listOf vs'.toArray n') :: rest' ∧ Grow l rest rest' ∧ TabL 205 w rest' x l vs' ((kvs.filter fun kv => lowS kv.1 != lowS nm) ++ [(nm, val)]) ∧ r = .none) := by
  unfold C1
  k_fill
  intro p loose mean mg mb dp un gd cn nm' ig ic mr a ccd cl outer A₀ base h₀ L m s Q E B F X N T hd hu ret
  obtain ⟨dx, tk, dn, hx, hdx⟩ := hT.inst
  have hoff := hT.off
  have hz : vs.length ≤ 100 := by rw [hT.pairs.length]; exact hk.1
  refine wpAny_call ?_
  k_dflt k_enter
  k_steps
  (rename News _ _ _ _ => N9); (rename _ ∧ AllLt _ _ => hl1); (rename Grow _ _ _ => hg); (rename TabL _ _ _ _ _ _ (List.filter _ _) => hT9)
  obtain ⟨hl1, hl2⟩ := hl1
  exact ret _ _ _ _ (by k_asm) (news_drop N9 (news := (l, _) :: (_, _) :: _) (fun p hp => by
      rcases List.mem_cons.mp hp with rfl | hp
      · exact .tail _ (.head _)
      · rcases List.mem_cons.mp hp with rfl | hp
        · exact .head _
        · exact .tail _ (.tail _ hp))) ⟨_ ++ [_], _, _, by rw [List.push_toArray], hg.trans (Grow.one hl1 (allLt_mem hl2)), hT9.snoc hl1, rfl⟩
end
section
open PySem PySem.W PySem.Calls PyProof.Rows Mine
set_option maxRecDepth 100000
set_option maxHeartbeats 8000000
theorem reset6 : True := by
  w_top off
  trivial
theorem hitems (w : World) (x l : Addr) (vs : List Value) (n : Nat) (kvs : List (Str × Str)) (hk : CleanT kvs) (rest : List (Addr × Obj)) (hT : TabL 205 w rest x l vs kvs) :
    C1 w (.ref 169) [.ref x] [] 4 ((l, listOf vs.toArray n) :: rest) (fun news' r => ∃ q, news' = (q, listOf vs.toArray 0) :: (l, listOf vs.toArray n) :: rest ∧ l < q ∧ AllLt q rest ∧ r = .ref q) := by
  unfold C1
  k_fill
  intro p loose mean mg mb dp un gd cn nm' ig ic mr a ccd cl outer A₀ base h₀ L m s Q E B F X N T hd hu ret
  obtain ⟨dx, tk, dn, hx, hdx⟩ := hT.inst
  have hoff := hT.off
  have hz : vs.length ≤ 100 := by rw [hT.pairs.length]; exact hk.1
  refine wpAny_call ?_
  k_dflt k_enter
  k_steps
  (rename _ ∧ AllLt _ _ => hl1)
  exact ret _ _ _ _ (by k_asm) (by k_asm) ⟨_, rfl, hl1.1, hl1.2, rfl⟩
end
section
open PySem PySem.W PySem.Calls PyProof.Rows Mine
set_option maxRecDepth 100000
set_option maxHeartbeats 8000000
theorem reset7 : True := by
  w_top off
  trivial
local macro_rules | `(tactic| walk_at "exec While Name cons nil") => `(tactic| refine Hold.out ?_)
local macro_rules | `(tactic| walk_at "subscriptTail") => `(tactic| (k_here; (with_reducible show wpAny _ _ (subscriptTail _ (Expr.Slice _ _ none _) (Value.bytes _ _) (Value.ref _)) _ _ _); (with_reducible rename Fr _ _ _ _ => F'); (with_reducible rename News _ _ _ _ => N'); (refine ap_slice_K (s := ⟨_, _, _, _, _⟩) F' N' (fmod_lo _ (by decide)) (fmod_hi _ (by decide)) ?_); intro _ _ _ F' N'))
local macro_rules | `(tactic| walk_at "binaryOp Add bytes bytes") => `(tactic| (k_here; (refine KBy.add_bytes ?z ?_); (case z => ((try simp only [List.size_toArray, List.length_cons, List.length_nil]); omega)); intro _ _))
theorem int2ap (w : World) (n : Int) (t : Tok) (hn : n.natAbs < 16 ^ 16) (news : List (Addr × Obj)) : C1 w (.ref 72) [.int n t] [] 3 news (fun news' r => news = news' ∧ ∃ t, r = .bytes (apB n.natAbs) t) := by
  unfold C1
  k_fill
  intro p loose mean mg mb dp un gd cn nm ig ic mr a ccd cl outer A₀ base h₀ L m s Q E B F X N T hd hu ret
  refine wpAny_call ?_
  k_dflt k_enter
  k_steps
  unfold Hold
  (rename Fr _ _ _ _ => F₁); (rename News _ _ _ _ => N₁)
  refine While_inv2 (n₀ := n.natAbs) (fun k m₁ nx => (∃ t, m₁ (Str.ofString "num") = some (.int (k : Int) t)) ∧ (∃ t, m₁ (Str.ofString "AP") = some (.bytes apBytes t)) ∧ (∃ v t, m₁ (Str.ofString "val") = some (.bytes v t) ∧ apB k ++ v = apB n.natAbs) ∧ news = nx) F₁ N₁ ?_ ?_
  · have e : (if n < 0 then -n else n) = ((n.natAbs : Nat) : Int) := by split <;> omega
    refine ⟨⟨?t1, ?h1⟩, ⟨?t2, ?h2⟩, ⟨#[], ?t3, ?h3, ?h4⟩, rfl⟩
    case h1 => rw [← e]; exact rfl
    case h2 => exact rfl
    case h3 => exact rfl
    case h4 => simp
  · rintro k m₁ nx h tk F' N' ⟨⟨t1, hm1⟩, ⟨t2, hm2⟩, ⟨v, t3, hm3, hval⟩, rfl⟩
    clear F₁ N₁
    have hv := ap_size_le hval (apB_size hn)
    replace F' := frPut3 F' hm1 hm2 hm3
    k_steps
    · (rename (k : Int) ≠ 0 => h0); (rename News _ _ _ _ => N9)
      refine ⟨_, _, _, news, k / 16, rfl, by k_asm, news_drop N9 (fun _ hp => .tail _ hp), by omega, ⟨?b1, ?g1⟩, ⟨?b2, ?g2⟩, ⟨_, ?b3, ?g3, ap_step h0 hval⟩, rfl⟩
      case g1 => rw [← ap_div]; exact rfl
      case g2 => exact rfl
      case g3 => exact rfl
    · (rename (k : Int) = 0 => h0)
      have : k = 0 := by omega
      subst this
      rw [apB_zero] at hval
      exact ret _ _ _ _ (by k_asm) (by k_asm) ⟨rfl, t3, by rw [← hval]; simp⟩
end
section
open PySem PySem.W PySem.Calls PyProof.Rows Mine
set_option maxRecDepth 100000
set_option maxHeartbeats 8000000
theorem reset8 : True := by
  w_top off
  trivial
local macro_rules | `(tactic| walk_at "exec While Compare cons nil") => `(tactic| refine Hold.out ?_)
local macro_rules | `(tactic| walk_at "subscriptTail Name Name ref int") => `(tactic| refine Hold.out ?_)
local macro_rules | `(tactic| walk_at "call ref") => `(tactic| refine Hold.out ?_)
local macro_rules | `(tactic| walk_at "compareOp Lt") => `(tactic| refine Hold.out ?_)
def loTok : List Value → Tok
  | [_, _, .int _ t, _] => t
  | _ => 304
theorem bis_b {lo hi : Nat} (h : lo < hi) : lo ≤ (lo + hi) / 2 ∧ (lo + hi) / 2 < hi := ⟨by omega, by omega⟩
theorem bis_lt {lo hi : Nat} (h : (lo : Int) < (hi : Int)) : lo < hi := Int.ofNat_lt.mp h
theorem bis_63 {m : Nat} (h : m < 1000) : (m : Int) < 2 ^ 63 := by omega
theorem bis_mid {lo hi n : Nat} (h : (lo : Int) < (hi : Int)) (hn : hi ≤ n) (hz : n ≤ 1000) : lo < hi ∧ (lo + hi) / 2 < n ∧ (0 : Int) ≤ (((lo + hi) / 2 : Nat) : Int) ∧ (((lo + hi) / 2 : Nat) : Int) < 2 ^ 63 ∧ lo < (lo + hi) / 2 + 1 :=
  have h1 := bis_lt h
  have hb := bis_b h1
  ⟨h1, Nat.lt_of_lt_of_le hb.2 hn, Int.natCast_nonneg _, bis_63 (Nat.lt_of_lt_of_le hb.2 (Nat.le_trans hn hz)), Nat.lt_succ_of_le hb.1⟩
theorem bis_sz {a b sz sz' : Nat} (h : a < b) (hs : sz + b ≤ 5000) (h1 : sz' ≤ sz + 1) : sz' + a ≤ 5000 := by omega
theorem bis_low {lo hi n f sz sz' : Nat} (h : lo < hi) (hn : hi ≤ n) (hf : hi - lo ≤ f + 1) (hs : sz + (hi - lo) ≤ 5000) (h1 : sz' ≤ sz + 1) : (lo + hi) / 2 - lo < hi - lo ∧ (lo + hi) / 2 - lo ≤ f ∧ lo ≤ (lo + hi) / 2 ∧ (lo + hi) / 2 ≤ n ∧ sz' + ((lo + hi) / 2 - lo) ≤ 5000 :=
  have hb := bis_b h
  have e : (lo + hi) / 2 - lo < hi - lo := Nat.sub_lt_sub_right hb.1 hb.2
  ⟨e, Nat.le_of_lt_succ (Nat.lt_of_lt_of_le e hf), hb.1, Nat.le_trans (Nat.le_of_lt hb.2) hn, bis_sz e hs h1⟩
theorem bis_up {lo hi n f sz sz' : Nat} (h : lo < hi) (_hn : hi ≤ n) (hf : hi - lo ≤ f + 1) (hs : sz + (hi - lo) ≤ 5000) (h1 : sz' ≤ sz + 1) : hi - ((lo + hi) / 2 + 1) < hi - lo ∧ hi - ((lo + hi) / 2 + 1) ≤ f ∧ (lo + hi) / 2 + 1 ≤ hi ∧ sz' + (hi - ((lo + hi) / 2 + 1)) ≤ 5000 :=
  have hb := bis_b h
  have e : hi - ((lo + hi) / 2 + 1) < hi - lo := Nat.sub_lt_sub_left h (Nat.lt_succ_of_le hb.1)
  ⟨e, Nat.le_of_lt_succ (Nat.lt_of_lt_of_le e hf), hb.2, bis_sz e hs h1⟩
theorem bis_fuel {lo hi f : Nat} (h : lo < hi) (hf : hi - lo ≤ f) : ∃ f', f = f' + 1 := ⟨f - 1, by omega⟩
theorem bisr (w : World) (q l : Addr) (x : Value) (vs : List Value) (n need : Nat) {σ : Type} (led : σ → List (Addr × Obj)) (sz : σ → Nat) (test : Nat → Bool) (nx : σ → Nat → σ) (K : KeyC w q x true l vs n need led sz test nx) (hz : vs.length ≤ 1000) (st : σ) (hsz : sz st + vs.length ≤ 5000) (args : List Value) (hargs : args = [.ref l, x] ∨ ∃ t, args = [.ref l, x, .int 0 t, .none]) :
    C1 w (.ref 56) args [("key", .ref q)] (need + 4) (led st) (fun news' r => led (bisRun true test nx vs.length 0 vs.length st).2 = news' ∧ ∃ t, r = .int ((bisRun true test nx vs.length 0 vs.length st).1 : Nat) t) := by
  unfold C1
  k_fill
  intro p loose mean mg mb dp un gd cn nm' ig ic mr a ccd cl outer A₀ base h₀ L m s Q E B F X N T hd hu ret
  have hlist := K.list st
  refine wpAny_call ?_
  k_dflt (refine' code_def (binds := [(Str.ofString "a", .ref l), (Str.ofString "x", x), (Str.ofString "lo", .int 0 (loTok args)), (Str.ofString "hi", .none), (Str.ofString "key", .ref q)]) ?k1 ?k2 ?k3 ?k4 ?k5 ?kA ?kF ?kK ?k6 ?k7 ?k8 ?k9 ?kB ?_ ?c2 ?c3 ?c4 ?c5)
  case kA => exact rfl
  case kF => exact rfl
  case kK => exact rfl
  case k1 => k_asm
  case k2 => k_asm
  case k3 => k_asm
  case k4 => k_asm
  case k5 => k_asm
  case k6 => k_is
  case k7 => k_is
  case k8 => k_room
  case k9 =>
    rcases hargs with rfl | ⟨t0, rfl⟩
    · first | exact BindsTo.of_eq rfl | exact binds_K (by k_in) rfl (by k_is) rfl rfl rfl
    · first | exact BindsTo.of_eq rfl | exact binds_K (by k_in) rfl (by k_is) rfl rfl rfl
  case c5 => decide
  case kB => exact locs rfl
  case c2 => exact rfl
  case c3 => exact rfl
  case c4 => exact rfl
  clear hargs
  intro g' L' h' FG' F' N' B' X' T'
  (try dsimp only)
  (try k_fold)
  k_steps
  unfold Hold
  (rename Fr _ _ _ _ => F₁); (rename News _ _ _ _ => N₁)
  refine While_inv2 (n₀ := vs.length) (fun k m₁ nx' => ∃ lo hi st' f, (∃ t, m₁ (Str.ofString "lo") = some (.int ((lo : Nat) : Int) t)) ∧ (∃ t, m₁ (Str.ofString "hi") = some (.int ((hi : Nat) : Int) t)) ∧ m₁ (Str.ofString "a") = some (.ref l) ∧ m₁ (Str.ofString "x") = some x ∧ m₁ (Str.ofString "key") = some (.ref q) ∧ led st' = nx' ∧
    k = hi - lo ∧ k ≤ f ∧ lo ≤ hi ∧ hi ≤ vs.length ∧ sz st' + (hi - lo) ≤ 5000 ∧ bisRun true test nx f lo hi st' = bisRun true test nx vs.length 0 vs.length st) F₁ N₁ ⟨0, vs.length, st, vs.length, ⟨_, rfl⟩, ⟨_, rfl⟩, rfl, rfl, rfl, rfl, rfl, Nat.le_refl _, Nat.zero_le _, Nat.le_refl _, by omega, rfl⟩ ?_
  rintro k m₁ nx' h tk F' N' ⟨lo, hi, st', f, ⟨t1, hm1⟩, ⟨t2, hm2⟩, hm3, hm4, hm5, rfl, rfl, hf, hlh, hhi, hsz', hrun⟩
  clear F₁ N₁
  replace F' := frPut5 F' hm1 hm2 hm3 hm4 hm5
  have hlist' := K.list st'
  obtain ⟨oc, od, fd, sl, hfn⟩ := K.fn st'
  k_steps
  · unfold Hold
    (rename Fr _ _ _ _ => F'); (rename News _ _ _ _ => N'); (rename (lo : Int) < (hi : Int) => hlt)
    simp only [mid_eq] at F' ⊢
    obtain ⟨hl1, hl2, hl3, hl4, hl5⟩ := bis_mid hlt hhi hz
    obtain ⟨v, hv⟩ : ∃ v, vs[(lo + hi) / 2]? = some v := ⟨vs[(lo + hi) / 2]'hl2, List.getElem?_eq_getElem _⟩
    refine item_at N' hlist' hl3 hl4 (by rw [Int.toNat_natCast]; exact hv) ?_
    k_steps
    unfold Hold
    refine' C1.use (K.call st' _ v hv (Nat.le_trans (Nat.le_add_right _ _) hsz')) ?k1 ?k2 ?k3 ?k4 ?k5 ?k6 ?k7 ?_
    walk_at "c1"
    intro r9 news9 h9 tk9 F9 N9 P9
    obtain ⟨e1, hcmp⟩ := P9
    subst e1
    k_steps
    unfold Hold
    refine hcmp.right fun k9 => ?_
    k_steps
    · (rename test ((lo + hi) / 2) = true => ht)
      obtain ⟨f, rfl⟩ := bis_fuel hl1 hf
      obtain ⟨b1, b2, b3, b4, b5⟩ := bis_low hl1 hhi hf hsz' (K.step st' ((lo + hi) / 2))
      refine ⟨_, _, _, _, (lo + hi) / 2 - lo, rfl, by k_asm, by k_asm, b1, lo, (lo + hi) / 2, nx st' ((lo + hi) / 2), f, ⟨_, rfl⟩, ⟨_, rfl⟩, rfl, rfl, rfl, rfl, rfl, b2, b3, b4, b5, ?_⟩
      rw [← hrun, bisRun_yes hl1 (by rw [ht]; rfl)]
    · (rename test ((lo + hi) / 2) = false => ht)
      obtain ⟨f, rfl⟩ := bis_fuel hl1 hf
      obtain ⟨b1, b2, b3, b5⟩ := bis_up hl1 hhi hf hsz' (K.step st' ((lo + hi) / 2))
      (rename Fr _ _ _ _ => F'); simp only [mid_one] at F'
      refine ⟨_, _, _, _, hi - ((lo + hi) / 2 + 1), rfl, F', by k_asm, b1, (lo + hi) / 2 + 1, hi, nx st' ((lo + hi) / 2), f, ⟨_, rfl⟩, ⟨_, rfl⟩, rfl, rfl, rfl, rfl, rfl, b2, b3, hhi, b5, ?_⟩
      rw [← hrun, bisRun_no hl1 (by rw [ht]; rfl)]
  · (rename ¬ ((lo : Int) < (hi : Int)) => hlt)
    rw [bisRun_done (by omega)] at hrun
    exact ret _ _ _ _ (by k_asm) (by k_asm) ⟨by rw [← hrun], _, by rw [← hrun]⟩
end
section
open PySem PySem.W PySem.Calls PyProof.Rows Mine
set_option maxRecDepth 100000
set_option maxHeartbeats 8000000
local macro_rules | `(tactic| walk_at "pad") => `(tactic| skip)
theorem reset9 : True := by
  w_top off
  trivial
local macro_rules | `(tactic| walk_at "exec While Compare cons nil") => `(tactic| refine Hold.out ?_)
local macro_rules | `(tactic| walk_at "subscriptTail Name Name ref int") => `(tactic| refine Hold.out ?_)
local macro_rules | `(tactic| walk_at "call ref") => `(tactic| refine Hold.out ?_)
local macro_rules | `(tactic| walk_at "compareOp Lt") => `(tactic| refine Hold.out ?_)
theorem bisl (w : World) (q l : Addr) (x : Value) (vs : List Value) (n need : Nat) {σ : Type} (led : σ → List (Addr × Obj)) (sz : σ → Nat) (test : Nat → Bool) (nx : σ → Nat → σ) (K : KeyC w q x false l vs n need led sz test nx) (hz : vs.length ≤ 1000) (st : σ) (hsz : sz st + vs.length ≤ 5000) :
    C1 w (.ref 65) [.ref l, x] [("key", .ref q)] (need + 4) (led st) (fun news' r => led (bisRun false test nx vs.length 0 vs.length st).2 = news' ∧ ∃ t, r = .int ((bisRun false test nx vs.length 0 vs.length st).1 : Nat) t) := by
  unfold C1
  k_fill
  intro p loose mean mg mb dp un gd cn nm' ig ic mr a ccd cl outer A₀ base h₀ L m s Q E B F X N T hd hu ret
  have hlist := K.list st
  all_goals
    refine wpAny_call ?_
    k_dflt k_enter
    k_steps
    unfold Hold
    (rename Fr _ _ _ _ => F₁); (rename News _ _ _ _ => N₁)
    refine While_inv2 (n₀ := vs.length) (fun k m₁ nx' => ∃ lo hi st' f, (∃ t, m₁ (Str.ofString "lo") = some (.int ((lo : Nat) : Int) t)) ∧ (∃ t, m₁ (Str.ofString "hi") = some (.int ((hi : Nat) : Int) t)) ∧ m₁ (Str.ofString "a") = some (.ref l) ∧ m₁ (Str.ofString "x") = some x ∧ m₁ (Str.ofString "key") = some (.ref q) ∧ led st' = nx' ∧
      k = hi - lo ∧ k ≤ f ∧ lo ≤ hi ∧ hi ≤ vs.length ∧ sz st' + (hi - lo) ≤ 5000 ∧ bisRun false test nx f lo hi st' = bisRun false test nx vs.length 0 vs.length st) F₁ N₁ ⟨0, vs.length, st, vs.length, ⟨_, rfl⟩, ⟨_, rfl⟩, rfl, rfl, rfl, rfl, rfl, Nat.le_refl _, Nat.zero_le _, Nat.le_refl _, by omega, rfl⟩ ?_
    rintro k m₁ nx' h tk F' N' ⟨lo, hi, st', f, ⟨t1, hm1⟩, ⟨t2, hm2⟩, hm3, hm4, hm5, rfl, rfl, hf, hlh, hhi, hsz', hrun⟩
    clear F₁ N₁
    replace F' := frPut5 F' hm1 hm2 hm3 hm4 hm5
    have hlist' := K.list st'
    obtain ⟨oc, od, fd, sl, hfn⟩ := K.fn st'
    k_steps
    · unfold Hold
      (rename Fr _ _ _ _ => F'); (rename News _ _ _ _ => N'); (rename (lo : Int) < (hi : Int) => hlt)
      simp only [mid_eq] at F' ⊢
      obtain ⟨hl1, hl2, hl3, hl4, hl5⟩ := bis_mid hlt hhi hz
      obtain ⟨v, hv⟩ : ∃ v, vs[(lo + hi) / 2]? = some v := ⟨vs[(lo + hi) / 2]'hl2, List.getElem?_eq_getElem _⟩
      refine item_at N' hlist' hl3 hl4 (by rw [Int.toNat_natCast]; exact hv) ?_
      k_steps
      unfold Hold
      refine' C1.use (K.call st' _ v hv (Nat.le_trans (Nat.le_add_right _ _) hsz')) ?k1 ?k2 ?k3 ?k4 ?k5 ?k6 ?k7 ?_
      walk_at "c1"
      intro r9 news9 h9 tk9 F9 N9 P9
      obtain ⟨e1, hcmp⟩ := P9
      subst e1
      k_steps
      unfold Hold
      refine hcmp.left fun k9 => ?_
      k_steps
      · (rename test ((lo + hi) / 2) = true => ht)
        obtain ⟨f, rfl⟩ := bis_fuel hl1 hf
        obtain ⟨b1, b2, b3, b5⟩ := bis_up hl1 hhi hf hsz' (K.step st' ((lo + hi) / 2))
        (rename Fr _ _ _ _ => F'); simp only [mid_one] at F'
        refine ⟨_, _, _, _, hi - ((lo + hi) / 2 + 1), rfl, F', by k_asm, b1, (lo + hi) / 2 + 1, hi, nx st' ((lo + hi) / 2), f, ⟨_, rfl⟩, ⟨_, rfl⟩, rfl, rfl, rfl, rfl, rfl, b2, b3, hhi, b5, ?_⟩
        rw [← hrun, bisRun_no hl1 (by rw [ht]; rfl)]
      · (rename test ((lo + hi) / 2) = false => ht)
        obtain ⟨f, rfl⟩ := bis_fuel hl1 hf
        obtain ⟨b1, b2, b3, b4, b5⟩ := bis_low hl1 hhi hf hsz' (K.step st' ((lo + hi) / 2))
        refine ⟨_, _, _, _, (lo + hi) / 2 - lo, rfl, by k_asm, by k_asm, b1, lo, (lo + hi) / 2, nx st' ((lo + hi) / 2), f, ⟨_, rfl⟩, ⟨_, rfl⟩, rfl, rfl, rfl, rfl, rfl, b2, b3, b4, b5, ?_⟩
        rw [← hrun, bisRun_yes hl1 (by rw [ht]; rfl)]
    · (rename ¬ ((lo : Int) < (hi : Int)) => hlt)
      rw [bisRun_done (by omega)] at hrun
      exact ret _ _ _ _ (by k_asm) (by k_asm) ⟨by rw [← hrun], _, by rw [← hrun]⟩
end
section
open PySem PySem.W PySem.Calls PyProof.Rows Mine
set_option maxRecDepth 100000
set_option maxHeartbeats 8000000
theorem reset10 : True := by
  w_top off
  trivial
local macro_rules | `(tactic| walk_at "call builtin:list.insert") => `(tactic| refine Hold.out ?_)
local macro_rules | `(tactic| walk_at "call ref") => `(tactic| refine Hold.out ?_)
theorem insort (w : World) (q l : Addr) (x : Value) (vs : List Value) (n need : Nat) (rest : List (Addr × Obj)) (test : Nat → Bool) (hz : vs.length ≤ 1000) (hoff : ∀ p ∈ rest, p.1 ≠ l) (hfn : ∃ oc od fd sl, (q, (⟨oc, od, .func fd, sl⟩ : Obj)) ∈ rest)
    (hx : C1 w (.ref q) [x] [] need ((l, listOf vs.toArray n) :: rest) (fun news' r => (l, listOf vs.toArray n) :: rest = news' ∧ KeyC w q r true l vs n need (fun _ : Unit => (l, listOf vs.toArray n) :: rest) (fun _ => 0) test (fun _ _ => ()))) :
    C1 w (.ref 47) [.ref l, x] [("key", .ref q)] (need + 8) ((l, listOf vs.toArray n) :: rest) (fun news' r => (l, listOf (vs.insertIdx (bisRun true test (fun _ _ => ()) vs.length 0 vs.length ()).1 x).toArray (n + 1)) :: rest = news' ∧ r = .none) := by
  unfold C1
  k_fill
  intro p loose mean mg mb dp un gd cn nm' ig ic mr a ccd cl outer A₀ base h₀ L m s Q E B F X N T hd hu ret
  obtain ⟨oc, od, fd, sl, hfn⟩ := hfn
  refine wpAny_call ?_
  k_dflt k_enter
  k_steps
  unfold Hold
  refine' C1.use hx ?k1 ?k2 ?k3 ?k4 ?k5 ?k6 ?k7 ?_
  walk_at "c1"
  intro r9 news9 h9 tk9 F9 N9 P9
  obtain ⟨e1, hK⟩ := P9
  subst e1
  k_steps
  unfold Hold
  refine' C1.use (bisr w q l r9 vs n need (fun _ : Unit => (l, listOf vs.toArray n) :: rest) (fun _ => 0) test _ hK hz () (by show 0 + _ ≤ _; omega) [.ref l, r9, .int 0 291, .none] (.inr ⟨291, rfl⟩)) ?j1 ?j2 ?j3 ?j4 ?j5 ?j6 ?j7 ?_
  case j1 => k_asm
  case j2 => k_asm
  case j3 => k_asm
  case j4 => k_asm
  case j5 => k_asm
  case j6 => ktr_room
  case j7 => ktr_units
  intro r8 news8 h8 tk8 F8 N8 P8
  obtain ⟨e1, t8, e2⟩ := P8
  subst e1
  subst e2
  k_steps
  unfold Hold
  (rename Fr _ _ _ _ => F'); (rename News _ _ _ _ => N')
  have hle := bisRun_le (right := true) (test := test) (nx := fun (_ : Unit) _ => ()) vs.length 0 vs.length () (Nat.zero_le _)
  refine kl_insert F' N' ?a1 (kl_ins_at hle) (Upd.head hoff) ?a2 ?_
  case a1 => exact fits_nat (by omega)
  case a2 => simp only [sizeLine_eq]; omega
  intro h' F' N'
  k_steps
  exact ret _ _ _ _ (by k_asm) (by k_asm) ⟨rfl, rfl⟩
end
section
open PySem PySem.W PySem.Calls PyProof.Rows Mine
set_option maxRecDepth 100000
set_option maxHeartbeats 8000000
theorem reset11 : True := by
  w_top off
  trivial
local macro_rules | `(tactic| walk_at "exec Assign cons ListComp") => `(tactic| (k_here; k_dflt (refine LCg.Assign_ListComp_U (F₀ := by k_asm) (by rfl) (by with_unfolding_all rfl) (by with_unfolding_all rfl) (by decide) (by rfl) (by decide) (by rfl) (by rfl) (by rfl) ?_)))
local macro_rules | `(tactic| walk_at "eval ListComp") => `(tactic| (k_here; k_dflt (refine LCg.ListComp_U (F₀ := by k_asm) (by with_unfolding_all rfl) (by decide) (by rfl) (by decide) (by rfl) ?_)))
local macro_rules | `(tactic| walk_at "CompSrc") => `(tactic| refine Hold.out ?_)
local macro_rules | `(tactic| walk_at "exec For Name Name cons nil") => `(tactic| (k_here; (with_reducible rename Fr _ _ _ _ => lF'); with_unfolding_all refine For_myF lF' ?_))
local macro_rules | `(tactic| walk_at "pyIter ref") => `(tactic| refine Hold.out ?_)
theorem wholeF_step {l : List Nat} {i f w : Nat} (h : l[i]? = some f) : wholeF w (l.take (i + 1)) = 16 * wholeF w (l.take i) + f := by
  rw [List.take_add_one, h]; simp [wholeF]
def one (c : Nat) : Str := ⟨#[c]⟩
theorem carriedSnoc {vs : List Value} {ds : List PyData} {a : Str} {t : Tok} (h : CarriedAll vs ds) : CarriedAll (vs ++ [.str a t]) (ds ++ [.str a]) := by
  induction h with
  | nil => exact .cons (.str _ _) .nil
  | cons h _ ih => exact .cons h ih
theorem listOf_is {h : Heap} {l : Addr} {vs : List Value} {n : Nat} (e : h.get? l = some (listOf vs.toArray n)) : h.IsList l vs.toArray := ⟨_, e, rfl, n, rfl⟩
local macro_rules | `(tactic| walk_at "call builtin:str.join") => `(tactic| refine Hold.out ?_)
theorem join_one (l : List Nat) (g : Nat → Nat) : Txt.join (Str.ofString "") (l.map fun b => one (g b)) = (⟨(l.map g).toArray⟩ : Str) := by
  show Builtin.Str.glued _ _ = _
  rw [StrLaws.glued_eq_join]
  induction l with
  | nil => rfl
  | cons a r ih =>
    cases r with
    | nil => rfl
    | cons b r =>
      show one (g a) ++ Str.ofString "" ++ Str.join _ ((b :: r).map fun b => one (g b)) = _
      rw [ih]
      show (⟨#[g a] ++ #[] ++ ((b :: r).map g).toArray⟩ : Str) = _
      rw [show ((a :: b :: r).map g).toArray = #[g a] ++ #[] ++ ((b :: r).map g).toArray from by simp]
theorem word_eq (l : List Nat) : Str.ofString "B" ++ (⟨(l.map (65 + ·)).toArray⟩ : Str) = wordF l := by
  show (⟨#[66] ++ (l.map (65 + ·)).toArray⟩ : Str) = wordF l
  unfold wordF
  rw [show (66 :: l.map (65 + ·)).toArray = #[66] ++ (l.map (65 + ·)).toArray from by simp]
theorem newsLt {h₀ h : Heap} {L : Addr} {news : List (Addr × Obj)} (N : News h₀ L h news) : AllLt h.objs.size news := by
  induction news with
  | nil => trivial
  | cons a r ih => exact ⟨Heap.lt_size (N a (.head _)).1, ih fun p hp => N p (.tail _ hp)⟩
theorem ltext (w : World) (l : Addr) (vs : List Value) (n : Nat) (bits : List Nat) (sh : Nat) (t : Tok) (hv : IntsAre vs (bits.map fun b => ((b : Nat) : Int))) (hb : ∀ b ∈ bits, b < 2) (hl : bits.length ≤ 7) (hs : sh < 16) (news : List (Addr × Obj)) (hm : (l, listOf vs.toArray n) ∈ news) :
    C1 w (.ref 214) [.ref l, .int (sh : Nat) t] [] 4 news (fun news' r => ∃ q t u, news' = (q, tupOf [.int ((wholeF 1 (figsOf sh bits) : Nat) : Int) t, .str (wordF (figsOf sh bits)) u]) :: news ∧ AllLt q news ∧ r = .ref q) := by
  unfold C1
  k_fill
  intro p loose mean mg mb dp un gd cn nm' ig ic mr a ccd cl outer A₀ base h₀ L m s Q E B F X N T hd hu ret
  have hlen : vs.length ≤ 7 := by rw [hv.length]; simpa using hl
  refine wpAny_call ?_
  k_dflt k_enter
  k_steps
  unfold Hold
  (rename Fr _ _ _ _ => F₁); (rename News _ _ _ _ => N₁); (rename IsRange _ _ _ _ _ _ _ _ => hr)
  obtain ⟨X₁, hX⟩ := newsName N₁
  rw [List.length_map] at hr
  refine LCg.CompSrc.range (n := bits.length) rfl F₁ N₁ hr (small_nat _ (by omega)) (size_nat _) (by rw [sizeLine_eq]; omega) ?_
  intro g'
  refine compU_inv (n := bits.length) (fun i ys nx => nx = X₁ ∧ IntsAre ys (((figsOf sh bits).take i).map fun b => ((b : Nat) : Int))) ?_ ?_ _ _ _ _ (Nat.zero_add _) ⟨hX, by simpa using IntsAre.nil⟩
  · rintro i v ys nx I oI C oC D m₂ h tk E' hi ⟨ti, rfl⟩ ⟨rfl, hys⟩ hC hx F' N' off ne
    refine cgen fun Qa hQa => ?_
    subst hX
    clear F₁ N₁
    k_steps
    rw [fig_val hi]
    exact hQa _ _ (LCg.CompEnd.intro (by k_asm) N' _ (fun _ hp => hp) off trivial ⟨rfl, by rw [take_map_step (figsOf_get hi)]; exact intsSnoc hys⟩)
  · rintro ys nx ⟨rfl, hys⟩
    subst hX
    clear F₁ N₁
    rw [show bits.length = (figsOf sh bits).length from (figsOf_length _ _).symm, List.take_length] at hys
    k_steps
    unfold Hold
    (rename Fr _ _ _ _ => F₂); (rename News _ _ _ _ => N₂)
    obtain ⟨D₁, hD⟩ := newsHead N₂
    subst hD
    obtain ⟨X₂, hX2⟩ := newsName N₂
    have hl2 : ys.length = (figsOf sh bits).length := by rw [hys.length]; simp
    refine Iter_list_my (k := ys.length) (vs := ys) (fun i m₁ nx => nx = X₂ ∧ m₁ (Str.ofString "figures") = some (.ref D₁) ∧ ∃ t, m₁ (Str.ofString "whole") = some (.int ((wholeF 1 ((figsOf sh bits).take i) : Nat) : Int) t)) rfl F₂ N₂ ?_ ?_ ?_ ?_
    · rintro i m nx ⟨rfl, _, _⟩
      rw [← hX2]; exact .head _
    · exact ⟨hX2, rfl, _, rfl⟩
    · rintro I i v m₁ nx h tk io hi ⟨rfl, hm1, tw, hm2⟩ hne F' N'
      refine qgen fun Qb hQb => ?_
      clear F₂ N₂
      replace F' := frPut2 F' hm1 hm2
      subst hX2
      have hi' : i < (figsOf sh bits).length := by rw [← hl2]; exact (List.getElem?_eq_some_iff.mp hi).1
      obtain ⟨f, hf⟩ : ∃ f, (figsOf sh bits)[i]? = some f := ⟨_, List.getElem?_eq_getElem hi'⟩
      obtain ⟨tv, rfl⟩ := PyProof.Rows.IntsAre.at_nat hys hf hi
      k_steps
      exact hQb _ _ (ForStep.next (by k_asm) (by k_asm) (fun _ hp => hp) hne ⟨rfl, rfl, _, by rw [wholeF_step hf]; rfl⟩)
    · rintro m₁ nx h tk ⟨rfl, hm1, tw, hm2⟩ F' N'
      clear F₂ N₂
      replace F' := frPut2 F' hm1 hm2
      subst hX2
      rw [hl2, List.take_length] at F'
      k_steps
      unfold Hold
      (rename Fr _ _ _ _ => F₃); (rename News _ _ _ _ => N₃)
      obtain ⟨X₃, hX3⟩ := newsName N₃
      refine LCg.CompSrc.ledger (ax := D₁) (its := ys.toArray) (k := ys.length) rfl F₃ N₃ (.head _) (by rw [sizeLine_eq, List.size_toArray, hl2, figsOf_length]; omega) ?_
      intro g'
      refine compU_inv (n := ys.toArray.size) (fun i zs nx => nx = X₃ ∧ CarriedAll zs (((figsOf sh bits).take i).map fun b => PyData.str (one (65 + b)))) ?_ ?_ _ _ _ _ (Nat.zero_add _) ⟨hX3, by simpa using CarriedAll.nil⟩
      · rintro i v zs nx I oI C oC D m₂ h tk E' hi hv ⟨rfl, hzs⟩ hC hx F' N' off ne
        refine cgen fun Qc hQc => ?_
        subst hX3
        clear F₃ N₃
        have hi' : i < (figsOf sh bits).length := by rw [← hl2]; simpa using hi
        obtain ⟨f, hf⟩ : ∃ f, (figsOf sh bits)[i]? = some f := ⟨_, List.getElem?_eq_getElem hi'⟩
        obtain ⟨tv, rfl⟩ := PyProof.Rows.IntsAre.at_nat hys hf (by simpa using hv)
        have hf16 := figsOf_lt f (List.mem_of_getElem? hf)
        k_steps
        rw [show (65 + (f : Int)).toNat = 65 + f from by omega]
        exact hQc _ _ (LCg.CompEnd.intro (by k_asm) N' _ (fun _ hp => hp) off (.inr ⟨_, .head _, rfl, _, rfl⟩) ⟨rfl, by rw [List.take_add_one, hf, List.map_append]; exact carriedSnoc hzs⟩)
      · rintro zs nx ⟨rfl, hzs⟩
        subst hX3
        clear F₃ N₃
        rw [show ys.toArray.size = (figsOf sh bits).length from by simpa using hl2, List.take_length] at hzs
        k_steps
        unfold Hold
        (rename News _ _ _ _ => N₄)
        obtain ⟨D₂, hD2⟩ := newsHead N₄
        subst hD2
        refine KT.join_1 (l := figsOf sh bits) (g := fun b => one (65 + b)) (listOf_is (N₄ _ (.head _)).1) hzs (fun _ _ => rfl) (by rw [figsOf_length]; omega) ?_
        intro t9 k9 hlen9
        rw [join_one] at hlen9 ⊢
        refine add_str (fun t8 k8 => ?_) (by rw [hlen9, figsOf_length, sizeLine_eq]; show 1 + _ ≤ _; omega)
        rw [word_eq]
        have hlt := newsLt (news := news) (news_drop N₄ (fun _ hp => by simp [hp]))
        k_steps
        (rename News _ _ _ _ => N9)
        exact ret _ _ _ _ (by k_asm) (news_drop N9 (news := (_, _) :: news) (fun p hp => by
          rcases List.mem_cons.mp hp with rfl | hp
          · exact .head _
          · simp [hp])) ⟨_, _, _, rfl, hlt, rfl⟩
end
section
open PySem PySem.W PySem.Calls PyProof.Rows Mine
set_option maxRecDepth 100000
set_option maxHeartbeats 8000000
local macro_rules | `(tactic| walk_at "pad") => `(tactic| skip)
local macro_rules | `(tactic| walk_at "pad") => `(tactic| skip)
theorem reset12 : True := by
  w_top off
  trivial
local macro_rules | `(tactic| walk_at "call ref") => `(tactic| refine Hold.out ?_)
local macro_rules | `(tactic| walk_at "binaryOp FloorDiv int int") => `(tactic| refine Hold.out ?_)
local macro_rules | `(tactic| walk_at "call builtin:bytes.decode") => `(tactic| (k_here; refine decode_cut (by assumption) (by assumption) (by omega) (by assumption) ?_; intro _ _))
local macro_rules | `(tactic| walk_at "call builtin:bytes.decode") => `(tactic| (k_here; refine decode_hex (by assumption) (by assumption) ?_; intro _ _))
local macro_rules | `(tactic| walk_at "subscriptTail") => `(tactic| (k_here; (with_reducible show wpAny _ _ (subscriptTail _ (Expr.Slice _ _ none _) (Value.bytes _ _) (Value.ref _)) _ _ _); refine Hold.out ?_))
theorem TabIn.mono {C : Addr} {w : World} {news news' : List (Addr × Obj)} {x l : Addr} {vs : List Value} {n : Nat} {kvs : List (Str × Str)} (h : TabIn C w news x l vs n kvs) (hs : ∀ p ∈ news, p ∈ news') : TabIn C w news' x l vs n kvs :=
  ⟨let ⟨dx, tk, dn, a, b⟩ := h.inst; ⟨dx, tk, dn, hs _ a, hs _ b⟩, hs _ h.list, h.pairs.mono hs⟩
theorem front_norm {whole size i : Nat} (h : i + 1 ≤ size) : (whole : Int).fdiv (16 ^ ((size : Int) - ((i + 1 : Nat) : Int)).toNat) = ((whole / 16 ^ (size - (i + 1)) : Nat) : Int) := by
  rw [Int.fdiv_eq_ediv_of_nonneg _ (Int.pow_nonneg (by decide)), show ((size : Int) - ((i + 1 : Nat) : Int)).toNat = size - (i + 1) from by rw [← Int.ofNat_sub h]; exact Int.toNat_natCast _]
  push_cast
  rfl
theorem front_pos {whole size n : Nat} (h : 16 ^ size ≤ whole) (hn : n ≤ size) : whole / 16 ^ (size - n) ≠ 0 := by
  have h1 : 16 ^ (size - n) ≤ 16 ^ size := Nat.pow_le_pow_right (by decide) (by omega)
  have h2 : 0 < 16 ^ (size - n) := Nat.pow_pos (by decide)
  have := Nat.div_pos (Nat.le_trans h1 h) h2
  omega
local macro_rules | `(tactic| walk_at "compareOp Lt") => `(tactic| refine Hold.out ?_)
theorem cd220 {w : World} {h : Heap} (X : (hd.heap_39 w.params).In h) : CodeHd h 220 216 := by
  refine ⟨_, _, _, _, _, _, _, _, _, X 220 _ (by with_unfolding_all rfl), rfl, rfl, rfl, rfl, rfl, rfl, rfl, rfl, by decide⟩
theorem cd227 {w : World} {h : Heap} (X : (hd.heap_39 w.params).In h) : CodeHd h 227 223 := by
  refine ⟨_, _, _, _, _, _, _, _, _, X 227 _ (by with_unfolding_all rfl), rfl, rfl, rfl, rfl, rfl, rfl, rfl, rfl, by decide⟩
theorem newsTo7 {h₀ h : Heap} {L : Addr} {a b c d e f g x y : Addr × Obj} {r : List (Addr × Obj)} (N : News h₀ L h (a :: b :: c :: d :: e :: f :: g :: x :: y :: r)) : ∃ R, a :: b :: c :: d :: e :: f :: g :: y :: r = R ∧ News h₀ L h (x :: R) :=
  ⟨_, rfl, fun p hp => N p (by simp only [List.mem_cons] at hp ⊢; rcases hp with h | h | h | h | h | h | h | h | h | h <;> simp [h])⟩
theorem listName {h₀ h : Heap} {L d : Addr} {vs : List Value} {n : Nat} {r : List (Addr × Obj)} (_N : News h₀ L h ((d, listOf vs.toArray n) :: r)) : ∃ D V, D = d ∧ V = vs := ⟨_, _, rfl, rfl⟩
theorem newsHead2 {h₀ h : Heap} {L d e : Addr} {o o' : Obj} {nx : List (Addr × Obj)} (_N : News h₀ L h ((d, o) :: (e, o') :: nx)) : ∃ D, D = e := ⟨_, rfl⟩
def foundTest (kvs : List (Str × Str)) (whole size : Nat) (i : Nat) : Bool := decide (i + 1 ≤ size) && (getT kvs (lowS (hexS (whole / 16 ^ (size - (i + 1)))))).isSome
def foundNx (size : Nat) (items : List Value) (st : List Value × Nat) (i : Nat) : List Value × Nat := if i + 1 ≤ size then (st.1 ++ [items.getD i .none], st.2 + 1) else st
theorem seven_at {a b c d e f g : Tok} : ∀ {i : Nat} {v : Value}, [Value.int 1 a, .int 2 b, .int 3 c, .int 4 d, .int 5 e, .int 6 f, .int 7 g][i]? = some v → i < 7 ∧ ∃ t, v = .int ((i + 1 : Nat) : Int) t
  | 0, _, h => ⟨by decide, _, (Option.some.inj h).symm⟩
  | 1, _, h => ⟨by decide, _, (Option.some.inj h).symm⟩
  | 2, _, h => ⟨by decide, _, (Option.some.inj h).symm⟩
  | 3, _, h => ⟨by decide, _, (Option.some.inj h).symm⟩
  | 4, _, h => ⟨by decide, _, (Option.some.inj h).symm⟩
  | 5, _, h => ⟨by decide, _, (Option.some.inj h).symm⟩
  | 6, _, h => ⟨by decide, _, (Option.some.inj h).symm⟩
  | i + 7, v, h => by simp at h
theorem hexS_clean {n : Nat} (h : n < 16 ^ 16) : Clean (hexS n) := by
  have hz := hexL_size 16 n h
  refine ⟨by simp [hexS]; omega, fun c hc => ?_⟩
  simp only [hexS, List.mem_toArray, List.mem_map] at hc
  obtain ⟨d, hd, rfl⟩ := hc
  have := hexL_lt n d hd
  omega
theorem pow_small {k : Nat} (h : k ≤ 7) : ((16 : Int) ^ k).natAbs < 1073741824 := by
  have hk : ∀ k, k < 8 → ((16 : Int) ^ k).natAbs < 1073741824 := by decide
  exact hk k (Nat.lt_succ_of_le h)
theorem cmpK_int {prog : Program} {w : World} {n : Int} {t t1 : Tok} {b : Bool} (h : b = decide (n < 1)) : CmpK prog w (.int 1 t1) (.int n t) false b := by
  intro A Q E s hq
  rw [if_neg (by decide)]
  refine lt_int ?_
  rw [← h]; exact hq s.toks


local macro_rules | `(tactic| walk_at "exec FunctionDef") => `(tactic| (k_here; kn_here; k_dflt (refine' nestDef_K ?d0 ?k0 ?a0 ?_; (case d0 => exact rfl); (case k0 => exact rfl); (case a0 => exact rfl)); (refine Hold.out ?_)))
/-- a closure's place in its table: not made yet, or made -/
def Tab1 (line col : Int) (qual : Str) (ps : Array Value) (rest : List (Addr × Obj)) : Prop := ps = #[] ∨ ∃ c' oc vs t, ps = #[rawInt line, rawInt col, .ref c'] ∧ (c', oc) ∈ rest ∧ oc.data = .fields vs ∧ vs[1]? = some (.str qual t)
def qF : Str := Str.ofString "_law_found" ++ Str.ofString ".<locals>." ++ Str.ofString "_law_key"
def foundPlace (kvs : List (Str × Str)) (whole size : Nat) : Nat := (bisRun false (foundTest kvs whole size) (fun (u : Unit) _ => u) 7 0 7 ()).1
def foundP (kvs : List (Str × Str)) (whole size : Nat) : Option Str := if foundPlace kvs whole size = 0 then some ⟨#[]⟩ else getT kvs (lowS (hexC whole (foundPlace kvs whole size + 1)))
theorem bisRun_fst {σ τ : Type} (right : Bool) (test : Nat → Bool) (nx : σ → Nat → σ) (nx' : τ → Nat → τ) : ∀ (f lo hi : Nat) (st : σ) (st' : τ), (bisRun right test nx f lo hi st).1 = (bisRun right test nx' f lo hi st').1
  | 0, _, _, _, _ => rfl
  | f + 1, lo, hi, st, st' => by
    unfold bisRun
    split
    · split
      · exact bisRun_fst right test nx nx' f _ _ _ _
      · exact bisRun_fst right test nx nx' f _ _ _ _
    · rfl
theorem bisRun_three {test : Nat → Bool} {items : List Value} {st : List Value × Nat} : (bisRun false test (foundNx 7 items) 7 0 7 st).2.1.length = st.1.length + 3 := by
  cases h3 : test 3 <;> cases h1 : test 1 <;> cases h5 : test 5 <;> cases h0 : test 0 <;> cases h2 : test 2 <;> cases h4 : test 4 <;> cases h6 : test 6 <;> simp [bisRun, foundNx, h0, h1, h2, h3, h4, h5, h6]
theorem found_drop {h₀ h : Heap} {L : Addr} {a b f c o1 o2 o3 o4 t : Addr × Obj} {rest : List (Addr × Obj)} (N : News h₀ L h (a :: b :: f :: c :: o1 :: o2 :: o3 :: o4 :: t :: rest)) : News h₀ L h (a :: t :: c :: rest) :=
  fun p hp => N p (by simp only [List.mem_cons] at hp ⊢; rcases hp with h | h | h | h <;> simp [h])
theorem hexC_clean {n k : Nat} (h : n < 16 ^ 16) : Clean (hexC n k) := by
  have hz := hexL_size 16 n h
  refine ⟨by simp [hexC]; omega, fun c hc => ?_⟩
  simp only [hexC, List.mem_toArray, List.mem_map] at hc
  obtain ⟨d, hd, rfl⟩ := hc
  have := hexL_lt n d (List.mem_of_mem_take hd)
  omega
theorem place_one (n : Nat) : ((n : Nat) : Int) + 1 = ((n + 1 : Nat) : Int) := rfl
theorem lfound (w : World) (x l la : Addr) (tvs : List Value) (tn : Nat) (kvs : List (Str × Str)) (whole size : Nat) (t u : Tok) (avs : List Value) (an : Nat) (ps : Array Value) (rest : List (Addr × Obj))
   (hw : whole < 16 ^ 8) (hw0 : 16 ^ size ≤ whole) (hs1 : size ≤ 7) (hk : CleanT kvs) (haz : avs.length ≤ 1000)
   (hT : TabIn 205 w rest x l tvs tn kvs) (hoa : ∀ p ∈ rest, p.1 ≠ la) (ho2 : ∀ p ∈ rest, p.1 ≠ 216) (hla : @Ne Nat la 216) (hps : Tab1 148 4 qF ps rest) :
   C1 w (.ref 221) [.ref x, .int (whole : Nat) t, .int (size : Nat) u, .ref la] [] 60 ((la, listOf avs.toArray an) :: (216, tabObj ps) :: rest)
     (fun news' r => ∃ (avs' : List Value) (an' : Nat) (ps' : Array Value) (rest' : List (Addr × Obj)), (la, listOf avs'.toArray an') :: (216, tabObj ps') :: rest' = news' ∧ (∀ p ∈ rest, p ∈ rest') ∧ (∀ p ∈ rest', p.1 ≠ la) ∧ (∀ p ∈ rest', p.1 ≠ 216) ∧ Tab1 148 4 qF ps' rest' ∧ (size = 7 → avs'.length = avs.length + 3) ∧ optV (foundP kvs whole size) r) := by
  unfold C1
  k_fill
  intro p loose mean mg mb dp un gd cn nm' ig ic mr a ccd cl outer A₀ base h₀ L m s Q E B F X N T hd hu ret
  obtain ⟨dx, tkx, dnx, hx, hdx⟩ := hT.inst
  refine wpAny_call ?_
  k_dflt k_enter
  have cdB := cd220 (by assumption)
  k_steps
  unfold Hold
  k_dflt (refine' nestBoth_K (fun c' => @Ne Nat c' la ∧ @Ne Nat c' 216) ?hp ?hav ?F ?N ?T ?C ?cd ?U ?cl ?_)
  case F => k_asm
  case N => k_asm
  case T => k_asm
  case C => kn_code
  case cd => exact rfl
  case U => k_updF
  case cl => exact rfl
  case hp =>
    rcases hps with rfl | ⟨c', oc, vs, t, rfl, h1, h2, h3⟩
    · exact .inl rfl
    · exact .inr ⟨c', oc, vs, t, rfl, by simp [h1], h2, h3, hoa _ h1, ho2 _ h1⟩
  case hav => exact fun c' h => ⟨Nat.ne_of_gt (h (la, W.listOf avs.toArray an) (by simp)), Nat.ne_of_gt (h (216, tabObj ps) (by simp))⟩
  intro f' c' oc' vs' t' ct' dc' h' tk' F' N' d1' d2' hav' l1 l2
  obtain ⟨hav1, hav2⟩ := hav'
  (try dsimp only at N')
  k_lt l1
  k_steps
  unfold Hold
  (rename Fr _ _ _ _ => F₁); (rename News _ _ _ _ => N₁)
  obtain ⟨lv, items, hlv, hitems⟩ := listName N₁
  obtain ⟨fk, hfk⟩ := newsHead2 N₁
  subst hlv
  subst hfk
  obtain ⟨R, hR, N₂⟩ := newsTo7 N₁
  have hseven : ∀ i v, items[i]? = some v → i < 7 ∧ ∃ t, v = .int ((i + 1 : Nat) : Int) t := by
    rw [hitems]; exact fun i v h => seven_at h
  have K : ∀ t1 : Tok, KeyC w fk (.int 1 t1) false lv items 0 20 (fun st : List Value × Nat => (la, listOf st.1.toArray st.2) :: R) (fun st => st.1.length) (foundTest kvs whole size) (foundNx size items) := by
    intro t1
    refine ⟨fun st => ?_, fun st => ?_, fun st i => ?_, fun st i v hv hsz9 => ?_⟩
    · rw [← hR]; exact ⟨_, _, _, _, .tail _ (.tail _ (.head _))⟩
    · rw [← hR, hitems]; exact .tail _ (.head _)
    · show (foundNx size items st i).1.length ≤ _
      unfold foundNx
      split <;> simp
    · obtain ⟨hi7, t9, rfl⟩ := hseven i v hv
      clear ret hd hu B F X N T F₁ N₁ N₂
      subst hR
      replace hsz9 : st.1.length ≤ 5000 := hsz9
      unfold C1
      intro p' loose' mean' mg' mb' dp' un' gd' cn' nm'' ig' ic' mr' a' ccd' cl' outer' A₀' base' h₀' L₂ m' s' Q' E' B F X N T hd hu ret
      have cdB := cd220 X
      refine wpAny_call ?_
      k_dflt kn_enter
      k_steps
      · (rename ((i + 1 : Nat) : Int) > (size : Int) => hgt)
        have e : foundNx size items st i = st := by unfold foundNx; rw [if_neg (by omega)]
        exact ret _ _ _ _ (by k_asm) (by k_asm) ⟨by rw [e], cmpK_int (by rw [foundTest, decide_eq_false (by omega)]; simp; omega)⟩
      · unfold Hold
        (rename ¬ (((i + 1 : Nat) : Int) > (size : Int)) => hle)
        have hle' : i + 1 ≤ size := by omega
        have hf0 : whole / 16 ^ (size - (i + 1)) ≠ 0 := front_pos hw0 hle'
        have hf1 : whole / 16 ^ (size - (i + 1)) < 16 ^ 16 := Nat.lt_of_le_of_lt (Nat.div_le_self _ _) (Nat.lt_trans hw (by decide))
        refine floordiv_int (Int.ne_of_gt (Int.pow_pos (by decide))) ?_ (Or.inl (PyProof.noPylong_small (pow_small (by omega))))
        rw [front_norm hle']
        k_steps
        unfold Hold
        refine' C1.use (int2ap _ _ _ (by rw [Int.natAbs_natCast]; exact hf1) _) ?k1 ?k2 ?k3 ?k4 ?k5 ?k6 ?k7 ?_
        walk_at "c1"
        intro r9 news9 h9 tk9 F9 N9 P9
        obtain ⟨e1, t8, e2⟩ := P9
        subst e1
        subst e2
        rw [Int.natAbs_natCast]
        have hcl := hexS_clean hf1
        k_steps
        unfold Hold
        refine' C1.use (hget w x l tvs tn kvs _ _ hcl.low hk _ (hT.mono ?jm)) ?j1 ?j2 ?j3 ?j4 ?j5 ?j6 ?j7 ?_
        case j1 => k_asm
        case j2 => k_asm
        case j3 => k_asm
        case j4 => k_asm
        case j5 => k_asm
        case j6 => ktr_room
        case j7 => ktr_units
        case jm => exact fun _ hp => by simp [hp]
        intro r8 news8 h8 tk8 F8 N8 P8
        obtain ⟨e1, hgot⟩ := P8
        subst e1
        rw [lowS_low] at hgot
        have e : foundNx size items st i = (st.1 ++ [.int ((i + 1 : Nat) : Int) t9], st.2 + 1) := by
          unfold foundNx; rw [if_pos hle']; simp [List.getD, hv]
        obtain ⟨hgN, e2⟩ | ⟨v9, t7, hgS, e2⟩ := optV_cases hgot
        · subst e2
          k_steps
          (rename News _ _ _ _ => N9)
          simp only [List.push_toArray] at N9
          exact ret _ _ _ _ (by k_asm) N9 ⟨by rw [e], cmpK_int (by rw [foundTest, hgN]; simp; omega)⟩
        · subst e2
          k_steps
          (rename News _ _ _ _ => N9)
          simp only [List.push_toArray] at N9
          exact ret _ _ _ _ (by k_asm) N9 ⟨by rw [e], cmpK_int (by rw [foundTest, hgS, decide_eq_true hle']; simp; omega)⟩
  have hsz7 : items.length = 7 := by rw [hitems]; rfl
  have hwz : whole ≠ 0 := by have : 0 < 16 ^ size := Nat.pow_pos (by decide); omega
  have hwm : whole < 16 ^ 16 := Nat.lt_trans hw (by decide)
  k_dflt (refine' C1.use (bisl w fk lv (.int 1 _) items 0 20 (fun st : List Value × Nat => (la, listOf st.1.toArray st.2) :: R) (fun st => st.1.length) (foundTest kvs whole size) (foundNx size items) (K _) (by omega) (avs, an) (by show avs.length + _ ≤ _; omega)) ?l1 ?l2 ?l3 ?l4 ?l5 ?l6 ?l7 ?_)
  case l1 => k_asm
  case l2 => k_asm
  case l3 => k_asm
  case l4 => exact N₂
  case l5 => k_asm
  case l6 => ktr_room
  case l7 => ktr_units
  intro r7 news7 h7 tk7 F7 N7 P7
  obtain ⟨e1, t7, e2⟩ := P7
  subst e1
  subst e2
  have hpl : (bisRun false (foundTest kvs whole size) (foundNx size items) items.length 0 items.length (avs, an)).1 = foundPlace kvs whole size := by rw [hsz7]; exact bisRun_fst ..
  have hple : foundPlace kvs whole size ≤ 7 := bisRun_le _ _ _ _ (by omega)
  have hlen : size = 7 → (bisRun false (foundTest kvs whole size) (foundNx size items) items.length 0 items.length (avs, an)).2.1.length = avs.length + 3 := by
    intro e; rw [hsz7, e]; exact bisRun_three
  rw [hpl]
  generalize (bisRun false (foundTest kvs whole size) (foundNx size items) items.length 0 items.length (avs, an)).2 = st9 at N7 hlen
  obtain ⟨pl, hpl'⟩ : ∃ pl, foundPlace kvs whole size = pl := ⟨_, rfl⟩
  rw [hpl'] at hple ⊢
  subst hR
  clear N₁ N₂ K F₁ hseven
  k_steps
  · (rename News _ _ _ _ => N9)
    have hp0 : foundP kvs whole size = some ⟨#[]⟩ := by unfold foundP; rw [hpl', if_pos (by omega)]
    exact ret _ _ _ _ (by k_asm) (found_drop N9) ⟨_, _, _, _, rfl, fun p hp => .tail _ hp, List.forall_mem_cons.mpr ⟨hav1, hoa⟩, List.forall_mem_cons.mpr ⟨hav2, ho2⟩, .inr ⟨c', oc', vs', _, rfl, .head _, d1', d2'⟩, hlen, by rw [hp0]; exact ⟨_, rfl⟩⟩
  · (rename ¬ ((pl : Int) = 0) => hpn)
    have hp0 : foundP kvs whole size = getT kvs (lowS (hexC whole (pl + 1))) := by unfold foundP; rw [hpl', if_neg (by omega)]
    unfold Hold
    k_dflt (refine' C1.use (int2ap w (-(whole : Int)) _ (by rw [Int.natAbs_neg, Int.natAbs_natCast]; exact hwm) _) ?m1 ?m2 ?m3 ?m4 ?m5 ?m6 ?m7 ?_)
    case m1 => k_asm
    case m2 => k_asm
    case m3 => k_asm
    case m4 => k_asm
    case m5 => k_asm
    case m6 => ktr_room
    case m7 => ktr_units
    intro r5 news5 h5 tk5 F5 N5 P5
    obtain ⟨e1, t5, e2⟩ := P5
    subst e1
    subst e2
    rw [Int.natAbs_neg, Int.natAbs_natCast]
    k_steps
    unfold Hold
    rw [place_one]
    (rename Fr _ _ _ _ => F6); (rename News _ _ _ _ => N6)
    refine ap_cut (s := ⟨_, _, _, _, _⟩) F6 N6 hwm ?_
    intro b6 h6 t6 k6 F7 N7 hb6
    k_steps
    unfold Hold
    k_dflt (refine' C1.use (hget w x l tvs tn kvs _ _ (hexC_clean hwm) hk _ (hT.mono ?nm)) ?n1 ?n2 ?n3 ?n4 ?n5 ?n6 ?n7 ?_)
    case n1 => k_asm
    case n2 => k_asm
    case n3 => k_asm
    case n4 => k_asm
    case n5 => k_asm
    case n6 => ktr_room
    case n7 => ktr_units
    case nm => exact fun _ hp => by simp [hp]
    intro r4 news4 h4 tk4 F4 N4 P4
    obtain ⟨e1, hgot⟩ := P4
    subst e1
    k_steps
    (rename News _ _ _ _ => N9)
    exact ret _ _ _ _ (by k_asm) (found_drop N9) ⟨_, _, _, _, rfl, fun p hp => .tail _ hp, List.forall_mem_cons.mpr ⟨hav1, hoa⟩, List.forall_mem_cons.mpr ⟨hav2, ho2⟩, .inr ⟨c', oc', vs', _, rfl, .head _, d1', d2'⟩, hlen, by rw [hp0]; exact hgot⟩
end
section
open PySem PySem.W PySem.Calls PyProof.Rows Mine
set_option maxRecDepth 100000
set_option maxHeartbeats 8000000
theorem reset13 : True := by
  w_top off
  trivial
theorem news_fun {h₀ h : Heap} {L a : Addr} {nx : List (Addr × Obj)} {o o' : Obj} (N : News h₀ L h nx) (h1 : (a, o) ∈ nx) (h2 : (a, o') ∈ nx) : o = o' := by
  have e1 := (N _ h1).1
  have e2 := (N _ h2).1
  rw [e1] at e2
  exact Option.some.inj e2
theorem news_ne {h₀ h : Heap} {L a b : Addr} {nx : List (Addr × Obj)} {o o' : Obj} (N : News h₀ L h nx) (h1 : (a, o) ∈ nx) (h2 : (b, o') ∈ nx) (ne : o ≠ o') : a ≠ b := fun e => by
  subst e; exact ne (news_fun N h1 h2)
def off (S : List Addr) (nx : List (Addr × Obj)) : List (Addr × Obj) := nx.filter fun p => !S.contains p.1
theorem off_mem {S : List Addr} {nx : List (Addr × Obj)} {p : Addr × Obj} (h : p ∈ nx) (hn : ∀ a ∈ S, p.1 ≠ a) : p ∈ off S nx := by
  refine List.mem_filter.mpr ⟨h, ?_⟩
  simp only [Bool.not_eq_true', List.contains_eq_mem, decide_eq_false_iff_not]
  exact fun e => hn _ e rfl
theorem off_ne {S : List Addr} {nx : List (Addr × Obj)} {a : Addr} (ha : a ∈ S) : ∀ p ∈ off S nx, p.1 ≠ a := by
  intro p hp e
  have := (List.mem_filter.mp hp).2
  simp only [Bool.not_eq_true', List.contains_eq_mem, decide_eq_false_iff_not] at this
  exact this (e ▸ ha)
theorem off_sub {S : List Addr} {nx : List (Addr × Obj)} : ∀ p ∈ off S nx, p ∈ nx := fun _ hp => (List.mem_filter.mp hp).1
/-- what stood stands, but at a -/
def Keep (S : List Addr) (nx nx' : List (Addr × Obj)) : Prop := ∀ p ∈ nx, (∀ a ∈ S, p.1 ≠ a) → p ∈ nx'
theorem PairsIn.off {nx : List (Addr × Obj)} {S : List Addr} {vs : List Value} {kvs : List (Str × Str)} (h : PairsIn nx vs kvs) (ho : ∀ q k v t u, (q, tupOf [.str k t, .str v u]) ∈ nx → ∀ a ∈ S, q ≠ a) : PairsIn (off S nx) vs kvs := by
  induction h with
  | nil => exact .nil
  | cons hm _ ih => exact .cons (off_mem hm (ho _ _ _ _ _ hm)) ih
/-- a table of headers, its list wherever -/
def HasTab (w : World) (nx : List (Addr × Obj)) (x l : Addr) (kvs : List (Str × Str)) : Prop := ∃ ls ln, TabIn 205 w nx x l ls ln kvs
theorem HasTab.mono {w : World} {nx nx' : List (Addr × Obj)} {x l : Addr} {kvs : List (Str × Str)} (h : HasTab w nx x l kvs) (hs : ∀ p ∈ nx, p ∈ nx') : HasTab w nx' x l kvs :=
  let ⟨ls, ln, hT⟩ := h
  ⟨ls, ln, ⟨let ⟨dx, tk, dn, a, b⟩ := hT.inst; ⟨dx, tk, dn, hs _ a, hs _ b⟩, hs _ hT.list, hT.pairs.mono hs⟩⟩
theorem HasTab.split {w : World} {h₀ h : Heap} {L : Addr} {nx : List (Addr × Obj)} {x l : Addr} {kvs : List (Str × Str)} (hT : HasTab w nx x l kvs) (N : News h₀ L h nx) :
    ∃ ls ln, News h₀ L h ((l, listOf ls.toArray ln) :: off [l] nx) ∧ TabL 205 w (off [l] nx) x l ls kvs := by
  obtain ⟨ls, ln, hT⟩ := hT
  refine ⟨ls, ln, fun p hp => ?_, ?_⟩
  · rcases List.mem_cons.mp hp with rfl | hp
    · exact N _ hT.list
    · exact N _ (off_sub _ hp)
  · obtain ⟨dx, tk, dn, h1, h2⟩ := hT.inst
    refine ⟨⟨dx, tk, dn, off_mem h1 ?_, off_mem h2 ?_⟩, hT.pairs.off fun q k v t u hq => ?_, off_ne (.head _)⟩
    · exact List.forall_mem_singleton.mpr (news_ne N h1 hT.list (by simp))
    · exact List.forall_mem_singleton.mpr (news_ne N h2 hT.list (by simp))
    · exact List.forall_mem_singleton.mpr (news_ne N hq hT.list (by simp))
theorem hsetdV (w : World) (x l : Addr) (kvs : List (Str × Str)) (nm val : Str) (t u : Tok) (nx : List (Addr × Obj)) (hn : Clean nm) (hv : Clean val) (hk : CleanT kvs) (hT : HasTab w nx x l kvs) :
    C1 w (.ref 195) [.ref x, .str nm t, .str val u] [] 12 nx (fun nx' r => HasTab w nx' x l (setD kvs nm val) ∧ Keep [l] nx nx' ∧ ∃ t, r = .str ((getT kvs (lowS nm)).getD val) t) := by
  unfold C1
  intro p loose mean mg mb dp un gd cn nm' ig ic mr a ccd cl outer A₀ base h₀ L m s Q E B F X N T hd hu ret
  obtain ⟨ls, ln, N2, hT2⟩ := hT.split N
  refine hsetd w x l ls ln kvs nm val t u hn hv hk _ hT2 p loose mean mg mb dp un gd cn nm' ig ic mr a ccd cl outer A₀ base h₀ L m s Q E B F X N2 T hd hu ?_
  rintro r news' h' tk' F' N' ⟨vs', n', rest', rfl, hg, hT', t', hr⟩
  exact ret _ _ _ _ F' N' ⟨⟨_, _, hT'.toIn⟩, fun p hp hn => .tail _ (hg.1 _ (off_mem hp hn)), t', hr⟩
theorem hsetV (w : World) (x l : Addr) (kvs : List (Str × Str)) (nm val : Str) (t u : Tok) (nx : List (Addr × Obj)) (hn : Clean nm) (hv : Clean val) (hk : CleanT kvs) (hT : HasTab w nx x l kvs) :
    C1 w (.ref 118) [.ref x, .str nm t, .str val u] [] 14 nx (fun nx' r => HasTab w nx' x l ((kvs.filter fun kv => lowS kv.1 != lowS nm) ++ [(nm, val)]) ∧ Keep [l] nx nx' ∧ r = .none) := by
  unfold C1
  intro p loose mean mg mb dp un gd cn nm' ig ic mr a ccd cl outer A₀ base h₀ L m s Q E B F X N T hd hu ret
  obtain ⟨ls, ln, N2, hT2⟩ := hT.split N
  refine hset w x l ls ln kvs nm val t u hn hv hk _ hT2 p loose mean mg mb dp un gd cn nm' ig ic mr a ccd cl outer A₀ base h₀ L m s Q E B F X N2 T hd hu ?_
  rintro r news' h' tk' F' N' ⟨vs', n', rest', rfl, hg, hT', hr⟩
  exact ret _ _ _ _ F' N' ⟨⟨_, _, hT'.toIn⟩, fun p hp hn => .tail _ (hg.1 _ (off_mem hp hn)), hr⟩
theorem hitemsV (w : World) (x l : Addr) (kvs : List (Str × Str)) (nx : List (Addr × Obj)) (hk : CleanT kvs) (hT : HasTab w nx x l kvs) :
    C1 w (.ref 169) [.ref x] [] 4 nx (fun nx' r => ∃ q vs, (q, listOf vs.toArray 0) ∈ nx' ∧ PairsIn nx' vs kvs ∧ Keep [] nx nx' ∧ HasTab w nx' x l kvs ∧ r = .ref q) := by
  unfold C1
  intro p loose mean mg mb dp un gd cn nm' ig ic mr a ccd cl outer A₀ base h₀ L m s Q E B F X N T hd hu ret
  obtain ⟨ls, ln, N2, hT2⟩ := hT.split N
  refine hitems w x l ls ln kvs hk _ hT2 p loose mean mg mb dp un gd cn nm' ig ic mr a ccd cl outer A₀ base h₀ L m s Q E B F X N2 T hd hu ?_
  rintro r news' h' tk' F' N' ⟨q, rfl, -, -, hr⟩
  have hl := N2 _ (.head _)
  have hT9 : TabIn 205 w ((q, listOf ls.toArray 0) :: (l, listOf ls.toArray ln) :: off [l] nx) x l ls ln kvs := TabIn.mono hT2.toIn fun p hp => .tail _ hp
  refine ret _ _ _ _ F' N' ⟨q, ls, .head _, hT9.pairs, fun p hp _ => ?_, ⟨_, _, hT9⟩, hr⟩
  by_cases e : p.1 = l
  · have := (N p hp).1
    rw [e, hl.1] at this
    obtain ⟨p1, p2⟩ := p
    cases Option.some.inj this
    cases e
    exact .tail _ (.head _)
  · exact .tail _ (.tail _ (off_mem hp (List.forall_mem_singleton.mpr e)))
/-- a closure's place stands in the ledger -/
def HasF (nx : List (Addr × Obj)) : Prop := ∃ ps, (216, tabObj ps) ∈ nx ∧ Tab1 148 4 qF ps nx
theorem Tab1.mono {line col : Int} {qual : Str} {ps : Array Value} {nx nx' : List (Addr × Obj)} (h : Tab1 line col qual ps nx) (hs : ∀ c oc vs, (c, oc) ∈ nx → oc.data = .fields vs → oc.cls ≠ .none ∨ True → (c, oc) ∈ nx') : Tab1 line col qual ps nx' := by
  rcases h with h | ⟨c', oc, vs, t, h1, h2, h3, h4⟩
  · exact .inl h
  · exact .inr ⟨c', oc, vs, t, h1, hs _ _ _ h2 h3 (.inr trivial), h3, h4⟩
theorem tabObj_ne {oc : Obj} {vs : Array Value} {q : Str} {t : Tok} {ps : Array Value} (hp : ps = #[] ∨ ∃ a b c, ps = #[rawInt a, rawInt b, .ref c]) (h1 : oc.data = .fields vs) (h2 : vs[1]? = some (.str q t)) : oc ≠ tabObj ps := by
  rintro rfl
  cases h1
  rcases hp with rfl | ⟨a, b, c, rfl⟩
  · simp at h2
  · simp [rawInt] at h2
theorem lfoundV (w : World) (x l la : Addr) (kvs : List (Str × Str)) (whole size : Nat) (t u : Tok) (avs : List Value) (an : Nat) (nx : List (Addr × Obj))
   (hw : whole < 16 ^ 8) (hw0 : 16 ^ size ≤ whole) (hs1 : size ≤ 7) (hk : CleanT kvs) (haz : avs.length ≤ 1000)
   (hT : HasTab w nx x l kvs) (hF : HasF nx) (ha : (la, listOf avs.toArray an) ∈ nx) (hal : la ≠ l) :
   C1 w (.ref 221) [.ref x, .int (whole : Nat) t, .int (size : Nat) u, .ref la] [] 60 nx
     (fun nx' r => ∃ (avs' : List Value) (an' : Nat), (la, listOf avs'.toArray an') ∈ nx' ∧ HasTab w nx' x l kvs ∧ HasF nx' ∧ Keep [la, 216] nx nx' ∧ (size = 7 → avs'.length = avs.length + 3) ∧ optV (foundP kvs whole size) r) := by
  unfold C1
  intro p loose mean mg mb dp un gd cn nm' ig ic mr a ccd cl outer A₀ base h₀ L m s Q E B F X N T hd hu ret
  obtain ⟨ls, ln, hT⟩ := hT
  obtain ⟨ps, hp, hF⟩ := hF
  have hps : ps = #[] ∨ ∃ a b c, ps = #[rawInt a, rawInt b, .ref c] := by
    rcases hF with rfl | ⟨c', oc, vs, t, h1, h2, h3, h4⟩
    · exact .inl rfl
    · exact .inr ⟨_, _, _, h1⟩
  have hla : @Ne Nat la 216 := news_ne N ha hp (by simp)
  have hT2 : TabIn 205 w (off [la, 216] nx) x l ls ln kvs := by
    obtain ⟨dx, tk, dn, h1, h2⟩ := hT.inst
    refine ⟨⟨dx, tk, dn, off_mem h1 ?_, off_mem h2 ?_⟩, off_mem hT.list ?_, hT.pairs.off fun q k v t u hq => ?_⟩
    · exact List.forall_mem_cons.mpr ⟨news_ne N h1 ha (by simp), List.forall_mem_singleton.mpr (news_ne N h1 hp (by simp))⟩
    · exact List.forall_mem_cons.mpr ⟨news_ne N h2 ha (by simp), List.forall_mem_singleton.mpr (news_ne N h2 hp (by simp))⟩
    · exact List.forall_mem_cons.mpr ⟨fun e => hal e.symm, List.forall_mem_singleton.mpr (news_ne N hT.list hp (by simp))⟩
    · exact List.forall_mem_cons.mpr ⟨news_ne N hq ha (by simp), List.forall_mem_singleton.mpr (news_ne N hq hp (by simp))⟩
  have hF2 : Tab1 148 4 qF ps (off [la, 216] nx) := by
    rcases hF with rfl | ⟨c', oc, vs, t, h1, h2, h3, h4⟩
    · exact .inl rfl
    · refine .inr ⟨c', oc, vs, t, h1, off_mem h2 (List.forall_mem_cons.mpr ⟨news_ne N h2 ha ?_, List.forall_mem_singleton.mpr (news_ne N h2 hp (tabObj_ne hps h3 h4))⟩), h3, h4⟩
      rintro rfl
      cases h3
  have N2 : News h₀ L s.heap ((la, listOf avs.toArray an) :: (216, tabObj ps) :: off [la, 216] nx) := fun p hp' => by
    rcases List.mem_cons.mp hp' with rfl | hp'
    · exact N _ ha
    · rcases List.mem_cons.mp hp' with rfl | hp'
      · exact N _ hp
      · exact N _ (off_sub _ hp')
  refine lfound w x l la ls ln kvs whole size t u avs an ps _ hw hw0 hs1 hk haz hT2 (off_ne (.head _)) (off_ne (.tail _ (.head _))) hla hF2 p loose mean mg mb dp un gd cn nm' ig ic mr a ccd cl outer A₀ base h₀ L m s Q E B F X N2 T hd hu ?_
  rintro r news' h' tk' F' N' ⟨avs', an', ps', rest', rfl, g1, g2, g3, g4, g5, g6⟩
  exact ret _ _ _ _ F' N' ⟨avs', an', .head _, ⟨_, _, hT2.mono fun p hp => .tail _ (.tail _ (g1 _ hp))⟩, ⟨ps', .tail _ (.head _), g4.mono fun c oc vs h _ _ => .tail _ (.tail _ h)⟩, fun p hp hn => .tail _ (.tail _ (g1 _ (off_mem hp hn))), g5, g6⟩
end
section
open PySem PySem.W PySem.Calls PyProof.Rows Mine
set_option maxRecDepth 100000
set_option maxHeartbeats 8000000
theorem reset14 : True := by
  w_top off
  trivial
local macro_rules | `(tactic| walk_at "call builtin:bytes.decode") => `(tactic| (k_here; refine decode_hex (by assumption) (by assumption) ?_; intro _ _))
local macro_rules | `(tactic| walk_at "call ref") => `(tactic| (k_here; (with_reducible show wpAny _ _ (call (Value.ref 118) _ _) _ _ _); refine Hold.out ?_))
local macro_rules | `(tactic| walk_at "call ref") => `(tactic| (k_here; (with_reducible show wpAny _ _ (call (Value.ref 221) _ _) _ _ _); refine Hold.out ?_))
local macro_rules | `(tactic| walk_at "call ref") => `(tactic| (k_here; (with_reducible show wpAny _ _ (call (Value.ref 195) _ _) _ _ _); refine Hold.out ?_))
local macro_rules | `(tactic| walk_at "call ref") => `(tactic| (k_here; (with_reducible show wpAny _ _ (call (Value.ref 72) _ _) _ _ _); refine Hold.out ?_))
local macro_rules | `(tactic| walk_at "binaryOp FloorDiv int int") => `(tactic| refine Hold.out ?_)
local macro_rules | `(tactic| walk_at "call ref") => `(tactic| (k_here; (with_reducible show wpAny _ _ (call (Value.ref 56) _ _) _ _ _); refine Hold.out ?_))
local macro_rules | `(tactic| walk_at "storeName") => `(tactic| (k_here; (with_reducible show wpAny _ _ (storeName _ (Str.ofString "passed") _) _ _ _); refine Hold.out ?_))
local macro_rules | `(tactic| walk_at "exec For Tuple Name cons nil") => `(tactic| (k_here; (with_reducible rename Fr _ _ _ _ => lF'); with_unfolding_all refine For_myF lF' ?_))
local macro_rules | `(tactic| walk_at "subscriptTail Name Name ref int") => `(tactic| refine Hold.out ?_)
local macro_rules | `(tactic| walk_at "exec For Name Call cons nil") => `(tactic| (k_here; (with_reducible rename Fr _ _ _ _ => lF'); with_unfolding_all refine For_myF lF' ?_))
local macro_rules | `(tactic| walk_at "exec For Name Name cons nil") => `(tactic| (k_here; (with_reducible rename Fr _ _ _ _ => lF'); with_unfolding_all refine For_myF lF' ?_))
local macro_rules | `(tactic| walk_at "pyIter ref") => `(tactic| refine Hold.out ?_)
local macro_rules | `(tactic| walk_at "eval Lambda") => `(tactic| (k_here; kn_here; k_dflt (refine' kla_eval ?d0 ?_; (case d0 => exact rfl)); (refine Hold.out ?_)))
local macro_rules | `(tactic| walk_at "call ref") => `(tactic| (k_here; (with_reducible show wpAny _ _ (call (Value.ref 47) _ _) _ _ _); refine Hold.out ?_))
/-- the ways, as pairs of ints -/
inductive WaysIn (news : List (Addr × Obj)) : List Value → List (Nat × Nat) → Prop where
  | nil : WaysIn news [] []
  | cons {q : Addr} {k v : Nat} {t u : Tok} {vs : List Value} {kvs : List (Nat × Nat)} : (q, tupOf [.int (k : Nat) t, .int (v : Nat) u]) ∈ news → WaysIn news vs kvs → WaysIn news (.ref q :: vs) ((k, v) :: kvs)
theorem WaysIn.mono {news news' : List (Addr × Obj)} {vs : List Value} {kvs : List (Nat × Nat)} (h : WaysIn news vs kvs) (hs : ∀ q vs, (q, tupOf vs) ∈ news → (q, tupOf vs) ∈ news') : WaysIn news' vs kvs := by
  induction h with
  | nil => exact .nil
  | cons hm _ ih => exact .cons (hs _ _ hm) ih
theorem WaysIn.length {news : List (Addr × Obj)} {vs : List Value} {kvs : List (Nat × Nat)} (h : WaysIn news vs kvs) : vs.length = kvs.length := by
  induction h with
  | nil => rfl
  | cons _ _ ih => simp [ih]
theorem WaysIn.at {news : List (Addr × Obj)} {vs : List Value} {kvs : List (Nat × Nat)} (h : WaysIn news vs kvs) : ∀ {i : Nat}, i < kvs.length → ∃ q t u, vs[i]? = some (.ref q) ∧ (q, tupOf [.int ((kvs.getD i (0, 0)).1 : Nat) t, .int ((kvs.getD i (0, 0)).2 : Nat) u]) ∈ news := by
  induction h with
  | nil => intro i h; simp at h
  | cons hm _ ih =>
    intro i hi
    cases i with
    | zero => exact ⟨_, _, _, rfl, hm⟩
    | succ i => exact ih (by simpa using hi)
def insK (sz : Nat → Nat) (os : List Nat) (k : Nat) : List Nat := os.insertIdx (bisRun true (fun i => decide (sz k < sz (os.getD i 0))) (fun (_ : Unit) _ => ()) os.length 0 os.length ()).1 k
def ordP (sz : Nat → Nat) : Nat → List Nat
  | 0 => []
  | k + 1 => insK sz (ordP sz k) k
def passedP (size : Nat) : List Nat := (bisRun true (fun i => decide (size < i + 1)) (fun st i => st ++ [i + 1]) 7 0 7 []).2
def markP (whole size : Nat) (kvs : List (Str × Str)) (n : Nat) : Option (List (Str × Str)) :=
  if n < size then
    match foundP kvs (whole / 16 ^ (size - n)) n with
    | none => none
    | some told => if (getT kvs (lowS (hexS (whole / 16 ^ (size - n))))).getD told = told then some (setD kvs (hexS (whole / 16 ^ (size - n))) told) else none
  else some kvs
def letterP (k : Nat) : Str := ⟨#[97 + k]⟩
def rowP (ws : List (Nat × Nat)) (kvs : List (Str × Str)) (k : Nat) : Option (List (Str × Str)) :=
  ((passedP (ws.getD k (0, 0)).2).foldlM (markP (ws.getD k (0, 0)).1 (ws.getD k (0, 0)).2) kvs).map fun kvs =>
    (kvs.filter fun kv => lowS kv.1 != lowS (lowS (hexS (ws.getD k (0, 0)).1))) ++ [(lowS (hexS (ws.getD k (0, 0)).1), letterP k)]
def tableP (ws : List (Nat × Nat)) : Option (List (Str × Str)) := (ordP (fun k => (ws.getD k (0, 0)).2) ws.length).foldlM (rowP ws) []
theorem insK_sub {sz : Nat → Nat} {os : List Nat} {k : Nat} : ∀ x ∈ insK sz os k, x = k ∨ x ∈ os := by
  intro x hx
  unfold insK at hx
  have hle := bisRun_le (right := true) (test := fun i => decide (sz k < sz (os.getD i 0))) (nx := fun (_ : Unit) _ => ()) os.length 0 os.length () (Nat.zero_le _)
  rw [List.mem_insertIdx hle] at hx
  exact hx
theorem ordP_lt {sz : Nat → Nat} : ∀ n, ∀ x ∈ ordP sz n, x < n
  | 0, x, h => by simp [ordP] at h
  | n + 1, x, h => by
    rcases insK_sub x h with rfl | h
    · omega
    · have := ordP_lt n x h; omega
theorem insK_length {sz : Nat → Nat} {os : List Nat} {k : Nat} : (insK sz os k).length = os.length + 1 := by
  unfold insK
  have hle := bisRun_le (right := true) (test := fun i => decide (sz k < sz (os.getD i 0))) (nx := fun (_ : Unit) _ => ()) os.length 0 os.length () (Nat.zero_le _)
  rw [List.length_insertIdx, if_pos hle]
theorem ordP_length {sz : Nat → Nat} : ∀ n, (ordP sz n).length = n
  | 0 => rfl
  | n + 1 => by rw [ordP, insK_length, ordP_length n]
theorem intsInsert {vs : List Value} {ns : List Int} {k : Int} {t : Tok} (h : IntsAre vs ns) : ∀ p, p ≤ vs.length → IntsAre (vs.insertIdx p (.int k t)) (ns.insertIdx p k) := by
  induction h with
  | nil => intro p hp; obtain rfl : p = 0 := by simpa using hp
           exact .cons _ _ .nil
  | cons n t' h ih =>
    intro p hp
    cases p with
    | zero => exact .cons _ _ (.cons _ _ h)
    | succ p => exact .cons _ _ (ih p (by simpa using hp))
theorem news_rot4 {h₀ h : Heap} {L : Addr} {a b c d : Addr × Obj} {r : List (Addr × Obj)} (N : News h₀ L h (a :: b :: c :: d :: r)) : ∃ RS, a :: b :: c :: r = RS ∧ News h₀ L h (d :: RS) :=
  ⟨_, rfl, fun p hp => N p (by revert p; (repeat (refine List.forall_mem_cons.mpr ⟨by k_mem, ?_⟩)); intro p hp; k_mem)⟩
def posA : Pos := ⟨162, 38, 162, 63⟩
def posB : Pos := ⟨168, 57, 168, 88⟩
def qL : Str := Str.ofString "_law_table" ++ Str.ofString ".<locals>." ++ Str.ofString "<lambda>"
theorem MadeL.mono {pos : Pos} {qual : Str} {ps : Array Value} {nx nx' : List (Addr × Obj)} (h : MadeL pos qual ps nx) (hs : ∀ c oc vs t, (c, oc) ∈ nx → oc.data = .fields vs → vs[1]? = some (.str qual t) → (c, oc) ∈ nx') : MadeL pos qual ps nx' := by
  rcases h with h | ⟨c', oc, vs, t, h1, h2, h3, h4⟩
  · exact .inl h
  · exact .inr ⟨c', oc, vs, t, h1, hs _ _ _ _ h2 h3 h4, h3, h4⟩
theorem triples_ne {oc : Obj} {vs : Array Value} {q : Str} {t : Tok} {ps : Array Value} (hp : TriplesOk ps.toList) (h1 : oc.data = .fields vs) (h2 : vs[1]? = some (.str q t)) : oc ≠ tabObj ps := by
  rintro rfl
  obtain rfl : ps = vs := Data.fields.inj h1
  obtain ⟨l⟩ := ps
  match l, hp with
  | [], _ => simp at h2
  | .int _ _ :: .int _ _ :: _ :: _, _ => simp at h2
theorem C1.mono {w : World} {f : Value} {args : List Value} {kw : List (Str × Value)} {need : Nat} {news : List (Addr × Obj)} {Post Post' : List (Addr × Obj) → Value → Prop} (c : C1 w f args kw need news Post) (h : ∀ n r, Post n r → Post' n r) : C1 w f args kw need news Post' := by
  unfold C1 at c ⊢
  intro p loose mean mg mb dp un gd cn nm' ig ic mr a ccd cl outer A₀ base h₀ L m s Q E B F X N T hd hu ret
  exact c p loose mean mg mb dp un gd cn nm' ig ic mr a ccd cl outer A₀ base h₀ L m s Q E B F X N T hd hu fun r n h' tk F' N' P => ret r n h' tk F' N' (h n r P)
theorem cmpK_gt {prog : Program} {w : World} {k n : Nat} {t t1 : Tok} {b : Bool} (h : b = decide (k < n)) : CmpK prog w (.int (k : Nat) t1) (.int (n : Nat) t) true b := by
  intro A Q E s hq
  rw [if_pos rfl]
  refine lt_int ?_
  have : decide ((k : Int) < (n : Int)) = b := by rw [h]; simp
  rw [this]; exact hq s.toks
theorem getD_at {α : Type} {l : List α} {j : Nat} {d : α} (h : j < l.length) : l.getD j d = l[j] := by simp [List.getD, h]
theorem map_insert (l : List Nat) (p k : Nat) : (l.insertIdx p k).map (fun k : Nat => (k : Int)) = (l.map fun k : Nat => (k : Int)).insertIdx p (k : Int) := by
  induction l generalizing p with
  | nil => cases p <;> simp
  | cons a l ih => cases p with
    | zero => simp
    | succ p => simp [ih]
theorem news_cons {h₀ h : Heap} {L : Addr} {p : Addr × Obj} {nx B : List (Addr × Obj)} (N : News h₀ L h B) (hp : p ∈ B) (h2 : News h₀ L h nx) : News h₀ L h (p :: nx) := List.forall_mem_cons.mpr ⟨N p hp, h2⟩
/-- a cell, or a table of code -/
def Odd (o : Obj) : Prop := (∃ v, o.data = .cell v) ∨ (∃ ps, o = tabObj ps ∧ TriplesOk ps.toList) ∨ ∃ v i, o.cls = .type "list_iterator" ∧ o.data = .fields #[.ref v, .int i 0]
theorem Odd.ne {o o' : Obj} (h : Odd o) (h1 : ∀ v, o'.data ≠ .cell v) (h2 : ∀ vs, o'.data ≠ .fields vs) : o' ≠ o := by
  rintro rfl
  rcases h with ⟨v, e⟩ | ⟨ps, e, -⟩ | ⟨v, i, -, e⟩
  · exact h1 v e
  · exact h2 ps (by rw [e])
  · exact h2 _ e
theorem Odd.ne_rec {oc o : Obj} {vs : Array Value} {q : Str} {t : Tok} (h : Odd o) (h1 : oc.data = .fields vs) (h2 : vs[1]? = some (.str q t)) : oc ≠ o := by
  rcases h with ⟨v, e⟩ | ⟨ps, e, hp⟩ | ⟨v, i, -, e⟩
  · rintro rfl; rw [h1] at e; cases e
  · rw [e]; exact triples_ne hp h1 h2
  · rintro rfl
    rw [h1] at e
    cases e
    simp at h2
theorem HasTab.off {w : World} {h₀ h : Heap} {L : Addr} {nx : List (Addr × Obj)} {x l : Addr} {kvs : List (Str × Str)} {S : List Addr} (hT : HasTab w nx x l kvs) (N : News h₀ L h nx) (hS : ∀ a ∈ S, ∃ o, (a, o) ∈ nx ∧ Odd o) : HasTab w (off S nx) x l kvs := by
  obtain ⟨ls, ln, hT⟩ := hT
  obtain ⟨dx, tk, dn, h1, h2⟩ := hT.inst
  refine ⟨ls, ln, ⟨dx, tk, dn, off_mem h1 ?_, off_mem h2 ?_⟩, off_mem hT.list ?_, hT.pairs.off fun q k v t u hq => ?_⟩
  all_goals
    intro a ha
    obtain ⟨o, ho, odd⟩ := hS a ha
    first | exact news_ne N h1 ho (odd.ne (by intro v e; cases e) (by intro v e; cases e)) | exact news_ne N h2 ho (odd.ne (by intro v e; cases e) (by intro v e; cases e)) | exact news_ne N hT.list ho (odd.ne (by intro v e; cases e) (by intro v e; cases e)) | exact news_ne N hq ho (odd.ne (by intro v e; cases e) (by intro v e; cases e))
theorem HasF.off {h₀ h : Heap} {L : Addr} {nx : List (Addr × Obj)} {S : List Addr} (hF : HasF nx) (N : News h₀ L h nx) (hS : ∀ a ∈ S, @Ne Nat a 216 ∧ ∃ o, (a, o) ∈ nx ∧ Odd o) : HasF (off S nx) := by
  obtain ⟨ps, hp, hF⟩ := hF
  refine ⟨ps, off_mem hp fun a ha => fun e => (hS a ha).1 e.symm, ?_⟩
  rcases hF with rfl | ⟨c', oc, vs, t, h1, h2, h3, h4⟩
  · exact .inl rfl
  · refine .inr ⟨c', oc, vs, t, h1, off_mem h2 fun a ha => ?_, h3, h4⟩
    obtain ⟨-, o, ho, odd⟩ := hS a ha
    exact news_ne N h2 ho (odd.ne_rec h3 h4)
theorem MadeL.off {h₀ h : Heap} {L : Addr} {pos : Pos} {qual : Str} {ps : Array Value} {nx : List (Addr × Obj)} {S : List Addr} (hM : MadeL pos qual ps nx) (N : News h₀ L h nx) (hS : ∀ a ∈ S, ∃ o, (a, o) ∈ nx ∧ Odd o) : MadeL pos qual ps (off S nx) :=
  hM.mono fun c oc vs t h1 h2 h3 => off_mem h1 fun a ha => let ⟨_, ho, odd⟩ := hS a ha; news_ne N h1 ho (odd.ne_rec h2 h3)
theorem HasF.mono {nx nx' : List (Addr × Obj)} (h : HasF nx) (hs : ∀ p ∈ nx, p ∈ nx') : HasF nx' := by
  obtain ⟨ps, hp, h⟩ := h
  exact ⟨ps, hs _ hp, h.mono fun c oc vs h1 _ _ => hs _ h1⟩
theorem fold_step {α β : Type} {f : β → α → Option β} {l : List α} {i : Nat} {k : α} {a b z : β} (hz : l.foldlM f a = some z) (hi : l[i]? = some k) (hb : (l.take i).foldlM f a = some b) : ∃ c, f b k = some c ∧ (l.take (i + 1)).foldlM f a = some c := by
  obtain ⟨hlt, rfl⟩ := List.getElem?_eq_some_iff.mp hi
  have e : l = l.take i ++ l[i] :: l.drop (i + 1) := by simp
  rw [e, List.foldlM_append, hb] at hz
  simp only [Option.bind_eq_bind, Option.bind_some, List.foldlM_cons] at hz
  cases hc : f b l[i] with
  | none => rw [hc] at hz; cases hz
  | some c =>
    refine ⟨c, rfl, ?_⟩
    rw [List.take_add_one, List.getElem?_eq_getElem hlt, List.foldlM_append, hb]
    simp [hc]
theorem names3 {h₀ h : Heap} {L : Addr} {a b c : Addr} {o1 o2 o3 : Obj} {r : List (Addr × Obj)} (_N : News h₀ L h ((a, o1) :: (b, o2) :: (c, o3) :: r)) : ∃ A B C, A = a ∧ B = b ∧ C = c := ⟨_, _, _, rfl, rfl, rfl⟩
theorem frPut2' {h₀ h : Heap} {L : Addr} {m : Str → Option Value} {x1 x2 : Str} {v1 v2 : Value} (F : Fr h₀ L h m) (e1 : m x1 = some v1) (e2 : m x2 = some v2) : Fr h₀ L h (fun y => if y = x1 then some v1 else if y = x2 then some v2 else m y) := frPut2 F e1 e2
theorem bisRun_rel {σ τ : Type} {right : Bool} {test : Nat → Bool} {nx : σ → Nat → σ} {nx' : τ → Nat → τ} (Rel : σ → τ → Prop) (n : Nat) (hs : ∀ i st st', i < n → Rel st st' → Rel (nx st i) (nx' st' i)) :
    ∀ (f lo hi : Nat) (st : σ) (st' : τ), hi ≤ n → Rel st st' → Rel (bisRun right test nx f lo hi st).2 (bisRun right test nx' f lo hi st').2
  | 0, _, _, _, _, _, h => h
  | f + 1, lo, hi, st, st', hn, h => by
    unfold bisRun
    split
    · split
      · exact bisRun_rel Rel n hs f _ _ _ _ (by omega) (hs _ _ _ (by omega) h)
      · exact bisRun_rel Rel n hs f _ _ _ _ hn (hs _ _ _ (by omega) h)
    · exact h
theorem passed_place {σ : Type} {nx : σ → Nat → σ} {st : σ} {size : Nat} (h1 : 1 ≤ size) (h7 : size ≤ 7) : (bisRun true (fun i => decide (size < i + 1)) nx 7 0 7 st).1 = size := by
  rw [bisRun_fst true _ nx (fun (u : Unit) _ => u) 7 0 7 st ()]
  have hk : ∀ s, s < 8 → 1 ≤ s → (bisRun true (fun i => decide (s < i + 1)) (fun (u : Unit) _ => u) 7 0 7 ()).1 = s := by decide
  exact hk size (Nat.lt_succ_of_le h7) h1
theorem passed_len {size : Nat} (h1 : 1 ≤ size) (h7 : size ≤ 7) : (passedP size).length = 3 := by
  have hk : ∀ s, s < 8 → 1 ≤ s → (passedP s).length = 3 := by decide
  exact hk size (Nat.lt_succ_of_le h7) h1
theorem passed_pos {size n : Nat} (h1 : 1 ≤ size) (h7 : size ≤ 7) (h : n ∈ passedP size) : 1 ≤ n := by
  have hk : ∀ s, s < 8 → 1 ≤ s → ∀ n ∈ passedP s, 1 ≤ n := by decide
  exact hk size (Nat.lt_succ_of_le h7) h1 n h
theorem front_norm2 {whole size n : Nat} (h : n ≤ size) : (whole : Int).fdiv (16 ^ ((size : Int) - (n : Int)).toNat) = ((whole / 16 ^ (size - n) : Nat) : Int) := by
  rw [Int.fdiv_eq_ediv_of_nonneg _ (Int.pow_nonneg (by decide)), show ((size : Int) - (n : Int)).toNat = size - n from by rw [← Int.ofNat_sub h]; exact Int.toNat_natCast _]
  push_cast
  rfl
theorem getT_mem {kvs : List (Str × Str)} {nm v : Str} (h : getT kvs nm = some v) : ∃ k, (k, v) ∈ kvs := by
  unfold getT at h
  obtain ⟨⟨k, v'⟩, h1, rfl⟩ := Option.map_eq_some_iff.mp h
  exact ⟨k, List.mem_of_find?_eq_some h1⟩
theorem foundP_clean {kvs : List (Str × Str)} {n size : Nat} {t : Str} (hk : ∀ kv ∈ kvs, Clean kv.1 ∧ Clean kv.2) (h : foundP kvs n size = some t) : Clean t := by
  unfold foundP at h
  split at h
  · obtain rfl := Option.some.inj h
    exact ⟨by simp, by simp⟩
  · obtain ⟨k, hm⟩ := getT_mem h
    exact (hk _ hm).2
theorem getT_setD {kvs : List (Str × Str)} {nm v : Str} (h : (getT kvs (lowS nm)).getD v = v) : getT (setD kvs nm v) (lowS nm) = some v := by
  cases e : getT kvs (lowS nm) with
  | some u => rw [setD_some e, e]; rw [e] at h; exact congrArg some h
  | none =>
    rw [setD_none e]
    unfold getT at e ⊢
    rw [Option.map_eq_none_iff] at e
    rw [List.find?_append, e]
    simp
theorem setD_len {kvs : List (Str × Str)} {nm v : Str} : (setD kvs nm v).length ≤ kvs.length + 1 := by
  unfold setD; split <;> simp
theorem setD_clean {kvs : List (Str × Str)} {nm v : Str} (hk : ∀ kv ∈ kvs, Clean kv.1 ∧ Clean kv.2) (hn : Clean nm) (hv : Clean v) : ∀ kv ∈ setD kvs nm v, Clean kv.1 ∧ Clean kv.2 := by
  unfold setD
  split
  · exact hk
  · intro kv h
    rcases List.mem_append.mp h with h | h
    · exact hk _ h
    · obtain rfl := List.mem_singleton.mp h
      exact ⟨hn, hv⟩
theorem HasF.keepL {h₀ h : Heap} {L l : Addr} {vs : Array Value} {n : Nat} {nx nx' : List (Addr × Obj)} (hF : HasF nx) (N : News h₀ L h nx) (hl : (l, listOf vs n) ∈ nx) (hk : Keep [l] nx nx') : HasF nx' := by
  obtain ⟨ps, hp, hF⟩ := hF
  refine ⟨ps, hk _ hp (List.forall_mem_singleton.mpr (news_ne N hp hl (by simp))), ?_⟩
  rcases hF with rfl | ⟨c', oc, vs', t, h1, h2, h3, h4⟩
  · exact .inl rfl
  · exact .inr ⟨c', oc, vs', t, h1, hk _ h2 (List.forall_mem_singleton.mpr (news_ne N h2 hl (by rintro rfl; cases h3))), h3, h4⟩
theorem HasTab.parts {w : World} {nx : List (Addr × Obj)} {x l : Addr} {kvs : List (Str × Str)} (h : HasTab w nx x l kvs) : ∃ dx tk dn ls ln, (x, instObj 205 dx) ∈ nx ∧ (dx, dictOf [hdEntry w tk l] dn) ∈ nx ∧ (l, listOf ls ln) ∈ nx :=
  let ⟨_, _, hT⟩ := h
  let ⟨dx, tk, dn, a, b⟩ := hT.inst
  ⟨dx, tk, dn, _, _, a, b, hT.list⟩
theorem item_letter : ∀ {k : Nat}, k < 5 → Txt.item (Str.ofString "abcde") ((k : Nat) : Int) = letterP k
  | 0, _ => by with_unfolding_all rfl
  | 1, _ => by with_unfolding_all rfl
  | 2, _ => by with_unfolding_all rfl
  | 3, _ => by with_unfolding_all rfl
  | 4, _ => by with_unfolding_all rfl
  | n + 5, h => absurd h (Nat.not_lt_of_le (Nat.le_add_left 5 n))
theorem letter_clean {k : Nat} (h : k < 5) : Clean (letterP k) := ⟨by simp [letterP], by simp [letterP]; omega⟩
theorem ltable (w : World) (tl : Addr) (tvs : List Value) (tn : Nat) (ws : List (Nat × Nat)) (nx : List (Addr × Obj)) (hl : (tl, listOf tvs.toArray tn) ∈ nx) (hW : WaysIn nx tvs ws) (hz : ws.length ≤ 5)
   (hws : ∀ p ∈ ws, 1 ≤ p.2 ∧ p.2 ≤ 7 ∧ 16 ^ p.2 ≤ p.1 ∧ p.1 < 16 ^ 8) (hL : (223, tabObj #[]) ∈ nx) (hF : HasF nx) (kvs : List (Str × Str)) (htab : tableP ws = some kvs) :
   C1 w (.ref 228) [.ref tl] [] 90 nx (fun nx' r => ∃ x l, HasTab w nx' x l kvs ∧ HasF nx' ∧ Keep [223, 216] nx nx' ∧ (∃ ps, (223, tabObj ps) ∈ nx') ∧ r = .ref x) := by
  unfold C1
  k_fill
  intro p loose mean mg mb dp un gd cn nm' ig ic mr a ccd cl outer A₀ base h₀ L m s Q E B F X N T hd hu ret
  have hlen : tvs.toArray.size = ws.length := by rw [List.size_toArray]; exact hW.length
  refine wpAny_call ?_
  k_dflt k_enter
  have cdB := cd227 (by assumption)
  k_steps
  unfold Hold
  rename_i g L' hA tkA FG Bx Xx Tx lA o1 o2 d1 d2 ol hB lB hC F' N' h tk1 t1 u1 v1 hr F₁ N₁ hk
  have hd2 : o2.data = .cell (some (.ref tl)) := d2
  have hd1 : o1.data = .cell none := d1
  clear d1 d2 F' N'
  obtain ⟨lB1, lB2, lB3⟩ := lB
  have hol : @Ne Nat ol 223 := news_ne N₁ (.head _) (.tail _ (.tail _ (.tail _ hL))) (by simp)
  obtain ⟨b₀, hb₀⟩ : ∃ b, b = off [223] ((L' + 1 + 1, o1) :: (L' + 1, o2) :: nx) := ⟨_, rfl⟩
  have hbo : ∀ p ∈ b₀, p.1 ≠ ol := by
    intro p hp
    rw [hb₀] at hp
    have := off_sub _ hp
    rcases List.mem_cons.mp this with rfl | this
    · exact Nat.ne_of_lt lB1
    · rcases List.mem_cons.mp this with rfl | this
      · exact Nat.ne_of_lt lB2
      · exact Nat.ne_of_lt (allLt_mem lB3 _ this)
  have hbt : ∀ p ∈ b₀, p.1 ≠ 223 := by rw [hb₀]; exact off_ne (.head _)
  have hbT : (L' + 1, o2) ∈ b₀ := by
    rw [hb₀]; exact off_mem (.tail _ (.head _)) (List.forall_mem_singleton.mpr (news_ne N₁ (.tail _ (.tail _ (.head _))) (.tail _ (.tail _ (.tail _ hL))) (by rintro rfl; cases hd2)))
  obtain ⟨pc, hpc⟩ : ∃ pc, pc = L' + 1 + 1 := ⟨_, rfl⟩
  have hbp : (pc, o1) ∈ b₀ := by
    rw [hb₀, hpc]; exact off_mem (.head _) (List.forall_mem_singleton.mpr (news_ne N₁ (.tail _ (.head _)) (.tail _ (.tail _ (.tail _ hL))) (by rintro rfl; cases hd1)))
  have hbF : HasF b₀ := by
    rw [hb₀]
    refine HasF.off (hF.mono fun p hp => .tail _ (.tail _ hp)) (h₀ := g) (L := L') (h := h) (fun p hp => N₁ p (.tail _ hp)) (List.forall_mem_singleton.mpr ⟨by decide, _, .tail _ (.tail _ hL), .inr (.inl ⟨_, rfl, trivial⟩)⟩)
  have hb1 : ∀ p ∈ nx, p.1 ≠ 223 → p ∈ b₀ := fun p hp hn => by
    rw [hb₀]; exact off_mem (.tail _ (.tail _ hp)) (List.forall_mem_singleton.mpr hn)
  have hbTp : L' + 1 ≠ pc := by rw [hpc]; exact Nat.ne_of_lt (Nat.lt_succ_self _)
  have hblp : tl ≠ pc := by rw [hpc]; exact news_ne N₁ (.tail _ (.tail _ (.tail _ hl))) (.tail _ (.head _)) (by rintro e; rw [← e] at hd1; cases hd1)
  have hbl : (tl, listOf tvs.toArray tn) ∈ b₀ := by
    rw [hb₀]; exact off_mem (.tail _ (.tail _ hl)) (List.forall_mem_singleton.mpr (news_ne N₁ (.tail _ (.tail _ (.tail _ hl))) (.tail _ (.tail _ (.tail _ hL))) (by simp)))
  have hbW : WaysIn b₀ tvs ws := by
    refine hW.mono fun q vs hq => ?_
    rw [hb₀]; exact off_mem (.tail _ (.tail _ hq)) (List.forall_mem_singleton.mpr (news_ne N₁ (.tail _ (.tail _ (.tail _ hq))) (.tail _ (.tail _ (.tail _ hL))) (by simp)))
  have N₀b : News g L' h b₀ := fun p hp => N₁ p (.tail _ (off_sub _ (hb₀ ▸ hp)))
  have hpp : @Ne Nat pc 223 := hbt _ hbp
  have h16 : @Ne Nat pc 216 := by
    obtain ⟨ps, hp, -⟩ := hbF
    exact news_ne N₀b hbp hp (by rintro rfl; cases hd1)
  obtain ⟨b₁, hb₁⟩ : ∃ b, b = off [pc, 216] b₀ := ⟨_, rfl⟩
  have hb1p : ∀ p ∈ b₁, p.1 ≠ pc := by rw [hb₁]; exact off_ne (.head _)
  have hb1t : ∀ p ∈ b₁, p.1 ≠ 223 := by rw [hb₁]; exact fun p hp => hbt p (off_sub _ hp)
  have hb16 : ∀ p ∈ b₁, p.1 ≠ 216 := by rw [hb₁]; exact off_ne (.tail _ (.head _))
  have hb1o : ∀ p ∈ b₁, p.1 ≠ ol := by rw [hb₁]; exact fun p hp => hbo p (off_sub _ hp)
  have hcT : (L' + 1, o2) ∈ b₁ := by
    obtain ⟨ps, hp, -⟩ := hbF
    rw [hb₁]; exact off_mem hbT (List.forall_mem_cons.mpr ⟨hbTp, List.forall_mem_singleton.mpr (news_ne N₀b hbT hp (by rintro rfl; cases hd2))⟩)
  have hcl : (tl, listOf tvs.toArray tn) ∈ b₁ := by
    obtain ⟨ps, hp, -⟩ := hbF
    rw [hb₁]; exact off_mem hbl (List.forall_mem_cons.mpr ⟨hblp, List.forall_mem_singleton.mpr (news_ne N₀b hbl hp (by simp))⟩)
  have hcW : WaysIn b₁ tvs ws := by
    obtain ⟨ps, hp, -⟩ := hbF
    refine hbW.mono fun q vs hq => ?_
    rw [hb₁]; exact off_mem hq (List.forall_mem_cons.mpr ⟨news_ne N₀b hq hbp (by rintro rfl; cases hd1), List.forall_mem_singleton.mpr (news_ne N₀b hq hp (by simp))⟩)
  refine Iter_range_my (n := ws.length) (fun i m₁ nx' => m₁ (Str.ofString "order") = some (.ref ol) ∧ (∃ os on, (ol, listOf os.toArray on) ∈ nx' ∧ IntsAre os ((ordP (fun k => (ws.getD k (0, 0)).2) i).map fun k => ((k : Nat) : Int))) ∧ (∃ ps, (223, tabObj ps) ∈ nx' ∧ TriplesOk ps.toList ∧ MadeL posA qL ps nx' ∧ codeAmong posB ps.toList = none) ∧ ∀ p ∈ b₀, p ∈ nx') rfl hr ?rs ?rn F₁ N₁ ?J0 ?turn ?done
  case rs => exact small_nat _ (Nat.le_trans hz (by decide))
  case rn => exact size_nat _
  case J0 =>
    exact ⟨rfl, ⟨[], 0, .head _, .nil⟩, ⟨#[], .tail _ (.tail _ (.tail _ hL)), trivial, .inl rfl, rfl⟩, fun p hp => .tail _ (off_sub _ (hb₀ ▸ hp))⟩
  case turn =>
    rintro I i ti m₁ nx' h9 tk9 io hi ⟨hm1, ⟨os, on, ho, hos⟩, ⟨ps, hps, htr, hmade, hnoB⟩, hb⟩ hne F' N'
    refine qgen fun Qa hQa => ?_
    clear F₁ N₁
    replace F' := frPut F' hm1
    have N2 : News g L' h9 ((I, io) :: (ol, listOf os.toArray on) :: (223, tabObj ps) :: off [ol, 223] nx') := fun p hp => by
      rcases List.mem_cons.mp hp with rfl | hp
      · exact N' _ (.head _)
      · rcases List.mem_cons.mp hp with rfl | hp
        · exact N' _ (.tail _ ho)
        · rcases List.mem_cons.mp hp with rfl | hp
          · exact N' _ (.tail _ hps)
          · exact N' _ (.tail _ (off_sub _ hp))
    have hR1 : ∀ p ∈ off [ol, 223] nx', p.1 ≠ ol := off_ne (.head _)
    have hR2 : ∀ p ∈ off [ol, 223] nx', p.1 ≠ 223 := off_ne (.tail _ (.head _))
    have hRb : ∀ p ∈ b₀, p ∈ off [ol, 223] nx' := fun p hp => off_mem (hb p hp) (List.forall_mem_cons.mpr ⟨hbo p hp, List.forall_mem_singleton.mpr (hbt p hp)⟩)
    have hmade : MadeL posA qL ps (off [ol, 223] nx') := hmade.mono fun c oc vs t h1 h2 h3 => off_mem h1 (List.forall_mem_cons.mpr ⟨news_ne N' (.tail _ h1) (.tail _ ho) (by rintro rfl; cases h2), List.forall_mem_singleton.mpr (news_ne N' (.tail _ h1) (.tail _ hps) (triples_ne htr h2 h3))⟩)
    have hRI : ∀ p ∈ off [ol, 223] nx', p.1 ≠ I := fun p hp => hne p (off_sub _ hp)
    have hIo : ol ≠ I := hne _ ho
    have hIt : 223 ≠ I := hne _ hps
    clear hb hps ho N' hne
    generalize off [ol, 223] nx' = R at *
    have hRT := hRb _ hbT
    rw [show (0 : Int) + (i : Int) * 1 = ((i : Nat) : Int) from by omega]
    k_steps
    unfold Hold
    k_dflt (refine' klaBoth_K (fun c' => c' ≠ I) htr ?mk ?av ?F ?N ?T ?C ?cd ?U ?cl ?_)
    case F => k_asm
    case N => k_asm
    case T => k_asm
    case C => kn_code
    case cd => exact rfl
    case U => exact UpdF.tail hIt.symm (UpdF.tail hol (UpdF.head hR2))
    case cl => exact rfl
    case mk =>
      rcases hmade with h | ⟨c', oc, vs, t, h1, h2, h3, h4⟩
      · exact .inl h
      · exact .inr ⟨c', oc, vs, t, h1, .tail _ (.tail _ (.tail _ h2)), h3, h4, hRI _ h2⟩
    case av => exact fun c' h => Nat.ne_of_gt (h (I, io) (.head _))
    intro f c' oc vs tq ctv h' tk' ps' F' N' hd1' hd2' htr' hcode' hother' hcI hlt hcf
    (try dsimp only at N')
    have hnoB' : codeAmong posB ps'.toList = none := (hother' posB (.inl (by decide))).trans hnoB
    k_steps
    unfold Hold
    (rename News _ _ _ _ => N4)
    obtain ⟨RS, hRS, N3⟩ := news_rot4 N4
    have hlam : ∀ (j : Nat) (t : Tok), j < ws.length → C1 w (.ref f) [.int ((j : Nat) : Int) t] [] 10 ((ol, listOf os.toArray on) :: RS) (fun news' r => (ol, listOf os.toArray on) :: RS = news' ∧ ∃ t', r = .int (((ws.getD j (0, 0)).2 : Nat) : Int) t') := by
      intro j t hj
      have hRl := hRb _ hbl
      obtain ⟨q, t5, u5, hq, hqm⟩ := hbW.at hj
      have hRq := hRb _ hqm
      clear ret hd hu B F X N T N4 N3 F' Bx FG Xx Tx
      subst hRS
      unfold C1
      intro p' loose' mean' mg' mb' dp' un' gd' cn' nm'' ig' ic' mr' a' ccd' cl' outer' A₀' base' h₀' L₂ m' s' Q' E' B F X N T hd hu ret
      refine wpAny_call ?_
      k_dflt kla_enter
      k_steps
      unfold Hold
      (rename News _ _ _ _ => N5)
      refine item_at N5 (.tail _ (.tail _ (.tail _ (.tail _ (.tail _ hRl))))) (by omega) (by omega) (by rw [Int.toNat_natCast]; exact hq) ?_
      k_steps
      exact ret _ _ _ _ (by k_asm) (by k_asm) ⟨rfl, _, rfl⟩
    have hoff : ∀ p ∈ RS, p.1 ≠ ol := by
      rw [← hRS]
      refine List.forall_mem_cons.mpr ⟨Nat.ne_of_gt (hlt (ol, _) (.tail _ (.head _))), List.forall_mem_cons.mpr ⟨news_ne N4 (.tail _ (.head _)) (.tail _ (.tail _ (.tail _ (.head _)))) (by rintro rfl; cases hd1'), List.forall_mem_cons.mpr ⟨hIo.symm, List.forall_mem_cons.mpr ⟨fun e => hol e.symm, hR1⟩⟩⟩⟩
    have hfm : ∃ oc od fd sl, (f, (⟨oc, od, .func fd, sl⟩ : Obj)) ∈ RS := by rw [← hRS]; exact ⟨_, _, _, _, .head _⟩
    have hosl : os.length = i := by rw [hos.length]; simp [ordP_length]
    have hx := (hlam i ti hi).mono (Post' := fun news' r => (ol, listOf os.toArray on) :: RS = news' ∧ KeyC w f r true ol os on 10 (fun _ : Unit => (ol, listOf os.toArray on) :: RS) (fun _ => 0) (fun j => decide ((ws.getD i (0, 0)).2 < (ws.getD ((ordP (fun k => (ws.getD k (0, 0)).2) i).getD j 0) (0, 0)).2)) (fun _ _ => ())) (by
      rintro n r ⟨e, t', rfl⟩
      refine ⟨e, fun _ => ?_, fun _ => .head _, fun _ _ => Nat.zero_le _, fun st j v hv _ => ?_⟩
      · obtain ⟨a, b, c, d, h⟩ := hfm
        exact ⟨a, b, c, d, .tail _ h⟩
      · have hj : j < (ordP (fun k => (ws.getD k (0, 0)).2) i).length := by rw [ordP_length, ← hosl]; exact (List.getElem?_eq_some_iff.mp hv).1
        have hf := List.getElem?_eq_getElem hj
        obtain ⟨tv, rfl⟩ := hos.at_nat hf hv
        have hlt' := ordP_lt i _ (List.getElem_mem hj)
        refine (hlam _ tv (Nat.lt_trans hlt' hi)).mono ?_
        rintro n' r' ⟨e', t'', rfl⟩
        exact ⟨e', cmpK_gt (by rw [getD_at hj])⟩)
    k_dflt (refine' C1.use (insort w f ol (.int ((i : Nat) : Int) ti) os on 10 RS _ (by omega) hoff hfm hx) ?l1 ?l2 ?l3 ?l4 ?l5 ?l6 ?l7 ?_)
    case l1 => k_asm
    case l2 => k_asm
    case l3 => k_asm
    case l4 => k_asm
    case l5 => k_asm
    case l6 => ktr_room
    case l7 => ktr_units
    intro r7 news7 h7 tk7 F7 N7 P7
    obtain ⟨e1, e2⟩ := P7
    subst e1
    subst e2
    clear hlam hx N4 N3
    k_steps
    subst hRS
    obtain ⟨_, V, -, hV⟩ := listName N7
    rw [← hV] at N7
    refine hQa _ _ (ForStep.next (by k_asm) N7 (news₂ := (ol, listOf V.toArray (on + 1)) :: (c', oc) :: (223, tabObj ps') :: R) (fun p hp => ?_) ?_ ⟨rfl, ⟨V, on + 1, .head _, ?_⟩, ⟨ps', .tail _ (.tail _ (.head _)), htr', .inr ⟨c', oc, vs, tq, hcode', .tail _ (.head _), hd1', hd2'⟩, hnoB'⟩, fun p hp => .tail _ (.tail _ (.tail _ (hRb p hp)))⟩)
    · revert p; (repeat (refine List.forall_mem_cons.mpr ⟨by k_mem, ?_⟩)); intro p hp; k_mem
    · exact List.forall_mem_cons.mpr ⟨hIo, List.forall_mem_cons.mpr ⟨hcI, List.forall_mem_cons.mpr ⟨hIt, hRI⟩⟩⟩
    · rw [hV]
      show IntsAre _ ((insK _ _ _).map _)
      unfold insK
      rw [map_insert, ordP_length]
      have := intsInsert (k := (i : Int)) (t := ti) hos _ (bisRun_le (right := true) (test := fun j => decide ((ws.getD i (0, 0)).2 < (ws.getD ((ordP (fun k => (ws.getD k (0, 0)).2) i).getD j 0) (0, 0)).2)) (nx := fun (_ : Unit) _ => ()) os.length 0 os.length () (Nat.zero_le _))
      rw [hosl] at this ⊢
      exact this
  case done =>
    rintro m₁ nx' h9 tk9 ⟨hm1, ⟨os, on, ho, hos⟩, ⟨ps, hps, htr, hmade, hnoB⟩, hb⟩ F' N'
    clear F₁ N₁ hr
    replace F' := frPut F' hm1
    have N2 : News g L' h9 ((ol, listOf os.toArray on) :: (223, tabObj ps) :: off [ol, 223] nx') := fun p hp => by
      rcases List.mem_cons.mp hp with rfl | hp
      · exact N' _ ho
      · rcases List.mem_cons.mp hp with rfl | hp
        · exact N' _ hps
        · exact N' _ (off_sub _ hp)
    have hR1 : ∀ p ∈ off [ol, 223] nx', p.1 ≠ ol := off_ne (.head _)
    have hR2 : ∀ p ∈ off [ol, 223] nx', p.1 ≠ 223 := off_ne (.tail _ (.head _))
    have hRb : ∀ p ∈ b₀, p ∈ off [ol, 223] nx' := fun p hp => off_mem (hb p hp) (List.forall_mem_cons.mpr ⟨hbo p hp, List.forall_mem_singleton.mpr (hbt p hp)⟩)
    clear hb hps ho N' hmade
    generalize off [ol, 223] nx' = R at *
    have hRT := hRb _ hbT
    k_steps
    unfold Hold
    (rename Fr _ _ _ _ => F₃); (rename News _ _ _ _ => N₃)
    obtain ⟨X₃, hX3⟩ := newsName N₃
    refine Iter_list_my (k := 0) (vs := []) (fun i m nx => nx = X₃) rfl F₃ N₃ ?_ hX3 ?_ ?_
    · rintro i m nx rfl; rw [← hX3]; exact .tail _ (.tail _ (.head _))
    · rintro I i v m₁ nx h tk io hv; simp at hv
    rintro m₂ nx h tk rfl F' N'
    subst hX3
    clear F₃ N₃
    k_steps
    unfold Hold
    (rename Fr _ _ _ _ => F₃); (rename News _ _ _ _ => N₃)
    obtain ⟨x, dx, l, ex, edx, el⟩ := names3 N₃
    subst ex edx el
    obtain ⟨X₃, hX3⟩ := newsName N₃
    have hT0 : HasTab w X₃ x l [] := by
      rw [← hX3]; exact ⟨[], 0, ⟨⟨dx, _, _, .head _, .tail _ (.head _)⟩, .tail _ (.tail _ (.head _)), .nil⟩⟩
    have hRX : ∀ p ∈ R, p ∈ X₃ := by
      rw [← hX3]; exact fun p hp => .tail _ (.tail _ (.tail _ (.tail _ (.tail _ hp))))
    have hoX : (ol, listOf os.toArray on) ∈ X₃ := by rw [← hX3]; exact .tail _ (.tail _ (.tail _ (.head _)))
    have hpX : (223, tabObj ps) ∈ X₃ := by rw [← hX3]; exact .tail _ (.tail _ (.tail _ (.tail _ (.head _))))
    have hxl : x ≠ l := news_ne N₃ (.head _) (.tail _ (.tail _ (.head _))) (by simp)
    have hlo : l ≠ ol := by
      (rename ol < l ∧ _ => hll)
      exact Nat.ne_of_gt hll.1
    rw [hX3] at N₃
    clear hX3 qk ek
    have hb1R : ∀ p ∈ b₁, p ∈ R := by rw [hb₁]; exact fun p hp => hRb p (off_sub _ hp)
    have hb1l : ∀ p ∈ b₁, p.1 ≠ l := by
      (rename ol < l ∧ _ => hll)
      exact fun p hp => Nat.ne_of_lt (allLt_mem hll.2.2 p (hb1R p hp))
    have hosl : os.length = (ordP (fun k => (ws.getD k (0, 0)).2) ws.length).length := by rw [hos.length]; simp
    refine Iter_list_my2 (k := on) (vs := os) (fun i m₁ nx' => m₁ (Str.ofString "order") = some (.ref ol) ∧ m₁ (Str.ofString "table") = some (.ref x) ∧ (ol, listOf os.toArray on) ∈ nx' ∧ (∃ oc v, (pc, oc) ∈ nx' ∧ oc.data = .cell v) ∧ (∃ ps, (223, tabObj ps) ∈ nx' ∧ TriplesOk ps.toList ∧ MadeL posB qL ps nx') ∧ HasF nx' ∧
      (∃ kvs', HasTab w nx' x l kvs' ∧ ((ordP (fun k => (ws.getD k (0, 0)).2) ws.length).take i).foldlM (rowP ws) [] = some kvs' ∧ kvs'.length ≤ 10 * i ∧ ∀ kv ∈ kvs', Clean kv.1 ∧ Clean kv.2) ∧ ∀ p ∈ b₁, p ∈ nx') rfl F₃ N₃ ?_ ?_ ?_ ?_
    · rintro i m nx ⟨-, -, h, -⟩; exact h
    · exact ⟨rfl, rfl, hoX, ⟨o1, _, hRX _ (hRb _ hbp), hd1⟩, ⟨ps, hpX, htr, .inl hnoB⟩, (hbF.mono hRb).mono hRX, ⟨[], hT0, rfl, by simp, by simp⟩, fun p hp => hRX _ (hb1R _ hp)⟩
    · rintro I i v m₂ nx' h8 tk8 io hio hv ⟨hm1, hm2, ho8, ⟨oc8, v8, hc8, hcd8⟩, ⟨ps8, hps8, htr8, hma8⟩, hF8, ⟨kvs8, hT8, hf8, hz8, hk8⟩, hb8⟩ hne F' N'
      refine qgen fun Qb hQb => ?_
      clear F₃ N₃ hT0 hRX hoX hpX
      replace F' := frPut2 F' hm1 hm2
      have hik : i < (ordP (fun k => (ws.getD k (0, 0)).2) ws.length).length := by rw [← hosl]; exact (List.getElem?_eq_some_iff.mp hv).1
      obtain ⟨k, hk⟩ : ∃ k, (ordP (fun k => (ws.getD k (0, 0)).2) ws.length)[i]? = some k := ⟨_, List.getElem?_eq_getElem hik⟩
      have hkn : k < ws.length := ordP_lt ws.length k (List.mem_of_getElem? hk)
      obtain ⟨tk0, rfl⟩ := hos.at_nat hk hv
      have Nn : News g L' h8 nx' := fun p hp => N' p (.tail _ hp)
      have hS : ∀ a ∈ [pc, 223], ∃ o, (a, o) ∈ nx' ∧ Odd o := List.forall_mem_cons.mpr ⟨⟨oc8, hc8, .inl ⟨_, hcd8⟩⟩, List.forall_mem_singleton.mpr ⟨_, hps8, .inr (.inl ⟨_, rfl, htr8⟩)⟩⟩
      have N2 : News g L' h8 ((I, io) :: (pc, oc8) :: (223, tabObj ps8) :: off [pc, 223] nx') := fun p hp => by
        rcases List.mem_cons.mp hp with rfl | hp
        · exact N' _ (.head _)
        · rcases List.mem_cons.mp hp with rfl | hp
          · exact N' _ (.tail _ hc8)
          · rcases List.mem_cons.mp hp with rfl | hp
            · exact N' _ (.tail _ hps8)
            · exact N' _ (.tail _ (off_sub _ hp))
      have hT8 := hT8.off Nn hS
      have hF8 := hF8.off Nn (List.forall_mem_cons.mpr ⟨⟨h16, hS _ (.head _)⟩, List.forall_mem_singleton.mpr ⟨by decide, hS _ (.tail _ (.head _))⟩⟩)
      have hma8 := hma8.off Nn hS
      have ho8 : (ol, listOf os.toArray on) ∈ off [pc, 223] nx' := off_mem ho8 (List.forall_mem_cons.mpr ⟨news_ne Nn ho8 hc8 (by rintro rfl; cases hcd8), List.forall_mem_singleton.mpr hol⟩)
      have hb8 : ∀ p ∈ b₁, p ∈ off [pc, 223] nx' := fun p hp => off_mem (hb8 p hp) (List.forall_mem_cons.mpr ⟨hb1p p hp, List.forall_mem_singleton.mpr (hb1t p hp)⟩)
      have hIp : pc ≠ I := hne _ hc8
      have hIt : 223 ≠ I := hne _ hps8
      have hR1 : ∀ p ∈ off [pc, 223] nx', p.1 ≠ pc := off_ne (.head _)
      have hR2 : ∀ p ∈ off [pc, 223] nx', p.1 ≠ 223 := off_ne (.tail _ (.head _))
      have hRI : ∀ p ∈ off [pc, 223] nx', p.1 ≠ I := fun p hp => hne p (off_sub _ hp)
      clear hS Nn N' hne hps8 hc8 hb1R hRb hRT htr hnoB
      generalize off [pc, 223] nx' = R8 at *
      have hRT := hb8 _ hcT
      subst hpc
      k_steps
      unfold Hold
      obtain ⟨q, tq1, tq2, hq, hqm⟩ := hcW.at hkn
      have hqm := hb8 _ hqm
      have hwsk : ws.getD k (0, 0) ∈ ws := by rw [getD_at hkn]; exact List.getElem_mem hkn
      obtain ⟨⟨whole, size⟩, hwk⟩ : ∃ p, ws.getD k (0, 0) = p := ⟨_, rfl⟩
      rw [hwk] at hqm hwsk
      obtain ⟨hs1, hs7, hw1, hw8⟩ := hws _ hwsk
      dsimp only at hqm hs1 hs7 hw1 hw8
      have hcl8 := hb8 _ hcl
      (rename News _ _ _ _ => N5)
      refine item_at N5 (.tail _ (.tail _ (.tail _ hcl8))) (by omega) (by omega) (by rw [Int.toNat_natCast]; exact hq) ?_
      k_steps
      unfold Hold
      (rename Fr _ _ _ _ => F6); (rename News _ _ _ _ => N6)
      obtain ⟨pl, hpl⟩ := newsHead N6
      subst hpl
      (rename I < pl ∧ _ => hl6)
      obtain ⟨hl6a, hl6b, hl6c, hl6d⟩ := hl6
      k_dflt (refine' storeX_C F6 N6 ?sc ?sU hcd8 ?_ ?sa ?sb)
      case sa => rfl
      case sb => rfl
      case sc => rfl
      case sU => exact UpdF.tail (Nat.ne_of_gt hl6b) (UpdF.tail (fun e => hIp e.symm) (UpdF.head (List.forall_mem_cons.mpr ⟨fun e => hpp e.symm, hR1⟩)))
      intro h7 oc7 F7 N7 hcd7
      (try dsimp only at N7)
      clear F6 N6
      k_steps
      unfold Hold
      (rename Fr _ _ _ _ => F6); (rename News _ _ _ _ => N6)
      obtain ⟨lv, items, hlv, hitems⟩ := listName N6
      subst hlv
      (rename pl < lv ∧ _ => hl8)
      obtain ⟨hl8a, hl8b, hl8c, hl8d, hl8e⟩ := hl8
      k_dflt (refine' klaBoth_K (fun c' => c' ≠ pl ∧ c' ≠ I ∧ c' ≠ L' + 1 + 1) htr8 ?mk2 ?av2 ?F2 ?N2 ?T2 ?C2 ?cd2 ?U2 ?cl2 ?_)
      case F2 => exact F6
      case N2 => exact N6
      case T2 => k_asm
      case C2 => kn_code
      case cd2 => exact rfl
      case U2 => exact UpdF.tail (Nat.ne_of_gt hl8d) (UpdF.tail (Nat.ne_of_gt hl6c) (UpdF.tail hIt.symm (UpdF.tail hpp (UpdF.head hR2))))
      case cl2 => exact rfl
      case mk2 =>
        rcases hma8 with h | ⟨c', oc, vs, t, h1, h2, h3, h4⟩
        · exact .inl h
        · exact .inr ⟨c', oc, vs, t, h1, .tail _ (.tail _ (.tail _ (.tail _ (.tail _ h2)))), h3, h4, Nat.ne_of_lt (allLt_mem hl6d _ h2), hRI _ h2, hR1 _ h2⟩
      case av2 => exact fun c' h => ⟨Nat.ne_of_gt (h (pl, listOf #[] 0) (.tail _ (.head _))), Nat.ne_of_gt (h (I, io) (.tail _ (.tail _ (.head _)))), Nat.ne_of_gt (h (L' + 1 + 1, oc7) (.tail _ (.tail _ (.tail _ (.head _)))))⟩
      intro f c' oc vs tq ctv h' tk' ps' F' N' hd1' hd2' htr' hcode' hother' hcI hlt hcf
      obtain ⟨hc1, hc2, hc3⟩ := hcI
      (try dsimp only at N')
      have hplf : pl < f := hlt (pl, listOf #[] 0) (.tail _ (.head _))
      have hIf : I < f := hlt (I, io) (.tail _ (.tail _ (.head _)))
      clear N6 F6
      k_steps
      unfold Hold
      (rename Fr _ _ _ _ => F6); (rename News _ _ _ _ => N6)
      obtain ⟨RS, hRS, N7⟩ := news_rot4 N6
      have hseven : ∀ i v, items[i]? = some v → i < 7 ∧ ∃ t, v = .int ((i + 1 : Nat) : Int) t := by
        rw [hitems]; exact fun i v h => seven_at h
      have hoffpl : ∀ p ∈ RS, p.1 ≠ pl := by
        rw [← hRS]
        exact List.forall_mem_cons.mpr ⟨Nat.ne_of_gt hplf, List.forall_mem_cons.mpr ⟨hc1, List.forall_mem_cons.mpr ⟨Nat.ne_of_gt hl8a, List.forall_mem_cons.mpr ⟨Nat.ne_of_lt hl6a, List.forall_mem_cons.mpr ⟨Nat.ne_of_lt hl6b, List.forall_mem_cons.mpr ⟨Nat.ne_of_lt hl6c, fun p hp => Nat.ne_of_lt (allLt_mem hl6d p hp)⟩⟩⟩⟩⟩⟩
      have K : KeyC w f (.int ((size : Nat) : Int) tq2) true lv items 0 10 (fun st : List Value × Nat => (pl, listOf st.1.toArray st.2) :: RS) (fun st => st.1.length) (fun i => decide (size < i + 1)) (fun st i => (st.1 ++ [items.getD i .none], st.2 + 1)) := by
        refine ⟨fun st => ?_, fun st => ?_, fun st i => ?_, fun st i v hv hsz9 => ?_⟩
        · rw [← hRS]; exact ⟨_, _, _, _, .tail _ (.head _)⟩
        · rw [← hRS, hitems]; exact .tail _ (.tail _ (.tail _ (.head _)))
        · simp
        · obtain ⟨hi7, t9, rfl⟩ := hseven i v hv
          clear ret hd hu B F X N T N6 N7 F6 Bx FG Xx Tx F' hlt
          subst hRS
          replace hsz9 : st.1.length ≤ 5000 := hsz9
          unfold C1
          intro p' loose' mean' mg' mb' dp' un' gd' cn' nm'' ig' ic' mr' a' ccd' cl' outer' A₀' base' h₀' L₂ m' s' Q' E' B F X N T hd hu ret
          refine wpAny_call ?_
          k_dflt kla_enter
          k_steps
          (rename News _ _ _ _ => N9)
          simp only [List.push_toArray] at N9
          have e : items.getD i .none = .int ((i + 1 : Nat) : Int) t9 := by simp [List.getD, hv]
          exact ret _ _ _ _ (by k_asm) N9 ⟨by dsimp only; rw [e], cmpK_gt rfl⟩
      have hsz7 : items.length = 7 := by rw [hitems]; rfl
      k_dflt (refine' C1.use (bisr w f lv (.int ((size : Nat) : Int) tq2) items 0 10 _ _ _ _ K (by omega) ([], 0) (by show 0 + _ ≤ _; omega) [.ref lv, .int ((size : Nat) : Int) tq2] (.inl rfl)) ?l1 ?l2 ?l3 ?l4 ?l5 ?l6 ?l7 ?_)
      case l1 => k_asm
      case l2 => k_asm
      case l3 => k_asm
      case l4 => exact N7
      case l5 => k_asm
      case l6 => ktr_room
      case l7 => ktr_units
      intro r7 news7 h9 tk9 F7 N8 P7
      obtain ⟨e1, t7, e2⟩ := P7
      subst e1
      subst e2
      have hrel : IntsAre (bisRun true (fun i => decide (size < i + 1)) (fun (st : List Value × Nat) i => (st.1 ++ [items.getD i .none], st.2 + 1)) items.length 0 items.length ([], 0)).2.1 ((passedP size).map fun n => ((n : Nat) : Int)) := by
        rw [hsz7]
        refine bisRun_rel (fun (st : List Value × Nat) (st' : List Nat) => IntsAre st.1 (st'.map fun n => ((n : Nat) : Int))) 7 (fun i st st' hi h => ?_) 7 0 7 _ _ (Nat.le_refl _) .nil
        have hil : i < items.length := by omega
        obtain ⟨-, t9, e9⟩ := hseven i _ (List.getElem?_eq_getElem hil)
        rw [List.map_append, getD_at hil, e9]
        exact intsSnoc h
      rw [hsz7] at N8 hrel ⊢
      rw [passed_place hs1 hs7]
      generalize (bisRun true (fun i => decide (size < i + 1)) (fun (st : List Value × Nat) i => (st.1 ++ [items.getD i .none], st.2 + 1)) 7 0 7 ([], 0)).2 = pst at N8 hrel
      obtain ⟨pv, pn⟩ := pst
      dsimp only at N8 hrel
      subst hRS
      clear K N6 N7 F6 hseven hitems hsz7
      k_steps
      · exact absurd rfl ‹_›
      unfold Hold
      have hTl : ∃ ls ln, (l, listOf ls ln) ∈ R8 := let ⟨ls, ln, h⟩ := hT8; ⟨_, _, h.list⟩
      obtain ⟨ls8, ln8, hTl⟩ := hTl
      have hF16 : ∃ ps, (216, tabObj ps) ∈ R8 ∧ (ps = #[] ∨ ∃ a b c, ps = #[rawInt a, rawInt b, .ref c]) := by
        obtain ⟨ps, h, h'⟩ := hF8
        refine ⟨ps, h, ?_⟩
        rcases h' with rfl | ⟨c', oc, vs, t, h1, h2, h3, h4⟩
        · exact .inl rfl
        · exact .inr ⟨_, _, _, h1⟩
      obtain ⟨ps6, hF6, hps6⟩ := hF16
      obtain ⟨b₂, hb₂⟩ : ∃ b, b = (pl, listOf pv.toArray pn) :: (c', oc) :: (I, io) :: (L' + 1 + 1, oc7) :: (223, tabObj ps') :: (ol, listOf os.toArray on) :: b₁ := ⟨_, rfl⟩
      have N9 : News g L' h9 ((l, listOf ls8 ln8) :: (216, tabObj ps6) :: b₂) := by
        rw [hb₂]
        (repeat (refine news_cons N8 (by k_mem) ?_))
        intro p h
        have h := hb8 p h
        exact N8 p (by k_mem)
      have N9' := N9
      rw [hb₂] at N9'
      have hb2l : ∀ p ∈ b₂, p.1 ≠ l := by
        rw [hb₂]
        exact List.forall_mem_cons.mpr ⟨Nat.ne_of_gt (allLt_mem hl6d _ hTl), List.forall_mem_cons.mpr ⟨news_ne N9' (.tail _ (.tail _ (.tail _ (.head _)))) (.head _) (by rintro rfl; cases hd1'), List.forall_mem_cons.mpr ⟨fun e => hRI _ hTl e.symm, List.forall_mem_cons.mpr ⟨news_ne N9' (.tail _ (.tail _ (.tail _ (.tail _ (.tail _ (.head _)))))) (.head _) (by rintro rfl; cases hcd7), List.forall_mem_cons.mpr ⟨news_ne N9' (.tail _ (.tail _ (.tail _ (.tail _ (.tail _ (.tail _ (.head _))))))) (.head _) (by simp), List.forall_mem_cons.mpr ⟨fun e => hlo e.symm, hb1l⟩⟩⟩⟩⟩⟩
      have hb216 : ∀ p ∈ b₂, p.1 ≠ 216 := by
        rw [hb₂]
        exact List.forall_mem_cons.mpr ⟨news_ne N9' (.tail _ (.tail _ (.head _))) (.tail _ (.head _)) (by simp), List.forall_mem_cons.mpr ⟨news_ne N9' (.tail _ (.tail _ (.tail _ (.head _)))) (.tail _ (.head _)) (tabObj_ne hps6 hd1' hd2'), List.forall_mem_cons.mpr ⟨fun e => hRI _ hF6 e.symm, List.forall_mem_cons.mpr ⟨h16, List.forall_mem_cons.mpr ⟨by show @Ne Nat 223 216; decide, List.forall_mem_cons.mpr ⟨news_ne N9' (.tail _ (.tail _ (.tail _ (.tail _ (.tail _ (.tail _ (.tail _ (.head _)))))))) (.tail _ (.head _)) (by simp), hb16⟩⟩⟩⟩⟩⟩
      obtain ⟨X8, hX8⟩ := newsName N8
      have hb2X : ∀ p ∈ b₂, p ∈ X8 := by
        rw [hb₂, ← hX8]
        (repeat (refine List.forall_mem_cons.mpr ⟨by k_mem, ?_⟩))
        intro p h
        have h := hb8 p h
        k_mem
      have hFX : HasF X8 := by rw [← hX8]; exact hF8.mono fun p hp => by k_mem
      have hTX : HasTab w X8 x l kvs8 := by rw [← hX8]; exact hT8.mono fun p hp => by k_mem
      have hplX : (pl, listOf pv.toArray pn) ∈ b₂ := by rw [hb₂]; exact .head _
      have hIX : (I, io) ∈ b₂ := by rw [hb₂]; exact .tail _ (.tail _ (.head _))
      rw [hX8] at N8
      clear hX8 N9' N9
      have htab' := htab
      unfold tableP at htab'
      obtain ⟨kvs9, hrow, hf9⟩ := fold_step htab' hk hf8
      unfold rowP at hrow
      rw [hwk] at hrow
      obtain ⟨kvsM, hM, hM'⟩ := Option.map_eq_some_iff.mp hrow
      dsimp only at hM hM'
      (rename Fr _ _ _ _ => F9)
      refine Iter_list_my2 (k := pn) (vs := pv) (fun j m₃ nx3 => m₃ (Str.ofString "order") = some (.ref ol) ∧ m₃ (Str.ofString "table") = some (.ref x) ∧ m₃ (Str.ofString "whole") = some (.int ((whole : Nat) : Int) tq1) ∧ m₃ (Str.ofString "size") = some (.int ((size : Nat) : Int) tq2) ∧ m₃ (Str.ofString "k") = some (.int ((k : Nat) : Int) tk0) ∧ (∀ p ∈ b₂, p ∈ nx3) ∧ HasF nx3 ∧
        ∃ kvs3, HasTab w nx3 x l kvs3 ∧ ((passedP size).take j).foldlM (markP whole size) kvs8 = some kvs3 ∧ kvs3.length ≤ 10 * i + j ∧ ∀ kv ∈ kvs3, Clean kv.1 ∧ Clean kv.2) rfl F9 N8 ?_ ?_ ?_ ?_
      · rintro j m nx ⟨-, -, -, -, -, h, -⟩; exact h _ hplX
      · exact ⟨rfl, rfl, rfl, rfl, rfl, hb2X, hFX, kvs8, hTX, rfl, by omega, hk8⟩
      · rintro I3 j v m₃ nx3 h3 tk3 io3 hio3 hv3 ⟨hn1, hn2, hn3, hn4, hn5, hb3, hF3, kvs3, hT3, hf3, hz3, hk3⟩ hne3 F' N'
        refine qgen fun Qc hQc => ?_
        clear F9 N8 hFX hTX hb2X
        replace F' := frPut5 F' hn1 hn2 hn3 hn4 hn5
        have hjp : j < (passedP size).length := by
          have := hrel.length; simp only [List.length_map] at this
          rw [← this]; exact (List.getElem?_eq_some_iff.mp hv3).1
        obtain ⟨n, hn⟩ : ∃ n, (passedP size)[j]? = some n := ⟨_, List.getElem?_eq_getElem hjp⟩
        obtain ⟨tn3, rfl⟩ := hrel.at_nat hn hv3
        have hnp := passed_pos hs1 hs7 (List.mem_of_getElem? hn)
        obtain ⟨kvs4, hmk, hf4⟩ := fold_step hM hn hf3
        unfold markP at hmk
        k_steps
        · (rename (n : Int) < (size : Int) => hlt3)
          have hlt' : n < size := by omega
          rw [if_pos hlt'] at hmk
          have hn8 : whole / 16 ^ (size - n) < 16 ^ 8 := Nat.lt_of_le_of_lt (Nat.div_le_self _ _) hw8
          have hf1 : whole / 16 ^ (size - n) < 16 ^ 16 := Nat.lt_trans hn8 (by decide)
          have hf0 : whole / 16 ^ (size - n) ≠ 0 := front_pos hw1 (by omega)
          have hfn : 16 ^ n ≤ whole / 16 ^ (size - n) := by
            rw [Nat.le_div_iff_mul_le (Nat.pow_pos (by decide)), ← Nat.pow_add, show n + (size - n) = size from by omega]; exact hw1
          unfold Hold
          refine floordiv_int (Int.ne_of_gt (Int.pow_pos (by decide))) ?_ (Or.inl (PyProof.noPylong_small (pow_small (by omega))))
          rw [front_norm2 (by omega)]
          generalize hfr : whole / 16 ^ (size - n) = front at *
          k_steps
          unfold Hold
          (rename News _ _ _ _ => N5)
          obtain ⟨la, hla⟩ := newsHead N5
          subst hla
          obtain ⟨ls3, ln3, hTl3⟩ : ∃ ls ln, (l, listOf ls ln) ∈ nx3 := let ⟨ls, ln, h⟩ := hT3; ⟨_, _, h.list⟩
          (rename I3 < la ∧ _ => hll)
          obtain ⟨hll1, hll2⟩ := hll
          have hi5 : i < 5 := by rw [ordP_length] at hik; omega
          have hj3 : j < 3 := by rw [passed_len hs1 hs7] at hjp; exact hjp
          have hCT3 : CleanT kvs3 := ⟨by omega, hk3⟩
          obtain ⟨told, htold, hmk⟩ : ∃ told, foundP kvs3 front n = some told ∧ (if (getT kvs3 (lowS (hexS front))).getD told = told then some (setD kvs3 (hexS front) told) else none) = some kvs4 := by
            cases hfd : foundP kvs3 front n with
            | none => rw [hfd] at hmk; cases hmk
            | some told => rw [hfd] at hmk; exact ⟨told, rfl, hmk⟩
          have hgd : (getT kvs3 (lowS (hexS front))).getD told = told := by
            by_cases hc : (getT kvs3 (lowS (hexS front))).getD told = told
            · exact hc
            · rw [if_neg hc] at hmk; cases hmk
          rw [if_pos hgd] at hmk
          obtain rfl := Option.some.inj hmk
          have hclT := foundP_clean hk3 htold
          have hclF := hexS_clean hf1
          k_dflt (refine' C1.use (lfoundV w x l la kvs3 front n _ _ [] 0 ((la, listOf #[] 0) :: (I3, io3) :: nx3) hn8 hfn (by omega) hCT3 (Nat.zero_le _) (hT3.mono fun p hp => .tail _ (.tail _ hp)) (hF3.mono fun p hp => .tail _ (.tail _ hp)) (.head _) (Nat.ne_of_gt (allLt_mem hll2 _ hTl3))) ?l1 ?l2 ?l3 ?l4 ?l5 ?l6 ?l7 ?_)
          case l1 => k_asm
          case l2 => k_asm
          case l3 => k_asm
          case l4 => k_asm
          case l5 => k_asm
          case l6 => ktr_room
          case l7 => ktr_units
          intro r4 nx4 h4 tk4 F4 N4 P4
          obtain ⟨avs4, an4, -, hT4, hF4, hK4, -, hopt⟩ := P4
          rw [htold] at hopt
          obtain ⟨t4, rfl⟩ := hopt
          have hI4 : (I3, io3) ∈ nx4 := hK4 _ (.tail _ (.head _)) (List.forall_mem_cons.mpr ⟨Nat.ne_of_lt hll1, List.forall_mem_singleton.mpr (fun e => by
            obtain ⟨ps, hp, -⟩ := hF3
            exact hne3 _ hp e.symm)⟩)
          have hb4 : ∀ p ∈ b₂, p ∈ nx4 := fun p hp => hK4 _ (.tail _ (.tail _ (hb3 p hp))) (List.forall_mem_cons.mpr ⟨Nat.ne_of_lt (allLt_mem hll2 _ (hb3 p hp)), List.forall_mem_singleton.mpr (hb216 p hp)⟩)
          obtain ⟨dx4, tk4', dn4, ls4, ln4, hx4, hdx4, hl4⟩ := hT4.parts
          clear N5
          k_steps
          unfold Hold
          k_dflt (refine' C1.use (int2ap w ((front : Nat) : Int) _ (by rw [Int.natAbs_natCast]; exact hf1) _) ?m1 ?m2 ?m3 ?m4 ?m5 ?m6 ?m7 ?_)
          case m1 => k_asm
          case m2 => k_asm
          case m3 => k_asm
          case m4 => k_asm
          case m5 => k_asm
          case m6 => ktr_room
          case m7 => ktr_units
          intro r5 news5 h5 tk5 F5 N5 P5
          obtain ⟨e1, t5, e2⟩ := P5
          subst e1
          subst e2
          rw [Int.natAbs_natCast]
          k_steps
          unfold Hold
          k_dflt (refine' C1.use (hsetdV w x l kvs3 (hexS front) told _ _ nx4 hclF hclT hCT3 hT4) ?n1 ?n2 ?n3 ?n4 ?n5 ?n6 ?n7 ?_)
          case n1 => k_asm
          case n2 => k_asm
          case n3 => k_asm
          case n4 => k_asm
          case n5 => k_asm
          case n6 => ktr_room
          case n7 => ktr_units
          intro r6 nx6 h6 tk6 F6 N6 P6
          obtain ⟨hT6, hK6, t6, rfl⟩ := P6
          rw [hgd]
          have hg6 := getT_setD hgd
          have hz6 := setD_len (kvs := kvs3) (nm := hexS front) (v := told)
          have hk6 := setD_clean hk3 hclF hclT
          generalize setD kvs3 (hexS front) told = kvs6 at *
          have hCT6 : CleanT kvs6 := ⟨by omega, hk6⟩
          have hF6 := hF4.keepL N5 hl4 hK6
          have hI6 : (I3, io3) ∈ nx6 := hK6 _ hI4 (List.forall_mem_singleton.mpr (fun e => hne3 _ hTl3 e.symm))
          have hb6 : ∀ p ∈ b₂, p ∈ nx6 := fun p hp => hK6 _ (hb4 p hp) (List.forall_mem_singleton.mpr (hb2l p hp))
          obtain ⟨dx6, tk6', dn6, ls6, ln6, hx6, hdx6, hl6⟩ := hT6.parts
          clear N5 F5 hx4 hdx4
          k_steps
          · (rename (told != told) = true => hbad)
            simp at hbad
          unfold Hold
          k_dflt (refine' C1.use (int2ap w (-((front : Nat) : Int)) _ (by rw [Int.natAbs_neg, Int.natAbs_natCast]; exact hf1) _) ?u1 ?u2 ?u3 ?u4 ?u5 ?u6 ?u7 ?_)
          case u1 => k_asm
          case u2 => k_asm
          case u3 => k_asm
          case u4 => k_asm
          case u5 => k_asm
          case u6 => ktr_room
          case u7 => ktr_units
          intro r5 news5 h5 tk5 F5 N5 P5
          obtain ⟨e1, t5, e2⟩ := P5
          subst e1
          subst e2
          rw [Int.natAbs_neg, Int.natAbs_natCast]
          k_steps
          unfold Hold
          have hclf : Clean (Str.ofString "f") := ⟨by decide, by decide⟩
          k_dflt (refine' C1.use (hsetdV w x l kvs6 (lowS (hexS front)) (Str.ofString "f") _ _ nx6 hclF.low hclf hCT6 hT6) ?v1 ?v2 ?v3 ?v4 ?v5 ?v6 ?v7 ?_)
          case v1 => k_asm
          case v2 => k_asm
          case v3 => k_asm
          case v4 => k_asm
          case v5 => k_asm
          case v6 => ktr_room
          case v7 => ktr_units
          intro r7 nx7 h7 tk7 F7 N7 P7
          obtain ⟨hT7, hK7, t7, rfl⟩ := P7
          rw [setD_some (by rw [lowS_low]; exact hg6)] at hT7
          rw [lowS_low, hg6]
          have hF7 := hF6.keepL N5 hl6 hK7
          have hI7 : (I3, io3) ∈ nx7 := hK7 _ hI6 (List.forall_mem_singleton.mpr (fun e => hne3 _ hTl3 e.symm))
          have hb7 : ∀ p ∈ b₂, p ∈ nx7 := fun p hp => hK7 _ (hb6 p hp) (List.forall_mem_singleton.mpr (hb2l p hp))
          obtain ⟨dx7, tk7', dn7, ls7, ln7, hx7, hdx7, hl7⟩ := hT7.parts
          clear N5 F5 hx6 hdx6
          dsimp only [Option.getD_some]
          k_steps
          (rename News _ _ _ _ => N9)
          have hS9 : ∀ a ∈ [I3], ∃ o, (a, o) ∈ nx7 ∧ Odd o := List.forall_mem_singleton.mpr ⟨_, hI7, .inr (.inr ⟨_, _, hio3⟩)⟩
          have hI16 : @Ne Nat I3 216 := fun e => by
            obtain ⟨ps, hp, -⟩ := hF3
            exact hne3 _ hp e.symm
          refine hQc _ _ (ForStep.next (by k_asm) N9 (news₂ := off [I3] nx7) (List.forall_mem_cons.mpr ⟨hI7, off_sub⟩) (off_ne (.head _)) ⟨rfl, rfl, rfl, rfl, rfl, fun p hp => off_mem (hb7 p hp) (List.forall_mem_singleton.mpr (hne3 _ (hb3 p hp))), hF7.off N9 (List.forall_mem_singleton.mpr ⟨hI16, hS9 _ (.head _)⟩), kvs6, hT7.off N9 hS9, hf4, by omega, hk6⟩)
        · (rename ¬ ((n : Int) < (size : Int)) => hlt3)
          rw [if_neg (by omega)] at hmk
          obtain rfl := Option.some.inj hmk
          exact hQc _ _ (ForStep.next (by k_asm) (by k_asm) (fun _ hp => hp) hne3 ⟨rfl, rfl, rfl, rfl, rfl, hb3, hF3, kvs3, hT3, hf4, by omega, hk3⟩)
      · rintro m₃ nx3 h3 tk3 ⟨hn1, hn2, hn3, hn4, hn5, hb3, hF3, kvs3, hT3, hf3, hz3, hk3⟩ F' N'
        clear F9 N8 hFX hTX hb2X
        replace F' := frPut5 F' hn1 hn2 hn3 hn4 hn5
        have hpvl : pv.length = (passedP size).length := by have := hrel.length; simpa using this
        rw [hpvl] at hf3 hz3
        rw [List.take_length, hM] at hf3
        obtain rfl := Option.some.inj hf3
        have h16w : whole < 16 ^ 16 := Nat.lt_trans hw8 (by decide)
        have hw0 : whole ≠ 0 := by have : 0 < 16 ^ size := Nat.pow_pos (by decide); omega
        obtain ⟨dx3, tk3', dn3, ls3, ln3, hx3, hdx3, hl3⟩ := hT3.parts
        k_steps
        unfold Hold
        rw [item_letter (by omega)]
        have hclK := letter_clean (k := k) (by omega)
        k_dflt (refine' C1.use (int2ap w (-((whole : Nat) : Int)) _ (by rw [Int.natAbs_neg, Int.natAbs_natCast]; exact h16w) _) ?u1 ?u2 ?u3 ?u4 ?u5 ?u6 ?u7 ?_)
        case u1 => k_asm
        case u2 => k_asm
        case u3 => k_asm
        case u4 => k_asm
        case u5 => k_asm
        case u6 => ktr_room
        case u7 => ktr_units
        intro r5 news5 h5 tk5 F5 N5 P5
        obtain ⟨e1, t5, e2⟩ := P5
        subst e1
        subst e2
        rw [Int.natAbs_neg, Int.natAbs_natCast]
        have hclF := hexS_clean h16w
        k_steps
        unfold Hold
        have hi5 : i < 5 := by rw [ordP_length] at hik; omega
        have hCT3 : CleanT kvsM := ⟨by rw [passed_len hs1 hs7] at hz3; omega, hk3⟩
        k_dflt (refine' C1.use (hsetV w x l kvsM (lowS (hexS whole)) (letterP k) _ _ nx3 hclF.low hclK hCT3 hT3) ?v1 ?v2 ?v3 ?v4 ?v5 ?v6 ?v7 ?_)
        case v1 => k_asm
        case v2 => k_asm
        case v3 => k_asm
        case v4 => k_asm
        case v5 => k_asm
        case v6 => ktr_room
        case v7 => ktr_units
        intro r7 nx7 h7 tk7 F7 N7 P7
        obtain ⟨hT7, hK7, rfl⟩ := P7
        have hF7 := hF3.keepL N5 hl3 hK7
        have hb7 : ∀ p ∈ b₂, p ∈ nx7 := fun p hp => hK7 _ (hb3 p hp) (List.forall_mem_singleton.mpr (hb2l p hp))
        have hI7 := hb7 _ hIX
        rw [hM'] at hT7
        have hz9 : kvs9.length ≤ 10 * (i + 1) := by
          have := List.length_filter_le (fun kv : Str × Str => lowS kv.1 != lowS (lowS (hexS whole))) kvsM
          rw [← hM', List.length_append, List.length_singleton]
          rw [passed_len hs1 hs7] at hz3
          omega
        have hk9 : ∀ kv ∈ kvs9, Clean kv.1 ∧ Clean kv.2 := by
          intro kv h
          rw [← hM'] at h
          rcases List.mem_append.mp h with h | h
          · exact hk3 _ (List.mem_filter.mp h).1
          · obtain rfl := List.mem_singleton.mp h
            exact ⟨hclF.low, hclK⟩
        clear N5 F5 hx3 hdx3
        k_steps
        (rename News _ _ _ _ => N9)
        have hS9 : ∀ a ∈ [I], ∃ o, (a, o) ∈ nx7 ∧ Odd o := List.forall_mem_singleton.mpr ⟨_, hI7, .inr (.inr ⟨_, _, hio⟩)⟩
        have hI16 : @Ne Nat I 216 := fun e => hRI _ hF6 e.symm
        have hbm : ∀ p, p ∈ b₂ → p.1 ≠ I → p ∈ off [I] nx7 := fun p hp hn => off_mem (hb7 p hp) (List.forall_mem_singleton.mpr hn)
        rw [hb₂] at hbm
        refine hQb _ _ (ForStep.next (by k_asm) N9 (news₂ := off [I] nx7) (List.forall_mem_cons.mpr ⟨hI7, off_sub⟩) (off_ne (.head _)) ⟨rfl, rfl, hbm _ (by k_mem) (hRI _ ho8), ⟨oc7, _, hbm _ (by k_mem) hIp, hcd7⟩, ⟨ps', hbm _ (by k_mem) hIt, htr', .inr ⟨c', oc, vs, tq, hcode', hbm _ (by k_mem) hc2, hd1', hd2'⟩⟩, hF7.off N9 (List.forall_mem_singleton.mpr ⟨hI16, hS9 _ (.head _)⟩), ⟨kvs9, hT7.off N9 hS9, hf9, hz9, hk9⟩, fun p hp => hbm _ (by k_mem) (hRI _ (hb8 p hp))⟩)
    · rintro m₂ nx' h8 tk8 ⟨hm1, hm2, ho8, ⟨oc8, v8, hc8, hcd8⟩, ⟨ps8, hps8, htr8, hma8⟩, hF8, ⟨kvs8, hT8, hf8, hz8, hk8⟩, hb8⟩ F' N'
      clear F₃ N₃ hT0 hRX hoX hpX
      replace F' := frPut2 F' hm1 hm2
      rw [hosl, List.take_length] at hf8
      have htab' := htab
      unfold tableP at htab'
      rw [htab'] at hf8
      obtain rfl := Option.some.inj hf8
      k_steps
      refine ret _ _ _ _ (by k_asm) (by k_asm) ⟨x, l, hT8, hF8, fun p hp hn => hb8 p ?_, ⟨ps8, hps8⟩, rfl⟩
      rw [hb₁, hpc]
      exact off_mem (hb1 p hp (hn _ (.head _))) (List.forall_mem_cons.mpr ⟨Nat.ne_of_lt (Nat.lt_succ_of_lt (Nat.lt_succ_of_lt (lA p hp))), List.forall_mem_singleton.mpr (hn _ (.tail _ (.head _)))⟩)
end
section
open PySem PySem.W PySem.Calls PyProof.Rows Mine
set_option maxRecDepth 100000
set_option maxHeartbeats 8000000
theorem reset15 : True := by
  w_top off
  trivial
local macro_rules | `(tactic| walk_at "compareOp Eq ref ref") => `(tactic| refine Hold.out ?_)
local macro_rules | `(tactic| walk_at "call builtin:max") => `(tactic| refine Hold.out ?_)
local macro_rules | `(tactic| walk_at "eval ListComp") => `(tactic| (k_here; k_dflt (refine LCt.ListComp_T (F₀ := by k_asm) (by with_unfolding_all rfl) (by decide) (by rfl) (by decide) (by rfl) ?_)))
local macro_rules | `(tactic| walk_at "CompSrcT") => `(tactic| refine Hold.out ?_)
local macro_rules | `(tactic| walk_at "subscriptTail Name Name ref int") => `(tactic| refine Hold.out ?_)
/-- a list of texts -/
inductive TextsIn : List Value → List Str → Prop where
  | nil : TextsIn [] []
  | cons {k : Str} {t : Tok} {vs : List Value} {ks : List Str} : TextsIn vs ks → TextsIn (.str k t :: vs) (k :: ks)
theorem TextsIn.length {vs : List Value} {ks : List Str} (h : TextsIn vs ks) : vs.length = ks.length := by
  induction h with
  | nil => rfl
  | cons _ ih => simp [ih]
theorem TextsIn.at {vs : List Value} {ks : List Str} (h : TextsIn vs ks) : ∀ {i : Nat} {k : Str}, ks[i]? = some k → ∃ t, vs[i]? = some (.str k t) := by
  induction h with
  | nil => intro i k h; simp at h
  | cons _ ih =>
    intro i k hk
    cases i with
    | zero => simp at hk; subst hk; exact ⟨_, rfl⟩
    | succ i => exact ih (by simpa using hk)
def fitsP (ws : List Str) (word : Str) : Nat → List (Nat × Nat)
  | 0 => []
  | k + 1 => fitsP ws word k ++ (if cutS word ((ws.getD k ⟨#[]⟩).length) = ws.getD k ⟨#[]⟩ then [((ws.getD k ⟨#[]⟩).length, k)] else [])
def bestP (ws : List Str) (word : Str) : Str := if fitsP ws word 5 = [] then ⟨#[]⟩ else letterP ((fitsP ws word 5).getD (argBest (pairGt (fitsP ws word 5)) ((fitsP ws word 5).length - 1)) (0, 0)).2
theorem argBest_le (bt : Nat → Nat → Bool) : ∀ k, argBest bt k ≤ k
  | 0 => Nat.le_refl _
  | k + 1 => by
    have := argBest_le bt k
    unfold argBest
    split <;> omega
theorem fitsP_lt {ws : List Str} {word : Str} : ∀ (n : Nat) (p : Nat × Nat), p ∈ fitsP ws word n → p.2 < n
  | 0, p, h => by simp [fitsP] at h
  | n + 1, p, h => by
    unfold fitsP at h
    rcases List.mem_append.mp h with h | h
    · have := fitsP_lt n p h; omega
    · split at h
      · obtain rfl := List.mem_singleton.mp h
        exact Nat.lt_succ_self _
      · simp at h
theorem pairName {h₀ h : Heap} {L q : Addr} {a b : Int} {t u : Tok} {r : List (Addr × Obj)} (_N : News h₀ L h ((q, tupOf [.int a t, .int b u]) :: r)) : ∃ T U, T = t ∧ U = u := ⟨_, _, rfl, rfl⟩
theorem reads_ways {h : Heap} {news : List (Addr × Obj)} (hN : ∀ p ∈ news, h.get? p.1 = some p.2) {vs : List Value} {ws : List (Nat × Nat)} (hp : WaysIn news vs ws) : ∃ as, ReadsAll h vs (dInts ws) as := by
  induction hp with
  | nil => exact ⟨_, ReadsAll.nil⟩
  | cons hm _ ih =>
    obtain ⟨as, ih⟩ := ih
    exact ⟨_, ReadsAll.cons (reads_tuple_at (hN _ hm) rfl rfl (ReadsAll.cons (Reads.int _ _) (ReadsAll.cons (Reads.int _ _) ReadsAll.nil))) ih⟩
theorem ways_ipairs {h : Heap} {news : List (Addr × Obj)} (hN : ∀ p ∈ news, h.get? p.1 = some p.2) {vs : List Value} {ws : List (Nat × Nat)} (hp : WaysIn news vs ws) : IPairs h vs ws := by
  refine ⟨hp.length, fun i a b hi => ?_⟩
  have hil := (List.getElem?_eq_some_iff.mp hi).1
  obtain ⟨q, t, u, h1, h2⟩ := hp.at hil
  have e : ws.getD i (0, 0) = (a, b) := by simp [List.getD, hi]
  rw [e] at h2
  exact ⟨q, t, u, h1, hN _ h2⟩
theorem WaysIn.snoc {news : List (Addr × Obj)} {vs : List Value} {kvs : List (Nat × Nat)} {q : Addr} {k v : Nat} {t u : Tok} (h : WaysIn news vs kvs) (hq : (q, tupOf [.int (k : Nat) t, .int (v : Nat) u]) ∈ news) : WaysIn news (vs ++ [.ref q]) (kvs ++ [(k, v)]) := by
  induction h with
  | nil => exact .cons hq .nil
  | cons hm _ ih => exact .cons hm ih
theorem lbest (w : World) (wl : Addr) (wvs : List Value) (wn : Nat) (ws : List Str) (word : Str) (t : Tok) (nx : List (Addr × Obj)) (hl : (wl, listOf wvs.toArray wn) ∈ nx) (hW : TextsIn wvs ws) (h5 : ws.length = 5) (hz : ∀ x ∈ ws, x.length ≤ 100) (hz2 : word.length ≤ 100) :
   C1 w (.ref 233) [.ref wl, .str word t] [] 20 nx (fun nx' r => Keep [] nx nx' ∧ ∃ t, r = .str (bestP ws word) t) := by
  unfold C1
  k_fill
  intro p loose mean mg mb dp un gd cn nm' ig ic mr a ccd cl outer A₀ base h₀ L m s Q E B F X N T hd hu ret
  refine wpAny_call ?_
  k_dflt k_enter
  k_steps
  unfold Hold
  rename_i g L' hA tkA FG Bx Xx Tx ex lA o1 o2 d1 d2 N' h tk1 t1 u1 v1 hr F₁ N₁ hk
  have hd2 : o2.data = .cell (some (.ref wl)) := d2
  have hd1 : o1.data = .cell (some (.str word t)) := d1
  clear d1 d2 N'
  obtain ⟨X₁, hX⟩ := newsName N₁
  refine LCt.CompSrcT.range (n := 5) rfl F₁ N₁ hr (by decide) (by decide) (by rw [sizeLine_eq]; omega) ?_
  intro g'
  refine compT_inv (n := 5) (fun i ys nx' => (∀ p ∈ X₁, p ∈ nx') ∧ WaysIn nx' ys (fitsP ws word i)) ?_ ?_ _ _ _ _ (Nat.zero_add _) ⟨fun p hp => hX ▸ hp, .nil⟩
  · rintro i v ys nx' I oI C oC D m₂ h2 tk2 E' hi ⟨ti, rfl⟩ ⟨hXs, hys⟩ hC2 hx F' N' off ne
    clear F₁ N₁
    have hm1 : (L' + 1 + 1, o1) ∈ nx' := hXs _ (by rw [← hX]; exact .head _)
    have hm2 : (L' + 1, o2) ∈ nx' := hXs _ (by rw [← hX]; exact .tail _ (.head _))
    have hml : (wl, listOf wvs.toArray wn) ∈ nx' := hXs _ (by rw [← hX]; exact .tail _ (.tail _ hl))
    replace N' : News g L' h2 ((I, oI) :: (C, oC) :: (D, LCg.lst ys) :: (L' + 1 + 1, o1) :: (L' + 1, o2) :: (wl, listOf wvs.toArray wn) :: nx') := fun p hp => by
      simp only [List.mem_cons] at hp
      rcases hp with h | h | h | h | h | h | h
      · exact N' p (by simp [h])
      · exact N' p (by simp [h])
      · exact N' p (by simp [h])
      · exact N' p (by simp [h, hm1])
      · exact N' p (by simp [h, hm2])
      · exact N' p (by simp [h, hml])
      · exact N' p (by simp [h])
    clear hm1 hm2 hml
    rw [Int.zero_add] at hx
    have hiw : i < ws.length := by omega
    obtain ⟨wk, hwk⟩ : ∃ wk, ws[i]? = some wk := ⟨_, List.getElem?_eq_getElem hiw⟩
    have hwkd : ws.getD i ⟨#[]⟩ = wk := by simp [List.getD, hwk]
    have hwkz := hz wk (List.mem_of_getElem? hwk)
    obtain ⟨tw, htw⟩ := hW.at hwk
    k_steps
    unfold Hold
    (rename News _ _ _ _ => N5)
    refine item_at N5 (.tail _ (.tail _ (.tail _ (.tail _ (.tail _ (.head _)))))) (by omega) (by omega) (by rw [Int.toNat_natCast]; exact htw) ?_
    k_steps
    unfold Hold
    (rename News _ _ _ _ => N5)
    refine item_at N5 (.tail _ (.tail _ (.tail _ (.tail _ (.tail _ (.head _)))))) (by omega) (by omega) (by rw [Int.toNat_natCast]; exact htw) ?_
    k_steps
    · (rename (Txt.slice word none (some ((wk.length : Nat) : Int)) == wk) = true => he)
      unfold Hold
      (rename News _ _ _ _ => N6)
      refine item_at N6 (.tail _ (.tail _ (.tail _ (.tail _ (.tail _ (.head _)))))) (by omega) (by omega) (by rw [Int.toNat_natCast]; exact htw) ?_
      k_steps
      (rename News _ _ _ _ => N9)
      obtain ⟨q, hq⟩ := newsHead N9
      subst hq
      obtain ⟨tA, tB, hA', hB'⟩ := pairName N9
      (rename I < q ∧ _ => hlt)
      refine LCg.CompEnd.intro (by k_asm) N9 ((q, tupOf [.int ((wk.length : Nat) : Int) tA, .int ((i : Nat) : Int) tB]) :: nx') (fun p hp => ?_) ⟨⟨Nat.ne_of_gt hlt.1, Nat.ne_of_gt hlt.2.1, Nat.ne_of_gt hlt.2.2.1⟩, off⟩ trivial ⟨fun p hp => .tail _ (hXs p hp), ?_⟩
      · rw [hA', hB'] at hp
        simp only [List.mem_cons] at hp ⊢
        rcases hp with h | h | h | h | h <;> simp [h]
      · unfold fitsP
        rw [hwkd, if_pos (by simpa [cutS] using he)]
        exact (hys.mono fun _ _ hp => .tail _ hp).snoc (.head _)
    · (rename (Txt.slice word none (some ((wk.length : Nat) : Int)) == wk) = false => he)
      refine LCg.CompEnd.intro (by k_asm) N5 nx' (fun p hp => ?_) off trivial ⟨hXs, ?_⟩
      · simp only [List.mem_cons] at hp ⊢
        rcases hp with h | h | h | h <;> simp [h]
      · unfold fitsP
        rw [hwkd, if_neg (by simpa [cutS] using he), List.append_nil]
        exact hys
  · rintro ys nx' ⟨hXs, hys⟩
    clear F₁ N₁
    k_steps
    unfold Hold
    (rename News _ _ _ _ => N9)
    have hN9 : ∀ p ∈ nx', _ := fun p hp => (N9 p (.tail _ (.tail _ hp))).1
    obtain ⟨as, hra⟩ := reads_ways hN9 hys
    refine eq_dataH (reads_list_at (N9 _ (.tail _ (.head _))).1 rfl rfl hra) (reads_list_at (N9 _ (.head _)).1 rfl rfl ReadsAll.nil) (dInts_shaped _) rfl (by ktr_units) ?_
    rw [eqvAll_nil]
    k_steps
    · (rename fitsP ws word 5 = [] => hnil)
      have hb : bestP ws word = ⟨#[]⟩ := by unfold bestP; rw [if_pos hnil]
      (rename News _ _ _ _ => N8)
      refine ret _ _ _ _ (by k_asm) (news_drop N8 (news := nx') fun p hp => .tail _ (.tail _ hp)) ⟨fun p hp _ => hXs _ ?_, by rw [hb]; exact ⟨_, rfl⟩⟩
      rw [← hX]; exact .tail _ (.tail _ hp)
    · (rename ¬ fitsP ws word 5 = [] => hnil)
      have hb : bestP ws word = letterP ((fitsP ws word 5).getD (argBest (pairGt (fitsP ws word 5)) ((fitsP ws word 5).length - 1)) (0, 0)).2 := by unfold bestP; rw [if_neg hnil]
      have h0 : 0 < (fitsP ws word 5).length := List.length_pos_iff.mpr hnil
      unfold Hold
      (rename Fr _ _ _ _ => F7); (rename News _ _ _ _ => N7)
      refine max_pairs rfl (by ktr_units) F7 N7 (.tail _ (.head _)) (ways_ipairs (fun p hp => (N7 p (.tail _ (.tail _ hp))).1) hys) h0 ?_
      intro j v h7 tk7 hj hv F8 N8
      have hjl : j < (fitsP ws word 5).length := by
        have := argBest_le (pairGt (fitsP ws word 5)) ((fitsP ws word 5).length - 1)
        omega
      obtain ⟨q, tq, uq, hq1, hq2⟩ := hys.at hjl
      rw [hv] at hq1
      obtain rfl := Option.some.inj hq1
      have hk5 := fitsP_lt 5 _ (by rw [getD_at hjl]; exact List.getElem_mem hjl : (fitsP ws word 5).getD j (0, 0) ∈ _)
      rw [← hj] at hb
      generalize (fitsP ws word 5).getD j (0, 0) = pr at hq2 hk5 hb
      obtain ⟨pa, pk⟩ := pr
      dsimp only at hq2 hk5 hb
      k_steps
      rw [item_letter hk5]
      (rename News _ _ _ _ => N8)
      refine ret _ _ _ _ (by k_asm) (news_drop N8 (news := nx') fun p hp => .tail _ (.tail _ hp)) ⟨fun p hp _ => hXs _ ?_, by rw [hb]; exact ⟨_, rfl⟩⟩
      rw [← hX]; exact .tail _ (.tail _ hp)
end
section
open PySem PySem.W PySem.Calls PyProof.Rows Mine
set_option maxRecDepth 100000
set_option maxHeartbeats 8000000
theorem reset16 : True := by
  w_top off
  trivial
local macro_rules | `(tactic| walk_at "exec For Name Name cons nil") => `(tactic| (k_here; (with_reducible rename Fr _ _ _ _ => lF'); with_unfolding_all refine For_myF lF' ?_))
local macro_rules | `(tactic| walk_at "pyIter ref") => `(tactic| refine Hold.out ?_)
local macro_rules | `(tactic| walk_at "exec While Compare cons nil") => `(tactic| refine Hold.out ?_)
local macro_rules | `(tactic| walk_at "call ref") => `(tactic| (k_here; (with_reducible show wpAny _ _ (call (Value.ref 233) _ _) _ _ _); refine Hold.out ?_))
local macro_rules | `(tactic| walk_at "compareOp In str ref") => `(tactic| refine Hold.out ?_)
local macro_rules | `(tactic| walk_at "setItem ref str str") => `(tactic| refine Hold.out ?_)
local macro_rules | `(tactic| walk_at "call builtin:sorted") => `(tactic| refine Hold.out ?_)
/-- a dict's pairs -/
inductive DRel : List (Str × Value) → List (Str × Str) → Prop where
  | nil : DRel [] []
  | cons {x y : Str} {t : Tok} {ds : List (Str × Value)} {D : List (Str × Str)} : DRel ds D → DRel ((x, .str y t) :: ds) ((x, y) :: D)
def putP (D : List (Str × Str)) (k v : Str) : List (Str × Str) := if D.any (fun kv => decide (kv.1 = k)) then D.map (fun kv => if kv.1 = k then (kv.1, v) else kv) else D ++ [(k, v)]
def dueStep (ws : List Str) (word : Str) (n : Nat) (D : List (Str × Str)) : List (Str × Str) :=
  putP D (if cutS word (n + 1) ∈ ws then lowS (cutS word (n + 1)) else cutS word (n + 1)) (bestP ws (cutS word (n + 1)))
def dueW (ws : List Str) (word : Str) : Nat → Nat → List (Str × Str) → List (Str × Str)
  | 0, _, D => D
  | f + 1, n, D => if n = 0 then D else dueW ws word f (n &&& (n - 1)) (dueStep ws word n D)
def dueP (ws : List Str) : List (Str × Str) := ws.foldl (fun D word => dueW ws word 8 (word.length - 1) D) []
theorem dueW_succ {ws : List Str} {word : Str} {f n : Nat} {D : List (Str × Str)} (h : n ≠ 0) : dueW ws word (f + 1) n D = dueW ws word f (n &&& (n - 1)) (dueStep ws word n D) := by rw [dueW, if_neg h]
theorem bit_and {k : Nat} (h1 : 0 < k) (h7 : k ≤ 7) : Builtin.bitAnd (k : Int) ((k : Int) - 1) = ((k &&& (k - 1) : Nat) : Int) := by
  have hk : ∀ k : Nat, k < 8 → 0 < k → Builtin.bitAnd (k : Int) ((k : Int) - 1) = ((k &&& (k - 1) : Nat) : Int) := by decide
  exact hk k (Nat.lt_succ_of_le h7) h1
theorem DRel.length {ds : List (Str × Value)} {D : List (Str × Str)} (h : DRel ds D) : ds.length = D.length := by
  induction h with
  | nil => rfl
  | cons _ ih => simp [ih]
theorem DRel.at {ds : List (Str × Value)} {D : List (Str × Str)} (h : DRel ds D) : ∀ (i : Nat) (x y : Str), D[i]? = some (x, y) → ∃ t, ds[i]? = some (x, .str y t) := by
  induction h with
  | nil => intro i x y h; simp at h
  | cons _ ih =>
    intro i x y hi
    cases i with
    | zero => simp at hi; obtain ⟨rfl, rfl⟩ := hi; exact ⟨_, rfl⟩
    | succ i => exact ih i x y (by simpa using hi)
theorem DRel.any {ds : List (Str × Value)} {D : List (Str × Str)} {k : Str} (h : DRel ds D) : ds.any (fun kv => decide (kv.1 = k)) = D.any (fun kv => decide (kv.1 = k)) := by
  induction h with
  | nil => rfl
  | cons _ ih => simp only [List.any_cons, ih]
theorem DRel.snoc {ds : List (Str × Value)} {D : List (Str × Str)} {k v : Str} {t : Tok} (h : DRel ds D) : DRel (ds ++ [(k, .str v t)]) (D ++ [(k, v)]) := by
  induction h with
  | nil => exact .cons .nil
  | cons _ ih => exact .cons ih
theorem DRel.put {ds : List (Str × Value)} {D : List (Str × Str)} {k v : Str} {t : Tok} (h : DRel ds D) : DRel (ds.map fun kv => if kv.1 = k then (kv.1, .str v t) else kv) (D.map fun kv => if kv.1 = k then (kv.1, v) else kv) := by
  induction h with
  | nil => exact .nil
  | cons _ ih =>
    simp only [List.map_cons]
    split
    · exact .cons ih
    · exact .cons ih
theorem DRel.stored {ds : List (Str × Value)} {D : List (Str × Str)} {k v : Str} {t : Tok} (h : DRel ds D) : DRel (stored ds k (.str v t)) (putP D k v) := by
  unfold PySem.stored putP
  rw [h.any]
  split
  · exact h.put
  · exact h.snoc
theorem putP_len {D : List (Str × Str)} {k v : Str} : (putP D k v).length ≤ D.length + 1 := by
  unfold putP
  split <;> simp
theorem and_lt {n : Nat} (h : 0 < n) : n &&& (n - 1) < n := Nat.lt_of_le_of_lt Nat.and_le_right (by omega)
theorem reads_texts {h : Heap} {vs : List Value} {ws : List Str} (hp : TextsIn vs ws) : ∃ as, ReadsAll h vs (ws.map PyData.str) as := by
  induction hp with
  | nil => exact ⟨_, ReadsAll.nil⟩
  | cons _ ih =>
    obtain ⟨as, ih⟩ := ih
    exact ⟨_, ReadsAll.cons (Reads.str _ _) ih⟩
theorem texts_lay : ∀ ws : List Str, (∀ x ∈ ws, Clean x) → PyData.canLayAll0 (ws.map PyData.str) = true
  | [], _ => rfl
  | x :: r, h => by
    simp only [List.map_cons, PyData.canLayAll0, PyData.canLay0, clean_ok (h x (.head _)), Bool.true_and]
    exact texts_lay r fun y hy => h y (.tail _ hy)
theorem texts_any (x : Str) : ∀ ws : List Str, ((ws.map PyData.str).any fun y => PyData.eqv y (.str x)) = decide (x ∈ ws)
  | [] => by simp
  | y :: r => by
    have ih := texts_any x r
    simp only [List.map_cons, List.any_cons, ih, PyData.eqv, List.mem_cons]
    by_cases e : x = y
    · subst e; simp
    · have : (y == x) = false := by simpa using fun h => e h.symm
      simp [this, e]
theorem in_texts {prog : Program} {w : World} {A : Around} {E : Value → Shared → Prop} {s : Shared} {h₀ : Heap} {L wl : Addr} {news : List (Addr × Obj)} {wvs : List Value} {wn : Nat} {ws : List Str} {x : Str} {t : Tok} {Q : Value → Shared → Prop}
    (N : News h₀ L s.heap news) (hl : (wl, listOf wvs.toArray wn) ∈ news) (hW : TextsIn wvs ws) (hc : ∀ x ∈ ws, Clean x) (hx : Clean x) (hu : A.units + 65 < cLine) (h : Q (.bool (decide (x ∈ ws))) s) :
    wpAny (model prog w) A (compareOp .In (.str x t) (.ref wl)) Q E s := by
  obtain ⟨as, ra⟩ := reads_texts (h := s.heap) hW
  refine SeqAt.in_list_reads (reads_list_at (N _ hl).1 rfl rfl ra) (Reads.str x t) (texts_lay ws hc) (clean_ok hx) ?_ ?_
  · simp only [PyData.depth]; omega
  · rw [texts_any]; exact h
theorem ldue (w : World) (wl : Addr) (wvs : List Value) (wn : Nat) (ws : List Str) (nx : List (Addr × Obj)) (hl : (wl, listOf wvs.toArray wn) ∈ nx) (hW : TextsIn wvs ws) (h5 : ws.length = 5) (hz : ∀ x ∈ ws, 1 ≤ x.length ∧ x.length ≤ 8 ∧ Clean x) (hnd : ((dueP ws).map (·.1)).Nodup) :
   C1 w (.ref 240) [.ref wl] [] 40 nx (fun nx' r => Keep [] nx nx' ∧ ∃ q vs n kvs, (q, listOf vs.toArray n) ∈ nx' ∧ PairsIn nx' vs kvs ∧ kvs.Perm (dueP ws) ∧ kvs.Pairwise (fun a b => strLt a.1 b.1 = true) ∧ r = .ref q) := by
  unfold C1
  k_fill
  intro p loose mean mg mb dp un gd cn nm' ig ic mr a ccd cl outer A₀ base h₀ L m s Q E B F X N T hd hu ret
  refine wpAny_call ?_
  k_dflt k_enter
  k_steps
  unfold Hold
  (rename Fr _ _ _ _ => F₁); (rename News _ _ _ _ => N₁)
  obtain ⟨d, hd₁⟩ := newsHead N₁
  subst hd₁
  (rename (d == sysModules) = false => hsys)
  have hnd1 : ∀ p ∈ nx, p.1 < d := by (rename ∀ p ∈ nx, p.1 < d => hh); exact hh
  (rename Obj.IsDictOf (PySem.strKind _ _) _ [] => hod)
  refine Iter_list_my (k := wn) (vs := wvs) (fun i m₁ nx' => m₁ (Str.ofString "due") = some (.ref d) ∧ m₁ (Str.ofString "words") = some (.ref wl) ∧ ∃ od ds D, (d, od) :: nx = nx' ∧ Obj.IsDictOf (PySem.strKind PySem.Challenge.rw_uc0029_01.row.prog w) od ds ∧ DRel ds D ∧ D = (ws.take i).foldl (fun D word => dueW ws word 8 (word.length - 1) D) [] ∧ D.length ≤ 10 * i) rfl F₁ N₁ ?_ ?_ ?_ ?_
  · rintro i m nx' ⟨-, -, od, ds, D, rfl, -⟩; exact .tail _ hl
  · exact ⟨rfl, rfl, _, [], [], rfl, hod, .nil, rfl, Nat.zero_le _⟩
  · rintro I i v m₂ nx' h8 tk8 io hv ⟨hm1, hm2, od, ds, D, rfl, hod', hrel, hD, hDz⟩ hne F' N'
    refine qgen fun Qa hQa => ?_
    clear F₁ N₁ hod
    replace F' := frPut2 F' hm1 hm2
    have hil : i < ws.length := by rw [← hW.length]; exact (List.getElem?_eq_some_iff.mp hv).1
    obtain ⟨word, hwd⟩ : ∃ word, ws[i]? = some word := ⟨_, List.getElem?_eq_getElem hil⟩
    obtain ⟨tw, htw⟩ := hW.at hwd
    rw [hv] at htw
    obtain rfl := Option.some.inj htw
    obtain ⟨hz1, hz8, hzc⟩ := hz word (List.mem_of_getElem? hwd)
    k_steps
    unfold Hold
    (rename Fr _ _ _ _ => F₂); (rename News _ _ _ _ => N₂)
    rw [show ((word.length : Nat) : Int) - 1 = ((word.length - 1 : Nat) : Int) from by omega] at F₂
    refine While_inv2 (n₀ := word.length - 1) (fun k m₁ nx' => m₁ (Str.ofString "due") = some (.ref d) ∧ m₁ (Str.ofString "words") = some (.ref wl) ∧ (∃ t, m₁ (Str.ofString "word") = some (.str word t)) ∧ (∃ t, m₁ (Str.ofString "n") = some (.int ((k : Nat) : Int) t)) ∧
      ∃ od ds D' f, (I, io) :: (d, od) :: nx = nx' ∧ Obj.IsDictOf (PySem.strKind PySem.Challenge.rw_uc0029_01.row.prog w) od ds ∧ DRel ds D' ∧ k ≤ f ∧ dueW ws word f k D' = dueW ws word 8 (word.length - 1) D ∧ k ≤ 7 ∧ D'.length + k ≤ 10 * i + 8) F₂ N₂ ⟨rfl, rfl, ⟨_, rfl⟩, ⟨_, rfl⟩, od, ds, D, 8, rfl, hod', hrel, by omega, rfl, by omega, by omega⟩ ?_
    rintro k m₁ nx'' h9 tk9 F' N' ⟨hn1, hn2, ⟨t1, hn3⟩, ⟨t2, hn4⟩, od2, ds2, D2, f, rfl, hod2, hrel2, hkf, hrun, hk7, hDz2⟩
    clear F₂ N₂ hod' hrel
    replace F' := frPut4 F' hn1 hn2 hn3 hn4
    k_steps
    · (rename ((k : Nat) : Int) > 0 => hk0)
      unfold Hold
      (rename Fr _ _ _ _ => F5); (rename News _ _ _ _ => N5)
      rw [show Txt.slice word none (some (((k : Nat) : Int) + 1)) = cutS word (k + 1) from rfl] at F5 ⊢
      have hcf : Clean (cutS word (k + 1)) := cutS_clean hzc
      have hfz : (cutS word (k + 1)).length ≤ 100 := by have := cutS_length word (k + 1); omega
      obtain ⟨f', hf'⟩ : ∃ f', f = f' + 1 := ⟨f - 1, by omega⟩
      subst hf'
      have hrun' : dueW ws word f' (k &&& (k - 1)) (dueStep ws word k D2) = dueW ws word 8 (word.length - 1) D := by
        rw [← hrun, dueW_succ (by omega)]
      unfold dueStep at hrun'
      generalize cutS word (k + 1) = front at *
      refine in_texts N5 (.tail _ (.tail _ hl)) hW (fun x hx => (hz x hx).2.2) hcf (by ktr_units) ?_
      have hId : I ≠ d := fun e => hne (d, od) (.head _) e.symm
      have hndd : ∀ p ∈ nx, p.1 ≠ d := fun p hp => Nat.ne_of_lt (hnd1 p hp)
      have hlt := and_lt (n := k) (by omega)
      k_steps
      · (rename front ∈ ws => hin)
        unfold Hold
        k_dflt (refine' C1.use (lbest w wl wvs wn ws front _ ((I, io) :: (d, od2) :: nx) (.tail _ (.tail _ hl)) hW h5 (fun x hx => Nat.le_trans (hz x hx).2.1 (by omega)) hfz) ?l1 ?l2 ?l3 ?l4 ?l5 ?l6 ?l7 ?_)
        case l1 => k_asm
        case l2 => k_asm
        case l3 => k_asm
        case l4 => k_asm
        case l5 => k_asm
        case l6 => ktr_room
        case l7 => ktr_units
        intro r6 nx6 h6 tk6 F6 N6 P6
        obtain ⟨hK6, t6, rfl⟩ := P6
        have N7 := news_drop N6 (news := (I, io) :: (d, od2) :: nx) fun p hp => hK6 p hp (by simp)
        clear N6 N5
        rw [if_pos hin] at hrun'
        k_steps
        unfold Hold
        (rename Fr _ _ _ _ => F7); (rename News _ _ _ _ => N7)
        refine kda_set F7 N7 (UpdF.tail hId (UpdF.head hndd)) hod2 (k := lowS front) (by simp [PySem.strKind, Value.isStrOf]) (by rw [sizeLine_eq, hrel2.length]; omega) ?_
        intro h7 od3 F8 N8 hod3
        have hrel3 := hrel2.stored (k := lowS front) (v := bestP ws front) (t := t6)
        have hz3 := putP_len (D := D2) (k := lowS front) (v := bestP ws front)
        clear F7 N7
        k_steps
        (rename Fr _ _ _ _ => F9); (rename News _ _ _ _ => N9)
        rw [bit_and (by omega) hk7] at F9
        exact ⟨_, _, _, _, k &&& (k - 1), rfl, F9, N9, hlt, rfl, rfl, ⟨_, rfl⟩, ⟨_, rfl⟩, od3, _, _, f', rfl, hod3, hrel3, by omega, hrun', by omega, by omega⟩
      · (rename ¬ front ∈ ws => hin)
        unfold Hold
        k_dflt (refine' C1.use (lbest w wl wvs wn ws front _ ((I, io) :: (d, od2) :: nx) (.tail _ (.tail _ hl)) hW h5 (fun x hx => Nat.le_trans (hz x hx).2.1 (by omega)) hfz) ?m1 ?m2 ?m3 ?m4 ?m5 ?m6 ?m7 ?_)
        case m1 => k_asm
        case m2 => k_asm
        case m3 => k_asm
        case m4 => k_asm
        case m5 => k_asm
        case m6 => ktr_room
        case m7 => ktr_units
        intro r6 nx6 h6 tk6 F6 N6 P6
        obtain ⟨hK6, t6, rfl⟩ := P6
        have N7 := news_drop N6 (news := (I, io) :: (d, od2) :: nx) fun p hp => hK6 p hp (by simp)
        clear N6 N5
        rw [if_neg hin] at hrun'
        k_steps
        unfold Hold
        (rename Fr _ _ _ _ => F7); (rename News _ _ _ _ => N7)
        refine kda_set F7 N7 (UpdF.tail hId (UpdF.head hndd)) hod2 (k := front) (by simp [PySem.strKind, Value.isStrOf]) (by rw [sizeLine_eq, hrel2.length]; omega) ?_
        intro h7 od3 F8 N8 hod3
        have hrel3 := hrel2.stored (k := front) (v := bestP ws front) (t := t6)
        have hz3 := putP_len (D := D2) (k := front) (v := bestP ws front)
        clear F7 N7
        k_steps
        (rename Fr _ _ _ _ => F9); (rename News _ _ _ _ => N9)
        rw [bit_and (by omega) hk7] at F9
        exact ⟨_, _, _, _, k &&& (k - 1), rfl, F9, N9, hlt, rfl, rfl, ⟨_, rfl⟩, ⟨_, rfl⟩, od3, _, _, f', rfl, hod3, hrel3, by omega, hrun', by omega, by omega⟩
    · (rename ¬ ((k : Nat) : Int) > 0 => hk0)
      obtain rfl : k = 0 := by omega
      have hD2 : D2 = dueW ws word 8 (word.length - 1) D := by
        rw [← hrun]; cases f <;> rfl
      (rename News _ _ _ _ => N5)
      exact hQa _ _ (ForStep.next (by k_asm) N5 (fun p hp => hp) (List.forall_mem_cons.mpr ⟨hne (d, od) (.head _), fun p hp => hne p (.tail _ hp)⟩) ⟨rfl, rfl, od2, ds2, D2, rfl, hod2, hrel2, by rw [hD2, hD, List.take_add_one, hwd, List.foldl_append]; rfl, by omega⟩)
  · rintro m₂ nx' h8 tk8 ⟨hm1, hm2, od, ds, D, rfl, hod', hrel, hD, hDz⟩ F' N'
    clear F₁ N₁ hod
    replace F' := frPut2 F' hm1 hm2
    rw [hW.length, List.take_length] at hD
    have hDp : D = dueP ws := hD
    rw [← hDp] at hnd
    k_steps
    unfold Hold
    (rename Fr _ _ _ _ => F7); (rename News _ _ _ _ => N7)
    refine sorted_items (kvs := D) rfl F7 N7 (.head _) (.tail _ (.head _)) hod' hrel.length (fun i x y h => hrel.at i x y h) hnd (by rw [hW.length, h5] at hDz; omega) ?_
    intro B tups vs' kvs' n' h9 tk9 F8 N8 hp8 hperm hsort
    rw [hDp] at hperm
    k_steps
    (rename News _ _ _ _ => N9)
    exact ret _ _ _ _ (by k_asm) N9 ⟨fun p hp _ => by simp [hp], B, vs', n', kvs', .head _, hp8.mono fun p hp => .tail _ hp, hperm, hsort, rfl⟩
end
section
open PySem PySem.W PySem.Calls PyProof.Rows Mine
set_option maxRecDepth 100000
/-- a row of bits -/
def Bits (p : List Nat) : Prop := 1 ≤ p.length ∧ p.length ≤ 7 ∧ ∀ b ∈ p, b < 2
def nameP (sh : Nat) (p : List Nat) : Str := wordF (figsOf sh p)
def numP (sh : Nat) (p : List Nat) : Nat := wholeF 1 (figsOf sh p)
theorem ite_iff {p q : Prop} [Decidable p] [Decidable q] {α : Type} {a b : α} (h : p ↔ q) : (if p then a else b) = if q then a else b := by
  by_cases hq : q
  · rw [if_pos hq, if_pos (h.mpr hq)]
  · rw [if_neg hq, if_neg fun c => hq (h.mp c)]
theorem div16 {w f : Nat} (hf : f < 16) : (16 * w + f) / 16 = w := by rw [Nat.mul_add_div (by decide), Nat.div_eq_of_lt hf, Nat.add_zero]
theorem wholeF_div : ∀ (b : List Nat) (w : Nat), (∀ f ∈ b, f < 16) → wholeF w b / 16 ^ b.length = w
  | [], w, _ => by simp [wholeF]
  | f :: b, w, h => by
    have e : wholeF w (f :: b) = wholeF (16 * w + f) b := rfl
    have hf := h f (.head _)
    rw [e, List.length_cons, Nat.pow_succ, ← Nat.div_div_eq_div_mul, wholeF_div b _ fun x hx => h x (.tail _ hx)]
    exact div16 hf
theorem wholeF_app (w : Nat) (a b : List Nat) : wholeF w (a ++ b) = wholeF (wholeF w a) b := List.foldl_append ..
theorem figs_lt {sh : Nat} {p : List Nat} : ∀ f ∈ figsOf sh p, f < 16 := by
  intro f hf
  unfold figsOf at hf
  obtain ⟨i, hi, rfl⟩ := List.mem_mapIdx.mp hf
  omega
theorem figsOf_at (sh : Nat) (p : List Nat) (i : Nat) : (figsOf sh p)[i]? = p[i]?.map fun b => (sh + 5 * i + 8 * b) % 16 := by
  simp [figsOf, List.getElem?_mapIdx]
theorem figsOf_take (sh : Nat) (p : List Nat) (n : Nat) : figsOf sh (p.take n) = (figsOf sh p).take n := by
  apply List.ext_getElem?
  intro i
  rw [figsOf_at, List.getElem?_take, List.getElem?_take, figsOf_at]
  split <;> rfl
theorem figsOf_inj {sh : Nat} {p q : List Nat} (hp : ∀ b ∈ p, b < 2) (hq : ∀ b ∈ q, b < 2) (h : figsOf sh p = figsOf sh q) : p = q := by
  apply List.ext_getElem?
  intro i
  have e : (figsOf sh p)[i]? = (figsOf sh q)[i]? := by rw [h]
  rw [figsOf_at, figsOf_at] at e
  match h1 : p[i]?, h2 : q[i]? with
  | none, none => rfl
  | none, some b => rw [h1, h2] at e; cases e
  | some a, none => rw [h1, h2] at e; cases e
  | some a, some b =>
    rw [h1, h2] at e
    have e := Option.some.inj e
    have ha := hp a (List.mem_of_getElem? h1)
    have hb := hq b (List.mem_of_getElem? h2)
    exact congrArg some (by dsimp only at e; omega)
theorem num_take {sh : Nat} {p : List Nat} {n : Nat} (hn : n ≤ p.length) : numP sh p / 16 ^ (p.length - n) = numP sh (p.take n) := by
  unfold numP
  rw [figsOf_take]
  conv => lhs; arg 1; rw [← List.take_append_drop n (figsOf sh p), wholeF_app]
  have := wholeF_div ((figsOf sh p).drop n) (wholeF 1 ((figsOf sh p).take n)) fun f hf => figs_lt f (List.mem_of_mem_drop hf)
  rw [List.length_drop, figsOf_length] at this
  exact this
theorem hexL_whole : ∀ (b : List Nat) (w : Nat), w ≠ 0 → (∀ f ∈ b, f < 16) → hexL (wholeF w b) = hexL w ++ b
  | [], w, _, _ => by simp [wholeF]
  | f :: b, w, hw, h => by
    have hf := h f (.head _)
    have e : wholeF w (f :: b) = wholeF (16 * w + f) b := rfl
    rw [e, hexL_whole b _ (by omega) fun x hx => h x (.tail _ hx), hexL_pos (n := 16 * w + f) (by omega), show (16 * w + f) / 16 = w from div16 hf, show (16 * w + f) % 16 = f from by omega]
    simp
theorem hexL_num (sh : Nat) (p : List Nat) : hexL (numP sh p) = 1 :: figsOf sh p := by
  unfold numP
  rw [hexL_whole _ _ (by decide) figs_lt, hexL_pos (n := 1) (by decide), show (1 : Nat) / 16 = 0 from rfl, hexL_zero]
  rfl
theorem hexS_num (sh : Nat) (p : List Nat) : hexS (numP sh p) = nameP sh p := by
  unfold hexS; rw [hexL_num]; rfl
theorem hexC_num (sh : Nat) (p : List Nat) (n : Nat) : hexC (numP sh p) (n + 1) = nameP sh (p.take n) := by
  unfold hexC; rw [hexL_num, List.take_succ_cons]
  unfold nameP wordF
  rw [figsOf_take]; rfl
theorem wholeF_bound {sh : Nat} (bits : List Nat) (hz : bits.length ≤ 7) : 16 ^ bits.length ≤ wholeF 1 (figsOf sh bits) ∧ wholeF 1 (figsOf sh bits) < 16 ^ 8 := by
  have h := wholeF_div (figsOf sh bits) 1 figs_lt
  rw [figsOf_length] at h
  have hp : 0 < 16 ^ bits.length := Nat.pow_pos (by decide)
  have h1 := Nat.div_add_mod (wholeF 1 (figsOf sh bits)) (16 ^ bits.length)
  have h2 := Nat.mod_lt (wholeF 1 (figsOf sh bits)) hp
  have h3 : 16 ^ bits.length ≤ 16 ^ 7 := Nat.pow_le_pow_right (by decide) hz
  rw [h] at h1
  omega
theorem low_name (sh : Nat) (p : List Nat) : lowS (nameP sh p) = ⟨(98 :: (figsOf sh p).map (97 + ·)).toArray⟩ := by
  unfold lowS nameP wordF
  simp only [Str.mk.injEq]
  rw [List.map_toArray, List.map_cons, List.map_map]
  have : lo1 66 = 98 := by decide
  rw [this]
  congr 2
  apply List.map_congr_left
  intro f hf
  have := figs_lt f hf
  simp only [Function.comp, lo1]
  split <;> omega
theorem low_inj {sh : Nat} {p q : List Nat} (hp : Bits p) (hq : Bits q) (h : lowS (nameP sh p) = lowS (nameP sh q)) : p = q := by
  rw [low_name, low_name] at h
  have h := congrArg (fun s : Str => s.cps.toList) h
  simp only [List.cons.injEq, true_and] at h
  refine figsOf_inj hp.2.2 hq.2.2 (sh := sh) ?_
  have := congrArg (List.map (fun x => x - 97)) h
  rw [List.map_map, List.map_map] at this
  simpa [Function.comp_def] using this
theorem name_inj {sh : Nat} {p q : List Nat} (hp : Bits p) (hq : Bits q) (h : nameP sh p = nameP sh q) : p = q := low_inj hp hq (by rw [h])
theorem Bits.take {p : List Nat} (h : Bits p) {n : Nat} (hn : 1 ≤ n) : Bits (p.take n) :=
  ⟨by have := h.1; rw [List.length_take]; omega, by have := h.2.1; rw [List.length_take]; omega, fun b hb => h.2.2 b (List.mem_of_mem_take hb)⟩
/-- the last drawn of the longest that fit -/
def bestD (done : List (Nat × List Nat)) (p : List Nat) : Str := done.foldl (fun b d => if p.take d.2.length = d.2 then letterP d.1 else b) ⟨#[]⟩
def entP (sh : Nat) (done : List (Nat × List Nat)) (p : List Nat) : Str × Str := (if p ∈ done.map (·.2) then lowS (nameP sh p) else nameP sh p, bestD done p)
theorem low_ent (sh : Nat) (done : List (Nat × List Nat)) (p : List Nat) : lowS (entP sh done p).1 = lowS (nameP sh p) := by
  unfold entP; dsimp only; split
  · exact lowS_low _
  · rfl
theorem getT_ent {sh : Nat} {done : List (Nat × List Nat)} {q : List Nat} (hq : Bits q) : ∀ (ps : List (List Nat)), (∀ p ∈ ps, Bits p) → getT (ps.map (entP sh done)) (lowS (nameP sh q)) = if q ∈ ps then some (bestD done q) else none
  | [], _ => rfl
  | p :: ps, h => by
    unfold getT
    rw [List.map_cons, List.find?_cons, low_ent]
    by_cases e : p = q
    · subst e
      simp [entP]
    · have : (lowS (nameP sh p) == lowS (nameP sh q)) = false := by
        rw [beq_eq_false_iff_ne]
        exact fun c => e (low_inj (h p (.head _)) hq c)
      rw [this]
      have ih := getT_ent (sh := sh) (done := done) hq ps fun x hx => h x (.tail _ hx)
      unfold getT at ih
      rw [ih]
      simp [show ¬ q = p from fun c => e c.symm]
theorem passed_1 : passedP 1 = [4, 2, 1] := by decide
theorem passed_2 : passedP 2 = [4, 2, 3] := by decide
theorem passed_3 : passedP 3 = [4, 2, 3] := by decide
theorem passed_4 : passedP 4 = [4, 6, 5] := by decide
theorem passed_5 : passedP 5 = [4, 6, 5] := by decide
theorem passed_6 : passedP 6 = [4, 6, 7] := by decide
theorem passed_7 : passedP 7 = [4, 6, 7] := by decide
theorem passed_self {s : Nat} (h1 : 1 ≤ s) (h7 : s ≤ 7) : s ∈ passedP s := by
  have hk : ∀ k, k < 7 → k + 1 ∈ passedP (k + 1) := by decide
  obtain ⟨k, rfl⟩ : ∃ k, s = k + 1 := ⟨s - 1, by omega⟩
  exact hk k (Nat.lt_of_succ_le h7)
theorem passed_rng {s n : Nat} (h1 : 1 ≤ s) (h7 : s ≤ 7) (h : n ∈ passedP s) : 1 ≤ n ∧ n ≤ 7 := by
  have hk : ∀ k, k < 7 → ∀ n ∈ passedP (k + 1), 1 ≤ n ∧ n ≤ 7 := by decide
  obtain ⟨k, rfl⟩ : ∃ k, s = k + 1 := ⟨s - 1, by omega⟩
  exact hk k (Nat.lt_of_succ_le h7) n h
def placeP (f : Nat → Bool) : Nat := if f 3 then (if f 5 then (if f 6 then 7 else 6) else (if f 4 then 5 else 4)) else (if f 1 then (if f 2 then 3 else 2) else (if f 0 then 1 else 0))
theorem place_eq (f : Nat → Bool) : (bisRun false f (fun (u : Unit) _ => u) 7 0 7 ()).1 = placeP f := by
  unfold placeP
  cases h3 : f 3
  · cases h1 : f 1
    · cases h0 : f 0 <;> simp [bisRun, h3, h1, h0]
    · cases h2 : f 2 <;> simp [bisRun, h3, h1, h2]
  · cases h5 : f 5
    · cases h4 : f 4 <;> simp [bisRun, h3, h5, h4]
    · cases h6 : f 6 <;> simp [bisRun, h3, h5, h6]
theorem place_true {f : Nat → Bool} (h : placeP f ≠ 0) : f (placeP f - 1) = true := by
  unfold placeP at h ⊢
  (repeat' split) <;> first | assumption | (rename_i h3 h1 h0; simp [h3, h1, h0] at h)
theorem cases7 : ∀ {s : Nat}, 1 ≤ s → s ≤ 7 → s = 1 ∨ s = 2 ∨ s = 3 ∨ s = 4 ∨ s = 5 ∨ s = 6 ∨ s = 7
  | 0, h, _ => absurd h (by decide)
  | 1, _, _ => .inl rfl
  | 2, _, _ => .inr (.inl rfl)
  | 3, _, _ => .inr (.inr (.inl rfl))
  | 4, _, _ => .inr (.inr (.inr (.inl rfl)))
  | 5, _, _ => .inr (.inr (.inr (.inr (.inl rfl))))
  | 6, _, _ => .inr (.inr (.inr (.inr (.inr (.inl rfl)))))
  | 7, _, _ => .inr (.inr (.inr (.inr (.inr (.inr rfl)))))
  | n + 8, _, h => absurd h (Nat.not_le_of_lt (Nat.le_add_left 8 n))
theorem place_ge {f : Nat → Bool} {s : Nat} (h1 : 1 ≤ s) (h7 : s ≤ 7) (h : ∀ n ∈ passedP s, n ≤ s → f (n - 1) = true) : s ≤ placeP f := by
  have := cases7 h1 h7
  unfold placeP
  rcases this with rfl | rfl | rfl | rfl | rfl | rfl | rfl
  · rw [passed_1] at h; simp at h; simp [h]; (repeat' split) <;> omega
  · rw [passed_2] at h; simp at h; simp [h]; (repeat' split) <;> omega
  · rw [passed_3] at h; simp at h; simp [h]; (repeat' split) <;> omega
  · rw [passed_4] at h; simp at h; simp [h]; (repeat' split) <;> omega
  · rw [passed_5] at h; simp at h; simp [h]; (repeat' split) <;> omega
  · rw [passed_6] at h; simp at h; simp [h]; (repeat' split) <;> omega
  · rw [passed_7] at h; simp at h; simp [h]
theorem bestD_congr {p q : List Nat} : ∀ (done : List (Nat × List Nat)) (b : Str), (∀ d ∈ done, (p.take d.2.length = d.2 ↔ q.take d.2.length = d.2)) → done.foldl (fun b d => if p.take d.2.length = d.2 then letterP d.1 else b) b = done.foldl (fun b d => if q.take d.2.length = d.2 then letterP d.1 else b) b
  | [], _, _ => rfl
  | d :: ds, b, h => by
    rw [List.foldl_cons, List.foldl_cons]
    have e := h d (.head _)
    rw [ite_iff e]
    exact bestD_congr ds _ fun x hx => h x (.tail _ hx)
theorem bestD_none {p : List Nat} : ∀ (done : List (Nat × List Nat)) (b : Str), (∀ d ∈ done, ¬ p.take d.2.length = d.2) → done.foldl (fun b d => if p.take d.2.length = d.2 then letterP d.1 else b) b = b
  | [], _, _ => rfl
  | d :: ds, b, h => by
    rw [List.foldl_cons, if_neg (h d (.head _))]
    exact bestD_none ds _ fun x hx => h x (.tail _ hx)
theorem found_ok {sh : Nat} {done : List (Nat × List Nat)} {ps : List (List Nat)} {q : List Nat} (hq : Bits q) (hps : ∀ p ∈ ps, Bits p) (hd : ∀ d ∈ done, Bits d.2) (hin : ∀ d ∈ done, ∀ n ∈ passedP d.2.length, n ≤ d.2.length → d.2.take n ∈ ps) :
    foundP (ps.map (entP sh done)) (numP sh q) q.length = some (bestD done q) := by
  have ht : ∀ i, foundTest (ps.map (entP sh done)) (numP sh q) q.length i = (decide (i + 1 ≤ q.length) && decide (q.take (i + 1) ∈ ps)) := by
    intro i
    unfold foundTest
    by_cases h : i + 1 ≤ q.length
    · rw [num_take h, hexS_num, getT_ent (hq.take (by omega)) ps hps]
      split <;> rename_i h2 <;> simp [h2]
    · simp [h]
  have hpl : foundPlace (ps.map (entP sh done)) (numP sh q) q.length = placeP (fun i => decide (i + 1 ≤ q.length) && decide (q.take (i + 1) ∈ ps)) := by
    unfold foundPlace
    rw [show foundTest (ps.map (entP sh done)) (numP sh q) q.length = (fun i => decide (i + 1 ≤ q.length) && decide (q.take (i + 1) ∈ ps)) from funext ht, place_eq]
  unfold foundP
  rw [hpl]
  generalize hf : (fun i => decide (i + 1 ≤ q.length) && decide (q.take (i + 1) ∈ ps)) = f
  have hge : ∀ d ∈ done, q.take d.2.length = d.2 → d.2.length ≤ placeP f := by
    intro d hdm e
    have hdb := hd d hdm
    refine place_ge hdb.1 hdb.2.1 fun n hn hle => ?_
    have hn1 := passed_rng hdb.1 hdb.2.1 hn
    have hlen : d.2.length ≤ q.length := by
      have := congrArg List.length e
      rw [List.length_take] at this
      omega
    have hm := hin d hdm n hn hle
    rw [← e, List.take_take, Nat.min_eq_left hle] at hm
    rw [← hf]
    dsimp only
    rw [show n - 1 + 1 = n from by omega]
    simp [hm]
    omega
  by_cases h0 : placeP f = 0
  · rw [if_pos h0]
    refine congrArg some (bestD_none done _ fun d hdm e => ?_).symm
    have := hge d hdm e
    have := (hd d hdm).1
    omega
  · rw [if_neg h0]
    have htrue := place_true h0
    rw [← hf] at htrue
    dsimp only at htrue
    rw [hf] at htrue
    rw [show placeP f - 1 + 1 = placeP f from by omega] at htrue
    simp only [Bool.and_eq_true, decide_eq_true_eq] at htrue
    rw [hexC_num, getT_ent (hq.take (by omega)) ps hps, if_pos htrue.2]
    refine congrArg some (bestD_congr done _ fun d hdm => ?_)
    rw [List.take_take]
    constructor
    · intro e
      have := congrArg List.length e
      rw [List.length_take] at this
      rw [Nat.min_eq_left (by omega)] at e
      exact e
    · intro e
      rw [Nat.min_eq_left (hge d hdm e)]
      exact e
theorem mark_ok {sh : Nat} {done : List (Nat × List Nat)} {ps : List (List Nat)} {r : List Nat} {n : Nat} (hr : Bits r) (hn : 1 ≤ n) (hps : ∀ p ∈ ps, Bits p) (hd : ∀ d ∈ done, Bits d.2) (hin : ∀ d ∈ done, ∀ n ∈ passedP d.2.length, n ≤ d.2.length → d.2.take n ∈ ps) (hnd : ps.Nodup) :
    ∃ ps' : List (List Nat), markP (numP sh r) r.length (ps.map (entP sh done)) n = some (ps'.map (entP sh done)) ∧ ps'.Nodup ∧ ∀ p, p ∈ ps' ↔ p ∈ ps ∨ (n < r.length ∧ p = r.take n) := by
  by_cases h : n < r.length
  · unfold markP
    rw [if_pos h, num_take (by omega)]
    have hb : Bits (r.take n) := hr.take hn
    have hl : (r.take n).length = n := by rw [List.length_take]; omega
    have hfo := found_ok (sh := sh) hb hps hd hin
    rw [hl] at hfo
    rw [hfo]
    dsimp only
    rw [hexS_num, getT_ent hb ps hps]
    by_cases hm : r.take n ∈ ps
    · rw [if_pos hm]
      simp only [Option.getD_some, if_true]
      refine ⟨ps, ?_, hnd, fun p => ⟨.inl, ?_⟩⟩
      · rw [setD_some (v := bestD done (r.take n)) (by rw [getT_ent hb ps hps, if_pos hm])]
      · rintro (h | ⟨_, rfl⟩)
        · exact h
        · exact hm
    · rw [if_neg hm]
      simp only [Option.getD_none, if_true]
      refine ⟨ps ++ [r.take n], ?_, ?_, fun p => ?_⟩
      · rw [setD_none (by rw [getT_ent hb ps hps, if_neg hm]), List.map_append]
        have : r.take n ∉ done.map (·.2) := fun c => by
          obtain ⟨d, hdm, e⟩ := List.mem_map.mp c
          have hdb := hd d hdm
          have := hin d hdm d.2.length (passed_self hdb.1 hdb.2.1) (Nat.le_refl _)
          rw [List.take_length] at this
          exact hm (e ▸ this)
        show some (_ ++ [(nameP sh (r.take n), bestD done (r.take n))]) = some (_ ++ [entP sh done (r.take n)])
        unfold entP
        rw [if_neg this]
      · rw [List.nodup_append]
        refine ⟨hnd, by simp, fun a ha b hb2 => ?_⟩
        rw [List.mem_singleton.mp hb2]
        exact fun e => hm (e ▸ ha)
      · simp [h]
  · refine ⟨ps, ?_, hnd, fun p => ?_⟩
    · unfold markP; rw [if_neg h]
    · simp [h]
def InD (done : List (Nat × List Nat)) (p : List Nat) : Prop := ∃ d ∈ done, ∃ n ∈ passedP d.2.length, n ≤ d.2.length ∧ p = d.2.take n
theorem marks_ok {sh : Nat} {done : List (Nat × List Nat)} {r : List Nat} (hr : Bits r) (hd : ∀ d ∈ done, Bits d.2) : ∀ (ns : List Nat) (ps : List (List Nat)), (∀ n ∈ ns, 1 ≤ n) → (∀ p ∈ ps, Bits p) → (∀ d ∈ done, ∀ n ∈ passedP d.2.length, n ≤ d.2.length → d.2.take n ∈ ps) → ps.Nodup →
    ∃ ps' : List (List Nat), ns.foldlM (markP (numP sh r) r.length) (ps.map (entP sh done)) = some (ps'.map (entP sh done)) ∧ ps'.Nodup ∧ (∀ p ∈ ps', Bits p) ∧ ∀ p, p ∈ ps' ↔ p ∈ ps ∨ ∃ n ∈ ns, n < r.length ∧ p = r.take n
  | [], ps, _, hb, _, hnd => ⟨ps, rfl, hnd, hb, fun p => by simp⟩
  | n :: ns, ps, hn, hb, hin, hnd => by
    obtain ⟨ps1, e1, hnd1, hm1⟩ := mark_ok (sh := sh) hr (hn n (.head _)) hb hd hin hnd
    have hb1 : ∀ p ∈ ps1, Bits p := fun p hp => by
      rcases (hm1 p).mp hp with h | ⟨_, rfl⟩
      · exact hb p h
      · exact hr.take (hn n (.head _))
    obtain ⟨ps2, e2, hnd2, hb2, hm2⟩ := marks_ok hr hd ns ps1 (fun x hx => hn x (.tail _ hx)) hb1 (fun d hdm m hm hle => (hm1 _).mpr (.inl (hin d hdm m hm hle))) hnd1
    refine ⟨ps2, ?_, hnd2, hb2, fun p => ?_⟩
    · rw [List.foldlM_cons, e1]; exact e2
    · rw [hm2, hm1]
      constructor
      · rintro ((h | h) | ⟨m, hm, h⟩)
        · exact .inl h
        · exact .inr ⟨n, .head _, h⟩
        · exact .inr ⟨m, .tail _ hm, h⟩
      · rintro (h | ⟨m, hm, h⟩)
        · exact .inl (.inl h)
        · rcases List.mem_cons.mp hm with rfl | hm
          · exact .inl (.inr h)
          · exact .inr ⟨m, hm, h⟩
theorem row_ok {sh : Nat} {done : List (Nat × List Nat)} {ps : List (List Nat)} {k : Nat} {r : List Nat} {ws : List (Nat × Nat)} (hw : ws.getD k (0, 0) = (numP sh r, r.length)) (hr : Bits r) (hd : ∀ d ∈ done, Bits d.2) (hle : ∀ d ∈ done, d.2.length ≤ r.length) (hmem : ∀ p, p ∈ ps ↔ InD done p) (hnd : ps.Nodup) :
    ∃ ps' : List (List Nat), rowP ws (ps.map (entP sh done)) k = some (ps'.map (entP sh (done ++ [(k, r)]))) ∧ ps'.Nodup ∧ ∀ p, p ∈ ps' ↔ InD (done ++ [(k, r)]) p := by
  have hlen : ∀ p, InD done p → Bits p ∧ p.length ≤ r.length := by
    rintro p ⟨d, hdm, n, hn, hnl, rfl⟩
    have hdb := hd d hdm
    have := hle d hdm
    exact ⟨hdb.take (passed_rng hdb.1 hdb.2.1 hn).1, by rw [List.length_take]; omega⟩
  obtain ⟨ps1, e1, hnd1, hb1, hm1⟩ := marks_ok (sh := sh) hr hd (passedP r.length) ps (fun n hn => (passed_rng hr.1 hr.2.1 hn).1) (fun p hp => (hlen p ((hmem p).mp hp)).1) (fun d hdm n hn hnl => (hmem _).mpr ⟨d, hdm, n, hn, hnl, rfl⟩) hnd
  have hl1 : ∀ p ∈ ps1, p.length ≤ r.length := fun p hp => by
    rcases (hm1 p).mp hp with h | ⟨n, _, _, rfl⟩
    · exact (hlen p ((hmem p).mp h)).2
    · rw [List.length_take]; omega
  have hent : ∀ p ∈ ps1, p ≠ r → entP sh done p = entP sh (done ++ [(k, r)]) p := by
    intro p hp hne
    unfold entP bestD
    have e1 : p ∈ (done ++ [(k, r)]).map (·.2) ↔ p ∈ done.map (·.2) := by simp [hne]
    have hn2 : ¬ (p.take ((k, r) : Nat × List Nat).2.length = ((k, r) : Nat × List Nat).2) := by
      dsimp only
      rw [List.take_of_length_le (hl1 p hp)]
      exact hne
    rw [ite_iff e1, List.foldl_append, List.foldl_cons, List.foldl_nil, if_neg hn2]
  refine ⟨ps1.filter (fun p => decide (p ≠ r)) ++ [r], ?_, ?_, fun p => ?_⟩
  · unfold rowP
    rw [hw]
    dsimp only
    rw [e1]
    simp only [Option.map_some, Option.some.injEq]
    rw [List.map_append, hexS_num, List.filter_map]
    congr 1
    · have : List.filter ((fun kv : Str × Str => lowS kv.1 != lowS (lowS (nameP sh r))) ∘ entP sh done) ps1 = ps1.filter (fun p => decide (p ≠ r)) := by
        apply List.filter_congr
        intro p hp
        simp only [Function.comp]
        rw [low_ent, lowS_low]
        by_cases e : p = r
        · simp [e]
        · have : lowS (nameP sh p) ≠ lowS (nameP sh r) := fun c => e (low_inj (hb1 p hp) hr c)
          simp [e, this]
      rw [this]
      apply List.map_congr_left
      intro p hp
      have hp := List.mem_filter.mp hp
      exact hent p hp.1 (by simpa using hp.2)
    · rw [List.map_singleton]
      unfold entP bestD
      rw [if_pos (by simp), List.foldl_append, List.foldl_cons, List.foldl_nil, if_pos (by simp)]
  · rw [List.nodup_append]
    refine ⟨hnd1.filter _, by simp, fun a ha b hb2 => ?_⟩
    rw [List.mem_singleton.mp hb2]
    have := (List.mem_filter.mp ha).2
    simpa using this
  · have hself := passed_self hr.1 hr.2.1
    rw [List.mem_append, List.mem_filter, List.mem_singleton, hm1, hmem]
    constructor
    · rintro (⟨h, _⟩ | rfl)
      · rcases h with ⟨d, hdm, h⟩ | ⟨n, hn, hlt, rfl⟩
        · exact ⟨d, List.mem_append_left _ hdm, h⟩
        · exact ⟨(k, r), by simp, n, hn, Nat.le_of_lt hlt, rfl⟩
      · exact ⟨(k, p), by simp, p.length, hself, Nat.le_refl _, by simp⟩
    · rintro ⟨d, hdm, n, hn, hnl, rfl⟩
      by_cases e : d.2.take n = r
      · exact .inr e
      · refine .inl ⟨?_, by simpa using e⟩
        rcases List.mem_append.mp hdm with h | h
        · exact .inl ⟨d, h, n, hn, hnl, rfl⟩
        · obtain rfl := List.mem_singleton.mp h
          refine .inr ⟨n, hn, ?_, rfl⟩
          rcases Nat.lt_or_ge n r.length with h | h
          · exact h
          · exact absurd (List.take_of_length_le h) e
theorem rows_ok {sh : Nat} {rs : List (List Nat)} (hrb : ∀ r ∈ rs, Bits r) : ∀ (os : List Nat) (done : List (Nat × List Nat)) (ps : List (List Nat)), (∀ k ∈ os, k < rs.length) → os.Pairwise (fun a b => (rs.getD a []).length ≤ (rs.getD b []).length) → (∀ d ∈ done, Bits d.2) → (∀ d ∈ done, ∀ k ∈ os, d.2.length ≤ (rs.getD k []).length) → (∀ p, p ∈ ps ↔ InD done p) → ps.Nodup →
    ∃ ps' : List (List Nat), os.foldlM (rowP (rs.map fun r => (wholeF 1 (figsOf sh r), r.length))) (ps.map (entP sh done)) = some (ps'.map (entP sh (done ++ os.map fun k => (k, rs.getD k [])))) ∧ ps'.Nodup ∧ ∀ p, p ∈ ps' ↔ InD (done ++ os.map fun k => (k, rs.getD k [])) p
  | [], done, ps, _, _, _, _, hmem, hnd => ⟨ps, by simp, hnd, by simpa using hmem⟩
  | k :: os, done, ps, hlt, hpw, hd, hle, hmem, hnd => by
    have hk := hlt k (.head _)
    have hg : rs.getD k [] = rs[k] := by simp [List.getD, hk]
    have hr : Bits (rs.getD k []) := by rw [hg]; exact hrb _ (List.getElem_mem hk)
    obtain ⟨ps1, e1, hnd1, hm1⟩ := row_ok (sh := sh) (k := k) (r := rs.getD k []) (ws := rs.map fun r => (wholeF 1 (figsOf sh r), r.length)) (by rw [hg]; simp [List.getD, hk, numP]) hr hd (fun d hdm => hle d hdm k (.head _)) hmem hnd
    have hpw := List.pairwise_cons.mp hpw
    obtain ⟨ps2, e2, hnd2, hm2⟩ := rows_ok (sh := sh) hrb os (done ++ [(k, rs.getD k [])]) ps1 (fun x hx => hlt x (.tail _ hx)) hpw.2 (fun d hdm => by
      rcases List.mem_append.mp hdm with h | h
      · exact hd d h
      · rw [List.mem_singleton.mp h]; exact hr) (fun d hdm j hj => by
      rcases List.mem_append.mp hdm with h | h
      · exact hle d h j (.tail _ hj)
      · rw [List.mem_singleton.mp h]; exact hpw.1 j hj) hm1 hnd1
    refine ⟨ps2, ?_, hnd2, ?_⟩
    · rw [List.foldlM_cons, e1]
      simp only [List.append_assoc, List.singleton_append] at e2
      simpa using e2
    · simpa using hm2
end
section
open PySem PySem.W PySem.Calls PyProof.Rows Mine
set_option maxRecDepth 100000
def LexLt (sz : Nat → Nat) (a b : Nat) : Prop := sz a < sz b ∨ (sz a = sz b ∧ a < b)
theorem bisRun_spec {test : Nat → Bool} {n : Nat} (hmono : ∀ i j, i ≤ j → j < n → test i = true → test j = true) : ∀ (f lo hi : Nat), hi - lo ≤ f → lo ≤ hi → hi ≤ n → (∀ i, i < lo → test i = false) → (∀ i, hi ≤ i → i < n → test i = true) →
    (bisRun true test (fun (_ : Unit) _ => ()) f lo hi ()).1 ≤ n ∧ (∀ i, i < (bisRun true test (fun (_ : Unit) _ => ()) f lo hi ()).1 → test i = false) ∧ ∀ i, (bisRun true test (fun (_ : Unit) _ => ()) f lo hi ()).1 ≤ i → i < n → test i = true
  | 0, lo, hi, h1, h2, h3, h4, h5 => by
    have : lo = hi := by omega
    subst this
    exact ⟨h3, h4, h5⟩
  | f + 1, lo, hi, h1, h2, h3, h4, h5 => by
    by_cases h : lo < hi
    · unfold bisRun
      rw [if_pos h]
      have hb := bis_b h
      cases ht : test ((lo + hi) / 2) with
      | true =>
        simp only [beq_self_eq_true, if_true]
        exact bisRun_spec hmono f lo _ (Nat.le_of_lt_succ (Nat.lt_of_lt_of_le (Nat.sub_lt_sub_right hb.1 hb.2) h1)) hb.1 (Nat.le_trans (Nat.le_of_lt hb.2) h3) h4 fun i hi1 hi2 => hmono _ _ hi1 hi2 ht
      | false =>
        simp only [show (false == true) = false from rfl, Bool.false_eq_true, if_false]
        refine bisRun_spec hmono f _ hi (Nat.le_of_lt_succ (Nat.lt_of_lt_of_le (Nat.sub_lt_sub_left h (Nat.lt_succ_of_le hb.1)) h1)) hb.2 h3 (fun i hi1 => ?_) h5
        cases hti : test i with
        | false => rfl
        | true => rw [hmono i ((lo + hi) / 2) (Nat.le_of_lt_succ hi1) (Nat.lt_of_lt_of_le hb.2 h3) hti] at ht; cases ht
    · have : lo = hi := by omega
      subst this
      unfold bisRun
      rw [if_neg h]
      exact ⟨h3, h4, h5⟩
theorem insertIdx_cut {α : Type} {a : α} : ∀ (l : List α) (n : Nat), n ≤ l.length → l.insertIdx n a = l.take n ++ a :: l.drop n
  | l, 0, _ => by simp
  | [], n + 1, h => by simp at h
  | x :: l, n + 1, h => by
    rw [List.insertIdx_succ_cons, insertIdx_cut l n (by simpa using h)]
    simp
theorem insK_spec {sz : Nat → Nat} {os : List Nat} {k : Nat} (hpw : os.Pairwise (LexLt sz)) (hlt : ∀ x ∈ os, x < k) : (insK sz os k).Pairwise (LexLt sz) ∧ ∀ x, x ∈ insK sz os k ↔ x = k ∨ x ∈ os := by
  have hg : ∀ i, i < os.length → os.getD i 0 ∈ os ∧ os[i]? = some (os.getD i 0) := fun i hi => by
    have e : os.getD i 0 = os[i] := by simp [List.getD, hi]
    rw [e]
    exact ⟨List.getElem_mem hi, List.getElem?_eq_getElem hi⟩
  have hmono : ∀ i j, i ≤ j → j < os.length → (decide (sz k < sz (os.getD i 0))) = true → (decide (sz k < sz (os.getD j 0))) = true := by
    intro i j hij hj ht
    rcases Nat.lt_or_ge i j with h | h
    · have h1 := (List.pairwise_iff_getElem.mp hpw) i j (by omega) hj h
      have e1 : os.getD i 0 = os[i] := by simp [List.getD, show i < os.length from by omega]
      have e2 : os.getD j 0 = os[j] := by simp [List.getD, hj]
      rw [e1] at ht
      rw [e2]
      simp only [decide_eq_true_eq] at ht ⊢
      rcases h1 with h1 | h1 <;> omega
    · obtain rfl : i = j := by omega
      exact ht
  obtain ⟨hle, hf, ht⟩ := bisRun_spec (test := fun i => decide (sz k < sz (os.getD i 0))) (n := os.length) hmono os.length 0 os.length (by omega) (by omega) (Nat.le_refl _) (by omega) (by omega)
  unfold insK
  generalize (bisRun true (fun i => decide (sz k < sz (os.getD i 0))) (fun (_ : Unit) _ => ()) os.length 0 os.length ()).1 = p at *
  refine ⟨?_, fun x => List.mem_insertIdx hle⟩
  rw [insertIdx_cut _ _ hle, List.pairwise_append]
  have hta : ∀ a ∈ os.take p, sz a ≤ sz k ∧ a < k := fun a ha => by
    obtain ⟨i, hi, e⟩ := List.mem_take_iff_getElem.mp ha
    have := hf i (by omega)
    have e1 : os.getD i 0 = os[i] := by simp [List.getD, show i < os.length from by omega]
    rw [e1, e] at this
    simp only [decide_eq_false_iff_not] at this
    exact ⟨by omega, hlt a (List.mem_of_mem_take ha)⟩
  have htb : ∀ b ∈ os.drop p, sz k < sz b := fun b hb => by
    obtain ⟨i, hi, e⟩ := List.mem_drop_iff_getElem.mp hb
    have := ht (p + i) (by omega) (by omega)
    have e1 : os.getD (p + i) 0 = os[p + i] := by simp [List.getD, show p + i < os.length from by omega]
    rw [e1, e] at this
    simpa using this
  refine ⟨hpw.sublist (List.take_sublist _ _), List.pairwise_cons.mpr ⟨fun b hb => .inl (htb b hb), hpw.sublist (List.drop_sublist _ _)⟩, fun a ha b hb => ?_⟩
  have h1 := hta a ha
  rcases List.mem_cons.mp hb with rfl | hb
  · unfold LexLt; omega
  · have := htb b hb
    exact .inl (by omega)
theorem ordP_spec (sz : Nat → Nat) : ∀ n, (ordP sz n).Pairwise (LexLt sz) ∧ ∀ x, x ∈ ordP sz n ↔ x < n
  | 0 => ⟨.nil, fun x => by simp [ordP]⟩
  | n + 1 => by
    obtain ⟨h1, h2⟩ := ordP_spec sz n
    obtain ⟨h3, h4⟩ := insK_spec (k := n) h1 fun x hx => (h2 x).mp hx
    refine ⟨h3, fun x => ?_⟩
    show x ∈ insK sz (ordP sz n) n ↔ _
    rw [h4, h2]; omega
/-- the greatest that fits -/
def Top (sz : Nat → Nat) (fit : Nat → Prop) (n : Nat) (k : Nat) : Prop := k < n ∧ fit k ∧ ∀ j, j < n → fit j → j = k ∨ LexLt sz j k
theorem Top.uniq {sz : Nat → Nat} {fit : Nat → Prop} {n a b : Nat} (ha : Top sz fit n a) (hb : Top sz fit n b) : a = b := by
  have h1 := ha.2.2 b hb.1 hb.2.1
  have h2 := hb.2.2 a ha.1 ha.2.1
  unfold LexLt at h1 h2
  omega
theorem bestD_top {sz : Nat → Nat} {rs : List (List Nat)} {p : List Nat} : ∀ (os : List Nat) (b : Str), os.Pairwise (LexLt sz) →
    ((∀ k ∈ os, ¬ p.take (rs.getD k []).length = rs.getD k []) ∧ (os.map fun k => (k, rs.getD k [])).foldl (fun b d => if p.take d.2.length = d.2 then letterP d.1 else b) b = b)
    ∨ ∃ k ∈ os, p.take (rs.getD k []).length = rs.getD k [] ∧ (∀ j ∈ os, p.take (rs.getD j []).length = rs.getD j [] → j = k ∨ LexLt sz j k) ∧ (os.map fun k => (k, rs.getD k [])).foldl (fun b d => if p.take d.2.length = d.2 then letterP d.1 else b) b = letterP k
  | [], b, _ => .inl ⟨by simp, rfl⟩
  | k :: os, b, h => by
    have h := List.pairwise_cons.mp h
    rw [List.map_cons, List.foldl_cons]
    by_cases hk : p.take (rs.getD k []).length = rs.getD k []
    · rw [if_pos hk]
      rcases bestD_top os (letterP k) h.2 with ⟨h1, h2⟩ | ⟨j, hj, h1, h2, h3⟩
      · refine .inr ⟨k, .head _, hk, fun j hj hf => ?_, h2⟩
        rcases List.mem_cons.mp hj with rfl | hj
        · exact .inl rfl
        · exact absurd hf (h1 j hj)
      · refine .inr ⟨j, .tail _ hj, h1, fun i hi hf => ?_, h3⟩
        rcases List.mem_cons.mp hi with rfl | hi
        · exact .inr (h.1 j hj)
        · exact h2 i hi hf
    · rw [if_neg hk]
      rcases bestD_top os b h.2 with ⟨h1, h2⟩ | ⟨j, hj, h1, h2, h3⟩
      · refine .inl ⟨fun j hj => ?_, h2⟩
        rcases List.mem_cons.mp hj with rfl | hj
        · exact hk
        · exact h1 j hj
      · refine .inr ⟨j, .tail _ hj, h1, fun i hi hf => ?_, h3⟩
        rcases List.mem_cons.mp hi with rfl | hi
        · exact absurd hf hk
        · exact h2 i hi hf
theorem fitsP_mem {ws : List Str} {word : Str} {l k : Nat} : ∀ n, (l, k) ∈ fitsP ws word n ↔ k < n ∧ l = (ws.getD k ⟨#[]⟩).length ∧ cutS word l = ws.getD k ⟨#[]⟩
  | 0 => by simp [fitsP]
  | n + 1 => by
    rw [fitsP, List.mem_append, fitsP_mem n]
    constructor
    · rintro (⟨h1, h2⟩ | h)
      · exact ⟨by omega, h2⟩
      · split at h
        · rename_i hc
          simp only [List.mem_singleton, Prod.mk.injEq] at h
          obtain ⟨rfl, rfl⟩ := h
          exact ⟨by omega, rfl, hc⟩
        · simp at h
    · rintro ⟨h1, h2, h3⟩
      by_cases e : k = n
      · subst e
        subst h2
        rw [if_pos h3]
        exact .inr (by simp)
      · exact .inl ⟨by omega, h2, h3⟩
theorem argBest_max (ws : List (Nat × Nat)) : ∀ m j, j ≤ m → (ws.getD j (0, 0)).1 < (ws.getD (argBest (pairGt ws) m) (0, 0)).1 ∨ ((ws.getD j (0, 0)).1 = (ws.getD (argBest (pairGt ws) m) (0, 0)).1 ∧ (ws.getD j (0, 0)).2 ≤ (ws.getD (argBest (pairGt ws) m) (0, 0)).2)
  | 0, j, h => by
    obtain rfl : j = 0 := by omega
    exact .inr ⟨rfl, Nat.le_refl _⟩
  | m + 1, j, h => by
    unfold argBest
    have ih := argBest_max ws m
    by_cases e : j = m + 1
    · subst e
      split
      · exact .inr ⟨rfl, Nat.le_refl _⟩
      · rename_i hb
        simp only [pairGt, decide_eq_true_eq, not_or, not_and] at hb
        omega
    · have := ih j (by omega)
      split
      · rename_i hb
        simp only [pairGt, decide_eq_true_eq] at hb
        omega
      · exact this
theorem cut_name (sh : Nat) (p : List Nat) (n : Nat) : cutS (nameP sh p) (n + 1) = nameP sh (p.take n) := by
  rw [cutS_take]
  unfold nameP wordF
  rw [figsOf_take]
  simp
theorem name_len (sh : Nat) (p : List Nat) : (nameP sh p).length = p.length + 1 := by
  unfold nameP wordF
  simp [Str.length, figsOf_length]
theorem bestP_top {sh : Nat} {rs : List (List Nat)} {p : List Nat} (h5 : rs.length = 5) (hrb : ∀ r ∈ rs, Bits r) (hp : Bits p) :
    ((∀ k, k < 5 → ¬ p.take (rs.getD k []).length = rs.getD k []) ∧ bestP (rs.map (nameP sh)) (nameP sh p) = ⟨#[]⟩)
    ∨ ∃ k, Top (fun k => (rs.getD k []).length) (fun k => p.take (rs.getD k []).length = rs.getD k []) 5 k ∧ bestP (rs.map (nameP sh)) (nameP sh p) = letterP k := by
  have hmem : ∀ l k, (l, k) ∈ fitsP (rs.map (nameP sh)) (nameP sh p) 5 ↔ k < 5 ∧ l = (rs.getD k []).length + 1 ∧ p.take (rs.getD k []).length = rs.getD k [] := by
    intro l k
    rw [fitsP_mem]
    constructor
    · rintro ⟨hk, hl, hc⟩
      have hkl : k < rs.length := by omega
      have hg : rs.getD k [] = rs[k] := by simp [List.getD, hkl]
      have hgs : (rs.map (nameP sh)).getD k ⟨#[]⟩ = nameP sh rs[k] := by simp [List.getD, hkl]
      have hr := hrb _ (List.getElem_mem hkl)
      rw [hgs, name_len] at hl
      rw [hgs, hl, cut_name] at hc
      rw [hg]
      exact ⟨hk, hl, name_inj (hp.take hr.1) hr hc⟩
    · rintro ⟨hk, hl, hc⟩
      have hkl : k < rs.length := by omega
      have hg : rs.getD k [] = rs[k] := by simp [List.getD, hkl]
      have hgs : (rs.map (nameP sh)).getD k ⟨#[]⟩ = nameP sh rs[k] := by simp [List.getD, hkl]
      rw [hg] at hl hc
      rw [hgs, name_len, hl, cut_name, hc]
      exact ⟨hk, rfl, rfl⟩
  unfold bestP
  generalize fitsP (rs.map (nameP sh)) (nameP sh p) 5 = fs at *
  by_cases hf : fs = []
  · rw [if_pos hf]
    refine .inl ⟨fun k hk c => ?_, rfl⟩
    have := (hmem _ k).mpr ⟨hk, rfl, c⟩
    rw [hf] at this
    simp at this
  · rw [if_neg hf]
    have hpos : 0 < fs.length := List.length_pos_iff.mpr hf
    have hle := argBest_le (pairGt fs) (fs.length - 1)
    have hmax := argBest_max fs (fs.length - 1)
    generalize argBest (pairGt fs) (fs.length - 1) = m at *
    have hm : m < fs.length := by omega
    have hgm : fs.getD m (0, 0) = fs[m] := by simp [List.getD, hm]
    have hmm := (hmem fs[m].1 fs[m].2).mp (List.getElem_mem hm)
    rw [hgm]
    refine .inr ⟨fs[m].2, ⟨hmm.1, hmm.2.2, fun j hj hfj => ?_⟩, rfl⟩
    have hjm := (hmem _ j).mpr ⟨hj, rfl, hfj⟩
    obtain ⟨i, hi, e⟩ := List.getElem_of_mem hjm
    have h1 := hmax i (by omega)
    have hgi : fs.getD i (0, 0) = fs[i] := by simp [List.getD, hi]
    rw [hgm, hgi, e] at h1
    have h2 := hmm.2.1
    unfold LexLt
    dsimp only at h1 ⊢
    omega
theorem best_eq {sh : Nat} {rs : List (List Nat)} {p : List Nat} (h5 : rs.length = 5) (hrb : ∀ r ∈ rs, Bits r) (hp : Bits p) :
    bestD ((ordP (fun k => (rs.getD k []).length) 5).map fun k => (k, rs.getD k [])) p = bestP (rs.map (nameP sh)) (nameP sh p) := by
  obtain ⟨hpw, hm⟩ := ordP_spec (fun k => (rs.getD k []).length) 5
  unfold bestD
  rcases bestD_top (rs := rs) (p := p) _ ⟨#[]⟩ hpw with ⟨h1, h2⟩ | ⟨k, hk, h1, h2, h3⟩
  · rw [h2]
    rcases bestP_top (sh := sh) h5 hrb hp with ⟨_, h4⟩ | ⟨j, hj, _⟩
    · exact h4.symm
    · exact absurd hj.2.1 (h1 j ((hm j).mpr hj.1))
  · rw [h3]
    have ht : Top (fun k => (rs.getD k []).length) (fun k => p.take (rs.getD k []).length = rs.getD k []) 5 k := ⟨(hm k).mp hk, h1, fun j hj hf => h2 j ((hm j).mpr hj) hf⟩
    rcases bestP_top (sh := sh) h5 hrb hp with ⟨h4, _⟩ | ⟨j, hj, h4⟩
    · exact absurd h1 (h4 k ht.1)
    · rw [h4, ht.uniq hj]
end
section
open PySem PySem.W PySem.Calls PyProof.Rows Mine
set_option maxRecDepth 100000
def chainP : Nat → Nat → List Nat
  | 0, _ => []
  | f + 1, n => if n = 0 then [] else n :: chainP f (n &&& (n - 1))
theorem dueW_chain (ws : List Str) (word : Str) : ∀ (f n : Nat) (D : List (Str × Str)), dueW ws word f n D = (chainP f n).foldl (fun D n => dueStep ws word n D) D
  | 0, _, _ => rfl
  | f + 1, n, D => by
    unfold dueW chainP
    by_cases h : n = 0
    · rw [if_pos h, if_pos h]; rfl
    · rw [if_neg h, if_neg h, dueW_chain ws word f]; rfl
theorem chain_eq {s : Nat} (h1 : 1 ≤ s) (h7 : s ≤ 7) : chainP 8 s = ((passedP s).filter fun n => decide (n ≤ s)).reverse := by
  have h : ∀ k, k < 7 → chainP 8 (k + 1) = ((passedP (k + 1)).filter fun n => decide (n ≤ k + 1)).reverse := by decide
  obtain ⟨k, rfl⟩ : ∃ k, s = k + 1 := ⟨s - 1, by omega⟩
  exact h k (Nat.lt_of_succ_le h7)
theorem chain_mem {s n : Nat} (h1 : 1 ≤ s) (h7 : s ≤ 7) : n ∈ chainP 8 s ↔ n ∈ passedP s ∧ n ≤ s := by
  rw [chain_eq h1 h7, List.mem_reverse, List.mem_filter, decide_eq_true_eq]
theorem putP_ok {f : List Nat → Str × Str} {ps : List (List Nat)} {p : List Nat} (hinj : ∀ a ∈ ps, (f a).1 = (f p).1 → a = p) (hnd : ps.Nodup) :
    ∃ ps' : List (List Nat), putP (ps.map f) (f p).1 (f p).2 = ps'.map f ∧ ps'.Nodup ∧ ∀ q, q ∈ ps' ↔ q ∈ ps ∨ q = p := by
  unfold putP
  by_cases h : p ∈ ps
  · refine ⟨ps, ?_, hnd, fun q => ⟨.inl, fun hq => hq.elim id fun e => e ▸ h⟩⟩
    rw [if_pos (List.any_eq_true.mpr ⟨f p, List.mem_map_of_mem h, by simp⟩), List.map_map]
    apply List.map_congr_left
    intro a ha
    simp only [Function.comp]
    split
    · rename_i e
      rw [hinj a ha e]
    · rfl
  · refine ⟨ps ++ [p], ?_, ?_, fun q => by simp⟩
    · rw [if_neg, List.map_append]
      · rfl
      · intro c
        obtain ⟨kv, hkv, e⟩ := List.any_eq_true.mp c
        obtain ⟨a, ha, rfl⟩ := List.mem_map.mp hkv
        exact h (hinj a ha (by simpa using e) ▸ ha)
    · rw [List.nodup_append]
      refine ⟨hnd, by simp, fun a ha b hb2 => ?_⟩
      rw [List.mem_singleton.mp hb2]
      exact fun e => h (e ▸ ha)
def entF (sh : Nat) (rs : List (List Nat)) (p : List Nat) : Str × Str := (if p ∈ rs then lowS (nameP sh p) else nameP sh p, bestP (rs.map (nameP sh)) (nameP sh p))
theorem low_entF (sh : Nat) (rs : List (List Nat)) (p : List Nat) : lowS (entF sh rs p).1 = lowS (nameP sh p) := by
  unfold entF; dsimp only; split
  · exact lowS_low _
  · rfl
theorem entF_inj {sh : Nat} {rs : List (List Nat)} {p q : List Nat} (hp : Bits p) (hq : Bits q) (h : (entF sh rs p).1 = (entF sh rs q).1) : p = q := by
  have := congrArg lowS h
  rw [low_entF, low_entF] at this
  exact low_inj hp hq this
theorem name_mem {sh : Nat} {rs : List (List Nat)} {p : List Nat} (hrb : ∀ r ∈ rs, Bits r) (hp : Bits p) : nameP sh p ∈ rs.map (nameP sh) ↔ p ∈ rs := by
  constructor
  · intro h
    obtain ⟨r, hr, e⟩ := List.mem_map.mp h
    exact name_inj (hrb r hr) hp e ▸ hr
  · exact fun h => List.mem_map_of_mem h
theorem dueStep_ok {sh : Nat} {rs : List (List Nat)} {r : List Nat} {n : Nat} {D : List (Str × Str)} (hrb : ∀ r ∈ rs, Bits r) (hr : Bits r) (hn : 1 ≤ n) :
    dueStep (rs.map (nameP sh)) (nameP sh r) n D = putP D (entF sh rs (r.take n)).1 (entF sh rs (r.take n)).2 := by
  unfold dueStep entF
  rw [cut_name]
  dsimp only
  rw [ite_iff (name_mem hrb (hr.take hn))]
theorem dueChain_ok {sh : Nat} {rs : List (List Nat)} {r : List Nat} (hrb : ∀ r ∈ rs, Bits r) (hr : Bits r) : ∀ (ns : List Nat) (ps : List (List Nat)), (∀ n ∈ ns, 1 ≤ n) → (∀ p ∈ ps, Bits p) → ps.Nodup →
    ∃ ps' : List (List Nat), ns.foldl (fun D n => dueStep (rs.map (nameP sh)) (nameP sh r) n D) (ps.map (entF sh rs)) = ps'.map (entF sh rs) ∧ ps'.Nodup ∧ (∀ p ∈ ps', Bits p) ∧ ∀ q, q ∈ ps' ↔ q ∈ ps ∨ ∃ n ∈ ns, q = r.take n
  | [], ps, _, hb, hnd => ⟨ps, rfl, hnd, hb, fun q => by simp⟩
  | n :: ns, ps, hn, hb, hnd => by
    have hbt := hr.take (hn n (.head _))
    obtain ⟨ps1, e1, hnd1, hm1⟩ := putP_ok (f := entF sh rs) (p := r.take n) (fun a ha e => entF_inj (hb a ha) hbt e) hnd
    have hb1 : ∀ p ∈ ps1, Bits p := fun p hp => by
      rcases (hm1 p).mp hp with h | rfl
      · exact hb p h
      · exact hbt
    obtain ⟨ps2, e2, hnd2, hb2, hm2⟩ := dueChain_ok (sh := sh) hrb hr ns ps1 (fun x hx => hn x (.tail _ hx)) hb1 hnd1
    refine ⟨ps2, ?_, hnd2, hb2, fun q => ?_⟩
    · rw [List.foldl_cons, dueStep_ok hrb hr (hn n (.head _)), e1, e2]
    · rw [hm2, hm1]
      constructor
      · rintro ((h | h) | ⟨m, hm, h⟩)
        · exact .inl h
        · exact .inr ⟨n, .head _, h⟩
        · exact .inr ⟨m, .tail _ hm, h⟩
      · rintro (h | ⟨m, hm, h⟩)
        · exact .inl (.inl h)
        · rcases List.mem_cons.mp hm with rfl | hm
          · exact .inl (.inr h)
          · exact .inr ⟨m, hm, h⟩
def InR (rs : List (List Nat)) (p : List Nat) : Prop := ∃ r ∈ rs, ∃ n ∈ passedP r.length, n ≤ r.length ∧ p = r.take n
theorem dueRows_ok {sh : Nat} {rs : List (List Nat)} (hrb : ∀ r ∈ rs, Bits r) : ∀ (l : List (List Nat)) (ps : List (List Nat)), (∀ r ∈ l, Bits r) → (∀ p ∈ ps, Bits p) → ps.Nodup →
    ∃ ps' : List (List Nat), (l.map (nameP sh)).foldl (fun D word => dueW (rs.map (nameP sh)) word 8 (word.length - 1) D) (ps.map (entF sh rs)) = ps'.map (entF sh rs) ∧ ps'.Nodup ∧ (∀ p ∈ ps', Bits p) ∧ ∀ q, q ∈ ps' ↔ q ∈ ps ∨ InR l q
  | [], ps, _, hb, hnd => ⟨ps, rfl, hnd, hb, fun q => by simp [InR]⟩
  | r :: l, ps, hl, hb, hnd => by
    have hr := hl r (.head _)
    obtain ⟨ps1, e1, hnd1, hb1, hm1⟩ := dueChain_ok (sh := sh) hrb hr (chainP 8 r.length) ps (fun n hn => (passed_rng hr.1 hr.2.1 ((chain_mem hr.1 hr.2.1).mp hn).1).1) hb hnd
    obtain ⟨ps2, e2, hnd2, hb2, hm2⟩ := dueRows_ok (sh := sh) hrb l ps1 (fun x hx => hl x (.tail _ hx)) hb1 hnd1
    refine ⟨ps2, ?_, hnd2, hb2, fun q => ?_⟩
    · rw [List.map_cons, List.foldl_cons, dueW_chain, name_len, Nat.add_sub_cancel, e1, e2]
    · rw [hm2, hm1]
      constructor
      · rintro ((h | ⟨n, hn, h⟩) | ⟨x, hx, h⟩)
        · exact .inl h
        · have := (chain_mem hr.1 hr.2.1).mp hn
          exact .inr ⟨r, .head _, n, this.1, this.2, h⟩
        · exact .inr ⟨x, .tail _ hx, h⟩
      · rintro (h | ⟨x, hx, n, hn, hle, h⟩)
        · exact .inl (.inl h)
        · rcases List.mem_cons.mp hx with rfl | hx
          · exact .inl (.inr ⟨n, (chain_mem hr.1 hr.2.1).mpr ⟨hn, hle⟩, h⟩)
          · exact .inr ⟨x, hx, n, hn, hle, h⟩
theorem dueW_len (ws : List Str) (word : Str) : ∀ (f n : Nat) (D : List (Str × Str)), (dueW ws word f n D).length ≤ D.length + f
  | 0, _, D => Nat.le_refl _
  | f + 1, n, D => by
    unfold dueW
    split
    · omega
    · refine Nat.le_trans (dueW_len ws word f _ _) ?_
      have := putP_len (D := D) (k := if cutS word (n + 1) ∈ ws then lowS (cutS word (n + 1)) else cutS word (n + 1)) (v := bestP ws (cutS word (n + 1)))
      unfold dueStep
      omega
theorem dueP_len' (ws : List Str) : ∀ (l : List Str) (D : List (Str × Str)), (l.foldl (fun D word => dueW ws word 8 (word.length - 1) D) D).length ≤ D.length + 8 * l.length
  | [], D => Nat.le_refl _
  | x :: l, D => by
    rw [List.foldl_cons]
    refine Nat.le_trans (dueP_len' ws l _) ?_
    have := dueW_len ws x 8 (x.length - 1) D
    rw [List.length_cons]
    omega
theorem name_clean {sh : Nat} {p : List Nat} (hp : Bits p) : Clean (nameP sh p) := by
  refine ⟨?_, fun c hc => ?_⟩
  · have := name_len sh p
    have h7 := hp.2.1
    unfold Str.length at this
    omega
  · unfold nameP wordF at hc
    simp only [List.mem_toArray, List.mem_cons, List.mem_map] at hc
    rcases hc with rfl | ⟨f, hf, rfl⟩
    · decide
    · have := figs_lt f hf; omega
theorem best_clean {sh : Nat} {rs : List (List Nat)} {p : List Nat} (h5 : rs.length = 5) (hrb : ∀ r ∈ rs, Bits r) (hp : Bits p) : Clean (bestP (rs.map (nameP sh)) (nameP sh p)) := by
  rcases bestP_top (sh := sh) h5 hrb hp with ⟨_, h⟩ | ⟨k, hk, h⟩
  · rw [h]
    exact ⟨by decide, fun c hc => by simp at hc⟩
  · rw [h]
    refine ⟨by simp [letterP], fun c hc => ?_⟩
    simp only [letterP, List.mem_toArray, List.mem_cons, List.not_mem_nil, or_false] at hc
    have := hk.1
    omega
/-- what the plain law says -/
structure Plain (sh : Nat) (rs : List (List Nat)) (kvs : List (Str × Str)) : Prop where
  tab : tableP (rs.map fun r => (wholeF 1 (figsOf sh r), r.length)) = some kvs
  clean : CleanT kvs
  short : kvs.length < 64
  found : ∀ row : List Nat, row.length = 7 → (∀ b ∈ row, b < 2) → foundP kvs (wholeF 1 (figsOf sh row)) 7 = some (bestP (rs.map fun r => wordF (figsOf sh r)) (wordF (figsOf sh row)))
  nodup : ((dueP (rs.map fun r => wordF (figsOf sh r))).map (·.1)).Nodup
  perm : kvs.Perm (dueP (rs.map fun r => wordF (figsOf sh r)))
theorem plain1 (sh : Nat) (rs : List (List Nat)) (_h16 : sh < 16) (h5 : rs.length = 5) (hrb : ∀ r ∈ rs, 1 ≤ r.length ∧ r.length ≤ 7 ∧ ∀ b ∈ r, b < 2) : ∃ kvs, Plain sh rs kvs := by
  have hrb : ∀ r ∈ rs, Bits r := hrb
  have hgb : ∀ k, k < 5 → Bits (rs.getD k []) ∧ rs.getD k [] ∈ rs := fun k hk => by
    have hkl : k < rs.length := by omega
    have hg : rs.getD k [] = rs[k] := by simp [List.getD, hkl]
    rw [hg]
    exact ⟨hrb _ (List.getElem_mem hkl), List.getElem_mem hkl⟩
  obtain ⟨hpw, hom⟩ := ordP_spec (fun k => (rs.getD k []).length) 5
  obtain ⟨ps1, e1, hnd1, hm1⟩ := rows_ok (sh := sh) hrb (ordP (fun k => (rs.getD k []).length) 5) [] [] (fun k hk => by have := (hom k).mp hk; omega) (hpw.imp fun h => by simp only [LexLt] at h; omega) (by simp) (by simp) (fun p => by simp [InD]) .nil
  rw [List.nil_append] at e1 hm1
  have hinr : ∀ p, p ∈ ps1 ↔ InR rs p := by
    intro p
    rw [hm1]
    constructor
    · rintro ⟨d, hd, n, hn, hle, rfl⟩
      obtain ⟨k, hk, rfl⟩ := List.mem_map.mp hd
      exact ⟨_, (hgb k ((hom k).mp hk)).2, n, hn, hle, rfl⟩
    · rintro ⟨r, hr, n, hn, hle, rfl⟩
      obtain ⟨k, hk, e⟩ := List.getElem_of_mem hr
      have hg : rs.getD k [] = rs[k] := by simp [List.getD, hk]
      refine ⟨(k, rs.getD k []), List.mem_map.mpr ⟨k, (hom k).mpr (by omega), rfl⟩, n, ?_, ?_, ?_⟩
      · dsimp only; rw [hg, e]; exact hn
      · dsimp only; rw [hg, e]; exact hle
      · dsimp only; rw [hg, e]
  have hb1 : ∀ p ∈ ps1, Bits p := fun p hp => by
    obtain ⟨r, hr, n, hn, hle, rfl⟩ := (hinr p).mp hp
    have hrr := hrb r hr
    exact hrr.take (passed_rng hrr.1 hrr.2.1 hn).1
  have hent : ∀ p ∈ ps1, entP sh ((ordP (fun k => (rs.getD k []).length) 5).map fun k => (k, rs.getD k [])) p = entF sh rs p := by
    intro p hp
    unfold entP entF
    rw [best_eq h5 hrb (hb1 p hp)]
    have : p ∈ ((ordP (fun k => (rs.getD k []).length) 5).map fun k => (k, rs.getD k [])).map (·.2) ↔ p ∈ rs := by
      rw [List.map_map]
      constructor
      · intro h
        obtain ⟨k, hk, rfl⟩ := List.mem_map.mp h
        exact (hgb k ((hom k).mp hk)).2
      · intro h
        obtain ⟨k, hk, e⟩ := List.getElem_of_mem h
        have hg : rs.getD k [] = rs[k] := by simp [List.getD, hk]
        exact List.mem_map.mpr ⟨k, (hom k).mpr (by omega), by simp only [Function.comp]; rw [hg, e]⟩
    rw [ite_iff this]
  obtain ⟨ps2, e2, hnd2, hb2, hm2⟩ := dueRows_ok (sh := sh) hrb rs [] hrb (by simp) .nil
  have hdue : dueP (rs.map (nameP sh)) = ps2.map (entF sh rs) := e2
  have hperm : (ps1.map (entF sh rs)).Perm (dueP (rs.map (nameP sh))) := by
    rw [hdue]
    refine ((List.perm_ext_iff_of_nodup hnd1 hnd2).mpr fun q => ?_).map _
    rw [hinr, hm2]
    simp
  have hlen : (ps1.map (entF sh rs)).length ≤ 40 := by
    rw [hperm.length_eq]
    have := dueP_len' (rs.map (nameP sh)) (rs.map (nameP sh)) []
    rw [List.length_map, h5] at this
    exact this
  refine ⟨ps1.map (entF sh rs), ?_, ?_, ?_, ?_, ?_, hperm⟩
  · unfold tableP
    rw [List.length_map, h5]
    have : (fun k => ((rs.map fun r => (wholeF 1 (figsOf sh r), r.length)).getD k (0, 0)).2) = fun k => (rs.getD k []).length := by
      funext k
      rcases Nat.lt_or_ge k rs.length with h | h
      · simp [List.getD, h]
      · simp [List.getD, h]
    rw [this]
    refine e1.trans ?_
    exact congrArg some (List.map_congr_left hent)
  · refine ⟨by omega, fun kv hkv => ?_⟩
    obtain ⟨p, hp, rfl⟩ := List.mem_map.mp hkv
    have hb := hb1 p hp
    have h2 := best_clean (sh := sh) h5 hrb hb
    unfold entF
    dsimp only
    refine ⟨?_, h2⟩
    split
    · exact (name_clean hb).low
    · exact name_clean hb
  · omega
  · intro row h7 hb
    have hrow : Bits row := ⟨by omega, by omega, hb⟩
    have := found_ok (sh := sh) (done := (ordP (fun k => (rs.getD k []).length) 5).map fun k => (k, rs.getD k [])) (ps := ps1) hrow hb1 (fun d hd => by
      obtain ⟨k, hk, rfl⟩ := List.mem_map.mp hd
      exact (hgb k ((hom k).mp hk)).1) (fun d hd n hn hle => (hm1 _).mpr ⟨d, hd, n, hn, hle, rfl⟩)
    rw [List.map_congr_left hent, best_eq h5 hrb hrow] at this
    have e7 : foundP (ps1.map (entF sh rs)) (numP sh row) 7 = some (bestP (rs.map (nameP sh)) (nameP sh row)) := by rw [← h7]; exact this
    unfold numP nameP at e7
    exact e7
  · show ((dueP (rs.map (nameP sh))).map (·.1)).Nodup
    rw [hdue, List.map_map]
    unfold List.Nodup at hnd2 ⊢
    rw [List.pairwise_map]
    exact hnd2.imp_of_mem fun ha hb hne e => hne (entF_inj (hb2 _ ha) (hb2 _ hb) e)
end
section
open PySem PySem.W PySem.Calls PyProof.Rows Mine
set_option maxRecDepth 100000
set_option maxHeartbeats 8000000
theorem reset17 : True := by
  w_top off
  trivial
local macro_rules | `(tactic| walk_at "subscriptTail Name BinOp ref int") => `(tactic| refine Hold.out ?_)
local macro_rules | `(tactic| walk_at "binaryOp Add ref ref") => `(tactic| refine Hold.out ?_)
local macro_rules | `(tactic| walk_at "pyIter ref") => `(tactic| refine Hold.out ?_)
local macro_rules | `(tactic| walk_at "exec For Name Call cons nil") => `(tactic| (k_here; (with_reducible rename Fr _ _ _ _ => lF'); with_unfolding_all refine For_myF lF' ?_))
local macro_rules | `(tactic| walk_at "call ref") => `(tactic| refine Hold.out ?_)
local macro_rules | `(tactic| walk_at "subscriptTail Name Name ref int") => `(tactic| refine Hold.out ?_)
local macro_rules | `(tactic| walk_at "storeName") => `(tactic| (k_here; (with_reducible show wpAny _ _ (storeName _ (Str.ofString "ways") _) _ _ _); refine Hold.out ?_))
local macro_rules | `(tactic| walk_at "storeName") => `(tactic| (k_here; (with_reducible show wpAny _ _ (storeName _ (Str.ofString "shift") _) _ _ _); refine Hold.out ?_))
local macro_rules | `(tactic| walk_at "storeName") => `(tactic| (k_here; (with_reducible show wpAny _ _ (storeName _ (Str.ofString "rows") _) _ _ _); refine Hold.out ?_))
local macro_rules | `(tactic| walk_at "exec Assign cons ListComp") => `(tactic| (k_here; k_dflt (refine LCg.Assign_ListComp_U (F₀ := by k_asm) (by rfl) (by with_unfolding_all rfl) (by with_unfolding_all rfl) (by decide) (by rfl) (by decide) (by rfl) (by rfl) (by rfl) ?_)))
local macro_rules | `(tactic| walk_at "eval ListComp") => `(tactic| (k_here; k_dflt (refine LCg.ListComp_U (F₀ := by k_asm) (by with_unfolding_all rfl) (by decide) (by rfl) (by decide) (by rfl) ?_)))
local macro_rules | `(tactic| walk_at "CompSrc") => `(tactic| refine Hold.out ?_)
local macro_rules | `(tactic| walk_at "call builtin:sum") => `(tactic| refine Hold.out ?_)
local macro_rules | `(tactic| walk_at "call builtin:sorted") => `(tactic| refine Hold.out ?_)
local macro_rules | `(tactic| walk_at "compareOp Eq ref ref") => `(tactic| refine Hold.out ?_)
local macro_rules | `(tactic| walk_at "subscriptTail List Name ref int") => `(tactic| refine Hold.out ?_)
/-- a list's items are lists of figures -/
inductive RowsIn (news : List (Addr × Obj)) : List Value → List (List Nat) → Prop where
  | nil : RowsIn news [] []
  | cons {q : Addr} {vs ws : List Value} {n : Nat} {r : List Nat} {rs : List (List Nat)} : (q, listOf ws.toArray n) ∈ news → IntsAre ws (r.map fun b => ((b : Nat) : Int)) → RowsIn news vs rs → RowsIn news (.ref q :: vs) (r :: rs)
theorem RowsIn.mono {news news' : List (Addr × Obj)} {vs : List Value} {rs : List (List Nat)} (h : RowsIn news vs rs) (hs : ∀ q ws n, (q, listOf (List.toArray ws) n) ∈ news → (q, listOf ws.toArray n) ∈ news') : RowsIn news' vs rs := by
  induction h with
  | nil => exact .nil
  | cons hm hi _ ih => exact .cons (hs _ _ _ hm) hi ih
theorem RowsIn.snoc {news : List (Addr × Obj)} {vs ws : List Value} {rs : List (List Nat)} {q : Addr} {n : Nat} {r : List Nat} (h : RowsIn news vs rs) (hq : (q, listOf ws.toArray n) ∈ news) (hi : IntsAre ws (r.map fun b => ((b : Nat) : Int))) : RowsIn news (vs ++ [.ref q]) (rs ++ [r]) := by
  induction h with
  | nil => exact .cons hq hi .nil
  | cons hm hj _ ih => exact .cons hm hj ih
theorem RowsIn.length {news : List (Addr × Obj)} {vs : List Value} {rs : List (List Nat)} (h : RowsIn news vs rs) : vs.length = rs.length := by
  induction h with
  | nil => rfl
  | cons _ _ _ ih => simp [ih]
theorem RowsIn.at {news : List (Addr × Obj)} {vs : List Value} {rs : List (List Nat)} (h : RowsIn news vs rs) : ∀ {i : Nat} {r : List Nat}, rs[i]? = some r → ∃ q ws n, vs[i]? = some (.ref q) ∧ (q, listOf (List.toArray ws) n) ∈ news ∧ IntsAre ws (r.map fun b => ((b : Nat) : Int)) := by
  induction h with
  | nil => intro i r h; simp at h
  | cons hm hi _ ih =>
    intro i r hr
    cases i with
    | zero => simp at hr; subst hr; exact ⟨_, _, _, rfl, hm, hi⟩
    | succ i => exact ih (by simpa using hr)
theorem ghName {s : Shared} {tabs : List (Addr × Addr)} {L : Addr} {h : Heap} {nx : List (Addr × Obj)} (_N : News (ghostOf s.heap tabs) L h nx) : ∃ S, S = s := ⟨s, rfl⟩
theorem RowsIn.off {h₀ h : Heap} {L : Addr} {nx : List (Addr × Obj)} {S : List Addr} {vs : List Value} {rs : List (List Nat)} (hr : RowsIn nx vs rs) (N : News h₀ L h nx) (hS : ∀ a ∈ S, ∃ o, (a, o) ∈ nx ∧ ∀ xs n, listOf xs n ≠ o) : RowsIn (off S nx) vs rs :=
  hr.mono fun q ws n hq => off_mem hq fun a ha => let ⟨_, ho, hne⟩ := hS a ha; news_ne N hq ho (hne _ _)
theorem cell_ne {o : Obj} {v : Option Value} (h : o.data = .cell v) : ∀ xs n, listOf xs n ≠ o := fun xs n e => by rw [← e] at h; cases h
theorem tab_ne {ps : Array Value} : ∀ xs n, listOf xs n ≠ tabObj ps := fun xs n e => by cases e
theorem intsName {vs : List Value} {ns : List Int} (_h : IntsAre vs ns) : ∃ N, N = ns := ⟨_, rfl⟩
/-- the ways, whole and word -/
inductive WayIn (news : List (Addr × Obj)) : List Value → List (Nat × Str) → Prop where
  | nil : WayIn news [] []
  | cons {q : Addr} {vs : List Value} {a : Nat} {x : Str} {t u : Tok} {ps : List (Nat × Str)} : (q, tupOf [.int (a : Nat) t, .str x u]) ∈ news → WayIn news vs ps → WayIn news (.ref q :: vs) ((a, x) :: ps)
theorem WayIn.mono {news news' : List (Addr × Obj)} {vs : List Value} {ps : List (Nat × Str)} (h : WayIn news vs ps) (hs : ∀ q vs, (q, tupOf vs) ∈ news → (q, tupOf vs) ∈ news') : WayIn news' vs ps := by
  induction h with
  | nil => exact .nil
  | cons hm _ ih => exact .cons (hs _ _ hm) ih
theorem WayIn.snoc {news : List (Addr × Obj)} {vs : List Value} {ps : List (Nat × Str)} {q : Addr} {a : Nat} {x : Str} {t u : Tok} (h : WayIn news vs ps) (hq : (q, tupOf [.int (a : Nat) t, .str x u]) ∈ news) : WayIn news (vs ++ [.ref q]) (ps ++ [(a, x)]) := by
  induction h with
  | nil => exact .cons hq .nil
  | cons hm _ ih => exact .cons hm ih
theorem WayIn.length {news : List (Addr × Obj)} {vs : List Value} {ps : List (Nat × Str)} (h : WayIn news vs ps) : vs.length = ps.length := by
  induction h with
  | nil => rfl
  | cons _ _ ih => simp [ih]
theorem WayIn.at {news : List (Addr × Obj)} {vs : List Value} {ps : List (Nat × Str)} (h : WayIn news vs ps) : ∀ {i : Nat} {a : Nat} {x : Str}, ps[i]? = some (a, x) → ∃ q t u, vs[i]? = some (.ref q) ∧ (q, tupOf [.int (a : Nat) t, .str x u]) ∈ news := by
  induction h with
  | nil => intro i a x h; simp at h
  | cons hm _ ih =>
    intro i a x hr
    cases i with
    | zero => simp at hr; obtain ⟨rfl, rfl⟩ := hr; exact ⟨_, _, _, rfl, hm⟩
    | succ i => exact ih (by simpa using hr)
def wayP (sh : Nat) (r : List Nat) : Nat × Str := (wholeF 1 (figsOf sh r), wordF (figsOf sh r))
theorem off1_mem {D : Addr} : ∀ {l : List (Addr × Obj)}, LCg.Off1 D l → ∀ p ∈ l, p.1 ≠ D
  | [], _, _, h => nomatch h
  | _ :: _, x, p, h => by
    rcases List.mem_cons.mp h with rfl | h
    · exact x.1
    · exact off1_mem x.2 p h
theorem WayIn.off {h₀ h : Heap} {L : Addr} {nx : List (Addr × Obj)} {S : List Addr} {vs : List Value} {ps : List (Nat × Str)} (hr : WayIn nx vs ps) (N : News h₀ L h nx) (hS : ∀ a ∈ S, ∃ o, (a, o) ∈ nx ∧ ∀ xs, tupOf xs ≠ o) : WayIn (off S nx) vs ps :=
  hr.mono fun q ws hq => off_mem hq fun a ha => let ⟨_, ho, hne⟩ := hS a ha; news_ne N hq ho (hne _)
theorem cell_ne2 {o : Obj} {v : Option Value} (h : o.data = .cell v) : ∀ xs, tupOf xs ≠ o := fun xs e => by rw [← e] at h; cases h
theorem tab_ne2 {ps : Array Value} : ∀ xs, tupOf xs ≠ tabObj ps := fun xs e => by cases e
theorem TextsIn.snoc {vs : List Value} {ks : List Str} {x : Str} {t : Tok} (h : TextsIn vs ks) : TextsIn (vs ++ [.str x t]) (ks ++ [x]) := by
  induction h with
  | nil => exact .cons .nil
  | cons _ ih => exact .cons ih
theorem islName {h : Heap} {a : Addr} {vs : List Value} (_L : h.IsList a vs.toArray) : ∃ A V, A = a ∧ V = vs := ⟨_, _, rfl, rfl⟩
theorem frName {h₀ h : Heap} {L : Addr} {m : Str → Option Value} (_F : Fr h₀ L h m) : ∃ G A M, G = h₀ ∧ A = L ∧ M = m := ⟨_, _, _, rfl, rfl, rfl⟩
theorem mod2 (x : Int) : ∃ d : Nat, x.fmod 2 = ((d : Nat) : Int) ∧ d < 2 := by
  have h1 := Int.emod_nonneg x (show (2 : Int) ≠ 0 by decide)
  have h2 := Int.emod_lt_of_pos x (show (0 : Int) < 2 by decide)
  refine ⟨(x % 2).toNat, ?_, by omega⟩
  rw [Int.fmod_eq_emod_of_nonneg _ (by decide)]
  omega
theorem mod16 (x : Int) : ∃ d : Nat, x.fmod 16 = ((d : Nat) : Int) ∧ d < 16 := by
  have h1 := Int.emod_nonneg x (show (16 : Int) ≠ 0 by decide)
  have h2 := Int.emod_lt_of_pos x (show (0 : Int) < 16 by decide)
  refine ⟨(x % 16).toNat, ?_, by omega⟩
  rw [Int.fmod_eq_emod_of_nonneg _ (by decide)]
  omega
theorem one_mod (d : Nat) : 1 + ((d : Nat) : Int).fmod 7 = ((1 + d % 7 : Nat) : Int) := by
  rw [Int.fmod_eq_emod_of_nonneg _ (by decide)]; omega
theorem mod896 (x : Int) : ∃ d : Nat, x.fmod 896 = ((d : Nat) : Int) ∧ d < 896 := by
  have h1 := Int.emod_nonneg x (show (896 : Int) ≠ 0 by decide)
  have h2 := Int.emod_lt_of_pos x (show (0 : Int) < 896 by decide)
  refine ⟨(x % 896).toNat, ?_, by omega⟩
  rw [Int.fmod_eq_emod_of_nonneg _ (by decide)]
  omega
theorem tabName {w : World} {nx : List (Addr × Obj)} {x l : Addr} {kvs : List (Str × Str)} (_h : HasTab w nx x l kvs) : ∃ W, W = w := ⟨_, rfl⟩
theorem off_tabs {h₀ h : Heap} {L : Addr} {nx B R : List (Addr × Obj)} {a1 a2 a3 b4 b3 b2 b1 T : Addr} {l1 l2 l3 : List Value} {v4 v3 v2 v1 : Obj} {o4 o3 o2 o1 : Option Value} (N : News h₀ L h nx) (hB : B = (a1, LCg.lst l1) :: (a2, LCg.lst l2) :: (a3, LCg.lst l3) :: (b4, v4) :: (b3, v3) :: (b2, v2) :: (b1, v1) :: R) (hXs : ∀ p ∈ B, p ∈ nx)
    (d4 : v4.data = .cell o4) (d3 : v3.data = .cell o3) (d2 : v2.data = .cell o2) (d1 : v1.data = .cell o1) (hT : (T, tabObj #[]) ∈ nx) (hR : ∀ p ∈ R, p.1 ≠ T) : ∀ p ∈ B, p.1 ≠ T := by
  intro p hp
  have hpn := hXs p hp
  rw [hB] at hp
  simp only [List.mem_cons] at hp
  have lt : ∀ ys, LCg.lst ys ≠ tabObj #[] := fun ys => tab_ne _ _
  have ct : ∀ {o : Obj} {v}, o.data = .cell v → o ≠ tabObj #[] := fun h e => by rw [e] at h; cases h
  rcases hp with h | h | h | h | h | h | h | h
  · exact news_ne N hpn hT (by rw [h]; exact lt _)
  · exact news_ne N hpn hT (by rw [h]; exact lt _)
  · exact news_ne N hpn hT (by rw [h]; exact lt _)
  · exact news_ne N hpn hT (by rw [h]; exact ct d4)
  · exact news_ne N hpn hT (by rw [h]; exact ct d3)
  · exact news_ne N hpn hT (by rw [h]; exact ct d2)
  · exact news_ne N hpn hT (by rw [h]; exact ct d1)
  · exact hR p h
theorem item_last {prog : Program} {w : World} {A : Around} {E : Value → Shared → Prop} {s : Shared} {h₀ : Heap} {L l : Addr} {news : List (Addr × Obj)} {vs : List Value} {n : Nat} {value slice : Expr} {u : Tok} {v : Value} {Q : Value → Shared → Prop} (N : News h₀ L s.heap news) (hm : (l, listOf vs.toArray n) ∈ news) (h0 : 0 < vs.length) (hx : vs[vs.length - 1]? = some v) (h : Q v s)
    (hs : subscripted slice false (.ref l) (.int (-1) u) = operate [.ref l, .int (-1) u] (getItem (.ref l) (.int (-1) u)) := by with_unfolding_all rfl) :
    wpAny (model prog w) A (subscriptTail value slice (.ref l) (.int (-1) u)) Q E s :=
  tail_any (Heap.IsList.typeIs ⟨_, (N _ hm).1, rfl, _, rfl⟩) slot_list_getitem.lookup (wpAny_getItem_list_neg ⟨_, (N _ hm).1, rfl, _, rfl⟩ (by decide) (by rw [List.size_toArray]; omega) (by decide) (by rw [List.size_toArray, show ((-1 : Int) + (vs.length : Int)).toNat = vs.length - 1 from by omega]; simpa using hx) h) hs
theorem add_nats {prog : Program} {w : World} {A : Around} {E : Value → Shared → Prop} {s : Shared} {h₀ : Heap} {L a b : Addr} {m : Str → Option Value} {news : List (Addr × Obj)} {vs ws : List Value} {n k : Nat} {xs ys : List Nat} {Q : Value → Shared → Prop} (F : Fr h₀ L s.heap m) (N : News h₀ L s.heap news) (ha : (a, listOf vs.toArray n) ∈ news) (hb : (b, listOf ws.toArray k) ∈ news) (hi : IntsAre vs (xs.map fun b => ((b : Nat) : Int))) (hj : IntsAre ws (ys.map fun b => ((b : Nat) : Int))) (hz : xs.length + ys.length ≤ 1000)
    (h : ∀ D us h', Fr h₀ L h' m → News h₀ L h' ((D, listOf (List.toArray us) 0) :: news) → (∀ p ∈ news, p.1 < D) → IntsAre us ((xs ++ ys).map fun b => ((b : Nat) : Int)) → Q (.ref D) { s with heap := h' }) : wpAny (model prog w) A (binaryOp .Add (.ref a) (.ref b)) Q E s :=
  kmk_add_ints F N (News.isList N ha) (News.isList N hb) hi hj (fun D us h' F' N' l hI => h D us h' F' N' l (by rw [List.map_append]; exact hI)) (by rw [List.length_map, List.length_map, sizeLine_eq]; omega)
theorem intsDropLast {vs : List Value} {xs : List Nat} (h : IntsAre vs (xs.map fun b => ((b : Nat) : Int))) : IntsAre vs.dropLast (xs.dropLast.map fun b => ((b : Nat) : Int)) := by
  have e : vs.length = xs.length := by rw [h.length, List.length_map]
  rw [List.dropLast_eq_take, List.dropLast_eq_take, List.map_take, e]
  exact h.take _
theorem nat_mod2 (a b : Nat) : (((a : Nat) : Int) + ((b : Nat) : Int)).fmod 2 = (((a + b) % 2 : Nat) : Int) := by rw [Int.fmod_eq_emod_of_nonneg _ (by decide)]; first | rfl | omega
theorem nat_mod5 (a : Nat) : (((a : Nat) : Int) + 1).fmod 5 = (((a + 1) % 5 : Nat) : Int) := by rw [Int.fmod_eq_emod_of_nonneg _ (by decide)]; first | rfl | omega
theorem intsOne {x : Int} {n : Nat} {t : Tok} (h : x = ((n : Nat) : Int)) : IntsAre [.int x t] ([n].map fun b => ((b : Nat) : Int)) := by subst h; exact .cons _ _ .nil
theorem intsTail {a b c d e : Tok} : IntsAre [.int 0 a, .int 1 b, .int 0 c, .int 1 d, .int 0 e] ([0, 1, 0, 1, 0].map fun b : Nat => ((b : Nat) : Int)) := .cons _ _ (.cons _ _ (.cons _ _ (.cons _ _ (.cons _ _ .nil))))
theorem HasTab.listMem {w : World} {nx : List (Addr × Obj)} {x l : Addr} {kvs : List (Str × Str)} (h : HasTab w nx x l kvs) : ∃ o, (l, o) ∈ nx :=
  let ⟨_, _, hT⟩ := h
  ⟨_, hT.list⟩
theorem wordF_len (fs : List Nat) : (wordF fs).length = fs.length + 1 := by simp [wordF, Str.length]
theorem figsOf_len (sh : Nat) (bits : List Nat) : (figsOf sh bits).length = bits.length := by simp [figsOf]
def OddI (o : Obj) : Prop := ∃ a b c, o.data = .fields #[rawInt a, rawInt b, rawInt c]
theorem OddI.ne {o o' : Obj} (h : OddI o) (h2 : ∀ vs, o'.data ≠ .fields vs) : o' ≠ o := by
  rintro rfl
  obtain ⟨a, b, c, e⟩ := h
  exact h2 _ e
theorem HasTab.offI {w : World} {h₀ h : Heap} {L I : Addr} {io : Obj} {nx : List (Addr × Obj)} {x l : Addr} {kvs : List (Str × Str)} (hT : HasTab w nx x l kvs) (N : News h₀ L h nx) (hI : (I, io) ∈ nx) (hio : OddI io) : HasTab w (Mine.off [I] nx) x l kvs := by
  obtain ⟨ls, ln, hT⟩ := hT
  obtain ⟨dx, tk, dn, h1, h2⟩ := hT.inst
  refine ⟨ls, ln, ⟨dx, tk, dn, off_mem h1 ?_, off_mem h2 ?_⟩, off_mem hT.list ?_, hT.pairs.off fun q k v t u hq => ?_⟩
  · exact List.forall_mem_singleton.mpr (news_ne N h1 hI (hio.ne (by intro v e; cases e)))
  · exact List.forall_mem_singleton.mpr (news_ne N h2 hI (hio.ne (by intro v e; cases e)))
  · exact List.forall_mem_singleton.mpr (news_ne N hT.list hI (hio.ne (by intro v e; cases e)))
  · exact List.forall_mem_singleton.mpr (news_ne N hq hI (hio.ne (by intro v e; cases e)))
theorem HasF.offI {h₀ h : Heap} {L I : Addr} {io : Obj} {nx : List (Addr × Obj)} (hF : HasF nx) (N : News h₀ L h nx) (hI : (I, io) ∈ nx) (hio : OddI io) (hn : @Ne Nat I 216) : HasF (Mine.off [I] nx) := by
  obtain ⟨ps, hp, hF⟩ := hF
  refine ⟨ps, off_mem hp (List.forall_mem_singleton.mpr fun e => hn e.symm), ?_⟩
  rcases hF with rfl | ⟨c', oc, vs, t, h1, h2, h3, h4⟩
  · exact .inl rfl
  · refine .inr ⟨c', oc, vs, t, h1, off_mem h2 (List.forall_mem_singleton.mpr (news_ne N h2 hI ?_)), h3, h4⟩
    rintro rfl
    obtain ⟨a, b, c, e⟩ := hio
    rw [h3] at e
    cases e
    simp [rawInt] at h4
theorem Iter_range_my2 {prog : Program} {w : World} {A : Around} {E : Value → Shared → Prop} {s : Shared} {env : Env} {h₀ : Heap} {target : Expr} {body : List Stmt} {Q : Flow → Shared → Prop} {m : Str → Option Value} {news : List (Addr × Obj)} {r : Addr} {a b c : Int} {t u v : Tok} {n : Nat} (J : Nat → (Str → Option Value) → List (Addr × Obj) → Prop)
    (hh : A.handled = none) (hr : IsRange s.heap r a b c t u v) (hsmall : Builtin.Range.small a b c = true) (hn : Builtin.Range.rangeSize a b c = (n : Int)) (F : Fr h₀ env.locals s.heap m) (N : News h₀ env.locals s.heap news) (hJ : J 0 m news)
    (turn : ∀ I i t m₁ nx h tk io, OddI io → i < n → J i m₁ nx → (∀ p ∈ nx, p.1 ≠ I) → Fr h₀ env.locals h m₁ → News h₀ env.locals h ((I, io) :: nx) →
      wpAny (model prog w) A (assign target env (.int (a + i * c) t)) (fun _ s' => wpAny (model prog w) A (execs body env) (ForStep h₀ env.locals { s with heap := h, toks := tk } I J Q i io) E s') E { s with heap := h, toks := tk })
    (done : ∀ m₁ nx h tk, J n m₁ nx → Fr h₀ env.locals h m₁ → News h₀ env.locals h nx → Q .next { s with heap := h, toks := tk }) :
    wpAny (model prog w) A (pyIter (.ref r)) (fun it s₂ => ForAt prog w A h₀ env target body Q E it s₂) E s := by
  refine wpAny_pyIter_range hr hsmall ?_
  have W := Walks.range (prog := prog) (w := w) hh s.heap.objs.size a c n
  refine ⟨_, _, n, _, _, m, news, J, rfl, W, ⟨_, Heap.get?_push_size _ rfl⟩, Nat.ne_of_lt F.ns.lt, next_is_new F, (fun p hp e => absurd (Heap.lt_size (N p hp).1) (e ▸ Nat.lt_irrefl _)), ?_, ?_, F.push _, (fun p hp => ⟨Heap.get?_push_of_some _ (N p hp).1, (N p hp).2⟩), hJ, (fun i h st => ⟨_, st⟩), (fun i s' v Q' st hq => letGo_range st hq), ?_, ?_⟩
  · intro b hb
    exact .inl (List.mem_singleton.mp hb)
  · rw [hn]; simpa [IsRangeIter, rawInt] using Heap.get?_push_size _ rfl
  · rintro i v m₁ nx h tk io hi ⟨t, rfl⟩ hj hnx st F₁ N₁
    have e := (N₁ _ (.head _)).1
    rw [st] at e
    obtain rfl := Option.some.inj e
    exact turn _ i t m₁ nx h tk _ ⟨_, _, _, rfl⟩ hi hj hnx F₁ N₁
  · exact done
theorem sorted_uniq {a b : List (Str × Str)} (h : a.Perm b) (ha : a.Pairwise fun a b => strLt a.1 b.1 = true) (hb : b.Pairwise fun a b => strLt a.1 b.1 = true) : a = b :=
  List.Perm.eq_of_pairwise (le := fun a b => strLt a.1 b.1 = true) (fun x y _ _ h1 h2 => by
    have := strLt_tr h1 h2
    rw [strLt_irr] at this
    cases this) ha hb h
theorem neA {a : Nat} (i j : Nat) (h : i ≠ j) : @Ne Nat (a + i) (a + j) := fun e => h (Nat.add_left_cancel e)
theorem lt63 {i : Nat} (h : i < 1000) : ((i : Nat) : Int) < 2 ^ 63 := by omega
theorem lawt : PySem.Challenge.rw_uc0029_01.Holds := Mine.hd (by
  k_go0
  walk1
  (try k_fold)
  k_steps
  unfold Hold
  rename_i w4 w3 w2 w1 c4 c3 c2 c1 X0 X T K F' cdA N' l0 h tk1 t1 u1 v1 hr F₁ N₁ hk
  (rename IntsAre _ _ => hI)
  obtain ⟨sa, svs, hsa, hsv⟩ := islName lifted
  subst hsa hsv
  obtain ⟨ns0, hns0⟩ := intsName hI
  subst hns0
  have d4 : w4.data = .cell none := c4
  have d3 : w3.data = .cell none := c3
  have d2 : w2.data = .cell none := c2
  have d1 : w1.data = .cell (some (.ref sa)) := c1
  clear c4 c3 c2 c1 X0 F' N'
  obtain ⟨S1, hS1⟩ := ghName N₁
  subst hS1
  obtain ⟨X₁, hX⟩ := newsName N₁
  refine LCg.CompSrc.range (n := 5) rfl F₁ N₁ hr (by decide) (by decide) (by rw [sizeLine_eq]; omega) ?_
  intro g'
  refine compU_inv (n := 5) (fun i ys nx => nx = X₁ ∧ ∃ ds : List Nat, IntsAre ys (ds.map fun d => ((d : Nat) : Int)) ∧ ds.length = i ∧ ∀ d ∈ ds, d < 896) ?_ ?_ _ _ _ _ (Nat.zero_add _) ⟨hX, [], .nil, rfl, by simp⟩
  · rintro i v ys nx I oI C oC D m₂ h2 tk2 E' hi ⟨ti, rfl⟩ ⟨rfl, ds, hys, hdl, hds⟩ hC hx F' N' off ne
    (try dsimp only)
    refine cgen fun Qd hQd => ?_
    rw [Int.zero_add] at hx
    subst hX
    clear F₁ N₁
    k_steps
    unfold Hold
    (rename Fr _ _ _ _ => F5); (rename News _ _ _ _ => N5)
    refine LSm.sum_ints (vs := (slicePick svs.toArray (some (i : Int)) none (some 5)).toList) F5 N5 rfl (by rw [Array.toArray_toList]; exact ⟨_, (N5 _ (.head _)).1, rfl, _, rfl⟩) (hI.pick (some (i : Int)) none (some 5)) ?_
    intro h6 tk6 t6 F6 N6
    generalize (pickNums _ (some (i : Int)) none (some 5)).sum = sm
    clear F5 N5
    k_steps
    obtain ⟨d, hd, hd9⟩ := mod896 ([44, 94, 158, 320, 720].getD (i : Int).toNat 0 + sm)
    rw [hd]
    refine hQd _ _ ?_
    exact LCg.CompEnd.intro (by k_asm) N6 _ (fun p hp => .tail _ (.tail _ hp)) off trivial ⟨rfl, ds ++ [d], by rw [List.map_append]; exact intsSnoc hys, by simp [hdl], fun x hx => by
      rcases List.mem_append.mp hx with h | h
      · exact hds x h
      · obtain rfl := List.mem_singleton.mp h
        exact hd9⟩
  · rintro ys nx ⟨rfl, ds, hys, hdl, hds⟩
    subst hX
    clear F₁ N₁
    k_steps
    (rename Fr _ _ _ _ => F₂); (rename News _ _ _ _ => N₂)
    obtain ⟨D₁, hD₁⟩ := newsHead N₂
    subst hD₁
    obtain ⟨X₂, hX₂⟩ := newsName N₂
    refine ListComp_cell (cl := []) F₂ (fun i ys nx => (∀ p ∈ X₂, p ∈ nx) ∧ ∃ rs : List (List Nat), RowsIn nx ys rs ∧ rs.length = i ∧ ∀ r ∈ rs, 1 ≤ r.length ∧ r.length ≤ 7 ∧ ∀ b ∈ r, b < 2) rfl rfl (by decide) (fun n => rfl) (fun h => rfl) rfl ?_
    k_steps
    refine ⟨?_⟩
    have hdz : ys.length = 5 := by rw [hys.length]; simp [hdl]
    refine ⟨D₁, ys, ys.length, X₂, rfl, rfl, F₂, hX₂ ▸ N₂, fun i zs nx hj => hj.1 _ (by rw [← hX₂]; exact .head _), by rw [sizeLine_eq]; omega, ⟨fun p hp => hp, [], .nil, rfl, by simp⟩, ?_, ?_⟩
    · intro i v zs nx I oI C oC K oK D h3 tk3 E' hv ⟨hXs, rs, hrs, hrl, hrb⟩ hKd F' N' off ne
      refine cgen fun Qe hQe => ?_
      obtain ⟨d, hd⟩ : ∃ d, ds[i]? = some d := ⟨_, List.getElem?_eq_getElem (by rw [hdl, ← hdz]; exact (List.getElem?_eq_some_iff.mp hv).1)⟩
      obtain ⟨td, rfl⟩ := hys.at_nat hd hv
      have hd9 := hds d (List.mem_of_getElem? hd)
      clear F₂ N₂
      k_steps
      unfold Hold
      (rename Fr _ _ _ _ => F₃); (rename News _ _ _ _ => N₃); (rename IsRange _ _ _ _ _ _ _ _ => hr3)
      obtain ⟨X₃, hX₃⟩ := newsName N₃
      rw [one_mod] at hr3
      refine LCg.CompSrc.range (n := 1 + d % 7) rfl F₃ N₃ hr3 (small_nat _ (by omega)) (size_nat _) (by rw [sizeLine_eq]; omega) ?_
      intro g3
      refine compU_inv (n := 1 + d % 7) (fun j bs nx2 => nx2 = X₃ ∧ ∃ r : List Nat, IntsAre bs (r.map fun b => ((b : Nat) : Int)) ∧ r.length = j ∧ ∀ b ∈ r, b < 2) ?_ ?_ _ _ _ _ (Nat.zero_add _) ⟨hX₃, [], .nil, rfl, by simp⟩
      · rintro j v bs nx2 I5 oI5 C5 oC5 D5 m5 h5 tk5 E5 hj ⟨t5, rfl⟩ ⟨rfl, r, hr, hrl2, hrb2⟩ hC5 hx5 F' N' off5 ne5
        (try dsimp only)
        refine cgen fun Qf hQf => ?_
        rw [Int.zero_add] at hx5
        subst hX₃
        clear F₃ N₃
        have hj7 : j < 7 := by omega
        k_steps
        obtain ⟨b, hb, hb2⟩ := mod2 (((d : Int).fdiv 7).fdiv (2 ^ ((j : Int)).toNat))
        rw [hb]
        (rename News _ _ _ _ => N9)
        refine hQf _ _ ?_
        exact LCg.CompEnd.intro (by k_asm) N9 _ (fun p hp => hp) off5 trivial ⟨rfl, r ++ [b], by rw [List.map_append]; exact intsSnoc hr, by simp [hrl2], fun x hx => by
          rcases List.mem_append.mp hx with h | h
          · exact hrb2 x h
          · obtain rfl := List.mem_singleton.mp h
            exact hb2⟩
      · rintro bs nx2 ⟨rfl, r, hr, hrl2, hrb2⟩
        subst hX₃
        clear F₃ N₃
        k_steps
        (rename News _ _ _ _ => N9)
        obtain ⟨D2, hD2⟩ := newsHead N9
        subst hD2
        (rename I ≠ D2 ∧ _ => ho)
        obtain ⟨ho1, ho2, ho3, ho4, ho5⟩ := ho
        refine hQe _ _ ⟨⟨_, _, (D2, LCg.lst bs) :: nx, rfl, by k_asm, fun p hp => N9 p (by revert p; (repeat (refine List.forall_mem_cons.mpr ⟨by k_mem, ?_⟩)); intro p hp; k_mem), ?_, fun p hp => .tail _ (hXs p hp), rs ++ [r], (hrs.mono fun _ _ _ h => .tail _ h).snoc (.head _) hr, by simp [hrl], ?_⟩⟩
        · exact List.forall_mem_cons.mpr ⟨⟨fun e => ho1 e.symm, fun e => ho2 e.symm, fun e => ho3 e.symm, fun e => ho4 e.symm⟩, off⟩
        · intro x hx
          rcases List.mem_append.mp hx with h | h
          · exact hrb x h
          · obtain rfl := List.mem_singleton.mp h
            exact ⟨by omega, by omega, hrb2⟩
    · intro D ys2 nx h3 tk3 ⟨hXs, rs, hrs, hrl, hrb⟩ F' N' hDn
      rw [hdz] at hrl
      obtain ⟨lz1, lz2⟩ := l0
      have e223 : ∀ k, S1.heap.objs.size + k ≠ 223 := fun k => Nat.ne_of_gt (Nat.lt_of_lt_of_le lz1 (Nat.le_add_right _ k))
      have e216 : ∀ k, S1.heap.objs.size + k ≠ 216 := fun k => Nat.ne_of_gt (Nat.lt_of_lt_of_le lz2 (Nat.le_add_right _ k))
      have N'n : News _ _ h3 nx := fun p hp => N' p (.tail _ hp)
      have x4 : (S1.heap.objs.size + 1 + 1 + 1 + 1, w4) ∈ nx := hXs _ (by rw [← hX₂]; exact .tail _ (.head _))
      have x3 : (S1.heap.objs.size + 1 + 1 + 1, w3) ∈ nx := hXs _ (by rw [← hX₂]; exact .tail _ (.tail _ (.head _)))
      have x2 : (S1.heap.objs.size + 1 + 1, w2) ∈ nx := hXs _ (by rw [← hX₂]; exact .tail _ (.tail _ (.tail _ (.head _))))
      have x1 : (S1.heap.objs.size + 1, w1) ∈ nx := hXs _ (by rw [← hX₂]; exact .tail _ (.tail _ (.tail _ (.tail _ (.head _)))))
      have xT : (223, tabObj #[]) ∈ nx := hXs _ (by rw [← hX₂]; exact .tail _ (.tail _ (.tail _ (.tail _ (.tail _ (.head _))))))
      have xF : (216, tabObj #[]) ∈ nx := hXs _ (by rw [← hX₂]; exact .tail _ (.tail _ (.tail _ (.tail _ (.tail _ (.tail _ (.head _)))))))
      obtain ⟨R, hR⟩ : ∃ R, R = off [S1.heap.objs.size + 1 + 1 + 1 + 1, S1.heap.objs.size + 1 + 1 + 1, S1.heap.objs.size + 1 + 1, S1.heap.objs.size + 1, 223, 216] nx := ⟨_, rfl⟩
      have hR4 : ∀ p ∈ R, p.1 ≠ S1.heap.objs.size + 1 + 1 + 1 + 1 := by rw [hR]; exact off_ne (by k_mem)
      have hR3 : ∀ p ∈ R, p.1 ≠ S1.heap.objs.size + 1 + 1 + 1 := by rw [hR]; exact off_ne (by k_mem)
      have hR2 : ∀ p ∈ R, p.1 ≠ S1.heap.objs.size + 1 + 1 := by rw [hR]; exact off_ne (by k_mem)
      have hR1 : ∀ p ∈ R, p.1 ≠ S1.heap.objs.size + 1 := by rw [hR]; exact off_ne (by k_mem)
      have hRT : ∀ p ∈ R, p.1 ≠ 223 := by rw [hR]; exact off_ne (by k_mem)
      have hRF : ∀ p ∈ R, p.1 ≠ 216 := by rw [hR]; exact off_ne (by k_mem)
      have hRD : ∀ p ∈ R, p.1 ≠ D := fun p hp => hDn p (off_sub _ (hR ▸ hp))
      have hrs : RowsIn R ys2 rs := by
        rw [hR]
        refine hrs.off N'n fun a ha => ?_
        simp only [List.mem_cons, List.not_mem_nil, or_false] at ha
        rcases ha with h | h | h | h | h | h
        · exact ⟨w4, h ▸ x4, cell_ne d4⟩
        · exact ⟨w3, h ▸ x3, cell_ne d3⟩
        · exact ⟨w2, h ▸ x2, cell_ne d2⟩
        · exact ⟨w1, h ▸ x1, cell_ne d1⟩
        · exact ⟨_, h ▸ xT, tab_ne⟩
        · exact ⟨_, h ▸ xF, tab_ne⟩
      have hD4 := hDn _ x4
      have hD3 := hDn _ x3
      have hD2 := hDn _ x2
      have hD1 := hDn _ x1
      have hDT := hDn _ xT
      have hDF := hDn _ xF
      have N6 : News _ _ h3 ((D, LCg.lst ys2) :: (S1.heap.objs.size + 1 + 1 + 1 + 1, w4) :: (S1.heap.objs.size + 1 + 1 + 1, w3) :: (S1.heap.objs.size + 1 + 1, w2) :: (S1.heap.objs.size + 1, w1) :: (223, tabObj #[]) :: (216, tabObj #[]) :: R) := news_cons N' (.head _) (news_cons N'n x4 (news_cons N'n x3 (news_cons N'n x2 (news_cons N'n x1 (news_cons N'n xT (news_cons N'n xF fun p h => N'n p (off_sub _ (hR ▸ h))))))))
      clear N' N'n x4 x3 x2 x1 xT xF hDn hXs hR
      dsimp only at hD4 hD3 hD2 hD1 hDT hDF
      k_dflt (refine' storeX_C F' N6 ?sc ?sU d2 ?_ ?sa ?sb)
      case sa => rfl
      case sb => rfl
      case sc => rfl
      case sU => exact UpdF.tail (fun e => hD2 e.symm) (UpdF.tail (by first | exact neA 1 2 (by decide) | exact neA 1 3 (by decide) | exact neA 1 4 (by decide) | exact neA 2 3 (by decide) | exact neA 2 4 (by decide) | exact neA 3 4 (by decide) | exact neA 2 1 (by decide) | exact neA 3 1 (by decide) | exact neA 4 1 (by decide) | exact neA 3 2 (by decide) | exact neA 4 2 (by decide) | exact neA 4 3 (by decide)) (UpdF.tail (by first | exact neA 1 2 (by decide) | exact neA 1 3 (by decide) | exact neA 1 4 (by decide) | exact neA 2 3 (by decide) | exact neA 2 4 (by decide) | exact neA 3 4 (by decide) | exact neA 2 1 (by decide) | exact neA 3 1 (by decide) | exact neA 4 1 (by decide) | exact neA 3 2 (by decide) | exact neA 4 2 (by decide) | exact neA 4 3 (by decide)) (UpdF.head (List.forall_mem_cons.mpr ⟨by first | exact neA 1 2 (by decide) | exact neA 1 3 (by decide) | exact neA 1 4 (by decide) | exact neA 2 3 (by decide) | exact neA 2 4 (by decide) | exact neA 3 4 (by decide) | exact neA 2 1 (by decide) | exact neA 3 1 (by decide) | exact neA 4 1 (by decide) | exact neA 3 2 (by decide) | exact neA 4 2 (by decide) | exact neA 4 3 (by decide), List.forall_mem_cons.mpr ⟨fun e => e223 2 e.symm, List.forall_mem_cons.mpr ⟨fun e => e216 2 e.symm, hR2⟩⟩⟩))))
      intro h4 v2 F4 N7 d2'
      (try dsimp only at N7)
      clear N6 F' d2
      k_steps
      unfold Hold
      (rename Fr _ _ _ _ => F5); (rename News _ _ _ _ => N5)
      refine LSm.sum_ints (vs := svs) F5 N5 rfl (lifted.at fun o e => F5.keep _ o e) hI ?_
      intro h6 tk6 t6 F6 N6
      clear F5 N5
      k_steps
      unfold Hold
      obtain ⟨sh, hsh, hsh16⟩ := mod16 ns0.sum
      rw [hsh]
      k_dflt (refine' storeX_C F6 N6 ?tc ?tU d3 ?_ ?ta ?tb)
      case ta => rfl
      case tb => rfl
      case tc => rfl
      case tU => exact UpdF.tail (fun e => hD3 e.symm) (UpdF.tail (by first | exact neA 1 2 (by decide) | exact neA 1 3 (by decide) | exact neA 1 4 (by decide) | exact neA 2 3 (by decide) | exact neA 2 4 (by decide) | exact neA 3 4 (by decide) | exact neA 2 1 (by decide) | exact neA 3 1 (by decide) | exact neA 4 1 (by decide) | exact neA 3 2 (by decide) | exact neA 4 2 (by decide) | exact neA 4 3 (by decide)) (UpdF.head (List.forall_mem_cons.mpr ⟨by first | exact neA 1 2 (by decide) | exact neA 1 3 (by decide) | exact neA 1 4 (by decide) | exact neA 2 3 (by decide) | exact neA 2 4 (by decide) | exact neA 3 4 (by decide) | exact neA 2 1 (by decide) | exact neA 3 1 (by decide) | exact neA 4 1 (by decide) | exact neA 3 2 (by decide) | exact neA 4 2 (by decide) | exact neA 4 3 (by decide), List.forall_mem_cons.mpr ⟨by first | exact neA 1 2 (by decide) | exact neA 1 3 (by decide) | exact neA 1 4 (by decide) | exact neA 2 3 (by decide) | exact neA 2 4 (by decide) | exact neA 3 4 (by decide) | exact neA 2 1 (by decide) | exact neA 3 1 (by decide) | exact neA 4 1 (by decide) | exact neA 3 2 (by decide) | exact neA 4 2 (by decide) | exact neA 4 3 (by decide), List.forall_mem_cons.mpr ⟨fun e => e223 3 e.symm, List.forall_mem_cons.mpr ⟨fun e => e216 3 e.symm, hR3⟩⟩⟩⟩)))
      intro h7 v3 F7 N7 d3'
      (try dsimp only at N7)
      clear N6 F6 d3
      k_steps
      unfold Hold
      (rename Fr _ _ _ _ => F8); (rename News _ _ _ _ => N8)
      obtain ⟨X₄, hX₄⟩ := newsName N8
      have hy2 : ys2.length = 5 := by rw [hrs.length, hrl]
      refine LCg.CompSrc.ledger (ax := D) (its := ys2.toArray) (k := ys2.length) rfl F8 N8 (.head _) (by rw [sizeLine_eq, List.size_toArray]; omega) ?_
      intro g4
      refine compU_inv (n := ys2.toArray.size) (fun i zs nx => (∀ p ∈ X₄, p ∈ nx) ∧ WayIn nx zs ((rs.take i).map (wayP sh))) ?_ ?_ _ _ _ _ (Nat.zero_add _) ⟨fun p hp => hX₄ ▸ hp, .nil⟩
      · rintro i v zs nx I oI C oC D5 m₂ h8 tk8 E' hi hv ⟨hXs, hzs⟩ hC hx F' N' off ne
        (try dsimp only)
        refine cgen fun Qg hQg => ?_
        clear F8 N8
        have hi5 : i < rs.length := by rw [hrl]; simpa [hy2] using hi
        obtain ⟨r, hr⟩ : ∃ r, rs[i]? = some r := ⟨_, List.getElem?_eq_getElem hi5⟩
        obtain ⟨q, rws, rn, hvq, hqm, hri⟩ := hrs.at hr
        rw [show ys2.toArray[i]? = ys2[i]? from by simp, hvq] at hv
        obtain rfl := Option.some.inj hv
        obtain ⟨hb1, hb7, hbb⟩ := hrb r (List.mem_of_getElem? hr)
        have x3 : (S1.heap.objs.size + 1 + 1 + 1, v3) ∈ nx := hXs _ (by rw [← hX₄]; exact .tail _ (.tail _ (.head _)))
        have hqx : (q, listOf rws.toArray rn) ∈ nx := hXs _ (by rw [← hX₄]; k_mem)
        have N4 := news_drop (news := (I, oI) :: (C, oC) :: (D5, LCg.lst zs) :: (S1.heap.objs.size + 1 + 1 + 1, v3) :: nx) N' (by (repeat (refine List.forall_mem_cons.mpr ⟨by k_mem, ?_⟩)); intro p hp; k_mem)
        clear N'
        k_steps
        unfold Hold
        k_dflt (refine' C1.use (ltext _ q rws rn r sh _ hri hbb hb7 hsh16 _ (.tail _ (.tail _ (.tail _ (.tail _ hqx))))) ?a1 ?a2 ?a3 ?a4 ?a5 ?a6 ?a7 ?_)
        case a1 => k_asm
        case a2 => k_asm
        case a3 => k_asm
        case a4 => k_asm
        case a5 => k_asm
        case a6 => ktr_room
        case a7 => ktr_units
        intro r9 nx9 h9 tk9 F9 N9 P9
        obtain ⟨q9, t9, u9, rfl, hlt9, rfl⟩ := P9
        refine hQg _ _ (LCg.CompEnd.intro F9 N9 ((q9, tupOf [.int ((wholeF 1 (figsOf sh r) : Nat) : Int) t9, .str (wordF (figsOf sh r)) u9]) :: nx) (fun p hp => ?_) ⟨⟨Nat.ne_of_gt (allLt_mem hlt9 (I, oI) (.head _)), Nat.ne_of_gt (allLt_mem hlt9 (C, oC) (.tail _ (.head _))), Nat.ne_of_gt (allLt_mem hlt9 (D5, LCg.lst zs) (.tail _ (.tail _ (.head _))))⟩, off⟩ (.inr ⟨_, .tail _ (hXs _ (by rw [← hX₄]; exact .head _)), rfl, _, rfl⟩) ⟨fun p hp => .tail _ (hXs p hp), ?_⟩)
        · revert p
          (repeat (refine List.forall_mem_cons.mpr ⟨by k_mem, ?_⟩)); intro p hp; k_mem
        · rw [List.take_add_one, hr, List.map_append]
          exact (hzs.mono fun _ _ h => .tail _ h).snoc (.head _)
      · rintro zs nx ⟨hXs, hzs⟩
        clear F8 N8
        rw [show ys2.toArray.size = rs.length from by simp [hy2, hrl], List.take_length] at hzs
        k_steps
        unfold Hold
        (rename Fr _ _ _ _ => F9); (rename News _ _ _ _ => N9)
        obtain ⟨D6, hD6⟩ := newsHead N9
        subst hD6
        (rename LCg.Off1 D6 nx => hoff)
        have hDn6 := off1_mem hoff
        have N9n : News _ _ _ nx := fun p hp => N9 p (.tail _ hp)
        have x0 : (D, LCg.lst ys2) ∈ nx := hXs _ (by rw [← hX₄]; exact .head _)
        have x4 : (S1.heap.objs.size + 1 + 1 + 1 + 1, w4) ∈ nx := hXs _ (by rw [← hX₄]; k_mem)
        have x3 : (S1.heap.objs.size + 1 + 1 + 1, v3) ∈ nx := hXs _ (by rw [← hX₄]; k_mem)
        have x2 : (S1.heap.objs.size + 1 + 1, v2) ∈ nx := hXs _ (by rw [← hX₄]; k_mem)
        have x1 : (S1.heap.objs.size + 1, w1) ∈ nx := hXs _ (by rw [← hX₄]; k_mem)
        have xT : (223, tabObj #[]) ∈ nx := hXs _ (by rw [← hX₄]; k_mem)
        have xF : (216, tabObj #[]) ∈ nx := hXs _ (by rw [← hX₄]; k_mem)
        have hrs : RowsIn nx ys2 rs := hrs.mono fun q ws n h => hXs _ (by rw [← hX₄]; k_mem)
        obtain ⟨R2, hR2e⟩ : ∃ R, R = off [S1.heap.objs.size + 1 + 1 + 1 + 1, S1.heap.objs.size + 1 + 1 + 1, S1.heap.objs.size + 1 + 1, S1.heap.objs.size + 1, 223, 216] nx := ⟨_, rfl⟩
        have hS6 : ∀ a ∈ [S1.heap.objs.size + 1 + 1 + 1 + 1, S1.heap.objs.size + 1 + 1 + 1, S1.heap.objs.size + 1 + 1, S1.heap.objs.size + 1, 223, 216], ∃ o, (a, o) ∈ nx ∧ (∀ xs n, listOf xs n ≠ o) ∧ ∀ xs, tupOf xs ≠ o := by
          intro a ha
          simp only [List.mem_cons, List.not_mem_nil, or_false] at ha
          rcases ha with h | h | h | h | h | h
          · exact ⟨w4, h ▸ x4, cell_ne d4, cell_ne2 d4⟩
          · exact ⟨v3, h ▸ x3, cell_ne d3', cell_ne2 d3'⟩
          · exact ⟨v2, h ▸ x2, cell_ne d2', cell_ne2 d2'⟩
          · exact ⟨w1, h ▸ x1, cell_ne d1, cell_ne2 d1⟩
          · exact ⟨_, h ▸ xT, tab_ne, tab_ne2⟩
          · exact ⟨_, h ▸ xF, tab_ne, tab_ne2⟩
        have hQ4 : ∀ p ∈ R2, p.1 ≠ S1.heap.objs.size + 1 + 1 + 1 + 1 := by rw [hR2e]; exact off_ne (by k_mem)
        have hQT : ∀ p ∈ R2, p.1 ≠ 223 := by rw [hR2e]; exact off_ne (by k_mem)
        have hQF : ∀ p ∈ R2, p.1 ≠ 216 := by rw [hR2e]; exact off_ne (by k_mem)
        have hrs : RowsIn R2 ys2 rs := hR2e ▸ hrs.off N9n fun a ha => let ⟨o, h1, h2, _⟩ := hS6 a ha; ⟨o, h1, h2⟩
        have hzs : WayIn R2 zs (rs.map (wayP sh)) := hR2e ▸ hzs.off N9n fun a ha => let ⟨o, h1, _, h3⟩ := hS6 a ha; ⟨o, h1, h3⟩
        have N6 : News _ _ _ ((D6, LCg.lst zs) :: (D, LCg.lst ys2) :: (S1.heap.objs.size + 1 + 1 + 1 + 1, w4) :: (S1.heap.objs.size + 1 + 1 + 1, v3) :: (S1.heap.objs.size + 1 + 1, v2) :: (S1.heap.objs.size + 1, w1) :: (223, tabObj #[]) :: (216, tabObj #[]) :: R2) := news_cons N9 (.head _) (news_cons N9n x0 (news_cons N9n x4 (news_cons N9n x3 (news_cons N9n x2 (news_cons N9n x1 (news_cons N9n xT (news_cons N9n xF fun p h => N9n p (off_sub _ (hR2e ▸ h)))))))))
        have hD64 := hDn6 _ x4
        have hDD4 := news_ne N9n x0 x4 (cell_ne d4 _ _)
        k_dflt (refine' storeX_C F9 N6 ?qc ?qU d4 ?_ ?qa ?qb)
        case qa => rfl
        case qb => rfl
        case qc => rfl
        case qU => exact UpdF.tail (fun e => hD64 e.symm) (UpdF.tail hDD4 (UpdF.head (List.forall_mem_cons.mpr ⟨by first | exact neA 1 2 (by decide) | exact neA 1 3 (by decide) | exact neA 1 4 (by decide) | exact neA 2 3 (by decide) | exact neA 2 4 (by decide) | exact neA 3 4 (by decide) | exact neA 2 1 (by decide) | exact neA 3 1 (by decide) | exact neA 4 1 (by decide) | exact neA 3 2 (by decide) | exact neA 4 2 (by decide) | exact neA 4 3 (by decide), List.forall_mem_cons.mpr ⟨by first | exact neA 1 2 (by decide) | exact neA 1 3 (by decide) | exact neA 1 4 (by decide) | exact neA 2 3 (by decide) | exact neA 2 4 (by decide) | exact neA 3 4 (by decide) | exact neA 2 1 (by decide) | exact neA 3 1 (by decide) | exact neA 4 1 (by decide) | exact neA 3 2 (by decide) | exact neA 4 2 (by decide) | exact neA 4 3 (by decide), List.forall_mem_cons.mpr ⟨by first | exact neA 1 2 (by decide) | exact neA 1 3 (by decide) | exact neA 1 4 (by decide) | exact neA 2 3 (by decide) | exact neA 2 4 (by decide) | exact neA 3 4 (by decide) | exact neA 2 1 (by decide) | exact neA 3 1 (by decide) | exact neA 4 1 (by decide) | exact neA 3 2 (by decide) | exact neA 4 2 (by decide) | exact neA 4 3 (by decide), List.forall_mem_cons.mpr ⟨fun e => e223 4 e.symm, List.forall_mem_cons.mpr ⟨fun e => e216 4 e.symm, hQ4⟩⟩⟩⟩⟩)))
        intro h10 v4 F10 N10 d4'
        (try dsimp only at N10)
        clear N6 N9 N9n F9 x0 x4 x3 x2 x1 xT xF hXs hX₄ d4 hS6 hR2e hR1 hR2 hR3 hR4 hRT hRF hRD
        k_steps
        unfold Hold
        (rename Fr _ _ _ _ => F8); (rename News _ _ _ _ => N8)
        obtain ⟨X₅, hX₅⟩ := newsName N8
        have hz5 : zs.length = 5 := by rw [hzs.length, List.length_map, hrl]
        refine LCg.CompSrc.ledger (ax := D6) (its := zs.toArray) (k := zs.length) rfl F8 N8 (.head _) (by rw [sizeLine_eq, List.size_toArray]; omega) ?_
        intro g5
        refine compU_inv (n := zs.toArray.size) (fun i ks nx => nx = X₅ ∧ TextsIn ks ((rs.take i).map fun r => wordF (figsOf sh r))) ?_ ?_ _ _ _ _ (Nat.zero_add _) ⟨hX₅, .nil⟩
        · rintro i v ks nx2 I oI C oC D7 m₂ h8 tk8 E' hi hv ⟨rfl, hks⟩ hC hx F' N' off ne
          (try dsimp only)
          refine cgen fun Qh hQh => ?_
          subst hX₅
          clear F8 N8
          have hi5 : i < rs.length := by rw [hrl]; simpa [hz5] using hi
          obtain ⟨r, hr⟩ : ∃ r, rs[i]? = some r := ⟨_, List.getElem?_eq_getElem hi5⟩
          obtain ⟨q, tq, uq, hvq, hqm⟩ := hzs.at (a := (wayP sh r).1) (x := (wayP sh r).2) (by rw [List.getElem?_map, hr]; rfl)
          rw [show zs.toArray[i]? = zs[i]? from by simp, hvq] at hv
          obtain rfl := Option.some.inj hv
          k_steps
          (rename News _ _ _ _ => N9)
          exact hQh _ _ (LCg.CompEnd.intro (by k_asm) N9 _ (fun p hp => hp) off (.inr ⟨_, .head _, rfl, _, rfl⟩) ⟨rfl, by rw [List.take_add_one, hr, List.map_append]; exact hks.snoc⟩)
        · rintro ks nx2 ⟨rfl, hks⟩
          subst hX₅
          clear F8 N8
          rw [show zs.toArray.size = rs.length from by simp [hz5, hrl], List.take_length] at hks
          k_steps
          unfold Hold
          (rename Fr _ _ _ _ => F9); (rename News _ _ _ _ => N9); (rename IsRange _ _ _ _ _ _ _ _ => hr9)
          obtain ⟨D8, hD8⟩ := newsHead N9
          subst hD8
          obtain ⟨X₆, hX₆⟩ := newsName N9
          refine LCg.CompSrc.range (n := 5) rfl F9 N9 hr9 (by decide) (by decide) (by rw [sizeLine_eq]; omega) ?_
          intro g6
          refine compU_inv (n := 5) (fun i ts nx => (∀ p ∈ X₆, p ∈ nx) ∧ WaysIn nx ts ((rs.take i).map fun r => (wholeF 1 (figsOf sh r), r.length))) ?_ ?_ _ _ _ _ (Nat.zero_add _) ⟨fun p hp => hX₆ ▸ hp, .nil⟩
          · rintro i v ts nx I oI C oC D9 m₂ h8 tk8 E' hi ⟨ti, rfl⟩ ⟨hXs, hts⟩ hC hx F' N' off ne
            (try dsimp only)
            refine cgen fun Qi hQi => ?_
            clear F9 N9
            rw [Int.zero_add] at hx
            have hi5 : i < rs.length := by rw [hrl]; omega
            obtain ⟨r, hr⟩ : ∃ r, rs[i]? = some r := ⟨_, List.getElem?_eq_getElem hi5⟩
            obtain ⟨q, tq, uq, hvq, hqm⟩ := hzs.at (a := (wayP sh r).1) (x := (wayP sh r).2) (by rw [List.getElem?_map, hr]; rfl)
            obtain ⟨q2, rws, rn, hvq2, hqm2, hri⟩ := hrs.at hr
            obtain ⟨hb1, hb7, hbb⟩ := hrb r (List.mem_of_getElem? hr)
            have x0 : (D, LCg.lst ys2) ∈ nx := hXs _ (by rw [← hX₆]; k_mem)
            have x6 : (D6, LCg.lst zs) ∈ nx := hXs _ (by rw [← hX₆]; k_mem)
            have x4 : (S1.heap.objs.size + 1 + 1 + 1 + 1, v4) ∈ nx := hXs _ (by rw [← hX₆]; k_mem)
            have x2 : (S1.heap.objs.size + 1 + 1, v2) ∈ nx := hXs _ (by rw [← hX₆]; k_mem)
            have xq : (q, tupOf [.int (((wayP sh r).1 : Nat) : Int) tq, .str (wayP sh r).2 uq]) ∈ nx := hXs _ (by rw [← hX₆]; k_mem)
            have xq2 : (q2, listOf rws.toArray rn) ∈ nx := hXs _ (by rw [← hX₆]; k_mem)
            have N4 := news_drop (news := (I, oI) :: (C, oC) :: (D9, LCg.lst ts) :: (D6, LCg.lst zs) :: (D, LCg.lst ys2) :: (S1.heap.objs.size + 1 + 1 + 1 + 1, v4) :: (S1.heap.objs.size + 1 + 1, v2) :: (q, tupOf [.int (((wayP sh r).1 : Nat) : Int) tq, .str (wayP sh r).2 uq]) :: (q2, listOf rws.toArray rn) :: nx) N' (by (repeat (refine List.forall_mem_cons.mpr ⟨by k_mem, ?_⟩)); intro p hp; k_mem)
            clear N' x0 x6 x4 x2
            k_steps
            unfold Hold
            (rename News _ _ _ _ => N5)
            refine item_at N5 (.tail _ (.tail _ (.tail _ (.head _)))) (Int.natCast_nonneg _) (lt63 (Nat.lt_trans hi (by decide))) (by rw [Int.toNat_natCast]; exact hvq) ?_
            k_steps
            unfold Hold
            (rename News _ _ _ _ => N5)
            refine item_at N5 (.tail _ (.tail _ (.tail _ (.tail _ (.head _))))) (Int.natCast_nonneg _) (lt63 (Nat.lt_trans hi (by decide))) (by rw [Int.toNat_natCast]; exact hvq2) ?_
            k_steps
            (rename News _ _ _ _ => N9)
            obtain ⟨q9, hq9⟩ := newsHead N9
            subst hq9
            obtain ⟨tA, tB, hA', hB'⟩ := pairName N9
            (rename I < q9 ∧ _ => hlt)
            refine hQi _ _ (LCg.CompEnd.intro (by k_asm) N9 ((q9, tupOf [.int (((wayP sh r).1 : Nat) : Int) tA, .int (((r.map fun b => ((b : Nat) : Int)).length : Nat) : Int) tB]) :: nx) (fun p hp => ?_) ⟨⟨Nat.ne_of_gt hlt.1, Nat.ne_of_gt hlt.2.1, Nat.ne_of_gt hlt.2.2.1⟩, off⟩ trivial ⟨fun p hp => .tail _ (hXs p hp), ?_⟩)
            · rw [hA', hB'] at hp
              revert p
              (repeat (refine List.forall_mem_cons.mpr ⟨by k_mem, ?_⟩)); intro p hp; k_mem
            · rw [List.take_add_one, hr, List.map_append]
              refine (hts.mono fun _ _ h => .tail _ h).snoc (t := tA) (u := tB) ?_
              rw [List.length_map]
              exact .head _
          · rintro ts nx ⟨hXs, hts⟩
            clear F9 N9
            rw [show (5 : Nat) = rs.length from hrl.symm, List.take_length] at hts
            k_steps
            unfold Hold
            (rename Fr _ _ _ _ => F9); (rename News _ _ _ _ => N9)
            obtain ⟨D'₀, hD'₀⟩ := newsHead N9
            subst hD'₀
            obtain ⟨kvs, P⟩ := plain1 sh rs hsh16 hrl hrb
            have hFin : (216, tabObj #[]) ∈ nx := hXs _ (by rw [← hX₆]; k_mem)
            have hTin : (223, tabObj #[]) ∈ nx := hXs _ (by rw [← hX₆]; k_mem)
            k_dflt (refine' C1.use (ltable _ _ ts _ _ _ (.head _) (hts.mono fun _ _ h => .tail _ h) (by rw [List.length_map]; omega) ?b1 (.tail _ hTin) ⟨#[], .tail _ hFin, .inl rfl⟩ kvs P.tab) ?a1 ?a2 ?a3 ?a4 ?a5 ?a6 ?a7 ?_)
            case b1 =>
              intro p hp
              obtain ⟨r, hr, rfl⟩ := List.mem_map.mp hp
              obtain ⟨hb1, hb7, hbb⟩ := hrb r hr
              have := wholeF_bound (sh := sh) r hb7
              exact ⟨hb1, hb7, this.1, this.2⟩
            case a1 => k_asm
            case a2 => k_asm
            case a3 => k_asm
            case a4 => k_asm
            case a5 => k_asm
            case a6 => ktr_room
            case a7 => ktr_units
            intro r9 nx9 h9 tk9 F' N' P9
            obtain ⟨x, l, hT, hF, hK, ⟨psT, hpsT⟩, rfl⟩ := P9
            obtain ⟨B₀, hB₀⟩ : ∃ B, B = (D8, LCg.lst ks) :: (D6, LCg.lst zs) :: (D, LCg.lst ys2) :: (S1.heap.objs.size + 1 + 1 + 1 + 1, v4) :: (S1.heap.objs.size + 1 + 1 + 1, v3) :: (S1.heap.objs.size + 1 + 1, v2) :: (S1.heap.objs.size + 1, w1) :: R2 := ⟨_, rfl⟩
            have hBx : ∀ p ∈ B₀, p ∈ (D'₀, LCg.lst ts) :: nx := fun p hp => .tail _ (hXs p (by rw [← hX₆]; rw [hB₀] at hp; revert p; (repeat (refine List.forall_mem_cons.mpr ⟨by k_mem, ?_⟩)); intro p hp; k_mem))
            have hB223 := off_tabs N9 hB₀ hBx d4' d3' d2' d1 (.tail _ hTin) hQT
            have hB216 := off_tabs N9 hB₀ hBx d4' d3' d2' d1 (.tail _ hFin) hQF
            have hBin : ∀ p ∈ B₀, p ∈ nx9 := fun p hp => hK p (hBx p hp) (List.forall_mem_cons.mpr ⟨hB223 p hp, List.forall_mem_singleton.mpr (hB216 p hp)⟩)
            have hD8F : D8 ≠ 216 := hB216 (D8, LCg.lst ks) (by rw [hB₀]; exact .head _)
            clear F9 N9
            k_steps
            unfold Hold
            (rename Fr _ _ _ _ => F9); (rename News _ _ _ _ => N9); (rename IsRange _ _ _ _ _ _ _ _ => hr9)
            obtain ⟨W, hWn⟩ := tabName hT
            subst hWn
            refine Iter_range_my2 (n := 5) (fun i m₁ nx' => m₁ (Str.ofString "table") = some (.ref x) ∧ m₁ (Str.ofString "words") = some (.ref D8) ∧ HasTab W nx' x l kvs ∧ HasF nx' ∧ (∀ p ∈ B₀, p ∈ nx') ∧ (223, tabObj psT) ∈ nx') rfl hr9 (by decide) (by decide) F9 N9 ⟨rfl, rfl, hT, hF, hBin, hpsT⟩ ?_ ?_
            · rintro I i ti m₁ nx' h11 tk11 io hio hi ⟨hm1, hm2, hT', hF', hB', hPT'⟩ hne F' N'
              refine qgen fun Qa hQa => ?_
              clear F9 N9 hT hF hBin hK hXs hBx
              replace F' : Fr _ S1.heap.objs.size h11 _ := frPut2 F' hm1 hm2
              rw [show (0 : Int) + (i : Int) * 1 = ((i : Nat) : Int) from by omega]
              have hi5 : i < rs.length := by rw [hrl]; omega
              have hi6 : (i + 1) % 5 < rs.length := by rw [hrl]; omega
              obtain ⟨r, hr⟩ : ∃ r, rs[i]? = some r := ⟨_, List.getElem?_eq_getElem hi5⟩
              obtain ⟨r2, hr2⟩ : ∃ r, rs[(i + 1) % 5]? = some r := ⟨_, List.getElem?_eq_getElem hi6⟩
              obtain ⟨q, rws, rn, hvq, hqm, hri⟩ := hrs.at hr
              obtain ⟨q2, rws2, rn2, hvq2, hqm2, hri2⟩ := hrs.at hr2
              obtain ⟨hb1, hb7, hbb⟩ := hrb r (List.mem_of_getElem? hr)
              obtain ⟨hc1, hc7, hcb⟩ := hrb r2 (List.mem_of_getElem? hr2)
              have N4 : News _ S1.heap.objs.size h11 _ := news_drop (news := (I, io) :: (q, listOf rws.toArray rn) :: (q2, listOf rws2.toArray rn2) :: (D8, LCg.lst ks) :: (D6, LCg.lst zs) :: (D, LCg.lst ys2) :: (S1.heap.objs.size + 1 + 1 + 1 + 1, v4) :: (S1.heap.objs.size + 1 + 1 + 1, v3) :: (S1.heap.objs.size + 1 + 1, v2) :: (S1.heap.objs.size + 1, w1) :: nx') N' (List.forall_mem_cons.mpr ⟨.head _, by
                (repeat (refine List.forall_mem_cons.mpr ⟨.tail _ (hB' _ (by rw [hB₀]; k_mem)), ?_⟩))
                exact fun p hp => .tail _ hp⟩)
              clear N'
              k_steps
              unfold Hold
              (rename News _ _ _ _ => N5)
              refine item_at N5 (.tail _ (.tail _ (.tail _ (.tail _ (.tail _ (.head _)))))) (Int.natCast_nonneg _) (lt63 (Nat.lt_trans hi (by decide))) (by rw [Int.toNat_natCast]; exact hvq) ?_
              iterate 7 walk1
              (rename Fr _ _ _ _ => F5); (rename News _ _ _ _ => N5)
              k_dflt (refine kba_turn (value' := PySem.Expr.Name (PySem.Str.ofString "_") ⟨0, 0, 0, 0⟩) (fun _ => rfl) ?_)
              k_dflt (refine' kms_slice_lit (zs := rws.dropLast) ?sl1F ?sl1N ?sl1l ?sl1p ?sl1q ?sl1e ?_ ?sl1s ?sl1t ?sl1z)
              case sl1F => exact F5
              case sl1N => exact N5
              case sl1l => exact News.isList N5 (.tail _ (.head _))
              case sl1p => exact IsPart.none
              case sl1q => exact IsPart.int _ _
              case sl1e => rw [List.toList_toArray]; exact pick_init _
              case sl1s => with_unfolding_all rfl
              case sl1t => kmk_pure
              case sl1z => rw [List.size_toArray, hri.length, List.length_map, sizeLine_eq]; omega
              intro D10 h12 F12 N12 l12
              clear F5 N5
              k_steps
              unfold Hold
              refine item_at N12 (.tail _ (.tail _ (.tail _ (.tail _ (.tail _ (.tail _ (.head _))))))) (Int.natCast_nonneg _) (lt63 (Nat.lt_trans hi (by decide))) (by rw [Int.toNat_natCast]; exact hvq) ?_
              iterate 3 walk1
              obtain ⟨bl, hbl⟩ : ∃ b, r[r.length - 1]? = some b := ⟨_, List.getElem?_eq_getElem (by omega)⟩
              have hrwl : rws.length = r.length := by rw [hri.length, List.length_map]
              obtain ⟨vl, hvl⟩ : ∃ v, rws[r.length - 1]? = some v := ⟨_, List.getElem?_eq_getElem (by omega)⟩
              obtain ⟨tl, rfl⟩ := hri.at_nat hbl hvl
              refine item_last N12 (.tail _ (.tail _ (.head _))) (by omega) (by rw [hrwl]; exact hvl) ?_
              k_steps
              unfold Hold
              (rename Fr _ _ _ _ => F5); (rename News _ _ _ _ => N5)
              have hd7 : r.dropLast.length ≤ 7 := by rw [List.length_dropLast]; exact Nat.le_trans (Nat.sub_le _ _) hb7
              have hl2 : (r.dropLast ++ [(bl + i) % 2]).length ≤ 8 := by rw [List.length_append]; exact Nat.add_le_add hd7 (Nat.le_refl 1)
              have hl3 : (r.dropLast ++ [(bl + i) % 2] ++ r2).length ≤ 15 := by rw [List.length_append]; exact Nat.add_le_add hl2 hc7
              have hl4 : (r.dropLast ++ [(bl + i) % 2] ++ r2 ++ [0, 1, 0, 1, 0]).length ≤ 20 := by rw [List.length_append]; exact Nat.add_le_add hl3 (Nat.le_refl 5)
              refine add_nats F5 N5 (.tail _ (.head _)) (.head _) (intsDropLast hri) (intsOne (nat_mod2 bl i)) (Nat.le_trans (Nat.add_le_add hd7 (Nat.le_refl 1)) (by decide)) ?_
              intro D11 us11 h13 F13 N13 l13 hI11
              clear F5 N5
              k_steps
              unfold Hold
              rw [nat_mod5]
              (rename News _ _ _ _ => N5)
              refine item_at N5 (.tail _ (.tail _ (.tail _ (.tail _ (.tail _ (.tail _ (.tail _ (.tail _ (.head _))))))))) (Int.natCast_nonneg _) (lt63 (Nat.lt_trans (Nat.mod_lt _ (by decide)) (by decide))) (by rw [Int.toNat_natCast]; exact hvq2) ?_
              k_steps
              unfold Hold
              (rename Fr _ _ _ _ => F5); (rename News _ _ _ _ => N5)
              refine add_nats F5 N5 (.head _) (.tail _ (.tail _ (.tail _ (.tail _ (.tail _ (.head _)))))) hI11 hri2 (Nat.le_trans (Nat.add_le_add hl2 hc7) (by decide)) ?_
              intro D12 us12 h14 F14 N14 l14 hI12
              clear F5 N5
              k_steps
              unfold Hold
              (rename Fr _ _ _ _ => F5); (rename News _ _ _ _ => N5)
              refine add_nats F5 N5 (.tail _ (.head _)) (.head _) hI12 intsTail (Nat.le_trans (Nat.add_le_add hl3 (Nat.le_refl 5)) (by decide)) ?_
              intro D13 us13 h15 F15 N15 l15 hI13
              clear F5 N5
              iterate 5 walk1
              (rename Fr _ _ _ _ => F5); (rename News _ _ _ _ => N5)
              have hu13 : us13.length ≤ 100 := by
                rw [hI13.length, List.length_map]
                exact Nat.le_trans hl4 (by decide)
              k_dflt (refine kba_turn (value' := PySem.Expr.Name (PySem.Str.ofString "_") ⟨0, 0, 0, 0⟩) (fun _ => rfl) ?_)
              k_dflt (refine' kms_slice_lit (zs := us13.take 7) ?sl2F ?sl2N ?sl2l ?sl2p ?sl2q ?sl2e ?_ ?sl2s ?sl2t ?sl2z)
              case sl2F => exact F5
              case sl2N => exact N5
              case sl2l => exact News.isList N5 (.head _)
              case sl2p => exact IsPart.none
              case sl2q => exact IsPart.int _ _
              case sl2e => rw [List.toList_toArray]; exact pick_lit us13 7
              case sl2s => with_unfolding_all rfl
              case sl2t => kmk_pure
              case sl2z => rw [List.size_toArray, sizeLine_eq]; omega
              intro D14 h16 F16 N16 l16
              clear F5 N5
              obtain ⟨row, hrow⟩ : ∃ row, row = ((r.dropLast ++ [(bl + i) % 2] ++ r2 ++ [0, 1, 0, 1, 0]).take 7) := ⟨_, rfl⟩
              have hIr : IntsAre (us13.take 7) (row.map fun b => ((b : Nat) : Int)) := by rw [hrow, List.map_take]; exact hI13.take _
              have hrow7 : row.length = 7 := by
                rw [hrow]
                simp only [List.length_take, List.length_append, List.length_dropLast, List.length_cons, List.length_nil]
                omega
              have hrowb : ∀ b ∈ row, b < 2 := by
                intro b hb
                rw [hrow] at hb
                have hb := List.mem_of_mem_take hb
                simp only [List.mem_append, List.mem_cons, List.not_mem_nil, or_false] at hb
                rcases hb with ((h | h) | h) | h
                · exact hbb b ((List.dropLast_sublist r).subset h)
                · omega
                · exact hcb b h
                · omega
              have N17 := news_drop (news := (D14, listOf (us13.take 7).toArray 0) :: (I, io) :: (D8, LCg.lst ks) :: (S1.heap.objs.size + 1 + 1 + 1, v3) :: nx') N16 (by (repeat (refine List.forall_mem_cons.mpr ⟨by k_mem, ?_⟩)); intro p hp; k_mem)
              clear N16
              k_steps
              unfold Hold
              (rename Fr _ _ _ _ => F5); (rename News _ _ _ _ => N5)
              k_dflt (refine' C1.use (ltext _ D14 (us13.take 7) 0 row sh _ hIr hrowb (by omega) hsh16 _ (.head _)) ?e1 ?e2 ?e3 ?e4 ?e5 ?e6 ?e7 ?_)
              case e1 => k_asm
              case e2 => k_asm
              case e3 => k_asm
              case e4 => k_asm
              case e5 => k_asm
              case e6 => ktr_room
              case e7 => ktr_units
              intro r17 nx17 h17 tk17 F17 N17 P17
              obtain ⟨q17, t17, u17, rfl, hlt17, rfl⟩ := P17
              (try dsimp only)
              clear F5 N5
              k_steps
              unfold Hold
              (rename Fr _ _ _ _ => F5); (rename News _ _ _ _ => N5)
              obtain ⟨la, hla⟩ := newsHead N5
              subst hla
              (rename q17 < la ∧ _ => hl17)
              obtain ⟨hq17, hD14, hIla, hD8la, h3la, hall⟩ := hl17
              obtain ⟨lo, hlo⟩ := hT'.listMem
              obtain ⟨hw17a, hw17b⟩ := wholeF_bound (sh := sh) row (by omega)
              rw [hrow7] at hw17a
              obtain ⟨X₇, hX₇⟩ := newsName N5
              have hs7 : ∀ p ∈ nx', p ∈ X₇ := fun p hp => hX₇ ▸ (.tail _ (.tail _ (.tail _ (.tail _ (.tail _ (.tail _ hp))))))
              have hl7 : (la, listOf #[] 0) ∈ X₇ := hX₇ ▸ (.head _)
              have hd7 : (D8, LCg.lst ks) ∈ X₇ := hX₇ ▸ (.tail _ (.tail _ (.tail _ (.tail _ (.head _)))))
              rw [hX₇] at N5
              k_dflt (refine' C1.use (lfoundV W x l la kvs (wholeF 1 (figsOf sh row)) 7 _ _ [] 0 X₇ hw17b hw17a (by decide) P.clean (Nat.zero_le _) (hT'.mono hs7) (hF'.mono hs7) hl7 (Nat.ne_of_gt (allLt_mem hall _ hlo))) ?f1 ?f2 ?f3 ?f4 ?f5 ?f6 ?f7 ?_)
              case f1 => k_asm
              case f2 => k_asm
              case f3 => k_asm
              case f4 => k_asm
              case f5 => k_asm
              case f6 => ktr_room
              case f7 => ktr_units
              intro r18 nx18 h18 tk18 F18 N18 P18
              obtain ⟨avs, an, hav, hT18, hF18, hK18, hlen, hopt⟩ := P18
              rw [P.found row hrow7 hrowb] at hopt
              obtain ⟨t18, rfl⟩ := hopt
              have hlen := hlen rfl
              rw [List.length_nil, Nat.zero_add] at hlen
              have hD8n : (D8, LCg.lst ks) ∈ nx18 := hK18 _ hd7 (List.forall_mem_cons.mpr ⟨Nat.ne_of_lt hD8la, List.forall_mem_singleton.mpr hD8F⟩)
              have N19 := news_drop (news := (la, listOf avs.toArray an) :: (D8, LCg.lst ks) :: nx18) N18 (List.forall_mem_cons.mpr ⟨hav, List.forall_mem_cons.mpr ⟨hD8n, fun p hp => hp⟩⟩)
              clear N18 N5 F5
              k_steps
              unfold Hold
              (rename Fr _ _ _ _ => F5); (rename News _ _ _ _ => N5)
              k_dflt (refine' C1.use (lbest _ D8 ks _ _ (wordF (figsOf sh row)) _ _ (.tail _ (.head _)) hks (by rw [List.length_map]; exact hrl) ?g0 (by rw [wordF_len, figsOf_len]; omega)) ?g1 ?g2 ?g3 ?g4 ?g5 ?g6 ?g7 ?_)
              case g0 =>
                intro y hy
                obtain ⟨r', hr', rfl⟩ := List.mem_map.mp hy
                have := (hrb r' hr').2.1
                rw [wordF_len, figsOf_len]; omega
              case g1 => k_asm
              case g2 => k_asm
              case g3 => k_asm
              case g4 => k_asm
              case g5 => k_asm
              case g6 => ktr_room
              case g7 => ktr_units
              intro r20 nx20 h20 tk20 F20 N20 P20
              obtain ⟨hK20, t20, rfl⟩ := P20
              have N21 := news_drop (news := (la, listOf avs.toArray an) :: nx18) N20 (fun p hp => hK20 p (by revert p; (repeat (refine List.forall_mem_cons.mpr ⟨by k_mem, ?_⟩)); intro p hp; k_mem) (fun _ h => nomatch h))
              clear N20 N5 F5
              k_steps
              · (rename ((_ : Str) != _) = true => hne')
                simp at hne'
              · (rename ¬ _ = (3 : Int) => hc)
                exact absurd (by rw [hlen]; rfl) hc
              · (rename News _ _ _ _ => N9)
                have hI18 : (I, io) ∈ nx18 := hK18 _ (hX₇ ▸ (.tail _ (.tail _ (.tail _ (.head _))))) (List.forall_mem_cons.mpr ⟨Nat.ne_of_lt hIla, List.forall_mem_singleton.mpr (fun e => by
                  obtain ⟨ps, hp, -⟩ := hF'
                  exact hne _ hp e.symm)⟩)
                have hI16 : @Ne Nat I 216 := fun e => by
                  obtain ⟨ps, hp, -⟩ := hF'
                  exact hne _ hp e.symm
                have hB18 : ∀ p ∈ B₀, p ∈ nx18 := fun p hp => hK18 p (hs7 p (hB' p hp)) (List.forall_mem_cons.mpr ⟨Nat.ne_of_lt (allLt_mem hall p (hB' p hp)), List.forall_mem_singleton.mpr (hB216 p hp)⟩)
                have N18 : News _ _ _ nx18 := fun p hp => N9 p (.tail _ hp)
                exact hQa _ _ (ForStep.next (by k_asm) N18 (news₂ := off [I] nx18) (List.forall_mem_cons.mpr ⟨hI18, off_sub⟩) (off_ne (.head _)) ⟨rfl, rfl, hT18.offI N18 hI18 hio, hF18.offI N18 hI18 hio hI16, fun p hp => off_mem (hB18 p hp) (List.forall_mem_singleton.mpr (hne _ (hB' p hp))), off_mem (hK18 _ (hs7 _ hPT') (List.forall_mem_cons.mpr ⟨Nat.ne_of_lt (allLt_mem hall _ hPT'), List.forall_mem_singleton.mpr (show @Ne Nat 223 216 by decide)⟩)) (List.forall_mem_singleton.mpr (hne _ hPT'))⟩)
            · rintro m₁ nx' h11 tk11 ⟨hm1, hm2, hT', hF', hB', hPT'⟩ F' N'
              clear F9 N9 hT hF hBin hK hXs hBx
              replace F' : Fr _ S1.heap.objs.size h11 _ := frPut2 F' hm1 hm2
              obtain ⟨dx, tkx, dnx, lsx, lnx, hx1, hx2, -⟩ := hT'.parts
              have N4 : News _ S1.heap.objs.size h11 _ := news_drop (news := (x, instObj 205 dx) :: (dx, dictOf [hdEntry W tkx l] dnx) :: (D8, LCg.lst ks) :: nx') N' (List.forall_mem_cons.mpr ⟨hx1, List.forall_mem_cons.mpr ⟨hx2, List.forall_mem_cons.mpr ⟨hB' _ (by rw [hB₀]; k_mem), fun p hp => hp⟩⟩⟩)
              clear N'
              dsimp only
              k_steps
              unfold Hold
              (rename Fr _ _ _ _ => F5); (rename News _ _ _ _ => N5)
              k_dflt (refine' C1.use (hitemsV W x l kvs ((x, instObj 205 dx) :: (dx, dictOf [hdEntry W tkx l] dnx) :: (D8, LCg.lst ks) :: nx') P.clean (hT'.mono fun _ h => .tail _ (.tail _ (.tail _ h)))) ?i1 ?i2 ?i3 ?i4 ?i5 ?i6 ?i7 ?_)
              case i1 => k_asm
              case i2 => k_asm
              case i3 => k_asm
              case i4 => k_asm
              case i5 => k_asm
              case i6 => ktr_room
              case i7 => ktr_units
              intro r21 nx21 h21 tk21 F21 N21 P21
              obtain ⟨q21, vs21, hq21, hp21, hK21, -, rfl⟩ := P21
              have hD21 : (D8, LCg.lst ks) ∈ nx21 := hK21 (D8, LCg.lst ks) (.tail _ (.tail _ (.head _))) (fun _ h => nomatch h)
              clear N5 F5
              have N22 : News _ S1.heap.objs.size h21 _ := news_drop (news := (D8, LCg.lst ks) :: nx21) N21 (fun p hp => by
                rcases List.mem_cons.mp hp with h | h
                · exact h ▸ hD21
                · exact h)
              clear N21
              k_steps
              unfold Hold
              (rename Fr _ _ _ _ => F5); (rename News _ _ _ _ => N5)
              refine sorted_pairs F5 N5 (.tail _ hq21) (hp21.mono fun p hp => .tail _ hp) ((P.perm.map (·.1)).nodup_iff.mpr P.nodup) P.short ?_
              intro B22 vs22 kvs22 n22 h22 F22 N23 hlt22 hp22 hperm22 hs22
              clear F5 N5
              have N24 : News _ S1.heap.objs.size h22 _ := news_drop (news := (B22, listOf vs22.toArray n22) :: (D8, LCg.lst ks) :: nx21) N23 (fun p hp => hp)
              clear N23
              k_steps
              unfold Hold
              (rename Fr _ _ _ _ => F5); (rename News _ _ _ _ => N5)
              k_dflt (refine' C1.use (ldue W D8 ks _ (rs.map fun r => wordF (figsOf sh r)) ((B22, listOf vs22.toArray n22) :: (D8, LCg.lst ks) :: nx21) (.tail _ (.head _)) hks (by rw [List.length_map]; exact hrl) ?j0 P.nodup) ?j1 ?j2 ?j3 ?j4 ?j5 ?j6 ?j7 ?_)
              case j0 =>
                intro y hy
                obtain ⟨r', hr', rfl⟩ := List.mem_map.mp hy
                have hb := hrb r' hr'
                have hl := hb.2.1
                exact ⟨by rw [wordF_len, figsOf_len]; omega, by rw [wordF_len, figsOf_len]; omega, name_clean (sh := sh) hb⟩
              case j1 => k_asm
              case j2 => k_asm
              case j3 => k_asm
              case j4 => k_asm
              case j5 => k_asm
              case j6 => ktr_room
              case j7 => ktr_units
              intro r27 nx27 h27 tk27 F27 N27 P27
              obtain ⟨hK27, q27, vs27, n27, kvs27, hq27, hp27, hperm27, hs27, rfl⟩ := P27
              have hEq : kvs27 = kvs22 := sorted_uniq (hperm27.trans (hperm22.trans P.perm).symm) hs27 hs22
              subst hEq
              have hB27 : (B22, listOf vs22.toArray n22) ∈ nx27 := hK27 _ (.head _) (fun _ h => nomatch h)
              have hp27b : PairsIn nx27 vs22 kvs27 := hp22.mono fun p hp => hK27 p (.tail _ hp) (fun _ h => nomatch h)
              have hcl : ∀ kv ∈ kvs27, Clean kv.1 ∧ Clean kv.2 := fun kv hkv => P.clean.2 kv (hperm22.mem_iff.mp hkv)
              clear F5 N5
              k_steps
              unfold Hold
              (rename Fr _ _ _ _ => F5); (rename News _ _ _ _ => N5)
              have hN9 : ∀ p ∈ nx27, _ := fun p hp => (N5 p hp).1
              obtain ⟨as1, hra1⟩ := reads_pairs hN9 hp27b
              obtain ⟨as2, hra2⟩ := reads_pairs hN9 hp27
              refine eq_dataH (reads_list_at (N5 _ hB27).1 rfl rfl hra1) (reads_list_at (N5 _ hq27).1 rfl rfl hra2) (dTexts_shaped _ hcl) (dTexts_shaped _ hcl) (by ktr_units) ?_
              rw [SeqAt.eqv_refl (.list (dTexts kvs27)) (show PyData.canLayAll0 (dTexts kvs27) = true from dTexts_lay _ hcl)]
              have hPT21 : (223, tabObj psT) ∈ nx27 := hK27 (223, tabObj psT) (.tail _ (.tail _ (hK21 _ (.tail _ (.tail _ (.tail _ hPT'))) (fun _ h => nomatch h)))) (fun _ h => nomatch h)
              obtain ⟨psF, hpsF, -⟩ := hF'
              have hPF21 : (216, tabObj psF) ∈ nx27 := hK27 (216, tabObj psF) (.tail _ (.tail _ (hK21 _ (.tail _ (.tail _ (.tail _ hpsF))) (fun _ h => nomatch h)))) (fun _ h => nomatch h)
              first | walk1 | (k_unfold; (try dsimp only); walk1) | (dsimp only; k_unfold; (try dsimp only); walk1)
              · clear hra1 hra2 hN9
                refine goodW_bool F5 ?gb1 (raisesW_false ?gb2) ?gb3
                case gb1 => assumption
                case gb2 => wrow_none_raised
                case gb3 => wrow_post
              · exact ⟨⟨_, (N5 _ hPT21).1⟩, ⟨_, (N5 _ hPF21).1⟩, True.intro⟩)
end
end Mine
end
set_option maxRecDepth 100000 in
theorem PySem.Challenge.cw_uc0029_01_holds : PySem.Challenge.rw_uc0029_01.Holds := by
  exact Mine.lawt
