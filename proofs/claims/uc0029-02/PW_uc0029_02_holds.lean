import PyProof.Rows.All
import PyProof.Cells
import PyProof.MinMaxWalk
import PyProof.StrWalks
import PyProof.TupleKey
import PyProof.Rows.EqNone
import PyProof.Rows.StrClose
import PyProof.Rows.SortKeyStr
import PyProof.Rows.SortStrRead
import KE.KItem
import KE.KBytesCut
import KE.KPop
import KE.LcTurns
import KE.KLcTest
import KE.KNest
import KE.KLam
import KE.KEqDat
import KE.KFind
import KE.KItemsList
import KE.KSliceW
import KE.KMulAny
import KE.KSortTup
import KE.KxDecode
import Wide.FinOn
import OpenK.AllK
import Wide.All
import PySem.Challenge.RW_uc0029_02
set_option Elab.async false
set_option compiler.extract_closed false
section
open PySem PySem.W PyProof.Rows
set_option maxRecDepth 100000
set_option maxHeartbeats 8000000
namespace Mine
open_top hd for PySem.Challenge.rw_uc0029_02
end Mine
end
section
open PySem PySem.W PySem.Calls PyProof.Rows Mine
set_option maxRecDepth 100000
namespace Mine
/-- what a call of f does, whoever calls -/
noncomputable def C1 (w : World) (f : Value) (args : List Value) (kw : List (Str × Value)) (need : Nat) (news : List (Addr × Obj)) (Post : List (Addr × Obj) → Value → Prop) : Prop :=
  ∀ (p : Program) (loose : List Str) (mean : ExcName → Option Value) (mg mb : Str → Option Value) (dp un : Nat) (gd : Option (List Code)) (cn : Str) (nm : List (Str × NameKind)) (ig ic : Bool) (mr : List (Str × Const)) (a : Addr) (ccd : Value) (cl : List (Str × Addr)) (outer : List Env) (A₀ : Around) (base h₀ : Heap) (L : Addr) (m : Str → Option Value) (s : Shared) (Q E : Value → Shared → Prop),
   Below A₀ base outer h₀ → Fr h₀ L s.heap m → (hd.heap_39 w.params).In h₀ → News h₀ L s.heap news → Top p loose mean mg mb h₀ → dp + need < recursionLimit → un + 8 * need < cLine →
   (∀ r news' h' tk', Fr h₀ L h' m → News h₀ L h' news' → Post news' r → Q r { s with heap := h', toks := tk' }) →
   wpAny (model PySem.Challenge.rw_uc0029_02.row.prog w) (ktrTop dp un gd cn ⟨.function, nm, ig, ic, mr⟩ L a ccd cl outer) (call f args kw) Q E s
theorem C1.use {w : World} {f : Value} {args : List Value} {kw : List (Str × Value)} {need : Nat} {news : List (Addr × Obj)} {Post : List (Addr × Obj) → Value → Prop} (c : C1 w f args kw need news Post)
   {p : Program} {loose : List Str} {mean : ExcName → Option Value} {mg mb : Str → Option Value} {dp un : Nat} {gd : Option (List Code)} {cn : Str} {nm : List (Str × NameKind)} {ig ic : Bool} {mr : List (Str × Const)} {a : Addr} {ccd : Value} {cl : List (Str × Addr)} {outer : List Env} {A₀ : Around} {base h₀ : Heap} {L : Addr} {m : Str → Option Value} {hp : Heap} {gs : Array GenState} {dr : Drawn} {tk : Nat} {os : OsState} {Q E : Value → Shared → Prop}
   (B : Below A₀ base outer h₀) (F : Fr h₀ L hp m) (X : (hd.heap_39 w.params).In h₀) (N : News h₀ L hp news) (T : Top p loose mean mg mb h₀) (hd : dp + need < recursionLimit) (hu : un + 8 * need < cLine)
   (h : ∀ r news' h' tk', Fr h₀ L h' m → News h₀ L h' news' → Post news' r → Q r ⟨h', gs, dr, tk', os⟩) :
   wpAny (model PySem.Challenge.rw_uc0029_02.row.prog w) (ktrTop dp un gd cn ⟨.function, nm, ig, ic, mr⟩ L a ccd cl outer) (call f args kw) Q E ⟨hp, gs, dr, tk, os⟩ :=
  c p loose mean mg mb dp un gd cn nm ig ic mr a ccd cl outer A₀ base h₀ L m ⟨hp, gs, dr, tk, os⟩ Q E B F X N T hd hu h
theorem room1 {a n k R : Nat} (h : a + n < R) (hk : 1 + k ≤ n) : a + 1 + k < R := by omega
theorem neA {a : Nat} (i j : Nat) (h : i ≠ j) : @Ne Nat (a + i) (a + j) := fun e => h (Nat.add_left_cancel e)
theorem le_big {c : Nat} (h : c < 6) : c ≤ 100000 := Nat.le_trans (Nat.le_of_lt h) (by decide)
theorem none_lt {P : Nat → Prop} : ∀ i, i < 0 → P i := fun _ h => absurd h (Nat.not_lt_zero _)
theorem size6 {k : Nat} (h : k ≤ 6) : k ≤ sizeLine := by rw [sizeLine_eq]; exact Nat.le_trans h (by decide)
theorem big6 {k : Nat} (h : k < 6) : k < 1000 := Nat.lt_trans h (by decide)
theorem five_sub {i j : Nat} (h : j = 5 - i) (hi : i < 6) : (5 : Int) + (i : Int) * -1 = ((j : Nat) : Int) := h ▸ (by decide : ∀ i, i < 6 → (5 : Int) + ((i : Nat) : Int) * -1 = ((5 - i : Nat) : Int)) i hi
theorem neg6 (k : Nat) : -((6 : Nat) : Int) ≤ ((k : Nat) : Int) := Int.le_trans (by decide) (Int.natCast_nonneg k)
theorem lt6 {k : Nat} (h : k < 6) : ((k : Nat) : Int) < ((6 : Nat) : Int) := Int.ofNat_lt.mpr h
theorem room0 {a n R : Nat} (h : a + n < R) : a < R := Nat.lt_of_le_of_lt (Nat.le_add_right _ _) h
theorem room4 {a k R : Nat} (h : a + (k + 4) < R) : a + 1 + k < R := by omega
theorem room8 {a k R : Nat} (h : a + (k + 8) < R) : a + 1 + k < R := by omega
theorem room48 {a k R : Nat} (h : a + (k + 8) < R) : a + 1 + (k + 4) < R := by omega
theorem units4 {a k R : Nat} (h : a + 8 * (k + 4) < R) : a + 3 + 8 * k < R := by omega
theorem units8 {a k R : Nat} (h : a + 8 * (k + 8) < R) : a + 3 + 8 * k < R := by omega
theorem units48 {a k R : Nat} (h : a + 8 * (k + 8) < R) : a + 3 + 8 * (k + 4) < R := by omega
theorem units1 {a n k R : Nat} (h : a + 8 * n < R) (hk : 3 + 8 * k ≤ 8 * n) : a + 3 + 8 * k < R := by omega
theorem news_drop {h₀ h : Heap} {L : Addr} {news news' : List (Addr × Obj)} (N : News h₀ L h news') (hs : ∀ p ∈ news, p ∈ news') : News h₀ L h news := fun p hp => N p (hs p hp)
end Mine
end
section
open PySem PySem.W PySem.Calls PyProof.Rows
set_option maxRecDepth 100000
namespace Mine
/-- a text of plain letters -/
noncomputable def Clean (v : Str) : Prop := v.cps.size ≤ 1000 ∧ ∀ c ∈ v.cps, 65 ≤ c ∧ c ≤ 122
section sre
open PySem.Sre
noncomputable abbrev FirstInfo (code : Array Nat) : Prop := ops[code.getD 0 0]? = some .INFO
noncomputable def codeN : Array Nat := #[14, 10, 4, 1, 1, 22, 0, 31, 16, 127, 0, 13, 7, 22, 0, 31, 16, 127, 0, 1]
noncomputable def codeV : Array Nat := #[14, 14, 4, 1, 1, 9, 4294966783, 0, 0, 2147483648, 0, 0, 0, 0, 0, 13, 11, 9, 4294966783, 0, 0, 2147483648, 0, 0, 0, 0, 0, 1]
theorem inSetN {c : Nat} (h : 65 ≤ c ∧ c ≤ 122) (seen : Sre.Seen) : ∃ s', inSet codeN c codeN.size 5 true seen = .ok (false, s') := by
  refine ⟨((seen.add 22).add 16).add 0, ?_⟩
  have h1 : ¬ (c ≤ 31) := by omega
  have h2 : ¬ (c = 127) := by omega
  show inSet codeN c 20 5 true seen = _
  simp [inSet, codeN, ops, h1, h2]
theorem bitV : ∀ c : Fin 123, 65 ≤ c.val → (codeV.getD (5 + (1 + c.val / 32)) 0).testBit (c.val % 32) = false := by decide +kernel
theorem inSetV {c : Nat} (h : 65 ≤ c ∧ c ≤ 122) (seen : Sre.Seen) : ∃ s', inSet codeV c codeV.size 5 true seen = .ok (false, s') := by
  refine ⟨(seen.add 9).add 0, ?_⟩
  have h1 := bitV ⟨c, by omega⟩ h.1
  show inSet codeV c 28 5 true seen = _
  unfold inSet
  dsimp only
  rw [show (1 + c / 32) = (1 + (⟨c, by omega⟩ : Fin 123).val / 32) from rfl, show (c % 32) = ((⟨c, by omega⟩ : Fin 123).val % 32) from rfl, h1]
  simp [inSet, codeV, ops]
theorem admitted_none {code text : Array Nat} (hs : ∀ c, 65 ≤ c ∧ c ≤ 122 → ∀ seen, ∃ s', inSet code c code.size 5 true seen = .ok (false, s')) (ht : ∀ c ∈ text, 65 ≤ c ∧ c ≤ 122)
    (m : M) (hc : m.code = code) (hx : m.text = text) (hl : m.lim = text.size) : ∀ (fuel s : Nat) (seen : Sre.Seen), ∃ s', m.admitted fuel s seen = .ok (none, s') := by
  intro fuel
  induction fuel with
  | zero => intro s seen; exact ⟨seen, rfl⟩
  | succ n ih =>
    intro s seen
    unfold M.admitted
    by_cases h : s ≥ m.lim
    · rw [if_pos h]; exact ⟨_, rfl⟩
    · rw [if_neg h]
      have hlt : s < text.size := by omega
      have hcs : 65 ≤ text.getD s 0 ∧ text.getD s 0 ≤ 122 := by
        have e : text.getD s 0 = text[s] := by simp [Array.getD, hlt]
        rw [e]; exact ht _ (Array.getElem_mem hlt)
      obtain ⟨s', e⟩ := hs _ hcs seen
      rw [hc, hx, e]
      exact ih _ _
theorem last_fails : ∀ m : M, m.answer = some false → m.frames = [] → m.outcome = none → (m.runFor 4).outcome = some .failed := by
  intro m ha hf ho
  simp [M.runFor, M.step, ha, hf, ho]
theorem attempt_fails {code text : Array Nat} (hs : ∀ c, 65 ≤ c ∧ c ≤ 122 → ∀ seen, ∃ s', inSet code c code.size 5 true seen = .ok (false, s')) (ht : ∀ c ∈ text, 65 ≤ c ∧ c ≤ 122)
    (h1 : FirstInfo code) (h2 : code.getD 2 0 = 4) (m : M) (hc : m.code = code) (hx : m.text = text) (hl : m.lim = text.size) (hf : m.frames = []) (ho : m.outcome = none) :
    ((m.attemptFrom 0 true).runFor 4).outcome = some .failed := by
  unfold M.attemptFrom
  have e1 : m.hasFirstSet = true := by unfold M.hasFirstSet; rw [hc, h2, show ops[code.getD 0 0]? = some .INFO from h1]; rfl
  rw [e1]
  obtain ⟨s', e⟩ := admitted_none hs ht m hc hx hl (m.lim + 1 - 0) 0 m.seen
  rw [e]
  exact last_fails _ rfl hf ho
theorem search_fails {code text : Array Nat} (hs : ∀ c, 65 ≤ c ∧ c ≤ 122 → ∀ seen, ∃ s', inSet code c code.size 5 true seen = .ok (false, s')) (ht : ∀ c ∈ text, 65 ≤ c ∧ c ≤ 122)
    (h1 : FirstInfo code) (h2 : code.getD 2 0 = 4) :
    ((forSearch code text 0 0 text.size false).runFor 4).outcome = some .failed := by
  unfold forSearch
  dsimp only
  split
  · exact last_fails _ rfl rfl rfl
  · exact attempt_fails hs ht h1 h2 _ rfl rfl rfl rfl rfl
end sre
section
open Builtin Builtin.Re
theorem plainAttrs_re : PlainAttrs "re.Pattern" :=
  ⟨⟨"object.__getattribute__", by rw [typeLookup_type, builtinLookup_eq_fast]; kernel_rfl, by decide +kernel⟩, by rw [typeLookup_type, builtinLookup_eq_fast]; kernel_rfl⟩
theorem slot_re_search : Slot "re.Pattern" "search" "re.Pattern.search" :=
  .of (owner := "re.Pattern") (n := "search") (by rw [typeLookup_type, builtinLookup_eq_fast]; kernel_rfl) (by decide +kernel) (by decide +kernel) (by decide +kernel)
    (by first | exact .inl (by decide +kernel) | exact .inr (by decide +kernel)) (by rw [isSubtype_type]; kernel_rfl)
theorem type_re_search : typeOf (.builtin "re.Pattern.search") = pure (.type "method_descriptor") := by show builtinType _ = _; rw [builtinType_eq_fast]; kernel_rfl
theorem entry_re_search : entryFor table "re.Pattern.search" = some Builtin.«re.Pattern.search» := entryFor_of_tree (by kernel_rfl)
theorem args_re_search (a : Addr) (x : Str) (t : Tok) : argsOk "re.Pattern.search" ⟨[.ref a, .str x t], []⟩ := by unfold argsOk; kernel_rfl
theorem named_search (x : Str) (t : Tok) : reNamed "re.Pattern.search" "search" ["string", "pos", "endpos"] 1 [.str x t] [] = pure [some (.str x t), none, none] := by rfl
end
end Mine
end
section
open PySem PySem.W PySem.Calls PyProof.Rows
set_option maxRecDepth 100000
namespace Mine
section
open Builtin Builtin.Re
variable {prog : Program} {w : World} {M : Model} {A : Around} {E : Value → Shared → Prop} {s : Shared}
theorem drive_one {turns : Nat} {m : Sre.M} {Q : Sre.M → Shared → Prop} (h : (m.runFor 4).outcome.isSome = true) (hQ : Q (m.runFor 4) s) : wpAny M A (reDrive (turns + 1) m) Q E s := by
  unfold reDrive
  dsimp only
  rw [show reTurnSteps = 4 from rfl, if_pos h]
  exact wpAny_pure hQ
theorem rules_pass (f : Nat → Bool) (g : Nat → String) : ∀ (l : List Nat) {Q : PUnit → Shared → Prop}, Q ⟨⟩ s → wpAny M A (forIn l PUnit.unit (fun i _ => if f i = true then (do rule (g i); pure (ForInStep.yield PUnit.unit)) else pure (ForInStep.yield PUnit.unit))) Q E s
  | [], Q, h => wpAny_pure h
  | i :: r, Q, h => by
    rw [List.forIn_cons]
    refine wpAny_bind ?_
    split
    · exact wpAny_bind (wpAny_rule (wpAny_pure (rules_pass f g r h)))
    · exact wpAny_pure (rules_pass f g r h)
theorem run_fails {m : Sre.M} {Q : Option Sre.M → Shared → Prop} (h : (m.runFor 4).outcome = some .failed) (hQ : Q none s) : wpAny M A (reRunToEnd m) Q E s := by
  unfold reRunToEnd
  refine wpAny_bind ?_
  have e : (2 ^ 64 : Nat) = (2 ^ 64 - 1) + 1 := by decide
  rw [e]
  refine drive_one (by rw [h]; rfl) ?_
  refine wpAny_bind ?_
  refine rules_pass (fun i => (m.runFor 4).seen.has i) (fun i => Sre.names.getD i "") _ ?_
  rw [h]
  exact wpAny_pure hQ
theorem re_search_none {a ct : Addr} {p₀ : Value} {f1 : Int} {t1 t2 t6 : Tok} {items : Array Value} {n : Nat} {oc : Obj} {x : Str} {t : Tok} {code : Array Nat} {Q : Value → Shared → Prop}
    (hp : s.heap.get? a = some { cls := .type "re.Pattern", data := .fields #[p₀, .int f1 t1, .int 0 t2, .none, .none, .ref ct, .int 0 t6] }) (hc : s.heap.get? ct = some oc) (hd : oc.data = .seq items n)
    (hcode : (items.map reRawOf).map (·.toNat) = code)
    (hs : ∀ c, 65 ≤ c ∧ c ≤ 122 → ∀ seen, ∃ s', Sre.inSet code c code.size 5 true seen = .ok (false, s')) (h1 : FirstInfo code) (h2 : code.getD 2 0 = 4) (hx : Clean x) (h : Q .none s) :
    wpAny (model prog w) A (call (.builtin "re.Pattern.search") [.ref a, .str x t]) Q E s := by
  refine wpAny_call_entry slot_re_search ⟨_, hp, rfl⟩ entry_re_search ?_ (args_re_search _ _ _)
  unfold «re.Pattern.search»
  refine wpAny_bind ?_
  unfold reTarget
  show wpAny _ _ (reNamed "re.Pattern.search" "search" ["string", "pos", "endpos"] 1 [.str x t] [] >>= _) _ _ _
  rw [named_search]
  refine wpAny_bind (wpAny_pure ?_)
  dsimp only
  refine wpAny_bind (wpAny_pure ?_)
  refine wpAny_bind (wpAny_pure ?_)
  refine wpAny_bind (wpAny_fieldsOf hp rfl ?_)
  refine wpAny_bind ?_
  refine wpAny_mono (Q := fun r s' => r = (x.cps, 0) ∧ s' = s) (E := fun _ _ => False) ?_ ?_ (fun _ _ e => e.elim)
  · unfold reTextOf
    exact wpAny_bind (wpAny_pure (wpAny_pure ⟨rfl, rfl⟩))
  rintro r s' ⟨rfl, rfl⟩
  show wpAny _ _ (do
      reNoCollectionInside (Value.str x t) 0
      let __do_lift ← reRawItems (.ref ct)
      pure ({ pattern := Value.ref a, string := Value.str x t, code := Array.map (fun x => x.toNat) __do_lift, text := x.cps, kind := 0, groups := 0, pos := Min.min (Int.toNat 0) x.cps.size, lim := Min.min (2 ^ 63 - 1 : Int).toNat x.cps.size } : ReTarget)) _ _ _
  refine wpAny_bind (wpAny_pure ?_)
  refine wpAny_bind ?_
  unfold reRawItems
  refine wpAny_bind (wpAny_seqItems hc hd ?_)
  refine wpAny_pure (wpAny_pure ?_)
  show wpAny _ _ (reAnswer _ (Sre.forSearch ((items.map reRawOf).map (·.toNat)) x.cps 0 (Min.min (Int.toNat 0) x.cps.size) (Min.min (2 ^ 63 - 1 : Int).toNat x.cps.size) false)) _ _ _
  have e1 : Min.min (Int.toNat 0) x.cps.size = 0 := by simp
  have e2 : Min.min (2 ^ 63 - 1 : Int).toNat x.cps.size = x.cps.size := by
    have := hx.1
    have : (2 ^ 63 - 1 : Int).toNat = 9223372036854775807 := by decide
    omega
  rw [hcode, e1, e2]
  unfold reAnswer
  exact wpAny_bind (run_fails (search_fails hs hx.2 h1 h2) (wpAny_pure ⟨_, rfl, h⟩))
end
end Mine
end
section
open PySem PySem.W PySem.Calls PyProof.Rows
set_option maxRecDepth 100000
namespace Mine
section
variable {prog : Program} {w : World} {M : Model} {A : Around} {E : Value → Shared → Prop} {s : Shared} {K : Frag} {h₀ : Heap} {L a ct : Addr} {m : Str → Option Value}
theorem re_method_K {d : Data} {pl : Sem Bool} {Q : Value × List Value → Shared → Prop} (F : Fr h₀ L s.heap m) (X : K.In h₀) (hl : K.lookup a = some { cls := .type "re.Pattern", data := d }) (h : Q (.builtin "re.Pattern.search", [.ref a]) s) :
    wpAny M A (getMethod (.ref a) "search" pl) Q E s :=
  getMethod_builtin ⟨_, (X.keeps F.keep) _ _ hl, rfl⟩ plainAttrs_re slot_re_search type_re_search (fun b e => ⟨_, by cases e; exact (X.keeps F.keep) _ _ hl, rfl⟩) h
noncomputable def codeOf (items : Array Value) : Array Nat := (items.map Builtin.Re.reRawOf).map (·.toNat)
theorem re_search_K {p₀ : Value} {f1 : Int} {t1 t2 t6 : Tok} {items : Array Value} {n : Nat} {x : Str} {t : Tok} {Q : Value → Shared → Prop} (F : Fr h₀ L s.heap m) (X : K.In h₀)
    (hl : K.lookup a = some { cls := .type "re.Pattern", data := .fields #[p₀, .int f1 t1, .int 0 t2, .none, .none, .ref ct, .int 0 t6] }) (hc : K.lookup ct = some { cls := .type "tuple", data := .seq items n })
    (hcode : codeOf items = codeN ∨ codeOf items = codeV) (hx : Clean x) (h : Q .none s) :
    wpAny (model prog w) A (call (.builtin "re.Pattern.search") [.ref a, .str x t]) Q E s := by
  rcases hcode with hcode | hcode
  · exact re_search_none ((X.keeps F.keep) _ _ hl) ((X.keeps F.keep) _ _ hc) rfl hcode (fun c h seen => inSetN h seen) rfl rfl hx h
  · exact re_search_none ((X.keeps F.keep) _ _ hl) ((X.keeps F.keep) _ _ hc) rfl hcode (fun c h seen => inSetV h seen) rfl rfl hx h
end
end Mine
end
section
open PySem PySem.W PySem.Calls PyProof.Rows
set_option maxRecDepth 100000
namespace Mine
theorem newsName {h₀ h : Heap} {L : Addr} {nx : List (Addr × Obj)} (_N : News h₀ L h nx) : ∃ X, nx = X := ⟨_, rfl⟩
noncomputable def Hold (P : Prop) : Prop := P
theorem Hold.out {P : Prop} (h : Hold P) : P := h
noncomputable def ForStep (h₀ : Heap) (L : Addr) (s : Shared) (I : Addr) (J : Nat → (Str → Option Value) → List (Addr × Obj) → Prop) (Q : Flow → Shared → Prop) (i : Nat) (io : Obj) (f : Flow) (s₃ : Shared) : Prop :=
  match f with
  | .next | .cont => ∃ h' tk m₂ news₂, s₃ = { s with heap := h', toks := tk } ∧ Fr h₀ L h' m₂ ∧ News h₀ L h' ((I, io) :: news₂) ∧ (∀ p ∈ news₂, p.1 ≠ I) ∧ J (i + 1) m₂ news₂
  | .brk => Q .next s₃
  | .ret v => Q (.ret v) s₃
theorem ForStep.next {h₀ : Heap} {L : Addr} {s : Shared} {I : Addr} {J : Nat → (Str → Option Value) → List (Addr × Obj) → Prop} {Q : Flow → Shared → Prop} {i : Nat} {io : Obj} {h' : Heap} {tk : Nat} {m₂ : Str → Option Value} {news₂ news' : List (Addr × Obj)}
    (F : Fr h₀ L h' m₂) (N : News h₀ L h' news') (hN : ∀ p ∈ (I, io) :: news₂, p ∈ news') (hI : ∀ p ∈ news₂, p.1 ≠ I) (hJ : J (i + 1) m₂ news₂) : ForStep h₀ L s I J Q i io .next { s with heap := h', toks := tk } :=
  ⟨h', tk, m₂, news₂, rfl, F, fun p hp => N p (hN p hp), hI, hJ⟩
theorem ForStep.cont {h₀ : Heap} {L : Addr} {s : Shared} {I : Addr} {J : Nat → (Str → Option Value) → List (Addr × Obj) → Prop} {Q : Flow → Shared → Prop} {i : Nat} {io : Obj} {h' : Heap} {tk : Nat} {m₂ : Str → Option Value} {news₂ news' : List (Addr × Obj)}
    (F : Fr h₀ L h' m₂) (N : News h₀ L h' news') (hN : ∀ p ∈ (I, io) :: news₂, p ∈ news') (hI : ∀ p ∈ news₂, p.1 ≠ I) (hJ : J (i + 1) m₂ news₂) : ForStep h₀ L s I J Q i io .cont { s with heap := h', toks := tk } :=
  ⟨h', tk, m₂, news₂, rfl, F, fun p hp => N p (hN p hp), hI, hJ⟩

theorem frPut {h₀ h : Heap} {L : Addr} {m : Str → Option Value} {x : Str} {v : Value} (F : Fr h₀ L h m) (e : m x = some v) : Fr h₀ L h (fun y => if y = x then some v else m y) := by
  have : (fun y => if y = x then some v else m y) = m := by
    funext y
    by_cases hy : y = x
    · rw [if_pos hy, hy, e]
    · rw [if_neg hy]
  rw [this]; exact F
theorem frPut2 {h₀ h : Heap} {L : Addr} {m : Str → Option Value} {x1 x2 : Str} {v1 v2 : Value} (F : Fr h₀ L h m) (e1 : m x1 = some v1) (e2 : m x2 = some v2) : Fr h₀ L h (fun y => if y = x1 then some v1 else if y = x2 then some v2 else m y) := by
  have : (fun y => if y = x1 then some v1 else if y = x2 then some v2 else m y) = m := by
    funext y
    (repeat' split) <;> first | rfl | (subst_vars; symm; assumption) | simp_all
  rw [this]; exact F
theorem frPut3 {h₀ h : Heap} {L : Addr} {m : Str → Option Value} {x1 x2 x3 : Str} {v1 v2 v3 : Value} (F : Fr h₀ L h m) (e1 : m x1 = some v1) (e2 : m x2 = some v2) (e3 : m x3 = some v3) : Fr h₀ L h (fun y => if y = x1 then some v1 else if y = x2 then some v2 else if y = x3 then some v3 else m y) := by
  have : (fun y => if y = x1 then some v1 else if y = x2 then some v2 else if y = x3 then some v3 else m y) = m := by
    funext y
    (repeat' split) <;> first | rfl | (subst_vars; symm; assumption) | simp_all
  rw [this]; exact F
theorem frPut4 {h₀ h : Heap} {L : Addr} {m : Str → Option Value} {x1 x2 x3 x4 : Str} {v1 v2 v3 v4 : Value} (F : Fr h₀ L h m) (e1 : m x1 = some v1) (e2 : m x2 = some v2) (e3 : m x3 = some v3) (e4 : m x4 = some v4) : Fr h₀ L h (fun y => if y = x1 then some v1 else if y = x2 then some v2 else if y = x3 then some v3 else if y = x4 then some v4 else m y) := by
  have : (fun y => if y = x1 then some v1 else if y = x2 then some v2 else if y = x3 then some v3 else if y = x4 then some v4 else m y) = m := by
    funext y
    (repeat' split) <;> first | rfl | (subst_vars; symm; assumption) | simp_all
  rw [this]; exact F
theorem frPut5 {h₀ h : Heap} {L : Addr} {m : Str → Option Value} {x1 x2 x3 x4 x5 : Str} {v1 v2 v3 v4 v5 : Value} (F : Fr h₀ L h m) (e1 : m x1 = some v1) (e2 : m x2 = some v2) (e3 : m x3 = some v3) (e4 : m x4 = some v4) (e5 : m x5 = some v5) : Fr h₀ L h (fun y => if y = x1 then some v1 else if y = x2 then some v2 else if y = x3 then some v3 else if y = x4 then some v4 else if y = x5 then some v5 else m y) := by
  have : (fun y => if y = x1 then some v1 else if y = x2 then some v2 else if y = x3 then some v3 else if y = x4 then some v4 else if y = x5 then some v5 else m y) = m := by
    funext y
    (repeat' split) <;> first | rfl | (subst_vars; symm; assumption) | simp_all
  rw [this]; exact F
theorem allLt_mem {d : Addr} : ∀ {l : List (Addr × Obj)}, AllLt d l → ∀ p ∈ l, p.1 < d
  | [], _, _, h => nomatch h
  | _ :: _, x, p, h => by
    rcases List.mem_cons.mp h with rfl | h
    · exact x.1
    · exact allLt_mem x.2 p h
theorem allLt_ne {d e : Nat} {l : List (Addr × Obj)} (h : AllLt d l) (he : d ≤ e) : ∀ p ∈ l, p.1 ≠ e := fun p hp => Nat.ne_of_lt (Nat.lt_of_lt_of_le (allLt_mem h p hp) he)
section
variable {prog : Program} {w : World} {A : Around} {E : Value → Shared → Prop} {s : Shared} {env : Env} {h₀ : Heap} {target : Expr} {body : List Stmt} {Q : Flow → Shared → Prop}
inductive ForAt (prog : Program) (w : World) (A : Around) (h₀ : Heap) (env : Env) (target : Expr) (body : List Stmt) (Q : Flow → Shared → Prop) (E : Value → Shared → Prop) (it : Value) (s₂ : Shared) : Prop
  | mk (I : Addr) (fp : List Addr) (n : Nat) (P : Nat → Value → Prop) (St : Nat → Heap → Prop) (m : Str → Option Value) (news : List (Addr × Obj)) (J : Nat → (Str → Option Value) → List (Addr × Obj) → Prop)
    (eq : it = .ref I) (walks : Walks prog w A I fp [I] n P St) (has : ∃ io, s₂.heap.get? I = some io) (ne : env.locals ≠ I) (fresh : h₀.get? I = none) (off : ∀ p ∈ news, p.1 ≠ I)
    (reads : ∀ b ∈ fp, b = I ∨ (∃ o, h₀.get? b = some o) ∨ (∃ o, ∀ i m nx, J i m nx → (b, o) ∈ nx)) (st : St 0 s₂.heap) (F : Fr h₀ env.locals s₂.heap m) (N : News h₀ env.locals s₂.heap news) (hJ : J 0 m news)
    (hio : ∀ i h, St i h → ∃ io, h.get? I = some io)
    (hgo : ∀ i (s' : Shared) v (Q' : Unit → Shared → Prop), St i s'.heap → Q' () s' → wpAny (model prog w) A (letOwnedTupleGo target (.ref I) v) Q' E s')
    (turn : ∀ i v m₁ nx h tk io, i < n → P i v → J i m₁ nx → (∀ p ∈ nx, p.1 ≠ I) → St (i + 1) h → Fr h₀ env.locals h m₁ → News h₀ env.locals h ((I, io) :: nx) →
      wpAny (model prog w) A (assign target env v) (fun _ s' => wpAny (model prog w) A (execs body env) (ForStep h₀ env.locals { s₂ with heap := h, toks := tk } I J Q i io) E s') E { s₂ with heap := h, toks := tk })
    (done : ∀ m₁ nx h tk, J n m₁ nx → Fr h₀ env.locals h m₁ → News h₀ env.locals h nx → Q .next { s₂ with heap := h, toks := tk }) : ForAt prog w A h₀ env target body Q E it s₂

/-- between the turns -/
inductive LoopF (h₀ : Heap) (L : Addr) (s₂ : Shared) (I : Addr) (J : Nat → (Str → Option Value) → List (Addr × Obj) → Prop) (St : Nat → Heap → Prop) (n k : Nat) (s' : Shared) : Prop where
  | intro (h' : Heap) (tk : Nat) (m' : Str → Option Value) (nx : List (Addr × Obj)) (i : Nat) : s' = { s₂ with heap := h', toks := tk } → St i h' → Fr h₀ L h' m' → News h₀ L h' nx → (∀ p ∈ nx, p.1 ≠ I) → J i m' nx → i ≤ n → k = n + 1 - i → LoopF h₀ L s₂ I J St n k s'
theorem step_f {n i : Nat} (h : i < n) : n + 1 - (i + 1) < n + 1 - i := by rw [Nat.add_sub_add_right]; exact Nat.sub_lt_sub_right (Nat.le_of_lt h) (Nat.lt_succ_self n)
theorem For_my {iter : Expr} {pos : Pos} (h₀ : Heap)
    (h : wpAny (model prog w) A (eval iter env) (fun xv s₁ => wpAny (model prog w) A (pyIter xv) (fun it s₂ => ForAt prog w A h₀ env target body Q E it s₂) E s₁) E s)
    (hs : ∀ x, foldedSetIterable iter env x = pure x := by intro _; rfl)
    (hE : PassesOwn (model prog w) A env E := by passes_own) :
    wpAny (model prog w) A (exec (.For target iter body [] pos) env) Q E s := by
  refine wpAny_For (wpAny_mono h (fun xv s₁ h₁ => wpAny_mono h₁ (fun it s₂ h₂ => ?_) fun _ _ e => e) fun _ _ e => e) hs
  obtain ⟨I, fp, n, P, St, m, news, J, rfl, W, -, hLI, hI0, hnI, hfp, hst, F, N, hJ, hio, hgo, turn, done⟩ := h₂
  have old : ∀ b o, h₀.get? b = some o → b ∉ [I] := fun b o e hb => by rw [List.mem_singleton.mp hb, hI0] at e; cases e
  have hLw : env.locals ∉ [I] := fun h => hLI (List.mem_singleton.mp h)
  refine codeAny_forLoop_any
    (LoopF h₀ env.locals s₂ I J St n) ?_ (n + 1)
    ⟨s₂.heap, s₂.toks, m, news, 0, rfl, hst, F, N, hnI, hJ, Nat.zero_le _, rfl⟩
  rintro k s' ⟨h', tk, m', nx, i, rfl, hst', F', N', hnx, hJ', hi, rfl⟩
  have next : ∀ h₁ : Heap, (∀ b o, b ∉ [I] → h'.get? b = some o → h₁.get? b = some o) → Fr h₀ env.locals h₁ m' ∧ News h₀ env.locals h₁ nx := fun h₁ hk₁ =>
    ⟨⟨F'.ns.at' fun o e => hk₁ _ o hLw e, fun b o e => hk₁ b o (old b o e) (F'.keep b o e), F'.above⟩, fun p hp => ⟨hk₁ _ _ (fun e => hnx p hp (List.mem_singleton.mp e)) (N' p hp).1, (N' p hp).2⟩⟩
  by_cases hlt : i < n
  · refine W.item i _ _ _ hlt hst' fun v h₁ tk₁ hP hst₁ hk₁ => ?_
    obtain ⟨F₁, N₁⟩ := next h₁ hk₁
    obtain ⟨io, hio₁⟩ := hio _ _ hst₁
    have N₂ : News h₀ env.locals h₁ ((I, io) :: nx) := fun p hp => by
      rcases List.mem_cons.mp hp with rfl | hp
      · exact ⟨hio₁, fun e => hLI e.symm, hI0⟩
      · exact N₁ p hp
    refine wpAny_mono (hgo (i + 1) _ v (fun _ s' => s' = { s₂ with heap := h₁, toks := tk₁ }) hst₁ rfl) (fun _ s' e => ?_) hE
    subst e
    have fin : ∀ s₃, (∃ h' tk m₂ news₂, s₃ = { s₂ with heap := h', toks := tk } ∧ Fr h₀ env.locals h' m₂ ∧ News h₀ env.locals h' ((I, io) :: news₂) ∧ (∀ p ∈ news₂, p.1 ≠ I) ∧ J (i + 1) m₂ news₂) →
        ∃ m, m < n + 1 - i ∧ LoopF h₀ env.locals s₂ I J St n m s₃ := by
      rintro s₃ ⟨h₃, tk₃, m₂, news₂, rfl, F₃, N₃, hI₃, hJ₃⟩
      refine ⟨n + 1 - (i + 1), step_f hlt, h₃, tk₃, m₂, news₂, i + 1, rfl, ?_, F₃, fun p hp => N₃ p (.tail _ hp), hI₃, hJ₃, hlt, rfl⟩
      refine W.frame _ _ _ hst₁ fun b hb o e => ?_
      rcases hfp b hb with rfl | ⟨o', ho'⟩ | ⟨o', ho'⟩
      · rw [hio₁] at e; cases e
        exact (N₃ _ (.head _)).1
      · have := F₁.keep b o' ho'
        rw [e] at this; cases this
        exact F₃.keep b _ ho'
      · have := (N₁ _ (ho' _ _ _ hJ')).1
        rw [e] at this; cases this
        exact (N₃ _ (.tail _ (ho' _ _ _ hJ₃))).1
    refine wpAny_mono (turn i v m' nx h₁ tk₁ io hlt hP hJ' hnx hst₁ F₁ N₂) (fun _ s₃ h₃ => wpAny_mono h₃ (fun f s₄ h₄ => ?_) hE) hE
    cases f with
    | ret v => exact h₄
    | brk => exact h₄
    | next => exact fin _ h₄
    | cont => exact fin _ h₄
  · have hin : i = n := Nat.le_antisymm hi (Nat.not_lt.mp hlt)
    subst hin
    refine W.done _ _ _ hst' fun h₁ tk₁ hk₁ => wpAny_execs_nil ?_
    obtain ⟨F₁, N₁⟩ := next h₁ hk₁
    exact done _ _ _ _ hJ' F₁ N₁
theorem For_myF {iter : Expr} {pos : Pos} {h₀ : Heap} {L : Addr} {hh : Heap} {m : Str → Option Value} (_F : Fr h₀ L hh m)
    (h : wpAny (model prog w) A (eval iter env) (fun xv s₁ => wpAny (model prog w) A (pyIter xv) (fun it s₂ => ForAt prog w A h₀ env target body Q E it s₂) E s₁) E s)
    (hs : ∀ x, foldedSetIterable iter env x = pure x := by intro _; rfl)
    (hE : PassesOwn (model prog w) A env E := by passes_own) :
    wpAny (model prog w) A (exec (.For target iter body [] pos) env) Q E s := For_my h₀ h hs hE
theorem letGo_list {I t : Addr} {i : Nat} {v : Value} {Q' : Unit → Shared → Prop} {s' : Shared} (hit : s'.heap.IsListIter I t i) (h : Q' () s') :
    wpAny (model prog w) A (letOwnedTupleGo target (.ref I) v) Q' E s' := by
  obtain ⟨o, ho, hc, hd⟩ := hit
  unfold letOwnedTupleGo
  cases target <;> first
    | exact wpAny_pure h
    | (cases v <;> first
        | exact wpAny_pure h
        | (refine wpAny_bind (wpAny_load ho ?_)
           rw [hc, hd]
           exact wpAny_pure h))
theorem letGo_range {I : Addr} {a b c : Int} {v : Value} {Q' : Unit → Shared → Prop} {s' : Shared} (hit : IsRangeIter s'.heap I a b c) (h : Q' () s') :
    wpAny (model prog w) A (letOwnedTupleGo target (.ref I) v) Q' E s' := by
  unfold letOwnedTupleGo
  cases target <;> first
    | exact wpAny_pure h
    | (cases v <;> first
        | exact wpAny_pure h
        | (refine wpAny_bind (wpAny_load hit ?_)
           exact wpAny_pure h))
/-- a loop over a list of the ledger that the loop leaves alone -/
theorem Iter_list_my {m : Str → Option Value} {news : List (Addr × Obj)} {l : Addr} {vs : List Value} {k : Nat} (J : Nat → (Str → Option Value) → List (Addr × Obj) → Prop)
    (hh : A.handled = none) (F : Fr h₀ env.locals s.heap m) (N : News h₀ env.locals s.heap news) (hl : ∀ i m nx, J i m nx → (l, listOf vs.toArray k) ∈ nx) (hJ : J 0 m news)
    (turn : ∀ I i v m₁ nx h tk io, vs[i]? = some v → J i m₁ nx → (∀ p ∈ nx, p.1 ≠ I) → Fr h₀ env.locals h m₁ → News h₀ env.locals h ((I, io) :: nx) →
      wpAny (model prog w) A (assign target env v) (fun _ s' => wpAny (model prog w) A (execs body env) (ForStep h₀ env.locals { s with heap := h, toks := tk } I J Q i io) E s') E { s with heap := h, toks := tk })
    (done : ∀ m₁ nx h tk, J vs.length m₁ nx → Fr h₀ env.locals h m₁ → News h₀ env.locals h nx → Q .next { s with heap := h, toks := tk }) :
    wpAny (model prog w) A (pyIter (.ref l)) (fun it s₂ => ForAt prog w A h₀ env target body Q E it s₂) E s := by
  have hl0 := hl _ _ _ hJ
  have hls : s.heap.IsList l vs.toArray := ⟨_, (N _ hl0).1, rfl, k, rfl⟩
  have hlt : l < s.heap.objs.size := Heap.lt_size (N _ hl0).1
  refine wpAny_pyIter_list hls ?_
  have W := Walks.list (prog := prog) (w := w) hh s.heap.objs.size l (Nat.ne_of_lt hlt) vs.toArray
  rw [show vs.toArray.size = vs.length from by simp] at W
  refine ⟨_, _, vs.length, _, _, m, news, J, rfl, W, ⟨_, Heap.get?_push_size _ rfl⟩, Nat.ne_of_lt F.ns.lt, next_is_new F, (fun p hp e => absurd (Heap.lt_size (N p hp).1) (e ▸ Nat.lt_irrefl _)), ?_, ⟨⟨_, Heap.get?_push_size _ rfl, rfl, rfl⟩, hls.at fun o e => Heap.get?_push_of_some _ e⟩, F.push _, (fun p hp => ⟨Heap.get?_push_of_some _ (N p hp).1, (N p hp).2⟩), hJ, (fun i h st => let ⟨o, ho, _⟩ := st.1; ⟨o, ho⟩), (fun i s' v Q' st hq => letGo_list st.1 hq), ?_, ?_⟩
  · intro b hb
    rcases List.mem_cons.mp hb with e | hb
    · exact .inl e
    · exact .inr (.inr ⟨_, fun i m nx hj => (List.mem_singleton.mp hb) ▸ hl i m nx hj⟩)
  · intro i v m₁ nx h tk io hi hP hj hnx st F₁ N₁
    exact turn _ i v m₁ nx h tk io (by simpa using hP) hj hnx F₁ N₁
  · exact done
/-- a loop over range(a, b), written or not -/
theorem Iter_range_my {m : Str → Option Value} {news : List (Addr × Obj)} {r : Addr} {a b c : Int} {t u v : Tok} {n : Nat} (J : Nat → (Str → Option Value) → List (Addr × Obj) → Prop)
    (hh : A.handled = none) (hr : IsRange s.heap r a b c t u v) (hsmall : Builtin.Range.small a b c = true) (hn : Builtin.Range.rangeSize a b c = (n : Int)) (F : Fr h₀ env.locals s.heap m) (N : News h₀ env.locals s.heap news) (hJ : J 0 m news)
    (turn : ∀ I i t m₁ nx h tk io, i < n → J i m₁ nx → (∀ p ∈ nx, p.1 ≠ I) → Fr h₀ env.locals h m₁ → News h₀ env.locals h ((I, io) :: nx) →
      wpAny (model prog w) A (assign target env (.int (a + i * c) t)) (fun _ s' => wpAny (model prog w) A (execs body env) (ForStep h₀ env.locals { s with heap := h, toks := tk } I J Q i io) E s') E { s with heap := h, toks := tk })
    (done : ∀ m₁ nx h tk, J n m₁ nx → Fr h₀ env.locals h m₁ → News h₀ env.locals h nx → Q .next { s with heap := h, toks := tk }) :
    wpAny (model prog w) A (pyIter (.ref r)) (fun it s₂ => ForAt prog w A h₀ env target body Q E it s₂) E s := by
  refine wpAny_pyIter_range hr hsmall ?_
  have W := Walks.range (prog := prog) (w := w) hh s.heap.objs.size a c n
  refine ⟨_, _, n, _, _, m, news, J, rfl, W, ⟨_, Heap.get?_push_size _ rfl⟩, Nat.ne_of_lt F.ns.lt, next_is_new F, (fun p hp e => absurd (Heap.lt_size (N p hp).1) (e ▸ Nat.lt_irrefl _)), ?_, ?_, F.push _, (fun p hp => ⟨Heap.get?_push_of_some _ (N p hp).1, (N p hp).2⟩), hJ, (fun i h st => ⟨_, st⟩), (fun i s' v Q' st hq => letGo_range st hq), ?_, ?_⟩
  · intro b hb
    exact .inl (List.mem_singleton.mp hb)
  · rw [hn]; simpa [IsRangeIter, rawInt] using Heap.get?_push_size _ rfl
  · rintro i v m₁ nx h tk io hi ⟨t, rfl⟩ hj hnx st F₁ N₁
    exact turn _ i t m₁ nx h tk io hi hj hnx F₁ N₁
  · exact done
end
end Mine
end
section
open PySem PySem.W PySem.Calls PyProof.Rows
set_option maxRecDepth 100000
namespace Mine
noncomputable def lowS (x : Str) : Str := ⟨x.cps.map lo1⟩
theorem lo1_range {c : Nat} (h : 65 ≤ c ∧ c ≤ 122) : 65 ≤ lo1 c ∧ lo1 c ≤ 122 := by
  unfold lo1; split <;> omega
theorem Clean.low {x : Str} (h : Clean x) : Clean (lowS x) := by
  refine ⟨by simpa [lowS] using h.1, fun c hc => ?_⟩
  simp only [lowS, Array.mem_map] at hc
  obtain ⟨d, hd, rfl⟩ := hc
  exact lo1_range (h.2 d hd)
section
variable {prog : Program} {w : World} {M : Model} {A : Around} {E : Value → Shared → Prop} {s : Shared}
theorem lower_K {x : Str} {t : Tok} {Q : Value → Shared → Prop} (hx : Clean x) (h : ∀ t k, Q (.str (lowS x) t) { s with toks := k }) : wpAny (model prog w) A (call (.builtin "str.lower") [.str x t]) Q E s := by
  have e : Txt.lower x = lowS x := lower_ascii fun c hc => by have := hx.2 c (by simpa using hc); omega
  have hz : Builtin.Str.tooLong (Txt.lower x).length = false := by
    rw [e]
    have := hx.1
    simp only [Builtin.Str.tooLong, Str.length, lowS, Array.size_map, decide_eq_false_iff_not]
    unfold sizeLine
    omega
  refine SC.lower hz ?_
  rw [e]
  exact h _ _
end
end Mine
end
section
open PySem PySem.W PySem.Calls PyProof.Rows
set_option maxRecDepth 100000
namespace Mine
/-- the figures to the base 16, the highest first -/
noncomputable def hexF : Nat → Nat → List Nat
  | 0, _ => []
  | f + 1, n => if n = 0 then [] else hexF f (n / 16) ++ [n % 16]
noncomputable def hexL (n : Nat) : List Nat := hexF n n
theorem hexF_eq : ∀ (f g n : Nat), n ≤ f → n ≤ g → hexF f n = hexF g n
  | 0, 0, _, _, _ => rfl
  | 0, g + 1, n, h, _ => by rw [show n = 0 from Nat.le_zero.mp h]; rfl
  | f + 1, 0, n, _, h => by rw [show n = 0 from Nat.le_zero.mp h]; rfl
  | f + 1, g + 1, n, hf, hg => by
    by_cases h : n = 0
    · subst h; rfl
    · have := Nat.div_lt_self (Nat.pos_of_ne_zero h) (show 1 < 16 by decide)
      show (if n = 0 then [] else hexF f (n / 16) ++ [n % 16]) = if n = 0 then [] else hexF g (n / 16) ++ [n % 16]
      rw [if_neg h, if_neg h, hexF_eq f g (n / 16) (Nat.le_of_lt_succ (Nat.lt_of_lt_of_le this hf)) (Nat.le_of_lt_succ (Nat.lt_of_lt_of_le this hg))]
theorem hexL_zero : hexL 0 = [] := rfl
theorem hexL_pos {n : Nat} (h : n ≠ 0) : hexL n = hexL (n / 16) ++ [n % 16] := by
  cases n with
  | zero => exact absurd rfl h
  | succ n =>
    have := Nat.div_lt_self (Nat.pos_of_ne_zero h) (show 1 < 16 by decide)
    show (if n + 1 = 0 then [] else hexF n ((n + 1) / 16) ++ [(n + 1) % 16]) = _
    rw [if_neg h, hexF_eq n ((n + 1) / 16) _ (Nat.le_of_lt_succ this) (Nat.le_refl _)]
    rfl
theorem hexL_lt : ∀ (n : Nat), ∀ d ∈ hexL n, d < 16 := by
  intro n
  induction n using Nat.strongRecOn with
  | ind n ih =>
    by_cases h : n = 0
    · subst h; rw [hexL_zero]; simp
    · rw [hexL_pos h]
      intro d hd
      rcases List.mem_append.mp hd with hd | hd
      · exact ih (n / 16) (Nat.div_lt_self (Nat.pos_of_ne_zero h) (by decide)) d hd
      · simp at hd; omega
noncomputable def apB (n : Nat) : Array UInt8 := ((hexL n).map fun d => UInt8.ofNat (65 + d)).toArray
theorem apB_zero : apB 0 = #[] := by rw [apB, hexL_zero]; rfl
theorem apB_pos {n : Nat} (h : n ≠ 0) (v : Array UInt8) : apB (n / 16) ++ (#[UInt8.ofNat (65 + n % 16)] ++ v) = apB n ++ v := by
  rw [apB, apB, hexL_pos h, List.map_append]
  simp
theorem hexL_size : ∀ (k n : Nat), n < 16 ^ k → (hexL n).length ≤ k := by
  intro k
  induction k with
  | zero => intro n h; have : n = 0 := by simpa using h
            subst this; rw [hexL_zero]; simp
  | succ k ih =>
    intro n h
    by_cases h0 : n = 0
    · subst h0; rw [hexL_zero]; simp
    · rw [hexL_pos h0, List.length_append]
      have := ih (n / 16) (by rw [Nat.pow_succ] at h; omega)
      simp only [List.length_singleton]; omega
theorem apB_size {n : Nat} (h : n < 16 ^ 16) : (apB n).size ≤ 16 := by
  have := hexL_size 16 n h
  simpa [apB] using this
theorem ap_step {k : Nat} {v u : Array UInt8} (h0 : (k : Int) ≠ 0) (h : apB k ++ v = u) : apB (k / 16) ++ (#[UInt8.ofNat (65 + ((k : Int).fmod 16).toNat)] ++ v) = u := by
  have e : ((k : Int).fmod 16).toNat = k % 16 := by rw [Int.fmod_eq_emod_of_nonneg _ (by decide)]; first | rfl | omega
  rw [e, apB_pos (by omega), h]
theorem ap_div (k : Nat) : (k : Int).fdiv 16 = ((k / 16 : Nat) : Int) := by rw [Int.fdiv_eq_ediv_of_nonneg _ (by decide)]; first | rfl | omega
theorem ap_size_le {k : Nat} {v u : Array UInt8} (h : apB k ++ v = u) (hu : u.size ≤ 16) : v.size ≤ 16 := by
  have := congrArg Array.size h
  simp only [Array.size_append] at this; omega
noncomputable abbrev apBytes : Array UInt8 := #[65, 66, 67, 68, 69, 70, 71, 72, 73, 74, 75, 76, 77, 78, 79, 80]
theorem ap_picked : ∀ k : Fin 16, KBy.picked apBytes (some ((k.val : Nat) : Int)) (some (((k.val : Nat) : Int) + 1)) = #[UInt8.ofNat (65 + k.val)] := by decide +kernel
section
variable {prog : Program} {w : World} {A : Around} {E : Value → Shared → Prop} {s : Shared} {value slice : PySem.Expr} {t : Tok} {h₀ : Heap} {L : Addr} {m : PySem.Str → Option Value} {news : List (Addr × Obj)} {Q : Value → Shared → Prop} {k : Int} {t1 t2 : Tok}
theorem ap_slice_K (hF : Fr h₀ L s.heap m) (hN : News h₀ L s.heap news) (hk : 0 ≤ k) (hk' : k < 16)
    (h : ∀ h' t' k', Fr h₀ L h' m → News h₀ L h' news → Q (.bytes #[UInt8.ofNat (65 + k.toNat)] t') { s with heap := h', toks := k' })
    (hs : subscripted slice false (.bytes apBytes t) (.ref s.heap.objs.size) = operate [.ref s.heap.objs.size, .bytes apBytes t] (getItem (.bytes apBytes t) (.ref s.heap.objs.size)) := by with_unfolding_all rfl)
    (ht : ∀ r, letTemporaryGo value (.bytes apBytes t) r = pure () := by intro _; with_unfolding_all rfl) :
    wpAny (model prog w) A (subscriptTail value slice (.bytes apBytes t) (.ref s.heap.objs.size)) Q E { s with heap := s.heap.push { cls := .type "slice", data := .fields #[.int k t1, .int (k + 1) t2, .none] } } := by
  refine KBc.slice_K (lo := some k) (hi := some (k + 1)) hF hN rfl (by constructor) (by constructor) (by decide +kernel) (fun h' t' k' F' N' _ => ?_) hs ht
  have e := ap_picked ⟨k.toNat, by omega⟩
  have e2 : ((k.toNat : Nat) : Int) = k := Int.toNat_of_nonneg hk
  simp only [e2] at e
  rw [e]
  exact h h' t' k' F' N'
end
end Mine
end
section
open PySem PySem.W PySem.Calls PyProof.Rows
set_option maxRecDepth 100000
namespace Mine
open PyProof.Rows.LCg PyProof.Rows.LCt
theorem compEnd_mono {h₀ : Heap} {L I C D : Addr} {m : Str → Option Value} {s₁ s₂ : Shared} {oI oC oD : Obj} {S : List (Addr × Obj) → Prop} {r r' : Value → List (Addr × Obj) → Prop} {y : Value}
    (h : CompEnd h₀ L m s₁ I oI C oC D oD S r y s₂) (hr : ∀ y nx, r y nx → r' y nx) : CompEnd h₀ L m s₁ I oI C oC D oD S r' y s₂ :=
  let ⟨h', tk, nx, e, F, N, off, hS, h9⟩ := h; ⟨h', tk, nx, e, F, N, off, hS, hr _ _ h9⟩
section
variable {prog : Program} {w : World} {A : Around} {h₀ : Heap} {L : Addr} {m : Str → Option Value} {env : Env} {ct elt : Expr} {x : Str} {scope : Scope} {cl : List (Str × Addr)} {s : Shared} {S : List (Addr × Obj) → Prop} {P : Nat → Value → Prop}
  {Fin : List Value → List (Addr × Obj) → Prop} {n : Nat}
theorem compT_inv (J : Nat → List Value → List (Addr × Obj) → Prop)
    (turn : ∀ i v ys nx I oI C oC D m₂ h tk (E' : Value → Shared → Prop), i < n → P i v → J i ys nx → NsObj oC m₂ → m₂ x = some v → Fr h₀ L h m → News h₀ L h ((I, oI) :: (C, oC) :: (D, lst ys) :: nx) → Off3 I C D nx → ((@Ne Nat I C) ∧ (@Ne Nat I D) ∧ (@Ne Nat C D)) →
      wpAny (model prog w) A (isTrue ct (compEnvC scope cl C env) (eval ct (compEnvC scope cl C env))) (fun ok s' => if ok = true then
        wpAny (model prog w) A (eval elt (compEnvC scope cl C env)) (CompEnd h₀ L m { s with heap := h, toks := tk } I oI C oC D (lst ys) S (fun y nx' => J (i + 1) (ys ++ [y]) nx')) E' s'
        else CompEnd h₀ L m { s with heap := h, toks := tk } I oI C oC D (lst ys) S (fun _ nx' => J (i + 1) ys nx') Value.none s') E' { s with heap := h, toks := tk })
    (done : ∀ ys nx, J n ys nx → Fin ys nx) :
    ∀ k i ys nx, i + k = n → J i ys nx → CompRestT prog w A h₀ L m env ct elt x scope cl s S P Fin k i ys nx := by
  intro k
  induction k with
  | zero => intro i ys nx e j; have : i = n := by omega
            subst this; exact CompRestT.zero (done _ _ j)
  | succ k ih =>
    intro i ys nx e j
    refine CompRestT.succ fun v I oI C oC D m₂ h tk E' hv hC hx F N off ne => ?_
    refine wpAny_mono (turn i v ys nx I oI C oC D m₂ h tk E' (by omega) hv j hC hx F N off ne) (fun ok s' q => ?_) fun _ _ e => e
    split
    · rename_i e1
      rw [if_pos e1] at q
      exact wpAny_mono q (fun y s₂ z => compEnd_mono z fun y nx' j' => ih _ _ _ (by omega) j') fun _ _ e => e
    · rename_i e1
      rw [if_neg e1] at q
      exact compEnd_mono q fun y nx' j' => ih _ _ _ (by omega) j'
theorem compU_inv (J : Nat → List Value → List (Addr × Obj) → Prop)
    (turn : ∀ i v ys nx I oI C oC D m₂ h tk (E' : Value → Shared → Prop), i < n → P i v → J i ys nx → NsObj oC m₂ → m₂ x = some v → Fr h₀ L h m → News h₀ L h ((I, oI) :: (C, oC) :: (D, lst ys) :: nx) → Off3 I C D nx → ((@Ne Nat I C) ∧ (@Ne Nat I D) ∧ (@Ne Nat C D)) →
      wpAny (model prog w) A (eval elt (compEnvC scope cl C env)) (CompEnd h₀ L m { s with heap := h, toks := tk } I oI C oC D (lst ys) S (fun y nx' => J (i + 1) (ys ++ [y]) nx')) E' { s with heap := h, toks := tk })
    (done : ∀ ys nx, J n ys nx → Fin ys nx) :
    ∀ k i ys nx, i + k = n → J i ys nx → CompRest prog w A h₀ L m env elt x scope cl s S P Fin k i ys nx := by
  intro k
  induction k with
  | zero => intro i ys nx e j; have : i = n := by omega
            subst this; exact CompRest.zero (done _ _ j)
  | succ k ih =>
    intro i ys nx e j
    refine CompRest.succ fun v I oI C oC D m₂ h tk E' hv hC hx F N off ne => ?_
    exact wpAny_mono (turn i v ys nx I oI C oC D m₂ h tk E' (by omega) hv j hC hx F N off ne) (fun y s₂ z => compEnd_mono z fun y nx' j' => ih _ _ _ (by omega) j') fun _ _ e => e
end
end Mine
end
section
open PySem PySem.W PySem.Calls PyProof.Rows
set_option maxRecDepth 100000
namespace Mine
section
open Builtin Builtin.List
variable {prog : Program} {w : World} {A : Around} {E : Value → Shared → Prop} {s : Shared}
theorem setItem_all {l a d : Addr} {its ys : Array Value} {n k : Nat} {Q : Unit → Shared → Prop} (hl : s.heap.get? l = some (listOf its n)) (ha : s.heap.get? a = some { cls := .type "slice", data := .fields #[.none, .none, .none] }) (hd : s.heap.get? d = some (listOf ys k)) (hld : l ≠ d)
    (hz : its.size ≤ 1000) (hz' : ys.size ≤ 1000) (h : ∀ h' n', h'.get? l = some (listOf ys n') → Heap.SameBut l s.heap h' → Q () { s with heap := h' }) :
    wpAny (model prog w) A (setItem (.ref l) (.ref a) (.ref d)) Q E s := by
  have hlT : s.TypeIs (.ref l) "list" := ⟨_, hl, rfl⟩
  have hdT : s.TypeIs (.ref d) "list" := ⟨_, hd, rfl⟩
  have haT : s.TypeIs (.ref a) "slice" := ⟨_, ha, rfl⟩
  unfold setItem
  try with_reducible refine wpAny_holding ?_
  first | refine wpAny_bind (wpAny_pure ?_) | skip
  refine wpAny_bind (wpAny_sequenceKey hlT (by decide) ?_)
  refine wpAny_bind (wpAny_callSpecial?_slot (name := Str.ofString "__setitem__") hlT slot_list_setitem
    (wpAny_call_entry slot_list_setitem hlT entry_list_setitem ?_ (args_list_setitem _ _ _)))
  show wpAny _ _ (Builtin.List.listSubscript? (.ref a) >>= _) _ _ s
  refine wpAny_bind ?_
  unfold Builtin.List.listSubscript?
  refine wpAny_bind (wpAny_specialOf haT slice_no_index (wpAny_pure ?_))
  refine wpAny_bind (wpAny_typeOf haT ?_)
  dsimp only
  rw [if_neg (by simp)]
  have same : listSameRef (Value.ref l) (Value.ref d) = false := by simp [listSameRef, hld]
  rw [same]
  refine wpAny_bind (wpAny_mono (Q := fun r s' => r = (.none, .none, .none) ∧ s' = s) (E := fun _ _ => False) ?_ ?_ fun _ _ e => e.elim)
  · unfold listSliceParts
    dsimp only
    refine wpAny_bind (wpAny_field (x := .none) ha rfl rfl ?_)
    rw [if_pos (by rfl)]
    refine wpAny_bind (wpAny_pure ?_)
    rw [if_neg (by decide)]
    refine wpAny_bind (wpAny_field (x := .none) ha rfl rfl ?_)
    rw [if_pos (by rfl)]
    refine wpAny_bind (wpAny_pure ?_)
    refine wpAny_bind (wpAny_field (x := .none) ha rfl rfl ?_)
    rw [if_pos (by rfl)]
    exact wpAny_bind (wpAny_pure (wpAny_pure ⟨rfl, rfl⟩))
  rintro r s' ⟨rfl, rfl⟩
  dsimp only
  rw [if_neg (by simp)]
  refine wpAny_bind ?_
  unfold listAllItems
  refine wpAny_bind (wpAny_typeOf hdT ?_)
  rw [if_pos (by decide)]
  unfold listItems
  refine wpAny_bind (wpAny_seqItems hd rfl (wpAny_pure ?_))
  refine wpAny_bind (wpAny_bind (wpAny_seqItems hl rfl (wpAny_pure ?_)))
  rw [show sliceIndices Value.none Value.none Value.none its.size = pure (sliceBounds none none none its.size) from sliceIndices_raw none none none its.size (fun e => nomatch e)]
  refine wpAny_bind (wpAny_pure ?_)
  have e : sliceBounds none none none its.size = (0, (its.size : Int), 1) := by rfl
  rw [e]
  dsimp only
  rw [if_pos (by rfl)]
  refine wpAny_bind (wpAny_rule ?_)
  rw [if_neg (by unfold listTooLong sizeLine; simp; omega)]
  unfold listUpdate
  dsimp only
  have e2 : its.extract 0 (Int.toNat 0) ++ ys ++ its.extract (max 0 (its.size : Int)).toNat = ys := by
    have : (max 0 (its.size : Int)).toNat = its.size := by omega
    rw [this]; simp
  refine wpAny_bind (wpAny_updateSeq hl rfl ?_ (by rw [sizeLine_eq]; omega) (by rw [e2, sizeLine_eq]; omega))
  refine wpAny_bind (wpAny_letGo ?_)
  refine wpAny_pure ⟨_, rfl, wpAny_pure ?_⟩
  refine h _ (if ys.size == its.size then n else n + 1) ?_ (Heap.SameBut.update ..)
  rw [Heap.get?_update_self _ hl rfl]
  simp only [Obj.mapSeq, e2]
theorem setItem_all_K {h₀ : Heap} {L l d : Addr} {m : Str → Option Value} {its ys : Array Value} {n k : Nat} {news : List (Addr × Obj)} {g : Obj → List (Addr × Obj)} {Q : Unit → Shared → Prop} (F : Fr h₀ L s.heap m) (N : News h₀ L s.heap news) (U : UpdF l (listOf its n) news g) (hd : (d, listOf ys k) ∈ news) (hld : l ≠ d)
    (hz : its.size ≤ 1000) (hz' : ys.size ≤ 1000) (h : ∀ h' n', Fr h₀ L h' m → News h₀ L h' (g (listOf ys n')) → Q () { s with heap := h' }) :
    wpAny (model prog w) A (setItem (.ref l) (.ref s.heap.objs.size) (.ref d)) Q E { s with heap := s.heap.push { cls := .type "slice", data := .fields #[.none, .none, .none] } } := by
  obtain ⟨own, rest, rfl, hg, h1, h2⟩ := U.split
  have hmem := N (l, listOf its n) (List.mem_append_right _ (.head _))
  have F' := F.push (o := { cls := .type "slice", data := .fields #[.none, .none, .none] })
  have N' : News h₀ L (s.heap.push { cls := .type "slice", data := .fields #[.none, .none, .none] }) _ := News.pushKeep N _
  refine setItem_all (Heap.get?_push_of_some _ hmem.1) (Heap.get?_push_size _ rfl) (Heap.get?_push_of_some _ (N _ hd).1) hld hz hz' fun h' n' hl' hs => ?_
  exact h h' n' (F'.change hs hmem.2.1 hmem.2.2) (hg _ ▸ N'.setAt h1 h2 hs hl')
end
section
variable {M : Model} {A : Around} {E : Value → Shared → Prop} {s : Shared} {K : Frag} {x C L f : Addr} {h₀ : Heap} {m : Str → Option Value} {ox : Obj} {od : Option Obj} {i : Value}
theorem delItem_inst {Q : Unit → Shared → Prop} (F : Fr h₀ L s.heap m) (X₀ : K.In h₀) (I : InstAt s.heap x ox C od) (hq : noSeq K C = true) (hs : findIn K (.ref C) "__delitem__" = some (some (.ref f))) (hf : isFn K (.ref f) = true)
    (h : wpAny M A (call (.ref f) [.ref x, i]) (fun _ s' => Q () s') E s) : wpAny M A (delItem (.ref x) i) Q E s := by
  have X := X₀.keeps F.keep
  unfold delItem sequenceKey
  refine wpAny_holding (wpAny_bind (wpAny_bind (I.type.here ?_)))
  refine wpAny_bind ((anyM_none X hq).here ?_)
  rw [if_pos (show (!false) = true from rfl)]
  exact wpAny_pure (wpAny_bind (special_fn X I hs (beq_iff_eq.mp hf) (wpAny_mono h (fun _ _ z => wpAny_pure z) fun _ _ z => z)))
end
theorem pick_all (l : List Value) : kms_pick l none none = l := by simp [kms_pick, kms_lo, kms_hi]
theorem pick_init (l : List Value) : kms_pick l none (some (-1)) = l.dropLast := by
  simp [kms_pick, kms_lo, kms_hi, List.dropLast_eq_take]
theorem pick_take (l : List Value) (k : Nat) : kms_pick l none (some (k : Int)) = l.take k := by
  have : ¬ ((k : Int) < 0) := by omega
  simp only [kms_pick, kms_lo, kms_hi, if_neg this, List.drop_zero, Int.toNat_natCast, Nat.sub_zero]
  rw [kmk_take_min]
theorem pick_lit (l : List Value) (k : Nat) : kms_pick l none (some (@OfNat.ofNat Int k instOfNat)) = l.take k := pick_take l k
end Mine
end
section
open PySem PySem.W PySem.Calls PyProof.Rows
set_option maxRecDepth 100000
namespace Mine
/-- halving: right says which way a true test goes -/
noncomputable def bisRun {σ : Type} (right : Bool) (test : Nat → Bool) (nx : σ → Nat → σ) : Nat → Nat → Nat → σ → Nat × σ
  | 0, lo, _, st => (lo, st)
  | f + 1, lo, hi, st => if lo < hi then
      (if test ((lo + hi) / 2) == right then bisRun right test nx f lo ((lo + hi) / 2) (nx st ((lo + hi) / 2)) else bisRun right test nx f ((lo + hi) / 2 + 1) hi (nx st ((lo + hi) / 2)))
    else (lo, st)
theorem bisRun_done {σ : Type} {right : Bool} {test : Nat → Bool} {nx : σ → Nat → σ} {f lo hi : Nat} {st : σ} (h : ¬ lo < hi) : bisRun right test nx f lo hi st = (lo, st) := by
  cases f with
  | zero => rfl
  | succ f => unfold bisRun; rw [if_neg h]
theorem bisRun_yes {σ : Type} {right : Bool} {test : Nat → Bool} {nx : σ → Nat → σ} {f lo hi : Nat} {st : σ} (h : lo < hi) (ht : (test ((lo + hi) / 2) == right) = true) :
    bisRun right test nx (f + 1) lo hi st = bisRun right test nx f lo ((lo + hi) / 2) (nx st ((lo + hi) / 2)) := by
  rw [bisRun, if_pos h, if_pos ht]
theorem bisRun_no {σ : Type} {right : Bool} {test : Nat → Bool} {nx : σ → Nat → σ} {f lo hi : Nat} {st : σ} (h : lo < hi) (ht : (test ((lo + hi) / 2) == right) = false) :
    bisRun right test nx (f + 1) lo hi st = bisRun right test nx f ((lo + hi) / 2 + 1) hi (nx st ((lo + hi) / 2)) := by
  rw [bisRun, if_pos h, if_neg (by rw [ht]; exact Bool.false_ne_true)]
theorem bisRun_le {σ : Type} {right : Bool} {test : Nat → Bool} {nx : σ → Nat → σ} : ∀ (f lo hi : Nat) (st : σ), lo ≤ hi → (bisRun right test nx f lo hi st).1 ≤ hi
  | 0, lo, hi, st, h => h
  | f + 1, lo, hi, st, h => by
    by_cases hl : lo < hi
    · cases ht : (test ((lo + hi) / 2) == right) with
      | true => rw [bisRun_yes hl ht]; exact Nat.le_trans (bisRun_le f _ _ _ (by omega)) (by omega)
      | false => rw [bisRun_no hl ht]; exact bisRun_le f _ _ _ (by omega)
    · rw [bisRun_done hl]; exact h
noncomputable def CmpK (prog : Program) (w : World) (x r : Value) (right b : Bool) : Prop :=
  ∀ (A : Around) (Q E : Value → Shared → Prop) (s : Shared), (∀ k, Q (.bool b) { s with toks := k }) → wpAny (model prog w) A (if right = true then compareOp .Lt x r else compareOp .Lt r x) Q E s
theorem CmpK.right {prog : Program} {w : World} {x r : Value} {b : Bool} (h : CmpK prog w x r true b) {A : Around} {Q E : Value → Shared → Prop} {s : Shared} (hq : ∀ k, Q (.bool b) { s with toks := k }) : wpAny (model prog w) A (compareOp .Lt x r) Q E s := by
  simpa using h A Q E s hq
theorem CmpK.left {prog : Program} {w : World} {x r : Value} {b : Bool} (h : CmpK prog w x r false b) {A : Around} {Q E : Value → Shared → Prop} {s : Shared} (hq : ∀ k, Q (.bool b) { s with toks := k }) : wpAny (model prog w) A (compareOp .Lt r x) Q E s := by
  simpa using h A Q E s hq
theorem mid_eq (lo hi : Nat) : ((lo : Int) + (hi : Int)).fdiv 2 = (((lo + hi) / 2 : Nat) : Int) := by rw [Int.fdiv_eq_ediv_of_nonneg _ (by decide)]; first | rfl | omega
theorem mid_one (k : Nat) : ((k : Nat) : Int) + 1 = ((k + 1 : Nat) : Int) := by omega
theorem kl_ins_at {vs : List Value} {k : Nat} {y : Value} (h : k ≤ vs.length) : kl_ins vs.toArray.toList ((k : Nat) : Int) y = vs.insertIdx k y := by
  unfold kl_ins
  have h0 : ¬ ((k : Int) < 0) := by omega
  simp only [if_neg h0, Int.toNat_natCast]
  rw [Nat.min_eq_left (by simpa using h)]
  induction vs generalizing k with
  | nil => have : k = 0 := by simpa using h
           subst this; simp
  | cons a r ih =>
    cases k with
    | zero => simp
    | succ k => simp only [List.insertIdx_succ_cons]; rw [← ih (k := k) (by simpa using h) (by omega)]; simp
theorem size_nat (k : Nat) : Builtin.Range.rangeSize 0 ((k : Nat) : Int) 1 = ((k : Nat) : Int) := by rw [rangeSize_nat]; omega
theorem small_nat (k : Nat) (h : k ≤ 100000) : Builtin.Range.small 0 ((k : Nat) : Int) 1 = true := by
  unfold Builtin.Range.small
  rw [size_nat]
  have f : ∀ i : Int, 0 ≤ i → i ≤ 100000 → Builtin.Range.rangeFitsLong i = true := fun i h0 h1 => by
    unfold Builtin.Range.rangeFitsLong
    exact Bool.and_eq_true_iff.mpr ⟨decide_eq_true (by omega), decide_eq_true (by omega)⟩
  rw [f 0 (by omega) (by omega), f k (by omega) (by omega), f 1 (by omega) (by omega), if_pos (by decide), f _ (by omega) (by omega)]
  simp
theorem fits_nat {k : Nat} (h : k ≤ 100000) : Builtin.List.listFitsIndex ((k : Nat) : Int) = true := by
  simp only [Builtin.List.listFitsIndex, Bool.and_eq_true, decide_eq_true_eq]; omega
section
variable {prog : Program} {w : World} {A : Around} {E : Value → Shared → Prop} {s : Shared} {h₀ : Heap} {L l : Addr} {news : List (Addr × Obj)} {vs : List Value} {n : Nat}
theorem item_at {value slice : Expr} {k : Int} {u : Tok} {v : Value} {Q : Value → Shared → Prop} (N : News h₀ L s.heap news) (hm : (l, listOf vs.toArray n) ∈ news) (h0 : 0 ≤ k) (hhi : k < 2 ^ 63) (hx : vs[k.toNat]? = some v) (h : Q v s)
    (hs : subscripted slice false (.ref l) (.int k u) = operate [.ref l, .int k u] (getItem (.ref l) (.int k u)) := by with_unfolding_all rfl) :
    wpAny (model prog w) A (subscriptTail value slice (.ref l) (.int k u)) Q E s :=
  tail_any (Heap.IsList.typeIs ⟨_, (N _ hm).1, rfl, _, rfl⟩) slot_list_getitem.lookup (wpAny_getItem_list ⟨_, (N _ hm).1, rfl, _, rfl⟩ h0 hhi (by simpa using hx) h) hs
theorem len_at {Q : Value → Shared → Prop} (N : News h₀ L s.heap news) (hm : (l, listOf vs.toArray n) ∈ news) (hz : vs.length ≤ 100000) (h : ∀ t k, Q (.int (vs.length : Nat) t) { s with toks := k }) :
    wpAny (model prog w) A (call (.builtin "len") [.ref l]) Q E s :=
  len_list (items := vs.toArray) ⟨_, (N _ hm).1, rfl, _, rfl⟩ (by simp; omega) (by simpa using h _ _)
end
end Mine
end
section
open PySem PySem.W PySem.Calls PyProof.Rows Mine
set_option maxRecDepth 100000
namespace Mine
noncomputable abbrev tupOf (vs : List Value) : Obj := { cls := .type "tuple", data := .seq vs.toArray }
/-- a list's items are pairs of texts, borne by the ledger -/
inductive PairsIn (news : List (Addr × Obj)) : List Value → List (Str × Str) → Prop where
  | nil : PairsIn news [] []
  | cons {q : Addr} {k v : Str} {t u : Tok} {vs : List Value} {kvs : List (Str × Str)} : (q, tupOf [.str k t, .str v u]) ∈ news → PairsIn news vs kvs → PairsIn news (.ref q :: vs) ((k, v) :: kvs)
theorem PairsIn.mono {news news' : List (Addr × Obj)} {vs : List Value} {kvs : List (Str × Str)} (h : PairsIn news vs kvs) (hs : ∀ p ∈ news, p ∈ news') : PairsIn news' vs kvs := by
  induction h with
  | nil => exact .nil
  | cons hm _ ih => exact .cons (hs _ hm) ih
theorem PairsIn.length {news : List (Addr × Obj)} {vs : List Value} {kvs : List (Str × Str)} (h : PairsIn news vs kvs) : vs.length = kvs.length := by
  induction h with
  | nil => rfl
  | cons _ _ ih => simp [ih]
theorem PairsIn.at {news : List (Addr × Obj)} {vs : List Value} {kvs : List (Str × Str)} (h : PairsIn news vs kvs) : ∀ {i : Nat} {x : Value}, vs[i]? = some x → ∃ q k v t u, x = .ref q ∧ kvs[i]? = some (k, v) ∧ (q, tupOf [.str k t, .str v u]) ∈ news := by
  induction h with
  | nil => intro i x h; simp at h
  | cons hm _ ih =>
    intro i x hx
    cases i with
    | zero => simp at hx; subst hx; exact ⟨_, _, _, _, _, rfl, rfl, hm⟩
    | succ i => exact ih (by simpa using hx)
noncomputable abbrev hdEntry (w : World) (tk : Tok) (l : Addr) : DictEntry := ⟨PyData.keyHash w.params "_headers", .str "_headers" tk, .ref l⟩
/-- a table of headers -/
structure TabIn (C : Addr) (w : World) (news : List (Addr × Obj)) (x l : Addr) (vs : List Value) (n : Nat) (kvs : List (Str × Str)) : Prop where
  inst : ∃ dx tk dn, (x, instObj C dx) ∈ news ∧ (dx, dictOf [hdEntry w tk l] dn) ∈ news
  list : (l, listOf vs.toArray n) ∈ news
  pairs : PairsIn news vs kvs
/-- a table of headers whose list stands apart from the rest of the ledger -/
structure TabL (C : Addr) (w : World) (rest : List (Addr × Obj)) (x l : Addr) (vs : List Value) (kvs : List (Str × Str)) : Prop where
  inst : ∃ dx tk dn, (x, instObj C dx) ∈ rest ∧ (dx, dictOf [hdEntry w tk l] dn) ∈ rest
  pairs : PairsIn rest vs kvs
  off : ∀ p ∈ rest, p.1 ≠ l
theorem TabL.toIn {C : Addr} {w : World} {rest : List (Addr × Obj)} {x l : Addr} {vs : List Value} {n : Nat} {kvs : List (Str × Str)} (h : TabL C w rest x l vs kvs) : TabIn C w ((l, listOf vs.toArray n) :: rest) x l vs n kvs :=
  ⟨let ⟨dx, tk, dn, a, b⟩ := h.inst; ⟨dx, tk, dn, .tail _ a, .tail _ b⟩, .head _, h.pairs.mono fun _ hp => .tail _ hp⟩
/-- the ledger has grown by new objects alone -/
noncomputable def Grow (l : Addr) (rest rest' : List (Addr × Obj)) : Prop := (∀ p ∈ rest, p ∈ rest') ∧ ∀ p ∈ rest', p ∈ rest ∨ (l < p.1 ∧ ∀ q ∈ rest, q.1 < p.1)
theorem Grow.refl (l : Addr) (rest : List (Addr × Obj)) : Grow l rest rest := ⟨fun _ h => h, fun _ h => .inl h⟩
theorem Grow.one {l q : Addr} {o : Obj} {rest : List (Addr × Obj)} (h1 : l < q) (h2 : ∀ p ∈ rest, p.1 < q) : Grow l rest ((q, o) :: rest) :=
  ⟨fun _ h => .tail _ h, fun p h => by
    rcases List.mem_cons.mp h with rfl | h
    · exact .inr ⟨h1, h2⟩
    · exact .inl h⟩
theorem Grow.trans {l : Addr} {a b c : List (Addr × Obj)} (h1 : Grow l a b) (h2 : Grow l b c) : Grow l a c :=
  ⟨fun p h => h2.1 p (h1.1 p h), fun p h => by
    rcases h2.2 p h with h | ⟨h, h'⟩
    · exact h1.2 p h
    · exact .inr ⟨h, fun q hq => h' q (h1.1 q hq)⟩⟩
theorem PairsIn.snoc {news : List (Addr × Obj)} {vs : List Value} {kvs : List (Str × Str)} {q : Addr} {k v : Str} {t u : Tok} (h : PairsIn news vs kvs) (hq : (q, tupOf [.str k t, .str v u]) ∈ news) : PairsIn news (vs ++ [.ref q]) (kvs ++ [(k, v)]) := by
  induction h with
  | nil => exact .cons hq .nil
  | cons hm _ ih => exact .cons hm ih
theorem TabL.snoc {C : Addr} {w : World} {rest : List (Addr × Obj)} {x l q : Addr} {vs : List Value} {kvs : List (Str × Str)} {k v : Str} {t u : Tok} (h : TabL C w rest x l vs kvs) (hl : l < q) :
    TabL C w ((q, tupOf [.str k t, .str v u]) :: rest) x l (vs ++ [.ref q]) (kvs ++ [(k, v)]) :=
  ⟨let ⟨dx, tk, dn, a, b⟩ := h.inst; ⟨dx, tk, dn, .tail _ a, .tail _ b⟩, (h.pairs.mono fun _ hp => .tail _ hp).snoc (.head _), fun p hp => by
    rcases List.mem_cons.mp hp with rfl | hp
    · exact Nat.ne_of_gt hl
    · exact h.off p hp⟩
noncomputable def getT (kvs : List (Str × Str)) (nm : Str) : Option Str := (kvs.find? fun kv => lowS kv.1 == nm).map (·.2)
theorem getT_some : ∀ {kvs : List (Str × Str)} {nm : Str} {i : Nat} {k v : Str}, kvs[i]? = some (k, v) → (∀ kv ∈ kvs.take i, lowS kv.1 ≠ nm) → (lowS k == nm) = true → getT kvs nm = some v
  | [], _, _, _, _, h, _, _ => by simp at h
  | a :: r, nm, 0, k, v, h, _, e => by
    simp at h; subst h
    simp [getT, List.find?_cons, e]
  | a :: r, nm, i + 1, k, v, h, hn, e => by
    have h1 : (lowS a.1 == nm) = false := by simpa using hn a (by simp)
    have := getT_some (kvs := r) (nm := nm) (i := i) (by simpa using h) (fun kv hk => hn kv (by simp [hk])) e
    simpa [getT, List.find?_cons, h1] using this
theorem getT_none {kvs : List (Str × Str)} {nm : Str} (h : ∀ kv ∈ kvs, lowS kv.1 ≠ nm) : getT kvs nm = none := by
  unfold getT
  rw [Option.map_eq_none_iff, List.find?_eq_none]
  intro kv hk
  simpa using h kv hk
theorem take_step {α : Type} {P : α → Prop} {l : List α} {i : Nat} {a : α} (h : l[i]? = some a) (ht : ∀ x ∈ l.take i, P x) (ha : P a) : ∀ x ∈ l.take (i + 1), P x := by
  intro x hx
  rw [List.take_add_one, h] at hx
  rcases List.mem_append.mp hx with hx | hx
  · exact ht x hx
  · simp at hx; subst hx; exact ha
noncomputable def optV (o : Option Str) (r : Value) : Prop := match o with
  | some v => ∃ t, r = .str v t
  | none => r = .none
theorem filter_take_yes {α : Type} {p : α → Bool} {l : List α} {i : Nat} {a : α} (h : l[i]? = some a) (e : p a = true) : (l.take (i + 1)).filter p = (l.take i).filter p ++ [a] := by
  rw [List.take_add_one, h, List.filter_append]; simp [e]
theorem filter_take_no {α : Type} {p : α → Bool} {l : List α} {i : Nat} {a : α} (h : l[i]? = some a) (e : p a = false) : (l.take (i + 1)).filter p = (l.take i).filter p := by
  rw [List.take_add_one, h, List.filter_append]; simp [e]
theorem optV_cases {o : Option Str} {r : Value} (h : optV o r) : (o = none ∧ r = .none) ∨ ∃ v t, o = some v ∧ r = .str v t := by
  cases o with
  | none => exact .inl ⟨rfl, h⟩
  | some v => obtain ⟨t, e⟩ := h; exact .inr ⟨v, t, rfl, e⟩
noncomputable def CleanT (kvs : List (Str × Str)) : Prop := kvs.length ≤ 100 ∧ ∀ kv ∈ kvs, Clean kv.1 ∧ Clean kv.2
/-- a key that bisect may ask -/
structure KeyC (w : World) (q : Addr) (x : Value) (right : Bool) (l : Addr) (vs : List Value) (n : Nat) (need : Nat) {σ : Type} (led : σ → List (Addr × Obj)) (sz : σ → Nat) (test : Nat → Bool) (nx : σ → Nat → σ) : Prop where
  fn : ∀ st, ∃ oc od fd sl, (q, (⟨oc, od, .func fd, sl⟩ : Obj)) ∈ led st
  list : ∀ st, (l, listOf vs.toArray n) ∈ led st
  step : ∀ st i, sz (nx st i) ≤ sz st + 1
  call : ∀ st i v, vs[i]? = some v → sz st ≤ 5000 → C1 w (.ref q) [v] [] need (led st) (fun news' r => led (nx st i) = news' ∧ CmpK PySem.Challenge.rw_uc0029_02.row.prog w x r right (test i))
noncomputable def wholeF (w : Nat) (figs : List Nat) : Nat := figs.foldl (fun w f => 16 * w + f) w
theorem intsSnoc {vs : List Value} {ns : List Int} {k : Int} {t : Tok} (h : IntsAre vs ns) : IntsAre (vs ++ [.int k t]) (ns ++ [k]) := by
  induction h with
  | nil => exact .cons _ _ .nil
  | cons _ _ _ ih => exact .cons _ _ ih
theorem newsHead {h₀ h : Heap} {L d : Addr} {o : Obj} {nx : List (Addr × Obj)} (_N : News h₀ L h ((d, o) :: nx)) : ∃ D, D = d := ⟨_, rfl⟩
theorem PyProof.Rows.IntsAre.at_nat {vs : List Value} {fs : List Nat} (h : IntsAre vs (fs.map fun b => ((b : Nat) : Int))) {i f : Nat} {v : Value} (hf : fs[i]? = some f) (hv : vs[i]? = some v) : ∃ t, v = .int ((f : Nat) : Int) t := by
  induction fs generalizing vs i with
  | nil => simp at hf
  | cons a r ih =>
    cases h with
    | cons k t h =>
      cases i with
      | zero => simp at hf hv; subst hf; exact ⟨t, hv.symm⟩
      | succ i => exact ih h (by simpa using hf) (by simpa using hv)
theorem cgen {M : Model} {A : Around} {x : Sem Value} {E : Value → Shared → Prop} {s : Shared} {P : Value → Shared → Prop} (h : ∀ Q' : Value → Shared → Prop, (∀ y s', P y s' → Q' y s') → wpAny M A x Q' E s) : wpAny M A x P E s := h P fun _ _ z => z
theorem qgen {M : Model} {A : Around} {env : Env} {body : List Stmt} {x : Sem Unit} {E : Value → Shared → Prop} {s : Shared} {P : Flow → Shared → Prop} (h : ∀ Q' : Flow → Shared → Prop, (∀ f s', P f s' → Q' f s') → wpAny M A x (fun _ s' => wpAny M A (execs body env) Q' E s') E s) : wpAny M A x (fun _ s' => wpAny M A (execs body env) P E s') E s := h P fun _ _ y => y
end Mine
end
section
open PySem PySem.W PySem.Calls PyProof.Rows Mine
set_option maxRecDepth 100000
namespace Mine
/-- six items -/
noncomputable def L6 (f : Nat → Value) : List Value := (List.range 6).map f
theorem L6_at {f : Nat → Value} {i : Nat} (hi : i < 6) : (L6 f)[i]? = some (f i) := by simp [L6, hi]
theorem L6_len (f : Nat → Value) : (L6 f).length = 6 := by simp [L6]
section
variable {prog : Program} {w : World} {A : Around} {E : Value → Shared → Prop} {s : Shared} {h₀ : Heap} {L l : Addr} {news : List (Addr × Obj)} {n : Nat}
theorem at6 {value slice : Expr} {i : Nat} {u : Tok} {f : Nat → Value} {Q : Value → Shared → Prop} (N : News h₀ L s.heap news) (hm : (l, listOf (L6 f).toArray n) ∈ news) (hi : i < 6) (h : Q (f i) s)
    (hs : subscripted slice false (.ref l) (.int ((i : Nat) : Int) u) = operate [.ref l, .int ((i : Nat) : Int) u] (getItem (.ref l) (.int ((i : Nat) : Int) u)) := by with_unfolding_all rfl) :
    wpAny (model prog w) A (subscriptTail value slice (.ref l) (.int ((i : Nat) : Int) u)) Q E s :=
  item_at N hm (by omega) (by omega) (by rw [Int.toNat_natCast]; exact L6_at hi) h hs
end
/-- who sees whom -/
structure SeesIn (nx : List (Addr × Obj)) (l : Addr) (qs : Nat → Addr) (ks : Nat → Nat) (n : Nat) (g : Nat → Nat → Bool) : Prop where
  list : (l, listOf (L6 fun i => .ref (qs i)).toArray n) ∈ nx
  row : ∀ i, i < 6 → (qs i, listOf (L6 fun j => .bool (g i j)).toArray (ks i)) ∈ nx
theorem SeesIn.mono {nx nx' : List (Addr × Obj)} {l : Addr} {qs : Nat → Addr} {ks : Nat → Nat} {n : Nat} {g : Nat → Nat → Bool} (h : SeesIn nx l qs ks n g) (hs : ∀ p ∈ nx, p ∈ nx') : SeesIn nx' l qs ks n g := ⟨hs _ h.list, fun i hi => hs _ (h.row i hi)⟩
/-- an order of the guests, as numbers -/
structure IsOrd (o : Nat → Nat) : Prop where
  lt : ∀ i, i < 6 → o i < 6
noncomputable abbrev OrdVal (o : Nat → Nat) (tk : Nat → Tok) : List Value := L6 fun i => .int ((o i : Nat) : Int) (tk i)
noncomputable def badP (g : Nat → Nat → Bool) (o : Nat → Nat) (c b a : Nat) : Bool := g (o c) (o a) && g (o c) (o b) && !g (o a) (o b)
noncomputable def fullP (g : Nat → Nat → Bool) (o : Nat → Nat) : Bool := !((List.range 6).any fun c => (List.range c).any fun b => (List.range b).any fun a => badP g o c b a)
theorem full_false {g : Nat → Nat → Bool} {o : Nat → Nat} {c b a : Nat} (hc : c < 6) (hb : b < c) (ha : a < b) (h : badP g o c b a = true) : fullP g o = false := by
  unfold fullP
  rw [Bool.not_eq_false', List.any_eq_true]
  exact ⟨c, List.mem_range.mpr hc, List.any_eq_true.mpr ⟨b, List.mem_range.mpr hb, List.any_eq_true.mpr ⟨a, List.mem_range.mpr ha, h⟩⟩⟩
theorem full_true {g : Nat → Nat → Bool} {o : Nat → Nat} (h : ∀ c, c < 6 → ∀ b, b < c → ∀ a, a < b → badP g o c b a = false) : fullP g o = true := by
  unfold fullP
  rw [Bool.not_eq_true', List.any_eq_false]
  intro c hc
  rw [Bool.not_eq_true, List.any_eq_false]
  intro b hb
  rw [Bool.not_eq_true, List.any_eq_false]
  intro a ha
  rw [h c (List.mem_range.mp hc) b (List.mem_range.mp hb) a (List.mem_range.mp ha)]
  decide
end Mine
namespace Mine
noncomputable def badF (g : Nat → Nat → Bool) (o : Nat → Nat) (c b a : Nat) : Bool := g (o a) (o c) && !g (o a) (o b) && ((List.range a).filter fun d => g (o d) (o b) && !g (o d) (o c)).isEmpty
noncomputable def tripleP (f : Nat → Nat → Nat → Bool) : Bool := !((List.range 6).any fun c => (List.range c).any fun b => (List.range b).any fun a => f c b a)
theorem triple_false {f : Nat → Nat → Nat → Bool} {c b a : Nat} (hc : c < 6) (hb : b < c) (ha : a < b) (h : f c b a = true) : tripleP f = false := by
  unfold tripleP
  rw [Bool.not_eq_false', List.any_eq_true]
  exact ⟨c, List.mem_range.mpr hc, List.any_eq_true.mpr ⟨b, List.mem_range.mpr hb, List.any_eq_true.mpr ⟨a, List.mem_range.mpr ha, h⟩⟩⟩
theorem triple_true {f : Nat → Nat → Nat → Bool} (h : ∀ c, c < 6 → ∀ b, b < c → ∀ a, a < b → f c b a = false) : tripleP f = true := by
  unfold tripleP
  rw [Bool.not_eq_true', List.any_eq_false]
  intro c hc
  rw [Bool.not_eq_true, List.any_eq_false]
  intro b hb
  rw [Bool.not_eq_true, List.any_eq_false]
  intro a ha
  rw [h c (List.mem_range.mp hc) b (List.mem_range.mp hb) a (List.mem_range.mp ha)]
  decide
theorem snoc_lt {P : Nat → Prop} {n : Nat} (h : ∀ i, i < n → P i) (hn : P n) : ∀ i, i < n + 1 → P i := fun i hi => by
  rcases Nat.lt_or_ge i n with h1 | h1
  · exact h i h1
  · obtain rfl : i = n := by omega
    exact hn
end Mine
namespace Mine
theorem range_filter_yes {p : Nat → Bool} {i : Nat} (h : p i = true) : (List.range (i + 1)).filter p = (List.range i).filter p ++ [i] := by rw [List.range_succ, List.filter_append]; simp [h]
theorem range_filter_no {p : Nat → Bool} {i : Nat} (h : p i = false) : (List.range (i + 1)).filter p = (List.range i).filter p := by rw [List.range_succ, List.filter_append]; simp [h]
/-- numbers of the program -/
noncomputable abbrev NatsAre (vs : List Value) (ns : List Nat) : Prop := IntsAre vs (ns.map fun b => ((b : Nat) : Int))
theorem NatsAre.snoc {vs : List Value} {ns : List Nat} {k : Nat} {t : Tok} (h : NatsAre vs ns) : NatsAre (vs ++ [.int ((k : Nat) : Int) t]) (ns ++ [k]) := by
  unfold NatsAre; rw [List.map_append]; exact intsSnoc h
theorem newsL {h₀ h : Heap} {L : Addr} {nx : List (Addr × Obj)} (_N : News h₀ L h nx) : ∃ S, S = L := ⟨L, rfl⟩
end Mine
namespace Mine
noncomputable def dNats (ns : List Nat) : List PyData := (ns.map fun b => ((b : Nat) : Int)).map PyData.int
theorem dNats_lay : ∀ ns : List Nat, PyData.canLayAll0 (dNats ns) = true
  | [] => rfl
  | _ :: r => by
    have := dNats_lay r
    simp only [dNats, List.map_cons, PyData.canLayAll0, PyData.canLay0, Bool.true_and] at this ⊢
    exact this
theorem dNats_depth : ∀ ns : List Nat, PyData.depthAll (dNats ns) = 0
  | [] => rfl
  | _ :: r => by
    have := dNats_depth r
    simp only [dNats, List.map_cons, PyData.depthAll, PyData.depth] at this ⊢
    omega
theorem natsShaped (ns : List Nat) : SeqAt.shaped (.list (dNats ns)) = true := by
  show (PyData.canLayAll0 (dNats ns) && decide (PyData.depthAll (dNats ns) + 1 ≤ 64)) = true
  rw [dNats_lay, dNats_depth]
  rfl
theorem eqvAll_nats : ∀ ns ms : List Nat, PyData.eqvAll (dNats ns) (dNats ms) = decide (ns = ms)
  | [], [] => rfl
  | [], _ :: _ => rfl
  | _ :: _, [] => rfl
  | a :: r, b :: t => by
    have ih := eqvAll_nats r t
    have e : PyData.eqvAll (dNats (a :: r)) (dNats (b :: t)) = (PyData.eqv (.int (a : Int)) (.int (b : Int)) && PyData.eqvAll (dNats r) (dNats t)) := by
      simp only [dNats, List.map_cons, PyData.eqvAll]
    rw [e, ih]
    simp only [PyData.eqv]
    by_cases h1 : a = b
    · subst h1
      by_cases h2 : r = t <;> simp [h2]
    · have : ¬ ((a : Int) = (b : Int)) := by omega
      have h3 : ((a : Int) == (b : Int)) = false := by simpa using this
      rw [h3, Bool.false_and]
      simp [h1]
theorem eqv_nats (ns ms : List Nat) : PyData.eqv (.list (dNats ns)) (.list (dNats ms)) = decide (ns = ms) := by
  rw [PyData.eqv]; exact eqvAll_nats ns ms
theorem eqv_nats_nil (ns : List Nat) : PyData.eqv (.list (dNats ns)) (.list []) = ns.isEmpty := by
  have e : PyData.eqv (.list (dNats ns)) (.list []) = decide (ns = []) := eqv_nats ns []
  rw [e]
  cases ns <;> simp
theorem NatsAre.reads {vs : List Value} {ns : List Nat} (hI : NatsAre vs ns) (h : Heap) : ReadsAll h vs (dNats ns) [] := IntsAre.reads h hI
end Mine
end
section
open PySem PySem.W PySem.Calls PyProof.Rows Mine
set_option maxRecDepth 100000
set_option maxHeartbeats 8000000
namespace Mine
local macro_rules | `(tactic| k_room) => `(tactic| ktr_room)
local macro_rules | `(tactic| k_units) => `(tactic| ktr_units)
local macro_rules | `(tactic| k_mem) => `(tactic| assumption)
local macro_rules | `(tactic| k_all) => `(tactic| k_extra "=k_all")
local macro_rules | `(tactic| size_fits) => `(tactic| k_extra "=size_fits")
local macro_rules | `(tactic| ktr_room) => `(tactic| k_extra "=ktr_room")
local macro_rules | `(tactic| ktr_units) => `(tactic| k_extra "=ktr_units")
local macro_rules | `(tactic| k_in) => `(tactic| k_extra "=k_in")

local macro_rules | `(tactic| walk_at $s:str) => `(tactic| k_extra $(Lean.Syntax.mkStrLit ("=" ++ s.getString)))
section
open PySem PySem.W PySem.Calls PyProof.Rows Mine
set_option maxRecDepth 100000
set_option maxHeartbeats 8000000
theorem reset1 : True := by
  w_top off
  k_with_none
  k_with "=k_all" => first | assumption | exact allLt_ne (by assumption) (by omega) | exact allLt_ne (And.right (by assumption)) (by omega) | exact allLt_ne (And.right (And.right (by assumption))) (by omega) | exact allLt_ne (And.right (And.right (And.right (by assumption)))) (by omega)
  k_with "=size_fits" => ((try simp only [List.size_toArray, sizeLine_eq]); omega)
  k_with "=ktr_room" => first | exact room1 (by assumption) (by decide) | exact room0 (by assumption) | exact room4 (by assumption) | exact room8 (by assumption) | exact room48 (by assumption) | fail "room"
  k_with "=ktr_units" => first | exact units1 (by assumption) (by decide) | exact units1 (k := 8) (by assumption) (by decide) | exact units4 (by assumption) | exact units8 (by assumption) | exact units48 (by assumption) | fail "units"
  k_with "=k_in" => first | k_in_fast | assumption | exact Frag.In.keeps (by k_asm) (Fr.keep (by k_asm))
  k_with "=call builtin:str.lower" => (k_here; refine lower_K (by first | assumption | exact Clean.low (by assumption)) ?_; intro _ _)
  k_with "=c1" => ((case k1 => k_asm); (case k2 => k_asm); (case k3 => k_asm); (case k4 => k_asm); (case k5 => k_asm); (case k6 => ktr_room); (case k7 => ktr_units))
  k_with "=subscriptTail Name Slice ref ref" => (k_here; (with_reducible show wpAny _ _ (subscriptTail _ (PySem.Expr.Slice _ _ none _) (Value.ref _) (Value.ref _)) _ _ _); k_dflt (refine' kms_slice_lit (by k_asm) (by k_asm) (by kmk_list) (by kmk_part) (by kmk_part) (by exact rfl) ?_ (by with_unfolding_all rfl) (by kmk_pure) (by kmk_size)); intro kxD kxH kxF kxN kxl; (try k_lt kxl); (try simp only [List.toList_toArray, pick_all, pick_init, pick_lit] at kxN))
  k_with "=call builtin:len" => (k_here; (refine' len_at (by k_asm) (by k_mem) (by omega) ?_); intro _ _)
  k_with "=callWith ref" => (k_here; k_dflt (refine' callWith_F (by exact FnAt.of (by k_asm) (by k_mem)) ?_; k_whole))
  k_with "=callWith ref" => (k_here; (with_reducible show wpAny _ _ (callWith _ (Value.ref (OfNat.ofNat _)) _ (backTo _ (starEach (_ :: _) _)) (backToKw _ _)) _ _ _); k_dflt (refine' callWith_KW (by k_asm) (by k_is) (by exact rfl) ?_; k_whole))
  k_with "=callWith ref" => (k_here; (with_reducible show wpAny _ _ (callWith _ (Value.ref (OfNat.ofNat _)) _ (backTo _ (starEach (_ :: _) _)) []) _ _ _); k_dflt (refine' callWith_K (by k_asm) (by k_is) ?_; k_whole))
  k_with "=getMethod ref" => (k_here; (with_reducible show wpAny _ _ (getMethod (Value.ref _) (PySem.Str.ofString "search") _) _ _ _); k_dflt (refine' re_method_K (by k_asm) (by k_asm) (by k_is) ?_))
  k_with "=call builtin:re.Pattern.search" => (k_here; k_dflt (refine' re_search_K (by k_asm) (by k_asm) (by k_is) (by k_is) (by first | exact .inl (by decide +kernel) | exact .inr (by decide +kernel)) (by assumption) ?_))
  trivial
theorem conv (w : World) (x : Addr) (v : Str) (t : Tok) (b : Bool) (hv : Clean v) (news : List (Addr × Obj)) : C1 w (.ref 117) [.ref x, .str v t] [("name", .bool b)] 3 news (fun news' r => news = news' ∧ r = .str v t) := by
  unfold C1
  k_fill
  intro p loose mean mg mb dp un gd cn nm ig ic mr a ccd cl outer A₀ base h₀ L m s Q E B F X N T hd hu ret
  refine wpAny_call ?_
  k_dflt k_enter
  k_steps
  all_goals exact ret _ _ _ _ (by k_asm) (by k_asm) ⟨rfl, rfl⟩
end

section
open PySem PySem.W PySem.Calls PyProof.Rows Mine
set_option maxRecDepth 100000
set_option maxHeartbeats 8000000
theorem reset2 : True := by
  w_top off
  k_with_none
  k_with "=k_all" => first | assumption | exact allLt_ne (by assumption) (by omega) | exact allLt_ne (And.right (by assumption)) (by omega) | exact allLt_ne (And.right (And.right (by assumption))) (by omega) | exact allLt_ne (And.right (And.right (And.right (by assumption)))) (by omega)
  k_with "=size_fits" => ((try simp only [List.size_toArray, sizeLine_eq]); omega)
  k_with "=ktr_room" => first | exact room1 (by assumption) (by decide) | exact room0 (by assumption) | exact room4 (by assumption) | exact room8 (by assumption) | exact room48 (by assumption) | fail "room"
  k_with "=ktr_units" => first | exact units1 (by assumption) (by decide) | exact units1 (k := 8) (by assumption) (by decide) | exact units4 (by assumption) | exact units8 (by assumption) | exact units48 (by assumption) | fail "units"
  k_with "=k_in" => first | k_in_fast | assumption | exact Frag.In.keeps (by k_asm) (Fr.keep (by k_asm))
  k_with "=call builtin:str.lower" => (k_here; refine lower_K (by first | assumption | exact Clean.low (by assumption)) ?_; intro _ _)
  k_with "=c1" => ((case k1 => k_asm); (case k2 => k_asm); (case k3 => k_asm); (case k4 => k_asm); (case k5 => k_asm); (case k6 => ktr_room); (case k7 => ktr_units))
  k_with "=subscriptTail Name Slice ref ref" => (k_here; (with_reducible show wpAny _ _ (subscriptTail _ (PySem.Expr.Slice _ _ none _) (Value.ref _) (Value.ref _)) _ _ _); k_dflt (refine' kms_slice_lit (by k_asm) (by k_asm) (by kmk_list) (by kmk_part) (by kmk_part) (by exact rfl) ?_ (by with_unfolding_all rfl) (by kmk_pure) (by kmk_size)); intro kxD kxH kxF kxN kxl; (try k_lt kxl); (try simp only [List.toList_toArray, pick_all, pick_init, pick_lit] at kxN))
  k_with "=call builtin:len" => (k_here; (refine' len_at (by k_asm) (by k_mem) (by omega) ?_); intro _ _)
  k_with "=callWith ref" => (k_here; k_dflt (refine' callWith_F (by exact FnAt.of (by k_asm) (by k_mem)) ?_; k_whole))
  k_with "=callWith ref" => (k_here; (with_reducible show wpAny _ _ (callWith _ (Value.ref (OfNat.ofNat _)) _ (backTo _ (starEach (_ :: _) _)) (backToKw _ _)) _ _ _); k_dflt (refine' callWith_KW (by k_asm) (by k_is) (by exact rfl) ?_; k_whole))
  k_with "=callWith ref" => (k_here; (with_reducible show wpAny _ _ (callWith _ (Value.ref (OfNat.ofNat _)) _ (backTo _ (starEach (_ :: _) _)) []) _ _ _); k_dflt (refine' callWith_K (by k_asm) (by k_is) ?_; k_whole))
  k_with "=call ref" => (k_here; (with_reducible show wpAny _ _ (call (Value.ref 117) _ _) _ _ _); k_dflt (refine' C1.use (conv _ _ _ _ _ (by first | assumption | exact Clean.low (by assumption)) _) (by k_asm) (by k_asm) (by k_asm) (by k_asm) (by k_asm) (by ktr_room) (by ktr_units) ?_; intro kxr kxnews kxH kxT kxF kxN kxP; obtain ⟨kxe1, kxe2⟩ := kxP; subst kxe1; subst kxe2; (try dsimp only)))
  k_with "=exec For Tuple Attribute cons nil" => (k_here; (with_reducible rename Fr _ _ _ _ => lF'); with_unfolding_all refine For_myF lF' ?_)
  trivial
theorem hget (w : World) (x l : Addr) (vs : List Value) (n : Nat) (kvs : List (Str × Str)) (nm : Str) (t : Tok) (hn : Clean nm) (hk : CleanT kvs) (news : List (Addr × Obj)) (hT : TabIn 216 w news x l vs n kvs) :
    C1 w (.ref 163) [.ref x, .str nm t] [] 8 news (fun news' r => news = news' ∧ optV (getT kvs (lowS nm)) r) := by
  unfold C1
  k_fill
  intro p loose mean mg mb dp un gd cn nm' ig ic mr a ccd cl outer A₀ base h₀ L m s Q E B F X N T hd hu ret
  obtain ⟨⟨dx, tk, dn, hx, hdx⟩, hl, hp⟩ := hT
  refine wpAny_call ?_
  k_dflt k_enter
  k_steps
  (rename Fr _ _ _ _ => F₁); (rename News _ _ _ _ => N₁)
  refine Iter_list_my (k := n) (vs := vs) (fun i m₁ nx => (∃ t, m₁ (Str.ofString "name") = some (.str (lowS nm) t)) ∧ m₁ (Str.ofString "default") = some .none ∧ news = nx ∧ ∀ kv ∈ kvs.take i, lowS kv.1 ≠ lowS nm) rfl F₁ N₁ ?_ ?_ ?_ ?_
  · rintro i m nx ⟨-, -, rfl, -⟩; exact hl
  · exact ⟨⟨_, rfl⟩, rfl, rfl, by simp⟩
  · rintro I i v m₁ nx h tk io hv ⟨⟨tn, hm⟩, hm2, rfl, hno⟩ hI F' N'
    clear F₁ N₁
    replace F' := frPut2 F' hm hm2
    obtain ⟨q, k, v, t1, u1, rfl, hkv, hq⟩ := hp.at hv
    have hc := hk.2 (k, v) (List.mem_of_getElem? hkv)
    obtain ⟨hc1, hc2⟩ := hc
    k_steps
    · dsimp only [ForStep]
      k_steps
      (rename (lowS k == lowS nm) = true => he); (rename News _ _ _ _ => N9)
      exact ret _ _ _ _ (by k_asm) (news_drop N9 fun _ hp => .tail _ hp) ⟨rfl, by rw [getT_some hkv hno he]; exact ⟨_, rfl⟩⟩
    · (rename (lowS k == lowS nm) = false => he)
      exact ForStep.next (by k_asm) (by k_asm) (fun _ hp => hp) hI ⟨⟨_, rfl⟩, rfl, rfl, take_step hkv hno (by simpa using he)⟩
  · rintro m₁ nx h tk ⟨⟨tn, hm⟩, hm2, rfl, hno⟩ F' N'
    clear F₁ N₁
    replace F' := frPut2 F' hm hm2
    k_steps
    exact ret _ _ _ _ (by k_asm) (by k_asm) ⟨rfl, by rw [getT_none (by rw [hp.length, List.take_length] at hno; exact hno)]; rfl⟩
end
section
open PySem PySem.W PySem.Calls PyProof.Rows Mine
set_option maxRecDepth 100000
set_option maxHeartbeats 8000000
theorem reset3 : True := by
  w_top off
  k_with_none
  k_with "=k_all" => first | assumption | exact allLt_ne (by assumption) (by omega) | exact allLt_ne (And.right (by assumption)) (by omega) | exact allLt_ne (And.right (And.right (by assumption))) (by omega) | exact allLt_ne (And.right (And.right (And.right (by assumption)))) (by omega)
  k_with "=size_fits" => ((try simp only [List.size_toArray, sizeLine_eq]); omega)
  k_with "=ktr_room" => first | exact room1 (by assumption) (by decide) | exact room0 (by assumption) | exact room4 (by assumption) | exact room8 (by assumption) | exact room48 (by assumption) | fail "room"
  k_with "=ktr_units" => first | exact units1 (by assumption) (by decide) | exact units1 (k := 8) (by assumption) (by decide) | exact units4 (by assumption) | exact units8 (by assumption) | exact units48 (by assumption) | fail "units"
  k_with "=k_in" => first | k_in_fast | assumption | exact Frag.In.keeps (by k_asm) (Fr.keep (by k_asm))
  k_with "=call builtin:str.lower" => (k_here; refine lower_K (by first | assumption | exact Clean.low (by assumption)) ?_; intro _ _)
  k_with "=c1" => ((case k1 => k_asm); (case k2 => k_asm); (case k3 => k_asm); (case k4 => k_asm); (case k5 => k_asm); (case k6 => ktr_room); (case k7 => ktr_units))
  k_with "=subscriptTail Name Slice ref ref" => (k_here; (with_reducible show wpAny _ _ (subscriptTail _ (PySem.Expr.Slice _ _ none _) (Value.ref _) (Value.ref _)) _ _ _); k_dflt (refine' kms_slice_lit (by k_asm) (by k_asm) (by kmk_list) (by kmk_part) (by kmk_part) (by exact rfl) ?_ (by with_unfolding_all rfl) (by kmk_pure) (by kmk_size)); intro kxD kxH kxF kxN kxl; (try k_lt kxl); (try simp only [List.toList_toArray, pick_all, pick_init, pick_lit] at kxN))
  k_with "=call builtin:len" => (k_here; (refine' len_at (by k_asm) (by k_mem) (by omega) ?_); intro _ _)
  k_with "=callWith ref" => (k_here; k_dflt (refine' callWith_F (by exact FnAt.of (by k_asm) (by k_mem)) ?_; k_whole))
  k_with "=callWith ref" => (k_here; (with_reducible show wpAny _ _ (callWith _ (Value.ref (OfNat.ofNat _)) _ (backTo _ (starEach (_ :: _) _)) (backToKw _ _)) _ _ _); k_dflt (refine' callWith_KW (by k_asm) (by k_is) (by exact rfl) ?_; k_whole))
  k_with "=callWith ref" => (k_here; (with_reducible show wpAny _ _ (callWith _ (Value.ref (OfNat.ofNat _)) _ (backTo _ (starEach (_ :: _) _)) []) _ _ _); k_dflt (refine' callWith_K (by k_asm) (by k_is) ?_; k_whole))
  k_with "=call ref" => (k_here; (with_reducible show wpAny _ _ (call (Value.ref 117) _ _) _ _ _); k_dflt (refine' C1.use (conv _ _ _ _ _ (by first | assumption | exact Clean.low (by assumption)) _) (by k_asm) (by k_asm) (by k_asm) (by k_asm) (by k_asm) (by ktr_room) (by ktr_units) ?_; intro kxr kxnews kxH kxT kxF kxN kxP; obtain ⟨kxe1, kxe2⟩ := kxP; subst kxe1; subst kxe2; (try dsimp only)))
  k_with "=setItem ref ref ref" => (k_here; (with_reducible rename Fr _ _ _ _ => kxF); (with_reducible rename News _ _ _ _ => kxN); (refine' setItem_all_K (s := ⟨_, _, _, _, _⟩) kxF kxN (by k_updF) (by k_mem) (by k_ne) (by ((try simp only [List.size_toArray]); omega)) (by ((try simp only [List.size_toArray]); omega)) ?_); intro kxH kxn kxF kxN; (try dsimp only at kxN))
  k_with "=eval ListComp" => (k_here; k_dflt (refine LCt.ListComp_T (F₀ := by k_asm) (by with_unfolding_all rfl) (by decide) (by rfl) (by decide) (by rfl) ?_))
  k_with "=CompSrcT" => refine Hold.out ?_
  trivial
theorem hdel (w : World) (x l : Addr) (vs : List Value) (n : Nat) (kvs : List (Str × Str)) (nm : Str) (t : Tok) (hn : Clean nm) (hk : CleanT kvs) (rest : List (Addr × Obj)) (hT : TabL 216 w rest x l vs kvs) :
    C1 w (.ref 136) [.ref x, .str nm t] [] 8 ((l, listOf vs.toArray n) :: rest) (fun news' r => ∃ vs' n' rest', news' = (l, listOf vs'.toArray n') :: rest' ∧ Grow l rest rest' ∧ TabL 216 w rest' x l vs' (kvs.filter fun kv => lowS kv.1 != lowS nm) ∧ vs'.length ≤ vs.length ∧ r = .none) := by
  unfold C1
  k_fill
  intro p loose mean mg mb dp un gd cn nm' ig ic mr a ccd cl outer A₀ base h₀ L m s Q E B F X N T hd hu ret
  obtain ⟨dx, tk, dn, hx, hdx⟩ := hT.inst
  have hoff := hT.off
  have hz : vs.length ≤ 100 := by rw [hT.pairs.length]; exact hk.1
  refine wpAny_call ?_
  k_dflt k_enter
  k_steps
  unfold Hold
  (rename Fr _ _ _ _ => F₁); (rename News _ _ _ _ => N₁)
  obtain ⟨X₁, hX⟩ := newsName N₁
  refine LCt.CompSrcT.ledger (by rfl) F₁ N₁ (by k_mem) (by size_fits) ?_
  intro g'
  refine compT_inv (n := vs.toArray.size) (fun i ys nx => nx = X₁ ∧ PairsIn rest ys ((kvs.take i).filter fun kv => lowS kv.1 != lowS nm)) ?_ ?_ _ _ _ _ (Nat.zero_add _) ⟨hX, by simpa using PairsIn.nil⟩
  · rintro i v ys nx I oI C oC D m₂ h tk E' hi hv ⟨rfl, hys⟩ hC hx F' N' off ne
    subst hX
    obtain ⟨q, k, v, t1, u1, rfl, hkv, hq⟩ := hT.pairs.at (by simpa using hv)
    have hc := hk.2 (k, v) (List.mem_of_getElem? hkv)
    obtain ⟨hc1, hc2⟩ := hc
    clear F₁ N₁
    k_steps
    · (rename (lowS k != lowS nm) = true => he)
      exact LCg.CompEnd.intro (by k_asm) N' _ (fun _ hp => hp) off (.inr ⟨_, by k_mem, rfl, _, rfl⟩) ⟨rfl, by rw [filter_take_yes hkv he]; exact hys.snoc hq⟩
    · (rename (lowS k != lowS nm) = false => he)
      exact LCg.CompEnd.intro (by k_asm) N' _ (fun _ hp => hp) off (.inr ⟨_, by k_mem, rfl, _, rfl⟩) ⟨rfl, by rw [filter_take_no hkv he]; exact hys⟩
  · rintro ys nx ⟨rfl, hys⟩
    subst hX
    clear F₁ N₁
    rw [show vs.toArray.size = kvs.length from by simp [hT.pairs.length], List.take_length] at hys
    have hz2 : ys.length ≤ 100 := by rw [hys.length]; exact Nat.le_trans (List.length_filter_le _ _) hk.1
    k_steps
    (rename News _ _ _ _ => N9)
    exact ret _ _ _ _ (by k_asm) (news_drop N9 fun _ hp => .tail _ (.tail _ hp)) ⟨_, _, rest, rfl, Grow.refl _ _, ⟨hT.inst, hys, hT.off⟩, by rw [hys.length, hT.pairs.length]; exact List.length_filter_le _ _, rfl⟩
end
section
open PySem PySem.W PySem.Calls PyProof.Rows Mine
set_option maxRecDepth 100000
set_option maxHeartbeats 8000000
theorem reset4 : True := by
  w_top off
  k_with_none
  k_with "=k_all" => first | assumption | exact allLt_ne (by assumption) (by omega) | exact allLt_ne (And.right (by assumption)) (by omega) | exact allLt_ne (And.right (And.right (by assumption))) (by omega) | exact allLt_ne (And.right (And.right (And.right (by assumption)))) (by omega)
  k_with "=size_fits" => ((try simp only [List.size_toArray, sizeLine_eq]); omega)
  k_with "=ktr_room" => first | exact room1 (by assumption) (by decide) | exact room0 (by assumption) | exact room4 (by assumption) | exact room8 (by assumption) | exact room48 (by assumption) | fail "room"
  k_with "=ktr_units" => first | exact units1 (by assumption) (by decide) | exact units1 (k := 8) (by assumption) (by decide) | exact units4 (by assumption) | exact units8 (by assumption) | exact units48 (by assumption) | fail "units"
  k_with "=k_in" => first | k_in_fast | assumption | exact Frag.In.keeps (by k_asm) (Fr.keep (by k_asm))
  k_with "=call builtin:str.lower" => (k_here; refine lower_K (by first | assumption | exact Clean.low (by assumption)) ?_; intro _ _)
  k_with "=c1" => ((case k1 => k_asm); (case k2 => k_asm); (case k3 => k_asm); (case k4 => k_asm); (case k5 => k_asm); (case k6 => ktr_room); (case k7 => ktr_units))
  k_with "=subscriptTail Name Slice ref ref" => (k_here; (with_reducible show wpAny _ _ (subscriptTail _ (PySem.Expr.Slice _ _ none _) (Value.ref _) (Value.ref _)) _ _ _); k_dflt (refine' kms_slice_lit (by k_asm) (by k_asm) (by kmk_list) (by kmk_part) (by kmk_part) (by exact rfl) ?_ (by with_unfolding_all rfl) (by kmk_pure) (by kmk_size)); intro kxD kxH kxF kxN kxl; (try k_lt kxl); (try simp only [List.toList_toArray, pick_all, pick_init, pick_lit] at kxN))
  k_with "=call builtin:len" => (k_here; (refine' len_at (by k_asm) (by k_mem) (by omega) ?_); intro _ _)
  k_with "=callWith ref" => (k_here; k_dflt (refine' callWith_F (by exact FnAt.of (by k_asm) (by k_mem)) ?_; k_whole))
  k_with "=callWith ref" => (k_here; (with_reducible show wpAny _ _ (callWith _ (Value.ref (OfNat.ofNat _)) _ (backTo _ (starEach (_ :: _) _)) (backToKw _ _)) _ _ _); k_dflt (refine' callWith_KW (by k_asm) (by k_is) (by exact rfl) ?_; k_whole))
  k_with "=callWith ref" => (k_here; (with_reducible show wpAny _ _ (callWith _ (Value.ref (OfNat.ofNat _)) _ (backTo _ (starEach (_ :: _) _)) []) _ _ _); k_dflt (refine' callWith_K (by k_asm) (by k_is) ?_; k_whole))
  k_with "=call ref" => (k_here; (with_reducible show wpAny _ _ (call (Value.ref 117) _ _) _ _ _); k_dflt (refine' C1.use (conv _ _ _ _ _ (by first | assumption | exact Clean.low (by assumption)) _) (by k_asm) (by k_asm) (by k_asm) (by k_asm) (by k_asm) (by ktr_room) (by ktr_units) ?_; intro kxr kxnews kxH kxT kxF kxN kxP; obtain ⟨kxe1, kxe2⟩ := kxP; subst kxe1; subst kxe2; (try dsimp only)))
  k_with "=call ref" => (k_here; (with_reducible show wpAny _ _ (call (Value.ref 136) _ _) _ _ _); k_dflt (refine' C1.use (hdel _ _ _ _ _ _ _ _ (by first | assumption | exact Clean.low (by assumption)) (by assumption) _ (by assumption)) (by k_asm) (by k_asm) (by k_asm) (by k_asm) (by k_asm) (by ktr_room) (by ktr_units) ?_; intro kxr kxnews kxH kxT kxF kxN kxP; obtain ⟨kxvs, kxn9, kxrest, kxe1, kxg, kxhT, kxhz, kxe2⟩ := kxP; subst kxe1; subst kxe2; (have kxoff := kxhT.off); (obtain ⟨kxdx, kxtk, kxdn, kxhx, kxhdx⟩ := kxhT.inst); (try dsimp only)))
  k_with "=delItem ref" => (k_here; k_dflt (refine' delItem_inst (by k_asm) (by k_asm) (by k_inst) (by k_is) (by k_is) (by k_is) ?_))
  trivial
theorem hset (w : World) (x l : Addr) (vs : List Value) (n : Nat) (kvs : List (Str × Str)) (nm val : Str) (t u : Tok) (hn : Clean nm) (hv : Clean val) (hk : CleanT kvs) (rest : List (Addr × Obj)) (hT : TabL 216 w rest x l vs kvs) :
    C1 w (.ref 131) [.ref x, .str nm t, .str val u] [] 14 ((l, listOf vs.toArray n) :: rest) (fun news' r => ∃ vs' n' rest', news' = (l, listOf vs'.toArray n') :: rest' ∧ Grow l rest rest' ∧ TabL 216 w rest' x l vs' ((kvs.filter fun kv => lowS kv.1 != lowS nm) ++ [(nm, val)]) ∧ r = .none) := by
  unfold C1
  k_fill
  intro p loose mean mg mb dp un gd cn nm' ig ic mr a ccd cl outer A₀ base h₀ L m s Q E B F X N T hd hu ret
  obtain ⟨dx, tk, dn, hx, hdx⟩ := hT.inst
  have hoff := hT.off
  have hz : vs.length ≤ 100 := by rw [hT.pairs.length]; exact hk.1
  refine wpAny_call ?_
  k_dflt k_enter
  k_steps
  (rename News _ _ _ _ => N9); (rename _ ∧ AllLt _ _ => hl1); (rename Grow _ _ _ => hg); (rename TabL _ _ _ _ _ _ (List.filter _ _) => hT9)
  obtain ⟨hl1, hl2⟩ := hl1
  exact ret _ _ _ _ (by k_asm) (news_drop N9 (news := (l, _) :: (_, _) :: _) (fun p hp => by
      rcases List.mem_cons.mp hp with rfl | hp
      · exact .tail _ (.head _)
      · rcases List.mem_cons.mp hp with rfl | hp
        · exact .head _
        · exact .tail _ (.tail _ hp))) ⟨_ ++ [_], _, _, by rw [List.push_toArray], hg.trans (Grow.one hl1 (allLt_mem hl2)), hT9.snoc hl1, rfl⟩
end
section
open PySem PySem.W PySem.Calls PyProof.Rows Mine
set_option maxRecDepth 100000
set_option maxHeartbeats 8000000
theorem reset5 : True := by
  w_top off
  k_with_none
  k_with "=k_all" => first | assumption | exact allLt_ne (by assumption) (by omega) | exact allLt_ne (And.right (by assumption)) (by omega) | exact allLt_ne (And.right (And.right (by assumption))) (by omega) | exact allLt_ne (And.right (And.right (And.right (by assumption)))) (by omega)
  k_with "=size_fits" => ((try simp only [List.size_toArray, sizeLine_eq]); omega)
  k_with "=ktr_room" => first | exact room1 (by assumption) (by decide) | exact room0 (by assumption) | exact room4 (by assumption) | exact room8 (by assumption) | exact room48 (by assumption) | fail "room"
  k_with "=ktr_units" => first | exact units1 (by assumption) (by decide) | exact units1 (k := 8) (by assumption) (by decide) | exact units4 (by assumption) | exact units8 (by assumption) | exact units48 (by assumption) | fail "units"
  k_with "=k_in" => first | k_in_fast | assumption | exact Frag.In.keeps (by k_asm) (Fr.keep (by k_asm))
  k_with "=call builtin:str.lower" => (k_here; refine lower_K (by first | assumption | exact Clean.low (by assumption)) ?_; intro _ _)
  k_with "=c1" => ((case k1 => k_asm); (case k2 => k_asm); (case k3 => k_asm); (case k4 => k_asm); (case k5 => k_asm); (case k6 => ktr_room); (case k7 => ktr_units))
  k_with "=subscriptTail Name Slice ref ref" => (k_here; (with_reducible show wpAny _ _ (subscriptTail _ (PySem.Expr.Slice _ _ none _) (Value.ref _) (Value.ref _)) _ _ _); k_dflt (refine' kms_slice_lit (by k_asm) (by k_asm) (by kmk_list) (by kmk_part) (by kmk_part) (by exact rfl) ?_ (by with_unfolding_all rfl) (by kmk_pure) (by kmk_size)); intro kxD kxH kxF kxN kxl; (try k_lt kxl); (try simp only [List.toList_toArray, pick_all, pick_init, pick_lit] at kxN))
  k_with "=call builtin:len" => (k_here; (refine' len_at (by k_asm) (by k_mem) (by omega) ?_); intro _ _)
  k_with "=callWith ref" => (k_here; k_dflt (refine' callWith_F (by exact FnAt.of (by k_asm) (by k_mem)) ?_; k_whole))
  k_with "=callWith ref" => (k_here; (with_reducible show wpAny _ _ (callWith _ (Value.ref (OfNat.ofNat _)) _ (backTo _ (starEach (_ :: _) _)) (backToKw _ _)) _ _ _); k_dflt (refine' callWith_KW (by k_asm) (by k_is) (by exact rfl) ?_; k_whole))
  k_with "=callWith ref" => (k_here; (with_reducible show wpAny _ _ (callWith _ (Value.ref (OfNat.ofNat _)) _ (backTo _ (starEach (_ :: _) _)) []) _ _ _); k_dflt (refine' callWith_K (by k_asm) (by k_is) ?_; k_whole))
  k_with "=call ref" => (k_here; (with_reducible show wpAny _ _ (call (Value.ref 117) _ _) _ _ _); k_dflt (refine' C1.use (conv _ _ _ _ _ (by first | assumption | exact Clean.low (by assumption)) _) (by k_asm) (by k_asm) (by k_asm) (by k_asm) (by k_asm) (by ktr_room) (by ktr_units) ?_; intro kxr kxnews kxH kxT kxF kxN kxP; obtain ⟨kxe1, kxe2⟩ := kxP; subst kxe1; subst kxe2; (try dsimp only)))
  trivial
theorem hitems (w : World) (x l : Addr) (vs : List Value) (n : Nat) (kvs : List (Str × Str)) (hk : CleanT kvs) (rest : List (Addr × Obj)) (hT : TabL 216 w rest x l vs kvs) :
    C1 w (.ref 180) [.ref x] [] 4 ((l, listOf vs.toArray n) :: rest) (fun news' r => ∃ q, news' = (q, listOf vs.toArray 0) :: (l, listOf vs.toArray n) :: rest ∧ l < q ∧ AllLt q rest ∧ r = .ref q) := by
  unfold C1
  k_fill
  intro p loose mean mg mb dp un gd cn nm' ig ic mr a ccd cl outer A₀ base h₀ L m s Q E B F X N T hd hu ret
  obtain ⟨dx, tk, dn, hx, hdx⟩ := hT.inst
  have hoff := hT.off
  have hz : vs.length ≤ 100 := by rw [hT.pairs.length]; exact hk.1
  refine wpAny_call ?_
  k_dflt k_enter
  k_steps
  (rename _ ∧ AllLt _ _ => hl1)
  exact ret _ _ _ _ (by k_asm) (by k_asm) ⟨_, rfl, hl1.1, hl1.2, rfl⟩
end
section
open PySem PySem.W PySem.Calls PyProof.Rows Mine
set_option maxRecDepth 100000
set_option maxHeartbeats 8000000
theorem reset6 : True := by
  w_top off
  k_with_none
  k_with "=k_all" => first | assumption | exact allLt_ne (by assumption) (by omega) | exact allLt_ne (And.right (by assumption)) (by omega) | exact allLt_ne (And.right (And.right (by assumption))) (by omega) | exact allLt_ne (And.right (And.right (And.right (by assumption)))) (by omega)
  k_with "=size_fits" => ((try simp only [List.size_toArray, sizeLine_eq]); omega)
  k_with "=ktr_room" => first | exact room1 (by assumption) (by decide) | exact room0 (by assumption) | exact room4 (by assumption) | exact room8 (by assumption) | exact room48 (by assumption) | fail "room"
  k_with "=ktr_units" => first | exact units1 (by assumption) (by decide) | exact units1 (k := 8) (by assumption) (by decide) | exact units4 (by assumption) | exact units8 (by assumption) | exact units48 (by assumption) | fail "units"
  k_with "=k_in" => first | k_in_fast | assumption | exact Frag.In.keeps (by k_asm) (Fr.keep (by k_asm))
  k_with "=call builtin:str.lower" => (k_here; refine lower_K (by first | assumption | exact Clean.low (by assumption)) ?_; intro _ _)
  k_with "=c1" => ((case k1 => k_asm); (case k2 => k_asm); (case k3 => k_asm); (case k4 => k_asm); (case k5 => k_asm); (case k6 => ktr_room); (case k7 => ktr_units))
  k_with "=subscriptTail Name Slice ref ref" => (k_here; (with_reducible show wpAny _ _ (subscriptTail _ (PySem.Expr.Slice _ _ none _) (Value.ref _) (Value.ref _)) _ _ _); k_dflt (refine' kms_slice_lit (by k_asm) (by k_asm) (by kmk_list) (by kmk_part) (by kmk_part) (by exact rfl) ?_ (by with_unfolding_all rfl) (by kmk_pure) (by kmk_size)); intro kxD kxH kxF kxN kxl; (try k_lt kxl); (try simp only [List.toList_toArray, pick_all, pick_init, pick_lit] at kxN))
  k_with "=call builtin:len" => (k_here; (refine' len_at (by k_asm) (by k_mem) (by omega) ?_); intro _ _)
  k_with "=callWith ref" => (k_here; k_dflt (refine' callWith_F (by exact FnAt.of (by k_asm) (by k_mem)) ?_; k_whole))
  k_with "=callWith ref" => (k_here; (with_reducible show wpAny _ _ (callWith _ (Value.ref (OfNat.ofNat _)) _ (backTo _ (starEach (_ :: _) _)) (backToKw _ _)) _ _ _); k_dflt (refine' callWith_KW (by k_asm) (by k_is) (by exact rfl) ?_; k_whole))
  k_with "=callWith ref" => (k_here; (with_reducible show wpAny _ _ (callWith _ (Value.ref (OfNat.ofNat _)) _ (backTo _ (starEach (_ :: _) _)) []) _ _ _); k_dflt (refine' callWith_K (by k_asm) (by k_is) ?_; k_whole))
  k_with "=call ref" => (k_here; (with_reducible show wpAny _ _ (call (Value.ref 117) _ _) _ _ _); k_dflt (refine' C1.use (conv _ _ _ _ _ (by first | assumption | exact Clean.low (by assumption)) _) (by k_asm) (by k_asm) (by k_asm) (by k_asm) (by k_asm) (by ktr_room) (by ktr_units) ?_; intro kxr kxnews kxH kxT kxF kxN kxP; obtain ⟨kxe1, kxe2⟩ := kxP; subst kxe1; subst kxe2; (try dsimp only)))
  k_with "=exec While Name cons nil" => refine Hold.out ?_
  k_with "=subscriptTail" => (k_here; (with_reducible show wpAny _ _ (subscriptTail _ (Expr.Slice _ _ none _) (Value.bytes _ _) (Value.ref _)) _ _ _); (with_reducible rename Fr _ _ _ _ => F'); (with_reducible rename News _ _ _ _ => N'); (refine ap_slice_K (s := ⟨_, _, _, _, _⟩) F' N' (fmod_lo _ (by decide)) (fmod_hi _ (by decide)) ?_); intro _ _ _ F' N')
  k_with "=binaryOp Add bytes bytes" => (k_here; (refine KBy.add_bytes (by ((try simp only [List.size_toArray, List.length_cons, List.length_nil]); omega)) ?_); intro _ _)
  trivial
theorem int2ap (w : World) (n : Int) (t : Tok) (hn : n.natAbs < 16 ^ 16) (news : List (Addr × Obj)) : C1 w (.ref 45) [.int n t] [] 3 news (fun news' r => news = news' ∧ ∃ t, r = .bytes (apB n.natAbs) t) := by
  unfold C1
  k_fill
  intro p loose mean mg mb dp un gd cn nm ig ic mr a ccd cl outer A₀ base h₀ L m s Q E B F X N T hd hu ret
  refine wpAny_call ?_
  k_dflt k_enter
  k_steps
  unfold Hold
  (rename Fr _ _ _ _ => F₁); (rename News _ _ _ _ => N₁)
  refine While_inv2 (n₀ := n.natAbs) (fun k m₁ nx => (∃ t, m₁ (Str.ofString "num") = some (.int (k : Int) t)) ∧ (∃ t, m₁ (Str.ofString "AP") = some (.bytes apBytes t)) ∧ (∃ v t, m₁ (Str.ofString "val") = some (.bytes v t) ∧ apB k ++ v = apB n.natAbs) ∧ news = nx) F₁ N₁ ?_ ?_
  · have e : (if n < 0 then -n else n) = ((n.natAbs : Nat) : Int) := by split <;> omega
    refine ⟨⟨?t1, ?h1⟩, ⟨?t2, ?h2⟩, ⟨#[], ?t3, ?h3, ?h4⟩, rfl⟩
    case h1 => rw [← e]; exact rfl
    case h2 => exact rfl
    case h3 => exact rfl
    case h4 => simp
  · rintro k m₁ nx h tk F' N' ⟨⟨t1, hm1⟩, ⟨t2, hm2⟩, ⟨v, t3, hm3, hval⟩, rfl⟩
    clear F₁ N₁
    have hv := ap_size_le hval (apB_size hn)
    replace F' := frPut3 F' hm1 hm2 hm3
    k_steps
    · (rename (k : Int) ≠ 0 => h0); (rename News _ _ _ _ => N9)
      refine ⟨_, _, _, news, k / 16, rfl, by k_asm, news_drop N9 (fun _ hp => .tail _ hp), by omega, ⟨?b1, ?g1⟩, ⟨?b2, ?g2⟩, ⟨_, ?b3, ?g3, ap_step h0 hval⟩, rfl⟩
      case g1 => rw [← ap_div]; exact rfl
      case g2 => exact rfl
      case g3 => exact rfl
    · (rename (k : Int) = 0 => h0)
      have : k = 0 := by omega
      subst this
      rw [apB_zero] at hval
      exact ret _ _ _ _ (by k_asm) (by k_asm) ⟨rfl, t3, by rw [← hval]; simp⟩
end
section
open PySem PySem.W PySem.Calls PyProof.Rows Mine
set_option maxRecDepth 100000
set_option maxHeartbeats 8000000
theorem reset7 : True := by
  w_top off
  k_with_none
  k_with "=k_all" => first | assumption | exact allLt_ne (by assumption) (by omega) | exact allLt_ne (And.right (by assumption)) (by omega) | exact allLt_ne (And.right (And.right (by assumption))) (by omega) | exact allLt_ne (And.right (And.right (And.right (by assumption)))) (by omega)
  k_with "=size_fits" => ((try simp only [List.size_toArray, sizeLine_eq]); omega)
  k_with "=ktr_room" => first | exact room1 (by assumption) (by decide) | exact room0 (by assumption) | exact room4 (by assumption) | exact room8 (by assumption) | exact room48 (by assumption) | fail "room"
  k_with "=ktr_units" => first | exact units1 (by assumption) (by decide) | exact units1 (k := 8) (by assumption) (by decide) | exact units4 (by assumption) | exact units8 (by assumption) | exact units48 (by assumption) | fail "units"
  k_with "=k_in" => first | k_in_fast | assumption | exact Frag.In.keeps (by k_asm) (Fr.keep (by k_asm))
  k_with "=call builtin:str.lower" => (k_here; refine lower_K (by first | assumption | exact Clean.low (by assumption)) ?_; intro _ _)
  k_with "=c1" => ((case k1 => k_asm); (case k2 => k_asm); (case k3 => k_asm); (case k4 => k_asm); (case k5 => k_asm); (case k6 => ktr_room); (case k7 => ktr_units))
  k_with "=subscriptTail Name Slice ref ref" => (k_here; (with_reducible show wpAny _ _ (subscriptTail _ (PySem.Expr.Slice _ _ none _) (Value.ref _) (Value.ref _)) _ _ _); k_dflt (refine' kms_slice_lit (by k_asm) (by k_asm) (by kmk_list) (by kmk_part) (by kmk_part) (by exact rfl) ?_ (by with_unfolding_all rfl) (by kmk_pure) (by kmk_size)); intro kxD kxH kxF kxN kxl; (try k_lt kxl); (try simp only [List.toList_toArray, pick_all, pick_init, pick_lit] at kxN))
  k_with "=call builtin:len" => (k_here; (refine' len_at (by k_asm) (by k_mem) (by omega) ?_); intro _ _)
  k_with "=callWith ref" => (k_here; k_dflt (refine' callWith_F (by exact FnAt.of (by k_asm) (by k_mem)) ?_; k_whole))
  k_with "=callWith ref" => (k_here; (with_reducible show wpAny _ _ (callWith _ (Value.ref (OfNat.ofNat _)) _ (backTo _ (starEach (_ :: _) _)) (backToKw _ _)) _ _ _); k_dflt (refine' callWith_KW (by k_asm) (by k_is) (by exact rfl) ?_; k_whole))
  k_with "=callWith ref" => (k_here; (with_reducible show wpAny _ _ (callWith _ (Value.ref (OfNat.ofNat _)) _ (backTo _ (starEach (_ :: _) _)) []) _ _ _); k_dflt (refine' callWith_K (by k_asm) (by k_is) ?_; k_whole))
  k_with "=call ref" => (k_here; (with_reducible show wpAny _ _ (call (Value.ref 117) _ _) _ _ _); k_dflt (refine' C1.use (conv _ _ _ _ _ (by first | assumption | exact Clean.low (by assumption)) _) (by k_asm) (by k_asm) (by k_asm) (by k_asm) (by k_asm) (by ktr_room) (by ktr_units) ?_; intro kxr kxnews kxH kxT kxF kxN kxP; obtain ⟨kxe1, kxe2⟩ := kxP; subst kxe1; subst kxe2; (try dsimp only)))
  k_with "=exec While Compare cons nil" => refine Hold.out ?_
  k_with "=subscriptTail Name Name ref int" => refine Hold.out ?_
  k_with "=call ref" => refine Hold.out ?_
  k_with "=compareOp Lt" => refine Hold.out ?_
  trivial
noncomputable def loTok : List Value → Tok
  | [_, _, .int _ t, _] => t
  | _ => 316
theorem bis_b {lo hi : Nat} (h : lo < hi) : lo ≤ (lo + hi) / 2 ∧ (lo + hi) / 2 < hi := ⟨by omega, by omega⟩
theorem bis_lt {lo hi : Nat} (h : (lo : Int) < (hi : Int)) : lo < hi := Int.ofNat_lt.mp h
theorem bis_63 {m : Nat} (h : m < 1000) : (m : Int) < 2 ^ 63 := by omega
theorem bis_mid {lo hi n : Nat} (h : (lo : Int) < (hi : Int)) (hn : hi ≤ n) (hz : n ≤ 1000) : lo < hi ∧ (lo + hi) / 2 < n ∧ (0 : Int) ≤ (((lo + hi) / 2 : Nat) : Int) ∧ (((lo + hi) / 2 : Nat) : Int) < 2 ^ 63 ∧ lo < (lo + hi) / 2 + 1 :=
  have h1 := bis_lt h
  have hb := bis_b h1
  ⟨h1, Nat.lt_of_lt_of_le hb.2 hn, Int.natCast_nonneg _, bis_63 (Nat.lt_of_lt_of_le hb.2 (Nat.le_trans hn hz)), Nat.lt_succ_of_le hb.1⟩
theorem bis_sz {a b sz sz' : Nat} (h : a < b) (hs : sz + b ≤ 5000) (h1 : sz' ≤ sz + 1) : sz' + a ≤ 5000 := by omega
theorem bis_low {lo hi n f sz sz' : Nat} (h : lo < hi) (hn : hi ≤ n) (hf : hi - lo ≤ f + 1) (hs : sz + (hi - lo) ≤ 5000) (h1 : sz' ≤ sz + 1) : (lo + hi) / 2 - lo < hi - lo ∧ (lo + hi) / 2 - lo ≤ f ∧ lo ≤ (lo + hi) / 2 ∧ (lo + hi) / 2 ≤ n ∧ sz' + ((lo + hi) / 2 - lo) ≤ 5000 :=
  have hb := bis_b h
  have e : (lo + hi) / 2 - lo < hi - lo := Nat.sub_lt_sub_right hb.1 hb.2
  ⟨e, Nat.le_of_lt_succ (Nat.lt_of_lt_of_le e hf), hb.1, Nat.le_trans (Nat.le_of_lt hb.2) hn, bis_sz e hs h1⟩
theorem bis_up {lo hi n f sz sz' : Nat} (h : lo < hi) (_hn : hi ≤ n) (hf : hi - lo ≤ f + 1) (hs : sz + (hi - lo) ≤ 5000) (h1 : sz' ≤ sz + 1) : hi - ((lo + hi) / 2 + 1) < hi - lo ∧ hi - ((lo + hi) / 2 + 1) ≤ f ∧ (lo + hi) / 2 + 1 ≤ hi ∧ sz' + (hi - ((lo + hi) / 2 + 1)) ≤ 5000 :=
  have hb := bis_b h
  have e : hi - ((lo + hi) / 2 + 1) < hi - lo := Nat.sub_lt_sub_left h (Nat.lt_succ_of_le hb.1)
  ⟨e, Nat.le_of_lt_succ (Nat.lt_of_lt_of_le e hf), hb.2, bis_sz e hs h1⟩
theorem bis_fuel {lo hi f : Nat} (h : lo < hi) (hf : hi - lo ≤ f) : ∃ f', f = f' + 1 := ⟨f - 1, by omega⟩
theorem bisr (w : World) (q l : Addr) (x : Value) (vs : List Value) (n need : Nat) {σ : Type} (led : σ → List (Addr × Obj)) (sz : σ → Nat) (test : Nat → Bool) (nx : σ → Nat → σ) (K : KeyC w q x true l vs n need led sz test nx) (hz : vs.length ≤ 1000) (st : σ) (hsz : sz st + vs.length ≤ 5000) (args : List Value) (hargs : args = [.ref l, x] ∨ ∃ t, args = [.ref l, x, .int 0 t, .none]) :
    C1 w (.ref 63) args [("key", .ref q)] (need + 4) (led st) (fun news' r => led (bisRun true test nx vs.length 0 vs.length st).2 = news' ∧ ∃ t, r = .int ((bisRun true test nx vs.length 0 vs.length st).1 : Nat) t) := by
  unfold C1
  k_fill
  intro p loose mean mg mb dp un gd cn nm' ig ic mr a ccd cl outer A₀ base h₀ L m s Q E B F X N T hd hu ret
  have hlist := K.list st
  refine wpAny_call ?_
  k_dflt (refine' code_def (binds := [(Str.ofString "a", .ref l), (Str.ofString "x", x), (Str.ofString "lo", .int 0 (loTok args)), (Str.ofString "hi", .none), (Str.ofString "key", .ref q)]) ?k1 ?k2 ?k3 ?k4 ?k5 ?kA ?kF ?kK ?k6 ?k7 ?k8 ?k9 ?kB ?_ ?c2 ?c3 ?c4 ?c5)
  case kA => exact rfl
  case kF => exact rfl
  case kK => exact rfl
  case k1 => k_asm
  case k2 => k_asm
  case k3 => k_asm
  case k4 => k_asm
  case k5 => k_asm
  case k6 => k_is
  case k7 => k_is
  case k8 => k_room
  case k9 =>
    rcases hargs with rfl | ⟨t0, rfl⟩
    · first | exact BindsTo.of_eq rfl | exact binds_K (by k_in) rfl (by k_is) rfl rfl rfl
    · first | exact BindsTo.of_eq rfl | exact binds_K (by k_in) rfl (by k_is) rfl rfl rfl
  case c5 => decide
  case kB => exact locs rfl
  case c2 => exact rfl
  case c3 => exact rfl
  case c4 => exact rfl
  clear hargs
  intro g' L' h' FG' F' N' B' X' T'
  (try dsimp only)
  (try k_fold)
  k_steps
  unfold Hold
  (rename Fr _ _ _ _ => F₁); (rename News _ _ _ _ => N₁)
  refine While_inv2 (n₀ := vs.length) (fun k m₁ nx' => ∃ lo hi st' f, (∃ t, m₁ (Str.ofString "lo") = some (.int ((lo : Nat) : Int) t)) ∧ (∃ t, m₁ (Str.ofString "hi") = some (.int ((hi : Nat) : Int) t)) ∧ m₁ (Str.ofString "a") = some (.ref l) ∧ m₁ (Str.ofString "x") = some x ∧ m₁ (Str.ofString "key") = some (.ref q) ∧ led st' = nx' ∧
    k = hi - lo ∧ k ≤ f ∧ lo ≤ hi ∧ hi ≤ vs.length ∧ sz st' + (hi - lo) ≤ 5000 ∧ bisRun true test nx f lo hi st' = bisRun true test nx vs.length 0 vs.length st) F₁ N₁ ⟨0, vs.length, st, vs.length, ⟨_, rfl⟩, ⟨_, rfl⟩, rfl, rfl, rfl, rfl, rfl, Nat.le_refl _, Nat.zero_le _, Nat.le_refl _, by omega, rfl⟩ ?_
  rintro k m₁ nx' h tk F' N' ⟨lo, hi, st', f, ⟨t1, hm1⟩, ⟨t2, hm2⟩, hm3, hm4, hm5, rfl, rfl, hf, hlh, hhi, hsz', hrun⟩
  clear F₁ N₁
  replace F' := frPut5 F' hm1 hm2 hm3 hm4 hm5
  have hlist' := K.list st'
  obtain ⟨oc, od, fd, sl, hfn⟩ := K.fn st'
  k_steps
  · unfold Hold
    (rename Fr _ _ _ _ => F'); (rename News _ _ _ _ => N'); (rename (lo : Int) < (hi : Int) => hlt)
    simp only [mid_eq] at F' ⊢
    obtain ⟨hl1, hl2, hl3, hl4, hl5⟩ := bis_mid hlt hhi hz
    obtain ⟨v, hv⟩ : ∃ v, vs[(lo + hi) / 2]? = some v := ⟨vs[(lo + hi) / 2]'hl2, List.getElem?_eq_getElem _⟩
    refine item_at N' hlist' hl3 hl4 (by rw [Int.toNat_natCast]; exact hv) ?_
    k_steps
    unfold Hold
    refine' C1.use (K.call st' _ v hv (Nat.le_trans (Nat.le_add_right _ _) hsz')) ?k1 ?k2 ?k3 ?k4 ?k5 ?k6 ?k7 ?_
    walk_at "c1"
    intro r9 news9 h9 tk9 F9 N9 P9
    obtain ⟨e1, hcmp⟩ := P9
    subst e1
    k_steps
    unfold Hold
    refine hcmp.right fun k9 => ?_
    k_steps
    · (rename test ((lo + hi) / 2) = true => ht)
      obtain ⟨f, rfl⟩ := bis_fuel hl1 hf
      obtain ⟨b1, b2, b3, b4, b5⟩ := bis_low hl1 hhi hf hsz' (K.step st' ((lo + hi) / 2))
      refine ⟨_, _, _, _, (lo + hi) / 2 - lo, rfl, by k_asm, by k_asm, b1, lo, (lo + hi) / 2, nx st' ((lo + hi) / 2), f, ⟨_, rfl⟩, ⟨_, rfl⟩, rfl, rfl, rfl, rfl, rfl, b2, b3, b4, b5, ?_⟩
      rw [← hrun, bisRun_yes hl1 (by rw [ht]; rfl)]
    · (rename test ((lo + hi) / 2) = false => ht)
      obtain ⟨f, rfl⟩ := bis_fuel hl1 hf
      obtain ⟨b1, b2, b3, b5⟩ := bis_up hl1 hhi hf hsz' (K.step st' ((lo + hi) / 2))
      (rename Fr _ _ _ _ => F'); simp only [mid_one] at F'
      refine ⟨_, _, _, _, hi - ((lo + hi) / 2 + 1), rfl, F', by k_asm, b1, (lo + hi) / 2 + 1, hi, nx st' ((lo + hi) / 2), f, ⟨_, rfl⟩, ⟨_, rfl⟩, rfl, rfl, rfl, rfl, rfl, b2, b3, hhi, b5, ?_⟩
      rw [← hrun, bisRun_no hl1 (by rw [ht]; rfl)]
  · (rename ¬ ((lo : Int) < (hi : Int)) => hlt)
    rw [bisRun_done (by omega)] at hrun
    exact ret _ _ _ _ (by k_asm) (by k_asm) ⟨by rw [← hrun], _, by rw [← hrun]⟩
end
section
open PySem PySem.W PySem.Calls PyProof.Rows Mine
set_option maxRecDepth 100000
set_option maxHeartbeats 8000000
theorem reset8 : True := by
  w_top off
  k_with_none
  k_with "=k_all" => first | assumption | exact allLt_ne (by assumption) (by omega) | exact allLt_ne (And.right (by assumption)) (by omega) | exact allLt_ne (And.right (And.right (by assumption))) (by omega) | exact allLt_ne (And.right (And.right (And.right (by assumption)))) (by omega)
  k_with "=size_fits" => ((try simp only [List.size_toArray, sizeLine_eq]); omega)
  k_with "=ktr_room" => first | exact room1 (by assumption) (by decide) | exact room0 (by assumption) | exact room4 (by assumption) | exact room8 (by assumption) | exact room48 (by assumption) | fail "room"
  k_with "=ktr_units" => first | exact units1 (by assumption) (by decide) | exact units1 (k := 8) (by assumption) (by decide) | exact units4 (by assumption) | exact units8 (by assumption) | exact units48 (by assumption) | fail "units"
  k_with "=k_in" => first | k_in_fast | assumption | exact Frag.In.keeps (by k_asm) (Fr.keep (by k_asm))
  k_with "=call builtin:str.lower" => (k_here; refine lower_K (by first | assumption | exact Clean.low (by assumption)) ?_; intro _ _)
  k_with "=c1" => ((case k1 => k_asm); (case k2 => k_asm); (case k3 => k_asm); (case k4 => k_asm); (case k5 => k_asm); (case k6 => ktr_room); (case k7 => ktr_units))
  k_with "=subscriptTail Name Slice ref ref" => (k_here; (with_reducible show wpAny _ _ (subscriptTail _ (PySem.Expr.Slice _ _ none _) (Value.ref _) (Value.ref _)) _ _ _); k_dflt (refine' kms_slice_lit (by k_asm) (by k_asm) (by kmk_list) (by kmk_part) (by kmk_part) (by exact rfl) ?_ (by with_unfolding_all rfl) (by kmk_pure) (by kmk_size)); intro kxD kxH kxF kxN kxl; (try k_lt kxl); (try simp only [List.toList_toArray, pick_all, pick_init, pick_lit] at kxN))
  k_with "=call builtin:len" => (k_here; (refine' len_at (by k_asm) (by k_mem) (by omega) ?_); intro _ _)
  k_with "=callWith ref" => (k_here; k_dflt (refine' callWith_F (by exact FnAt.of (by k_asm) (by k_mem)) ?_; k_whole))
  k_with "=callWith ref" => (k_here; (with_reducible show wpAny _ _ (callWith _ (Value.ref (OfNat.ofNat _)) _ (backTo _ (starEach (_ :: _) _)) (backToKw _ _)) _ _ _); k_dflt (refine' callWith_KW (by k_asm) (by k_is) (by exact rfl) ?_; k_whole))
  k_with "=callWith ref" => (k_here; (with_reducible show wpAny _ _ (callWith _ (Value.ref (OfNat.ofNat _)) _ (backTo _ (starEach (_ :: _) _)) []) _ _ _); k_dflt (refine' callWith_K (by k_asm) (by k_is) ?_; k_whole))
  k_with "=call ref" => (k_here; (with_reducible show wpAny _ _ (call (Value.ref 117) _ _) _ _ _); k_dflt (refine' C1.use (conv _ _ _ _ _ (by first | assumption | exact Clean.low (by assumption)) _) (by k_asm) (by k_asm) (by k_asm) (by k_asm) (by k_asm) (by ktr_room) (by ktr_units) ?_; intro kxr kxnews kxH kxT kxF kxN kxP; obtain ⟨kxe1, kxe2⟩ := kxP; subst kxe1; subst kxe2; (try dsimp only)))
  k_with "=exec While Compare cons nil" => refine Hold.out ?_
  k_with "=subscriptTail Name Name ref int" => refine Hold.out ?_
  k_with "=call ref" => refine Hold.out ?_
  k_with "=compareOp Lt" => refine Hold.out ?_
  trivial
theorem bisl (w : World) (q l : Addr) (x : Value) (vs : List Value) (n need : Nat) {σ : Type} (led : σ → List (Addr × Obj)) (sz : σ → Nat) (test : Nat → Bool) (nx : σ → Nat → σ) (K : KeyC w q x false l vs n need led sz test nx) (hz : vs.length ≤ 1000) (st : σ) (hsz : sz st + vs.length ≤ 5000) :
    C1 w (.ref 72) [.ref l, x] [("key", .ref q)] (need + 4) (led st) (fun news' r => led (bisRun false test nx vs.length 0 vs.length st).2 = news' ∧ ∃ t, r = .int ((bisRun false test nx vs.length 0 vs.length st).1 : Nat) t) := by
  unfold C1
  k_fill
  intro p loose mean mg mb dp un gd cn nm' ig ic mr a ccd cl outer A₀ base h₀ L m s Q E B F X N T hd hu ret
  have hlist := K.list st
  all_goals
    refine wpAny_call ?_
    k_dflt k_enter
    k_steps
    unfold Hold
    (rename Fr _ _ _ _ => F₁); (rename News _ _ _ _ => N₁)
    refine While_inv2 (n₀ := vs.length) (fun k m₁ nx' => ∃ lo hi st' f, (∃ t, m₁ (Str.ofString "lo") = some (.int ((lo : Nat) : Int) t)) ∧ (∃ t, m₁ (Str.ofString "hi") = some (.int ((hi : Nat) : Int) t)) ∧ m₁ (Str.ofString "a") = some (.ref l) ∧ m₁ (Str.ofString "x") = some x ∧ m₁ (Str.ofString "key") = some (.ref q) ∧ led st' = nx' ∧
      k = hi - lo ∧ k ≤ f ∧ lo ≤ hi ∧ hi ≤ vs.length ∧ sz st' + (hi - lo) ≤ 5000 ∧ bisRun false test nx f lo hi st' = bisRun false test nx vs.length 0 vs.length st) F₁ N₁ ⟨0, vs.length, st, vs.length, ⟨_, rfl⟩, ⟨_, rfl⟩, rfl, rfl, rfl, rfl, rfl, Nat.le_refl _, Nat.zero_le _, Nat.le_refl _, by omega, rfl⟩ ?_
    rintro k m₁ nx' h tk F' N' ⟨lo, hi, st', f, ⟨t1, hm1⟩, ⟨t2, hm2⟩, hm3, hm4, hm5, rfl, rfl, hf, hlh, hhi, hsz', hrun⟩
    clear F₁ N₁
    replace F' := frPut5 F' hm1 hm2 hm3 hm4 hm5
    have hlist' := K.list st'
    obtain ⟨oc, od, fd, sl, hfn⟩ := K.fn st'
    k_steps
    · unfold Hold
      (rename Fr _ _ _ _ => F'); (rename News _ _ _ _ => N'); (rename (lo : Int) < (hi : Int) => hlt)
      simp only [mid_eq] at F' ⊢
      obtain ⟨hl1, hl2, hl3, hl4, hl5⟩ := bis_mid hlt hhi hz
      obtain ⟨v, hv⟩ : ∃ v, vs[(lo + hi) / 2]? = some v := ⟨vs[(lo + hi) / 2]'hl2, List.getElem?_eq_getElem _⟩
      refine item_at N' hlist' hl3 hl4 (by rw [Int.toNat_natCast]; exact hv) ?_
      k_steps
      unfold Hold
      refine' C1.use (K.call st' _ v hv (Nat.le_trans (Nat.le_add_right _ _) hsz')) ?k1 ?k2 ?k3 ?k4 ?k5 ?k6 ?k7 ?_
      walk_at "c1"
      intro r9 news9 h9 tk9 F9 N9 P9
      obtain ⟨e1, hcmp⟩ := P9
      subst e1
      k_steps
      unfold Hold
      refine hcmp.left fun k9 => ?_
      k_steps
      · (rename test ((lo + hi) / 2) = true => ht)
        obtain ⟨f, rfl⟩ := bis_fuel hl1 hf
        obtain ⟨b1, b2, b3, b5⟩ := bis_up hl1 hhi hf hsz' (K.step st' ((lo + hi) / 2))
        (rename Fr _ _ _ _ => F'); simp only [mid_one] at F'
        refine ⟨_, _, _, _, hi - ((lo + hi) / 2 + 1), rfl, F', by k_asm, b1, (lo + hi) / 2 + 1, hi, nx st' ((lo + hi) / 2), f, ⟨_, rfl⟩, ⟨_, rfl⟩, rfl, rfl, rfl, rfl, rfl, b2, b3, hhi, b5, ?_⟩
        rw [← hrun, bisRun_no hl1 (by rw [ht]; rfl)]
      · (rename test ((lo + hi) / 2) = false => ht)
        obtain ⟨f, rfl⟩ := bis_fuel hl1 hf
        obtain ⟨b1, b2, b3, b4, b5⟩ := bis_low hl1 hhi hf hsz' (K.step st' ((lo + hi) / 2))
        refine ⟨_, _, _, _, (lo + hi) / 2 - lo, rfl, by k_asm, by k_asm, b1, lo, (lo + hi) / 2, nx st' ((lo + hi) / 2), f, ⟨_, rfl⟩, ⟨_, rfl⟩, rfl, rfl, rfl, rfl, rfl, b2, b3, b4, b5, ?_⟩
        rw [← hrun, bisRun_yes hl1 (by rw [ht]; rfl)]
    · (rename ¬ ((lo : Int) < (hi : Int)) => hlt)
      rw [bisRun_done (by omega)] at hrun
      exact ret _ _ _ _ (by k_asm) (by k_asm) ⟨by rw [← hrun], _, by rw [← hrun]⟩
end
section
open PySem PySem.W PySem.Calls PyProof.Rows Mine
set_option maxRecDepth 100000
set_option maxHeartbeats 8000000
theorem reset9 : True := by
  w_top off
  k_with_none
  k_with "=k_all" => first | assumption | exact allLt_ne (by assumption) (by omega) | exact allLt_ne (And.right (by assumption)) (by omega) | exact allLt_ne (And.right (And.right (by assumption))) (by omega) | exact allLt_ne (And.right (And.right (And.right (by assumption)))) (by omega)
  k_with "=size_fits" => ((try simp only [List.size_toArray, sizeLine_eq]); omega)
  k_with "=ktr_room" => first | exact room1 (by assumption) (by decide) | exact room0 (by assumption) | exact room4 (by assumption) | exact room8 (by assumption) | exact room48 (by assumption) | fail "room"
  k_with "=ktr_units" => first | exact units1 (by assumption) (by decide) | exact units1 (k := 8) (by assumption) (by decide) | exact units4 (by assumption) | exact units8 (by assumption) | exact units48 (by assumption) | fail "units"
  k_with "=k_in" => first | k_in_fast | assumption | exact Frag.In.keeps (by k_asm) (Fr.keep (by k_asm))
  k_with "=call builtin:str.lower" => (k_here; refine lower_K (by first | assumption | exact Clean.low (by assumption)) ?_; intro _ _)
  k_with "=c1" => ((case k1 => k_asm); (case k2 => k_asm); (case k3 => k_asm); (case k4 => k_asm); (case k5 => k_asm); (case k6 => ktr_room); (case k7 => ktr_units))
  k_with "=subscriptTail Name Slice ref ref" => (k_here; (with_reducible show wpAny _ _ (subscriptTail _ (PySem.Expr.Slice _ _ none _) (Value.ref _) (Value.ref _)) _ _ _); k_dflt (refine' kms_slice_lit (by k_asm) (by k_asm) (by kmk_list) (by kmk_part) (by kmk_part) (by exact rfl) ?_ (by with_unfolding_all rfl) (by kmk_pure) (by kmk_size)); intro kxD kxH kxF kxN kxl; (try k_lt kxl); (try simp only [List.toList_toArray, pick_all, pick_init, pick_lit] at kxN))
  k_with "=call builtin:len" => (k_here; (refine' len_at (by k_asm) (by k_mem) (by omega) ?_); intro _ _)
  k_with "=callWith ref" => (k_here; k_dflt (refine' callWith_F (by exact FnAt.of (by k_asm) (by k_mem)) ?_; k_whole))
  k_with "=callWith ref" => (k_here; (with_reducible show wpAny _ _ (callWith _ (Value.ref (OfNat.ofNat _)) _ (backTo _ (starEach (_ :: _) _)) (backToKw _ _)) _ _ _); k_dflt (refine' callWith_KW (by k_asm) (by k_is) (by exact rfl) ?_; k_whole))
  k_with "=callWith ref" => (k_here; (with_reducible show wpAny _ _ (callWith _ (Value.ref (OfNat.ofNat _)) _ (backTo _ (starEach (_ :: _) _)) []) _ _ _); k_dflt (refine' callWith_K (by k_asm) (by k_is) ?_; k_whole))
  k_with "=call ref" => (k_here; (with_reducible show wpAny _ _ (call (Value.ref 117) _ _) _ _ _); k_dflt (refine' C1.use (conv _ _ _ _ _ (by first | assumption | exact Clean.low (by assumption)) _) (by k_asm) (by k_asm) (by k_asm) (by k_asm) (by k_asm) (by ktr_room) (by ktr_units) ?_; intro kxr kxnews kxH kxT kxF kxN kxP; obtain ⟨kxe1, kxe2⟩ := kxP; subst kxe1; subst kxe2; (try dsimp only)))
  k_with "=call builtin:list.insert" => refine Hold.out ?_
  k_with "=call ref" => refine Hold.out ?_
  trivial
theorem insort (w : World) (q l : Addr) (x : Value) (vs : List Value) (n need : Nat) (rest : List (Addr × Obj)) (test : Nat → Bool) (hz : vs.length ≤ 1000) (hoff : ∀ p ∈ rest, p.1 ≠ l) (hfn : ∃ oc od fd sl, (q, (⟨oc, od, .func fd, sl⟩ : Obj)) ∈ rest)
    (hx : C1 w (.ref q) [x] [] need ((l, listOf vs.toArray n) :: rest) (fun news' r => (l, listOf vs.toArray n) :: rest = news' ∧ KeyC w q r true l vs n need (fun _ : Unit => (l, listOf vs.toArray n) :: rest) (fun _ => 0) test (fun _ _ => ()))) :
    C1 w (.ref 54) [.ref l, x] [("key", .ref q)] (need + 8) ((l, listOf vs.toArray n) :: rest) (fun news' r => (l, listOf (vs.insertIdx (bisRun true test (fun _ _ => ()) vs.length 0 vs.length ()).1 x).toArray (n + 1)) :: rest = news' ∧ r = .none) := by
  unfold C1
  k_fill
  intro p loose mean mg mb dp un gd cn nm' ig ic mr a ccd cl outer A₀ base h₀ L m s Q E B F X N T hd hu ret
  obtain ⟨oc, od, fd, sl, hfn⟩ := hfn
  refine wpAny_call ?_
  k_dflt k_enter
  k_steps
  unfold Hold
  refine' C1.use hx ?k1 ?k2 ?k3 ?k4 ?k5 ?k6 ?k7 ?_
  walk_at "c1"
  intro r9 news9 h9 tk9 F9 N9 P9
  obtain ⟨e1, hK⟩ := P9
  subst e1
  k_steps
  unfold Hold
  refine' C1.use (bisr w q l r9 vs n need (fun _ : Unit => (l, listOf vs.toArray n) :: rest) (fun _ => 0) test _ hK hz () (by show 0 + _ ≤ _; omega) [.ref l, r9, .int 0 303, .none] (.inr ⟨303, rfl⟩)) ?j1 ?j2 ?j3 ?j4 ?j5 ?j6 ?j7 ?_
  case j1 => k_asm
  case j2 => k_asm
  case j3 => k_asm
  case j4 => k_asm
  case j5 => k_asm
  case j6 => ktr_room
  case j7 => ktr_units
  intro r8 news8 h8 tk8 F8 N8 P8
  obtain ⟨e1, t8, e2⟩ := P8
  subst e1
  subst e2
  k_steps
  unfold Hold
  (rename Fr _ _ _ _ => F'); (rename News _ _ _ _ => N')
  have hle := bisRun_le (right := true) (test := test) (nx := fun (_ : Unit) _ => ()) vs.length 0 vs.length () (Nat.zero_le _)
  refine kl_insert F' N' ?a1 (kl_ins_at hle) (Upd.head hoff) ?a2 ?_
  case a1 => exact fits_nat (by omega)
  case a2 => simp only [sizeLine_eq]; omega
  intro h' F' N'
  k_steps
  exact ret _ _ _ _ (by k_asm) (by k_asm) ⟨rfl, rfl⟩
end
section
open PySem PySem.W PySem.Calls PyProof.Rows
set_option maxRecDepth 100000
/-- the tree's end, told by a plain order; it asks of places below n alone -/
noncomputable def sat (n : Nat) (lt : Nat → Nat → Bool) {α : Type} : KasT α → (α → Prop) → Prop
  | .ret a, R => R a
  | .ask i j k, R => i < n ∧ j < n ∧ sat n lt (k (lt i j)) R
theorem sat_bind {n : Nat} {lt : Nat → Nat → Bool} {α β : Type} {f : α → KasT β} {R : β → Prop} : ∀ (t : KasT α), sat n lt t (fun a => sat n lt (f a) R) → sat n lt (t.bind f) R
  | .ret _, h => h
  | .ask i j k, h => ⟨h.1, h.2.1, sat_bind (k (lt i j)) h.2.2⟩
theorem sat_mono {n : Nat} {lt : Nat → Nat → Bool} {α : Type} {R R' : α → Prop} (hr : ∀ a, R a → R' a) : ∀ (t : KasT α), sat n lt t R → sat n lt t R'
  | .ret _, h => hr _ h
  | .ask i j k, h => ⟨h.1, h.2.1, sat_mono hr (k (lt i j)) h.2.2⟩
theorem sat_wp {n : Nat} {lt : Nat → Nat → Bool} {α : Type} {cmp : Nat → Nat → (Bool → Shared → Prop) → Shared → Prop} {s : Shared} {Q : α → Shared → Prop} {R : α → Prop}
    (hc : ∀ i j (C : Bool → Shared → Prop), i < n → j < n → C (lt i j) s → cmp i j C s) (hR : ∀ a, R a → Q a s) : ∀ (t : KasT α), sat n lt t R → t.kasWp cmp Q s
  | .ret _, h => hR _ h
  | .ask i j k, h => hc i j _ h.1 h.2.1 (sat_wp hc hR (k (lt i j)) h.2.2)
theorem mid_b {l r : Nat} (h : l < r) : l ≤ (l + r) / 2 ∧ (l + r) / 2 < r := ⟨by omega, by omega⟩
end
section
open PySem PySem.W PySem.Calls PyProof.Rows
set_option maxRecDepth 100000
/-- the tree's end by a plain order -/
noncomputable def ev (lt : Nat → Nat → Bool) {α : Type} : KasT α → α
  | .ret a => a
  | .ask i j k => ev lt (k (lt i j))
noncomputable def okB (n : Nat) (lt : Nat → Nat → Bool) {α : Type} : KasT α → Bool
  | .ret _ => true
  | .ask i j k => Nat.blt i n && (Nat.blt j n && okB n lt (k (lt i j)))
theorem sat_ev {n : Nat} {lt : Nat → Nat → Bool} {α : Type} {R : α → Prop} : ∀ (t : KasT α), okB n lt t = true → R (ev lt t) → sat n lt t R
  | .ret _, _, h => h
  | .ask i j k, hb, h => by
    simp only [okB, Bool.and_eq_true, Nat.blt_eq] at hb
    exact ⟨hb.1, hb.2.1, sat_ev (k (lt i j)) hb.2.2 h⟩
noncomputable def rkLt (r : List Nat) (i j : Nat) : Bool := Nat.blt (r.getD i 0) (r.getD j 0)
/-- ranks: each is how many are lower -/
noncomputable def isRank (r : List Nat) : Bool := r.all fun a => Nat.beq (r.countP fun b => Nat.blt b a) a
/-- stable: by rank, like ones by place -/
noncomputable def stb (r : List Nat) : List Nat → Bool
  | [] => true
  | a :: l => (l.all fun b => rkLt r a b || (Nat.beq (r.getD a 0) (r.getD b 0) && Nat.blt a b)) && stb r l
noncomputable def chk (N : Nat) (r : List Nat) : Bool := let p := (ev (rkLt r) (kas_sort N)).toList; okB N (rkLt r) (kas_sort N) && (((List.range N).all fun a => p.any fun b => Nat.beq a b) && ((p.all fun a => Nat.blt a N) && stb r p))
/-- all lists of k numbers below N -/
noncomputable def lists (N : Nat) : Nat → List (List Nat)
  | 0 => [[]]
  | k + 1 => (lists N k).flatMap fun l => (List.range N).map fun a => a :: l
theorem lists_mem {N : Nat} : ∀ {k : Nat} {r : List Nat}, r.length = k → (∀ a ∈ r, a < N) → r ∈ lists N k
  | 0, [], _, _ => .head _
  | k + 1, a :: r, hl, h => by
    unfold lists
    rw [List.mem_flatMap]
    exact ⟨r, lists_mem (by simpa using hl) fun b hb => h b (.tail _ hb), List.mem_map.mpr ⟨a, List.mem_range.mpr (h a (.head _)), rfl⟩⟩
theorem chk2 : (lists 2 2).all (fun r => !isRank r || chk 2 r) = true := by decide +kernel
theorem chk3 : (lists 3 3).all (fun r => !isRank r || chk 3 r) = true := by decide +kernel
theorem chk4 : (lists 4 4).all (fun r => !isRank r || chk 4 r) = true := by decide +kernel
theorem chk5 : (lists 5 5).all (fun r => !isRank r || chk 5 r) = true := by decide +kernel
end
section
open PySem PySem.W PySem.Calls PyProof.Rows PyProof.V Mine
set_option maxRecDepth 100000
noncomputable def strLt (x y : Str) : Bool := decide (x.cps.toList < y.cps.toList)
theorem str_ext {x y : Str} (h : x.cps.toList = y.cps.toList) : x = y := by
  cases x; cases y; simp at h; subst h; rfl
theorem strLt_irr (x : Str) : strLt x x = false := by simp [strLt]
theorem strLt_tr {x y z : Str} (h1 : strLt x y = true) (h2 : strLt y z = true) : strLt x z = true := by
  simp only [strLt, decide_eq_true_eq] at *
  exact List.lt_trans h1 h2
theorem strLt_tot {x y : Str} (hn : x ≠ y) (h : strLt x y = false) : strLt y x = true := by
  simp only [strLt, decide_eq_true_eq, decide_eq_false_iff_not] at *
  rcases List.le_total x.cps.toList y.cps.toList with h' | h'
  · exact absurd (str_ext (List.le_antisymm h' (List.not_lt.mp h))) hn
  · by_cases e : y.cps.toList < x.cps.toList
    · exact e
    · exact absurd (str_ext (List.le_antisymm (List.not_lt.mp e) h')) hn
/-- the firsts of pairs -/
theorem pairs_tups {h : Heap} : ∀ {vs : List Value} {kvs : List (Str × Str)} {news : List (Addr × Obj)}, (∀ p ∈ news, h.get? p.1 = some p.2) → PairsIn news vs kvs → ∃ fs, KatTups h vs fs ∧ fs.length = kvs.length ∧ ∀ v ∈ fs, ∃ k t, v = .str k t
  | _, _, _, _, .nil => ⟨[], KatTups.nil, rfl, by simp⟩
  | _, _, _, hN, .cons (k := k) (t := t) hm r => by
    obtain ⟨fs, h1, h2, h3⟩ := pairs_tups hN r
    refine ⟨.str k t :: fs, KatTups.cons (hN _ hm) rfl rfl rfl h1, by simp [h2], ?_⟩
    intro v hv
    rcases List.mem_cons.mp hv with rfl | hv
    · exact ⟨_, _, rfl⟩
    · exact h3 v hv
theorem pairs_pick {news : List (Addr × Obj)} {vs : List Value} {kvs : List (Str × Str)} (hp : PairsIn news vs kvs) : ∀ (l : List Nat), (∀ i ∈ l, i < kvs.length) → PairsIn news (l.map fun i => vs.getD i .none) (l.map fun i => kvs.getD i (⟨#[]⟩, ⟨#[]⟩))
  | [], _ => .nil
  | i :: l, h => by
    have hi := h i (.head _)
    have hv : i < vs.length := by rw [hp.length]; exact hi
    obtain ⟨q, k, v, t, u, e1, e2, hm⟩ := hp.at (List.getElem?_eq_getElem hv)
    have ev : vs.getD i .none = .ref q := by simp [List.getD, hv, e1]
    have ek : kvs.getD i (⟨#[]⟩, ⟨#[]⟩) = (k, v) := by simp [List.getD, e2]
    simp only [List.map_cons, ev, ek]
    exact .cons hm (pairs_pick hp l fun j hj => h j (.tail _ hj))
end
section
open PySem PySem.W PySem.Calls PyProof.Rows PyProof.V Mine
set_option maxRecDepth 100000
theorem okB_congr {n : Nat} {lt lt' : Nat → Nat → Bool} (h : ∀ i j, i < n → j < n → lt i j = lt' i j) {α : Type} {R : α → Prop} : ∀ (t : KasT α), sat n lt t R → sat n lt' t R
  | .ret _, x => x
  | .ask i j k, x => ⟨x.1, x.2.1, by rw [← h i j x.1 x.2.1]; exact okB_congr h _ x.2.2⟩
theorem count_le {p q : Nat → Bool} : ∀ (l : List Nat), (∀ x ∈ l, p x = true → q x = true) → l.countP p ≤ l.countP q
  | [], _ => Nat.le_refl _
  | a :: l, h => by
    have ih := count_le l fun x hx => h x (.tail _ hx)
    rw [List.countP_cons, List.countP_cons]
    by_cases e : p a = true
    · rw [if_pos e, if_pos (h a (.head _) e)]; exact Nat.succ_le_succ ih
    · rw [if_neg e]; exact Nat.le_trans ih (Nat.le_add_right _ _)
theorem count_lt {p q : Nat → Bool} : ∀ (l : List Nat), (∀ x ∈ l, p x = true → q x = true) → (∃ x ∈ l, q x = true ∧ p x = false) → l.countP p < l.countP q
  | [], _, h => by obtain ⟨x, hx, _⟩ := h; cases hx
  | a :: l, h, hx => by
    obtain ⟨x, hx, h1, h2⟩ := hx
    rw [List.countP_cons, List.countP_cons]
    rcases List.mem_cons.mp hx with rfl | hx
    · rw [h1, h2]
      have := count_le l fun x hx => h x (.tail _ hx)
      simp only [if_true, Bool.false_eq_true, if_false]
      omega
    · have := count_lt l (fun x hx => h x (.tail _ hx)) ⟨x, hx, h1, h2⟩
      by_cases e : p a = true
      · rw [if_pos e, if_pos (h a (.head _) e)]; exact Nat.succ_lt_succ this
      · rw [if_neg e]; exact Nat.lt_of_lt_of_le this (Nat.le_add_right _ _)
noncomputable def rkOf (key : Nat → Str) (N i : Nat) : Nat := (List.range N).countP fun j => strLt (key j) (key i)
noncomputable def rksOf (key : Nat → Str) (N : Nat) : List Nat := (List.range N).map (rkOf key N)
theorem rk_mono {key : Nat → Str} {N i j : Nat} (hi : i < N) (h : strLt (key i) (key j) = true) : rkOf key N i < rkOf key N j :=
  count_lt _ (fun _ _ hx => strLt_tr hx h) ⟨i, List.mem_range.mpr hi, h, strLt_irr _⟩
theorem rk_eq {key : Nat → Str} {N i j : Nat} (h : key i = key j) : rkOf key N i = rkOf key N j := by unfold rkOf; rw [h]
theorem rk_lt {key : Nat → Str} {N i j : Nat} (hi : i < N) (hj : j < N) : Nat.blt (rkOf key N i) (rkOf key N j) = strLt (key i) (key j) := by
  cases h : strLt (key i) (key j) with
  | true => rw [Nat.blt_eq]; exact rk_mono hi h
  | false =>
    by_cases e : key i = key j
    · rw [rk_eq e]
      exact Bool.eq_false_iff.mpr fun c => Nat.lt_irrefl _ (Nat.blt_eq.mp c)
    · have := rk_mono (N := N) hj (strLt_tot e h)
      exact Bool.eq_false_iff.mpr fun c => Nat.lt_asymm this (Nat.blt_eq.mp c)
theorem rks_at {key : Nat → Str} {N i : Nat} (hi : i < N) : (rksOf key N).getD i 0 = rkOf key N i := by simp [rksOf, List.getD, hi]
theorem rks_rank (key : Nat → Str) (N : Nat) : isRank (rksOf key N) = true := by
  unfold isRank
  rw [List.all_eq_true]
  intro a ha
  obtain ⟨i, hi, rfl⟩ := List.mem_map.mp ha
  have hi := List.mem_range.mp hi
  rw [Nat.beq_eq]
  unfold rksOf
  rw [List.countP_map]
  show _ = rkOf key N i
  unfold rkOf
  refine List.countP_congr fun j hj => ?_
  show (Nat.blt (rkOf key N j) (rkOf key N i)) = true ↔ _
  rw [rk_lt (List.mem_range.mp hj) hi]
theorem rk_below {key : Nat → Str} {N i : Nat} (hi : i < N) : rkOf key N i < N := by
  have h : (List.range N).countP (fun j => strLt (key j) (key i)) < (List.range N).countP (fun _ => true) := count_lt _ (fun _ _ _ => rfl) ⟨i, List.mem_range.mpr hi, rfl, strLt_irr _⟩
  have e : (List.range N).countP (fun _ => true) = N := by rw [List.countP_true, List.length_range]
  rw [e] at h
  exact h
theorem chk_all {N : Nat} {r : List Nat} (h2 : 2 ≤ N) (h5 : N ≤ 5) (hl : r.length = N) (hb : ∀ a ∈ r, a < N) (hr : isRank r = true) : chk N r = true := by
  have go : ∀ M, (lists M M).all (fun r => !isRank r || chk M r) = true → M = N → chk N r = true := by
    rintro M h rfl
    have := List.all_eq_true.mp h r (lists_mem hl hb)
    rw [hr] at this
    simpa using this
  rcases (show N = 2 ∨ N = 3 ∨ N = 4 ∨ N = 5 by omega) with e | e | e | e
  · exact go 2 chk2 e.symm
  · exact go 3 chk3 e.symm
  · exact go 4 chk4 e.symm
  · exact go 5 chk5 e.symm
/-- sorted by keys, like ones as they stood -/
noncomputable def Stab (key : Nat → Str) (a b : Nat) : Prop := strLt (key a) (key b) = true ∨ (key a = key b ∧ a < b)
theorem stb_pairwise {key : Nat → Str} {N : Nat} : ∀ {p : List Nat}, (∀ a ∈ p, a < N) → stb (rksOf key N) p = true → p.Pairwise (Stab key)
  | [], _, _ => .nil
  | a :: l, hb, h => by
    simp only [stb, Bool.and_eq_true, List.all_eq_true] at h
    refine .cons (fun b hbl => ?_) (stb_pairwise (fun x hx => hb x (.tail _ hx)) h.2)
    have ha := hb a (.head _)
    have hb' := hb b (.tail _ hbl)
    have := h.1 b hbl
    unfold rkLt at this
    rw [rks_at ha, rks_at hb', rk_lt ha hb', Bool.or_eq_true] at this
    rcases this with h1 | h1
    · exact .inl h1
    · simp only [Bool.and_eq_true, Nat.beq_eq, Nat.blt_eq] at h1
      refine .inr ⟨?_, h1.2⟩
      by_cases e : key a = key b
      · exact e
      · exfalso
        cases h2 : strLt (key a) (key b) with
        | true => exact Nat.lt_irrefl _ (h1.1 ▸ rk_mono (N := N) ha h2)
        | false => exact Nat.lt_irrefl _ (h1.1 ▸ rk_mono (N := N) hb' (strLt_tot e h2))
theorem Stab.ne {key : Nat → Str} {a b : Nat} (h : Stab key a b) : a ≠ b := by
  rintro rfl
  rcases h with h | h
  · rw [strLt_irr] at h; cases h
  · exact Nat.lt_irrefl _ h.2
theorem perm_range {p : List Nat} {N : Nat} (hn : p.Nodup) (hb : ∀ a ∈ p, a < N) (hl : ∀ a, a < N → a ∈ p) : p.Perm (List.range N) :=
  (List.perm_ext_iff_of_nodup hn List.nodup_range).mpr fun a => ⟨fun h => List.mem_range.mpr (hb a h), fun h => hl a (List.mem_range.mp h)⟩
theorem sort_stable {key : Nat → Str} {N : Nat} (h2 : 2 ≤ N) (h5 : N ≤ 5) : sat N (fun i j => strLt (key i) (key j)) (kas_sort N) fun p => p.toList.Perm (List.range N) ∧ p.toList.Pairwise (Stab key) := by
  have hc := chk_all h2 h5 (by simp [rksOf]) (fun a ha => by
    obtain ⟨i, hi, rfl⟩ := List.mem_map.mp ha
    exact rk_below (List.mem_range.mp hi)) (rks_rank key N)
  unfold chk at hc
  simp only [Bool.and_eq_true, Nat.beq_eq, List.all_eq_true, Nat.blt_eq, List.any_eq_true, List.mem_range] at hc
  obtain ⟨c1, c2, c3, c4⟩ := hc
  have hp := stb_pairwise c3 c4
  refine okB_congr (lt := rkLt (rksOf key N)) (fun i j hi hj => ?_) _ (sat_ev _ c1 ⟨perm_range (hp.imp fun h => h.ne) c3 (fun a ha => by obtain ⟨b, hb, e⟩ := c2 a ha; rw [e]; exact hb), hp⟩)
  unfold rkLt
  rw [rks_at hi, rks_at hj, rk_lt hi hj]
end
section
open PySem PySem.W PySem.Calls PyProof.Rows PyProof.V Mine
set_option maxRecDepth 100000
section
variable {prog : Program} {w : World} {A : Around} {E : Value → Shared → Prop} {s : Shared} {h₀ : Heap} {L l : Addr} {m : Str → Option Value} {news : List (Addr × Obj)} {vs : List Value} {n : Nat}
/-- the key's call for each item -/
noncomputable def KeyS (prog : Program) (w : World) (A : Around) (h₀ : Heap) (L : Addr) (m : Str → Option Value) (news : List (Addr × Obj)) (f : Value) (vs : List Value) (key : Nat → Str) (s : Shared) : Prop :=
  ∀ i v, vs[i]? = some v → ∀ nws h tk, (∀ p ∈ news, p ∈ nws) → Fr h₀ L h m → News h₀ L h nws → ∀ Q : Value → Shared → Prop, (∀ t h' tk', Fr h₀ L h' m → News h₀ L h' nws → Q (.str (key i) t) { s with heap := h', toks := tk' }) →
    wpAny (model prog w) A (call f [v]) Q (fun _ _ => False) { s with heap := h, toks := tk }
theorem KeyS.heap {f : Value} {key : Nat → Str} {g : Heap} {k : Nat} (h : KeyS prog w A h₀ L m news f vs key s) : KeyS prog w A h₀ L m news f vs key { s with heap := g, toks := k } := h
theorem keys_walk {kS D : Addr} {e1 : Nat} {f : Value} {key : Nat → Str} {Fin : List Value → Nat → Shared → Prop} (hkD : D < kS) (hD : ∀ q ∈ news, q.1 < D) (K : KeyS prog w A h₀ L m news f vs key s)
    (h : ∀ ks e h' tk, Fr h₀ L h' m → News h₀ L h' ((kS, seqObj "list" (List.toArray ks) e) :: (D, seqObj "list" #[] e1) :: news) → ks.length = vs.length → (∀ i, i < vs.length → ∃ t, ks.getD i .none = .str (key i) t) → Fin ks e { s with heap := h', toks := tk }) :
    ∀ (r : List Value) (j : Nat) (ks : List Value) (e : Nat) (g : Heap) (tk : Nat), vs.drop j = r → ks.length = j → j ≤ vs.length → (∀ i, i < j → ∃ t, ks.getD i .none = .str (key i) t) → Fr h₀ L g m → News h₀ L g ((kS, seqObj "list" (List.toArray ks) e) :: (D, seqObj "list" #[] e1) :: news) →
      KatKeys prog w A h₀ L m kS f Fin r ks e { s with heap := g, toks := tk }
  | [], j, ks, e, g, tk, hd, hl, hj, hk, F, N => by
    have : j = vs.length := Nat.le_antisymm hj (by have := congrArg List.length hd; rw [List.length_drop] at this; exact Nat.le_of_sub_eq_zero this)
    subst this
    exact KatKeys.nil (h ks e g tk F N hl hk)
  | v :: r, j, ks, e, g, tk, hd, hl, hj, hk, F, N => by
    have hv : vs[j]? = some v := by
      have := congrArg (·[0]?) hd
      simpa using this
    have hjl : j < vs.length := (List.getElem?_eq_some_iff.mp hv).1
    have hne : ∀ p ∈ ((D, seqObj "list" #[] e1) :: news : List (Addr × Obj)), p.1 ≠ kS := List.forall_mem_cons.mpr ⟨Nat.ne_of_lt hkD, fun p hp => Nat.ne_of_lt (Nat.lt_trans (hD p hp) hkD)⟩
    refine KatKeys.cons (K j v hv _ g tk (fun p hp => .tail _ (.tail _ hp)) F N _ fun t h1 tk1 F1 N1 => ?_)
    refine KatBack.intro F1 N1 (UpdF.head hne) fun h2 c F2 N2 => ?_
    refine keys_walk hkD hD K h r (j + 1) (ks ++ [.str (key j) t]) c h2 tk1 ?_ (by simp [hl]) hjl (fun i hi => ?_) F2 N2
    · have := congrArg (List.drop 1) hd
      simpa using this
    · rcases Nat.lt_or_ge i j with hij | hij
      · obtain ⟨t', ht'⟩ := hk i hij
        exact ⟨t', by rw [← ht']; simp [List.getD, List.getElem?_append_left (show i < ks.length by omega)]⟩
      · obtain rfl : i = j := by omega
        exact ⟨t, by simp [List.getD, ← hl]⟩
/-- sorted by a key that tells texts; two to five items -/
theorem sorted_many {f : Addr} {key : Nat → Str} {Q : Value → Shared → Prop} (F : Fr h₀ L s.heap m) (N : News h₀ L s.heap news) (hl : (l, listOf vs.toArray n) ∈ news) (h2 : 2 ≤ vs.length) (h5 : vs.length ≤ 5)
    (K : KeyS prog w A.in1.in1 h₀ L m news (.ref f) vs key s)
    (h : ∀ D p c h' tk, Fr h₀ L h' m → News h₀ L h' ((D, listOf (List.map (fun i => vs.getD i .none) p).toArray c) :: news) → (∀ q ∈ news, q.1 < D) → p.Perm (List.range vs.length) → p.Pairwise (Stab key) → Q (.ref D) { s with heap := h', toks := tk }) :
    wpAny (model prog w) A (call (.builtin "sorted") [.ref l] [(Str.ofString "key", .ref f)]) Q E s := by
  refine kat_sortedK (b := false) F N (News.isList N hl) h2 (by omega) (ksk_s1 _ _) (fun x => ksk_l1 _ _) (fun x => ksk_t1 _ _) fun D kS e1 h1 F1 N1 hDk hD => ?_
  refine keys_walk (s := s) (vs := vs) (news := news) (e1 := e1) hDk hD K (fun ks e h2' tk2 F2 N2 hkl hks => ?_) vs 0 [] 0 h1 s.toks rfl rfl (Nat.zero_le _) (fun i hi => absurd hi (Nat.not_lt_zero _)) F1 N1
  refine kas_kind (T := .type "str") (by rw [hkl]; exact h2) (fun v hv => ?_) rfl rfl ?_
  · obtain ⟨i, hi, rfl⟩ := List.getElem_of_mem hv
    obtain ⟨t, ht⟩ := hks i (by rw [← hkl]; exact hi)
    have : ks[i] = .str (key i) t := by rw [← ht]; simp [List.getD, hi]
    rw [this]
    exact .now
  · refine sat_wp (lt := fun i j => strLt (key i) (key j)) (n := vs.length) (fun i j C hi hj hC => ?_) (fun p hR => ?_) _ (sort_stable h2 h5)
    · unfold kas_ask
      obtain ⟨t, ht⟩ := hks i hi
      obtain ⟨u, hu⟩ := hks j hj
      show wpAny _ _ (keyLt' oneType' (ks.getD i .none) (ks.getD j .none)) _ _ _
      rw [ht, hu]
      exact kas_lt_str hC
    · have hne : ∀ p ∈ ((D, seqObj "list" #[] e1) :: news : List (Addr × Obj)), p.1 ≠ kS := List.forall_mem_cons.mpr ⟨Nat.ne_of_lt hDk, fun p hp => Nat.ne_of_lt (Nat.lt_trans (hD p hp) hDk)⟩
      refine KatFin.intro F2 N2 (UpdF.head hne) fun h3 c3 F3 N3 => ?_
      refine KasFin.intro F3 N3 (UpdF.tail (Nat.ne_of_gt hDk) (UpdF.head fun p hp => Nat.ne_of_lt (hD p hp))) fun h4 c4 F4 N4 => ?_
      exact h D p.toList c4 h4 _ F4 (fun p hp => by
        rcases List.mem_cons.mp hp with rfl | hp
        · exact N4 _ (.tail _ (.head _))
        · exact N4 _ (.tail _ (.tail _ hp))) hD hR.1 hR.2
theorem keys_few {kS D : Addr} {f : Value} {key : Nat → Str} {P : PySem.Fin → Shared → Prop} {e1 : Nat} (hkD : D < kS) (hD : ∀ q ∈ news, q.1 < D) (K : KeyS prog w A h₀ L m news f vs key s) (h1 : vs.length < 2)
    (h : ∀ c h' tk, Fr h₀ L h' m → News h₀ L h' ((D, listOf vs.toArray c) :: news) → P (.done (.ret .none)) { s with heap := h', toks := tk })
    {g : Heap} {tk : Nat} (F : Fr h₀ L g m) (N : News h₀ L g ((kS, seqObj "list" #[] 0) :: (D, seqObj "list" #[] e1) :: news)) :
    wpAny (model prog w) A (ksk_rest D f false vs.toArray e1 (.ref kS)) P E { s with heap := g, toks := tk } := by
  have hne : ∀ p ∈ ((D, seqObj "list" #[] e1) :: news : List (Addr × Obj)), p.1 ≠ kS := List.forall_mem_cons.mpr ⟨Nat.ne_of_lt hkD, fun p hp => Nat.ne_of_lt (Nat.lt_trans (hD p hp) hkD)⟩
  have fin : ∀ ks e h2 tk2, Fr h₀ L h2 m → News h₀ L h2 ((kS, seqObj "list" (List.toArray ks) e) :: (D, seqObj "list" #[] e1) :: news) → ks.length = vs.length → wpAny (model prog w) A (ksk_end D false vs.toArray e1 (.ref kS) (List.toArray ks)) P E { s with heap := h2, toks := tk2 } := by
    intro ks e h2 tk2 F2 N2 hkl
    have hlt : vs.toArray.size < 2 := by rw [List.size_toArray]; exact h1
    unfold ksk_end
    dsimp only
    rw [if_pos hlt, if_pos hlt]
    refine wpAny_bind (wpAny_pure ?_)
    rw [StateT.run_pure]
    refine wpAny_bind (wpAny_pure ?_)
    refine kat_tail (ks := ks) (e := e) (h₀ := h₀) (L := L) (m := m) (out := vs) ?_ (by omega) (by omega) rfl ?_
    · show ((List.toArray ks).zip vs.toArray).map (·.2) = _
      apply Array.toList_inj.mp
      rw [Array.toList_map, ksk_zip]
      exact List.map_snd_zip (Nat.le_of_eq (by simpa using hkl.symm))
    · refine KatFin.intro F2 N2 (UpdF.head hne) fun h3 c3 F3 N3 => ?_
      refine KasFin.intro F3 N3 (UpdF.tail (Nat.ne_of_gt hkD) (UpdF.head fun p hp => Nat.ne_of_lt (hD p hp))) fun h4 c4 F4 N4 => ?_
      exact h c4 h4 _ F4 fun p hp => by
        rcases List.mem_cons.mp hp with rfl | hp
        · exact N4 _ (.tail _ (.head _))
        · exact N4 _ (.tail _ (.tail _ hp))
  unfold ksk_rest
  refine wpAny_bind (wpAny_rule ?_)
  rw [List.forIn_toArray]
  cases vs with
  | nil =>
    rw [List.forIn_nil]
    refine wpAny_bind (wpAny_pure ?_)
    refine wpAny_bind (listItems_at (N _ (.head _)).1 rfl ?_)
    exact fin [] 0 _ _ F N rfl
  | cons v r =>
    cases r with
    | cons _ _ => exact absurd h1 (by simp)
    | nil =>
      rw [List.forIn_cons]
      refine wpAny_bind (wpAny_bind (wpAny_bind (wpAny_attempt (wpAny_mono (K 0 v rfl _ g tk (fun p hp => .tail _ (.tail _ hp)) F N (fun k s' => ∃ t h' tk', k = .str (key 0) t ∧ s' = { s with heap := h', toks := tk' } ∧ Fr h₀ L h' m ∧ News h₀ L h' ((kS, seqObj "list" #[] 0) :: (D, seqObj "list" #[] e1) :: news)) fun t h2 tk2 F2 N2 => ⟨t, h2, tk2, rfl, rfl, F2, N2⟩) (fun k s' hk => ?_) fun _ _ hF => hF.elim))))
      obtain ⟨t, h2, tk2, rfl, rfl, F2, N2⟩ := hk
      dsimp only
      have nk := N2 _ (.head _)
      have s1 := Heap.SameBut.update h2 kS (Obj.mapSeq (·.push (Value.str (key 0) t)))
      obtain ⟨c2, hc2⟩ : ∃ c2, (h2.update kS (Obj.mapSeq (·.push (Value.str (key 0) t)))).get? kS = some (seqObj "list" (List.toArray [Value.str (key 0) t]) c2) := ⟨_, get?_update_seq nk.1 (·.push (Value.str (key 0) t))⟩
      refine wpAny_bind (listUpdate_at nk.1 rfl ?_ (by simp) (by simp))
      refine wpAny_pure ?_
      dsimp only
      rw [List.forIn_nil]
      refine wpAny_pure ?_
      have F3 := kas_fr F2 s1 nk.2.1 nk.2.2
      have N3 : News h₀ L (h2.update kS (Obj.mapSeq (·.push (Value.str (key 0) t)))) ((kS, seqObj "list" (List.toArray [Value.str (key 0) t]) c2) :: (D, seqObj "list" #[] e1) :: news) := fun p hp => by
        rcases List.mem_cons.mp hp with rfl | hp
        · exact ⟨hc2, nk.2⟩
        · exact kas_news (fun p hp => N2 p (.tail _ hp)) s1 hne p hp
      refine wpAny_bind (listItems_at (N3 _ (.head _)).1 rfl ?_)
      exact fin [_] c2 _ _ F3 N3 rfl
theorem sorted_few {f : Addr} {key : Nat → Str} {Q : Value → Shared → Prop} (F : Fr h₀ L s.heap m) (N : News h₀ L s.heap news) (hl : (l, listOf vs.toArray n) ∈ news) (h1 : vs.length < 2)
    (K : KeyS prog w A.in1.in1 h₀ L m news (.ref f) vs key s)
    (h : ∀ D c h' tk, Fr h₀ L h' m → News h₀ L h' ((D, listOf vs.toArray c) :: news) → (∀ q ∈ news, q.1 < D) → Q (.ref D) { s with heap := h', toks := tk }) :
    wpAny (model prog w) A (call (.builtin "sorted") [.ref l] [(Str.ofString "key", .ref f)]) Q E s := by
  refine call_function_entry_kw kind_sorted plain_sorted entry_sorted (ksk_s1 _ _) ?_
  unfold Builtin.«sorted»
  refine wpAny_bind (m := checkCount "sorted" 1 1 _) (wpAny_pure ?_)
  refine wpAny_bind (collect_list (News.isList N hl) ?_ (by rw [sizeLine_eq]; omega))
  refine wpAny_bind (wpAny_newList ?_ (by rw [sizeLine_eq]; omega))
  have hsz : ((s.heap.push (seqObj "list" #[] 0)).update s.heap.objs.size (Obj.mapSeq (· ++ vs.toArray))).objs.size = s.heap.objs.size + 1 := by
    rw [Heap.size_update, size_push']
  show wpAny _ _ _ _ _ { s with heap := ((s.heap.push (seqObj "list" #[] 0)).update s.heap.objs.size (Obj.mapSeq (· ++ vs.toArray))).push (seqObj "list" vs.toArray 0) }
  rw [hsz]
  obtain ⟨D, hDe⟩ : ∃ D, D = s.heap.objs.size + 1 := ⟨_, rfl⟩
  rw [← hDe]
  obtain ⟨H, hH⟩ : ∃ H, H = ((s.heap.push (seqObj "list" #[] 0)).update s.heap.objs.size (Obj.mapSeq (· ++ vs.toArray))).push (seqObj "list" vs.toArray 0) := ⟨_, rfl⟩
  have hoL : H.get? D = some (seqObj "list" vs.toArray 0) := by rw [hDe, ← hsz, hH]; exact Heap.get?_push_size _ rfl
  have keep : ∀ b o, s.heap.get? b = some o → H.get? b = some o := fun b o q => by
    have hlt : b < s.heap.objs.size := Heap.lt_size q
    rw [hH, Heap.get?_push_ne _ _ _ (by rw [hsz]; exact Nat.ne_of_lt (Nat.lt_succ_of_lt hlt)), Heap.get?_update_ne _ _ _ _ (Nat.ne_of_lt hlt), Heap.get?_push_ne _ _ _ (Nat.ne_of_lt hlt)]
    exact q
  have hLD : L < D := by rw [hDe]; exact Nat.lt_succ_of_lt F.ns.lt
  have hD0 : h₀.get? D = none := Heap.get?_none_of_le (Nat.le_trans F.above (Nat.le_of_lt hLD))
  have hD : ∀ q ∈ news, q.1 < D := fun q hq => by rw [hDe]; exact Nat.lt_succ_of_lt (Heap.lt_size (N q hq).1)
  rw [← hH]
  have F1 := F.kept keep
  have N1 := N.grown keep
  refine wpAny_bind (wpAny_holding (wpAny_call_entry_kw slot_list_sort ⟨_, hoL, rfl⟩ entry_list_sort ?body (ksk_l1 _ _)))
  case body =>
    show wpAny (model prog w) A.in1.in1 (Builtin.«list.sort» ⟨[.ref D], [(Str.ofString "key", .ref f)]⟩) _ _ _
    rw [ksk_t1]
    have s1 := Heap.SameBut.update H D (Obj.mapSeq fun _ => (#[] : Array Value))
    obtain ⟨e1, ho1⟩ : ∃ e1, (H.update D (Obj.mapSeq fun _ => (#[] : Array Value))).get? D = some (seqObj "list" #[] e1) := ⟨_, get?_update_seq hoL fun _ => #[]⟩
    have F2 := kas_fr F1 s1 (Nat.ne_of_gt hLD) hD0
    have N2 := kas_news N1 s1 fun p hp => Nat.ne_of_lt (hD p hp)
    have hkS : ((H.update D (Obj.mapSeq fun _ => (#[] : Array Value))).push (seqObj "tuple" vs.toArray 0)).objs.size = H.objs.size + 1 := by rw [size_push', Heap.size_update]
    have hDH : D < H.objs.size := Heap.lt_size hoL
    unfold ksk_tree
    refine wpAny_bind (listItems_at hoL rfl ?_)
    refine wpAny_bind (listUpdate_at hoL rfl ?_ (by rw [List.size_toArray, sizeLine_eq]; omega) (Nat.zero_le _))
    refine wpAny_bind (seqEpoch_at ho1 rfl ?_)
    refine wpAny_bind (wpAny_newTuple ?_ (by show vs.length ≤ _; rw [sizeLine_eq]; omega))
    refine wpAny_bind (wpAny_newList ?_ (Nat.zero_le _))
    refine wpAny_holding ?_
    have hLk : L < ((H.update D (Obj.mapSeq fun _ => (#[] : Array Value))).push (seqObj "tuple" vs.toArray 0)).objs.size := by rw [hkS]; exact Nat.lt_succ_of_lt (Nat.lt_trans hLD hDH)
    refine keys_few (s := s) (tk := s.toks) (kS := ((H.update D (Obj.mapSeq fun _ => (#[] : Array Value))).push (seqObj "tuple" vs.toArray 0)).objs.size) (by rw [hkS]; exact Nat.lt_succ_of_lt hDH) hD K h1 (fun c h3 tk F3 N3 => ?_) ((F2.push _).push _) (fun p hp => ?_)
    · exact ⟨_, rfl, wpAny_pure ⟨_, rfl, h D c h3 tk F3 N3 hD⟩⟩
    · rcases List.mem_cons.mp hp with rfl | hp
      · exact ⟨Heap.get?_push_size _ rfl, Nat.ne_of_gt hLk, Heap.get?_none_of_le (Nat.le_trans F.above (Nat.le_of_lt hLk))⟩
      · rcases List.mem_cons.mp hp with rfl | hp
        · exact ⟨Heap.get?_push_of_some _ (Heap.get?_push_of_some _ ho1), Nat.ne_of_gt hLD, hD0⟩
        · exact ⟨Heap.get?_push_of_some _ (Heap.get?_push_of_some _ (N2 p hp).1), (N2 p hp).2⟩
/-- sorted by a key that tells texts; at most five items -/
theorem sorted_keyed {f : Addr} {key : Nat → Str} {Q : Value → Shared → Prop} (F : Fr h₀ L s.heap m) (N : News h₀ L s.heap news) (hl : (l, listOf vs.toArray n) ∈ news) (h5 : vs.length ≤ 5)
    (K : KeyS prog w A.in1.in1 h₀ L m news (.ref f) vs key s)
    (h : ∀ D p c h' tk, Fr h₀ L h' m → News h₀ L h' ((D, listOf (List.map (fun i => vs.getD i .none) p).toArray c) :: news) → (∀ q ∈ news, q.1 < D) → p.Perm (List.range vs.length) → p.Pairwise (Stab key) → Q (.ref D) { s with heap := h', toks := tk }) :
    wpAny (model prog w) A (call (.builtin "sorted") [.ref l] [(Str.ofString "key", .ref f)]) Q E s := by
  by_cases h2 : 2 ≤ vs.length
  · exact sorted_many F N hl h2 h5 K h
  · refine sorted_few F N hl (by omega) K fun D c h' tk F' N' hD => h D (List.range vs.length) c h' tk F' ?_ hD (List.Perm.refl _) ?_
    · have e : (List.range vs.length).map (fun i => vs.getD i .none) = vs := List.ext_getElem (by simp) fun i h1 h2 => by simp [List.getD, h2]
      rw [e]; exact N'
    · rw [List.pairwise_iff_getElem]
      intro i j hi hj hij
      simp at hi hj
      omega
end
end
section
open PySem PySem.W PySem.Calls PyProof.Rows PyProof.V Mine
set_option maxRecDepth 100000
section
variable {prog : Program} {w : World} {A : Around} {E : Value → Shared → Prop} {s : Shared} {h₀ : Heap} {L D : Addr} {m : Str → Option Value} {news : List (Addr × Obj)} {vs : List Value} {n : Nat} {g : Obj → List (Addr × Obj)}
theorem cut_at : ∀ {l : List Value} {k : Nat} {v : Value}, l[k]? = some v → ∃ p q, kl_cut l k = some (p, v, q) ∧ p ++ q = l.eraseIdx k
  | [], _, _, h => by simp at h
  | x :: r, 0, v, h => by
    obtain rfl : x = v := by simpa using h
    exact ⟨[], r, rfl, rfl⟩
  | x :: r, k + 1, v, h => by
    obtain ⟨p, q, h1, h2⟩ := cut_at (l := r) (k := k) (by simpa using h)
    exact ⟨x :: p, q, by simp [kl_cut, h1], by simp [h2]⟩
theorem UpdF.upd {o : Obj} : ∀ {news : List (Addr × Obj)} {g : Obj → List (Addr × Obj)}, UpdF D o news g → ∀ o', Upd D o o' news (g o')
  | _, _, .head h, _ => .head h
  | _, _, .tail h r, o' => .tail h (UpdF.upd r o')
theorem pop_at {i : Nat} {t : Tok} {v : Value} {Q : Value → Shared → Prop} (F : Fr h₀ L s.heap m) (N : News h₀ L s.heap news) (U : UpdF D (listOf vs.toArray n) news g) (hv : vs[i]? = some v) (hz : vs.length ≤ 1000)
    (h : ∀ h', Fr h₀ L h' m → News h₀ L h' (g (listOf (vs.eraseIdx i).toArray (n + 1))) → Q v { s with heap := h' }) : wpAny (model prog w) A (call (.builtin "list.pop") [.ref D, .int ((i : Nat) : Int) t]) Q E s := by
  have hi : i < vs.length := (List.getElem?_eq_some_iff.mp hv).1
  obtain ⟨p, q, h1, h2⟩ := cut_at hv
  refine kl_popAt (k := i) (p := p) (q := q) (y := v) F N ?_ ?_ (by simpa using h1) (UpdF.upd U _) (by rw [sizeLine_eq]; simp; omega) (by rw [h2]; exact h)
  · simp only [Builtin.List.listFitsIndex, Bool.and_eq_true, decide_eq_true_eq]; omega
  · unfold seqIndex?
    simp
    omega
theorem remove_str {j : Nat} {x : Str} {t : Tok} {ys : List Str} {Q : Value → Shared → Prop} (F : Fr h₀ L s.heap m) (N : News h₀ L s.heap news) (U : UpdF D (listOf vs.toArray n) news g) (hs : StrsAre vs ys) (hj : ys[j]? = some x) (hno : ∀ i y, i < j → ys[i]? = some y → y ≠ x) (hz : vs.length ≤ 1000)
    (h : ∀ h', Fr h₀ L h' m → News h₀ L h' (g (listOf (vs.eraseIdx j).toArray (n + 1))) → Q .none { s with heap := h' }) : wpAny (model prog w) A (call (.builtin "list.remove") [.ref D, .str x t]) Q E s := by
  obtain ⟨pre, post, rfl, hg, a', b'⟩ := U.split
  have z := N (D, listOf vs.toArray n) (List.mem_append.mpr (.inr (.head _)))
  have hjv : j < vs.length := by rw [hs.length]; exact (List.getElem?_eq_some_iff.mp hj).1
  have at' : ∀ i (hi : i < vs.length), isStrOf x vs[i] = (ys[i]'(by rw [← hs.length]; exact hi) == x) := by
    intro i hi
    have hi' : i < ys.length := by rw [← hs.length]; exact hi
    obtain ⟨t', ht⟩ := hs.get i _ (List.getElem?_eq_getElem hi')
    have : vs[i] = .str ys[i] t' := by rw [List.getElem?_eq_getElem hi] at ht; exact Option.some.inj ht
    rw [this]
    rfl
  refine call_meets PySem.F.slot_list_remove ⟨_, z.1, rfl⟩ PySem.F.entry_list_remove (PySem.F.args_list_remove_2 _ _)
    (MeetsSeq.list_remove D vs.toArray n (.str x t) (isStrOf x) (fun y hy => eq_isStrOf x t hs y (by simpa using hy)) j (by simpa using hjv) ?_ (fun i hi hlt => ?_) (by rw [sizeLine_eq]; simp; omega))
    ⟨z.1, h _ (F.change (Heap.SameBut.update ..) z.2.1 z.2.2) ?_⟩
  · have := at' j hjv
    simp only [List.getElem_toArray]
    rw [this]
    have e : ys[j]'(by rw [← hs.length]; exact hjv) = x := by rw [List.getElem?_eq_getElem (by rw [← hs.length]; exact hjv)] at hj; exact Option.some.inj hj
    rw [e]
    exact beq_self_eq_true x
  · have hi' : i < vs.length := by simpa using hi
    simp only [List.getElem_toArray]
    rw [at' i hi']
    have := hno i _ hlt (List.getElem?_eq_getElem (by rw [← hs.length]; exact hi'))
    simpa using this
  · rw [hg]
    refine ki_turn _ N a' b' ?_ ?_
    · show vs.toArray.eraseIdxIfInBounds j = (vs.eraseIdx j).toArray
      apply Array.toList_inj.mp
      simp [Array.toList_eraseIdxIfInBounds]
    · have hq : (vs.eraseIdx j).toArray.size ≠ vs.toArray.size := by rw [List.size_toArray, List.size_toArray, List.length_eraseIdx, if_pos hjv]; omega
      rw [if_neg (by simpa using hq)]
end
end
section
open PySem PySem.W PySem.Calls PyProof.Rows Mine
set_option maxRecDepth 100000
noncomputable def groupP (n : Nat) : List Nat := (List.range 6).filter fun k => decide (n / 2 ^ k % 2 = 1)
noncomputable def degP (g : Nat → Nat → Bool) (gr : List Nat) (k : Nat) : Nat := (gr.filter fun j => g k j).length
noncomputable def oddP (g : Nat → Nat → Bool) (gr : List Nat) : List Nat := gr.filter fun k => decide (degP g gr k ≠ 2)
noncomputable def stepP (g : Nat → Nat → Bool) (gr re : List Nat) : List Nat := gr.filter fun k => re.contains k || !(re.filter fun j => g k j).isEmpty
noncomputable def reachP (g : Nat → Nat → Bool) (gr : List Nat) : Nat → List Nat
  | 0 => [gr.getD 0 0]
  | t + 1 => stepP g gr (reachP g gr t)
noncomputable def ringAt (g : Nat → Nat → Bool) (n : Nat) : Bool := decide (3 < (groupP n).length) && (oddP g (groupP n)).isEmpty && decide (reachP g (groupP n) 6 = groupP n)
noncomputable def ringP (g : Nat → Nat → Bool) : Bool := (List.range 49).any fun i => ringAt g (15 + i)
theorem ring_true {g : Nat → Nat → Bool} {i : Nat} (hi : i < 49) (h : ringAt g (15 + i) = true) : ringP g = true := List.any_eq_true.mpr ⟨i, List.mem_range.mpr hi, h⟩
theorem ring_false {g : Nat → Nat → Bool} (h : ∀ i, i < 49 → ringAt g (15 + i) = false) : ringP g = false := by
  unfold ringP
  rw [List.any_eq_false]
  intro i hi
  rw [h i (List.mem_range.mp hi)]
  decide
theorem group_lt {n k : Nat} (h : k ∈ groupP n) : k < 6 := List.mem_range.mp (List.mem_filter.mp h).1
theorem group_len (n : Nat) : (groupP n).length ≤ 6 := Nat.le_trans (List.length_filter_le _ _) (by simp)
theorem step_len (g : Nat → Nat → Bool) (gr re : List Nat) : (stepP g gr re).length ≤ gr.length := List.length_filter_le _ _
theorem reach_len (g : Nat → Nat → Bool) {gr : List Nat} (h : gr.length ≤ 6) : ∀ t, (reachP g gr t).length ≤ 6
  | 0 => by simp [reachP]
  | t + 1 => Nat.le_trans (step_len g gr _) h
theorem reach_sub (g : Nat → Nat → Bool) {gr : List Nat} (h : 0 < gr.length) : ∀ t, ∀ k ∈ reachP g gr t, k ∈ gr
  | 0, k, hk => by
    have e : k = gr.getD 0 0 := by simpa [reachP] using hk
    have e2 : gr.getD 0 0 = gr[0] := by simp [List.getD, h]
    rw [e, e2]
    exact List.getElem_mem h
  | t + 1, k, hk => (List.mem_filter.mp hk).1
theorem bit_fact (n k : Nat) : (((n : Nat) : Int).fdiv (2 ^ ((k : Nat) : Int).toNat)).fmod 2 = ((n / 2 ^ k % 2 : Nat) : Int) := by
  rw [Int.toNat_natCast, Int.fmod_eq_emod_of_nonneg _ (by decide), Int.fdiv_eq_ediv_of_nonneg _ (by have : (0 : Int) < 2 ^ k := Int.pow_pos (by decide); omega)]
  norm_cast
theorem off1_mem {D : Addr} : ∀ {l : List (Addr × Obj)}, LCg.Off1 D l → ∀ p ∈ l, p.1 ≠ D
  | [], _, _, h => nomatch h
  | _ :: _, x, p, h => by
    rcases List.mem_cons.mp h with rfl | h
    · exact x.1
    · exact off1_mem x.2 p h
theorem take_filter_yes {α : Type} {l : List α} {i : Nat} {x : α} {p : α → Bool} (h : l[i]? = some x) (hp : p x = true) : (l.take (i + 1)).filter p = (l.take i).filter p ++ [x] := by
  rw [List.take_add_one, h, List.filter_append]; simp [hp]
theorem take_filter_no {α : Type} {l : List α} {i : Nat} {x : α} {p : α → Bool} (h : l[i]? = some x) (hp : p x = false) : (l.take (i + 1)).filter p = (l.take i).filter p := by
  rw [List.take_add_one, h, List.filter_append]; simp [hp]
theorem head_val (gr : List Nat) : ((gr.map fun b => ((b : Nat) : Int)).getD (Int.toNat 0) 0) = ((gr.getD 0 0 : Nat) : Int) := by
  cases gr <;> rfl
theorem any_cast (re : List Nat) (k : Nat) : ((re.map fun b => ((b : Nat) : Int)).any fun x => x == ((k : Nat) : Int)) = re.contains k := by
  induction re with
  | nil => rfl
  | cons a r ih =>
    rw [List.map_cons, List.any_cons, ih, List.contains_cons]
    congr 1
    rw [Bool.eq_iff_iff, beq_iff_eq, beq_iff_eq]
    omega
/-- three cells that the loop stores into -/
inductive Cel3 (a4 a3 a2 : Addr) (rest nx' : List (Addr × Obj)) : Prop where
  | intro (v2 v3 v4 : Obj) (x2 x3 x4 : Option Value) : v4.data = .cell x4 → v3.data = .cell x3 → v2.data = .cell x2 → nx' = (a4, v4) :: (a3, v3) :: (a2, v2) :: rest → Cel3 a4 a3 a2 rest nx'
/-- those who are reached -/
inductive ReaC (D I a4 : Addr) (ys : List Value) (io : Obj) (ns : List Nat) (rest nx' : List (Addr × Obj)) : Prop where
  | intro (R : Addr) (zs : List Value) (zn : Nat) (v4 : Obj) : v4.data = .cell (some (.ref R)) → NatsAre zs ns → nx' = (R, listOf (List.toArray zs) zn) :: (D, LCg.lst ys) :: (I, io) :: (a4, v4) :: rest → ReaC D I a4 ys io ns rest nx'
end
section
open PySem PySem.W PySem.Calls PyProof.Rows Mine
set_option maxRecDepth 100000
section
variable {prog : Program} {w : World} {A : Around} {E : Value → Shared → Prop} {s : Shared} {h₀ : Heap} {L l : Addr} {m : Str → Option Value} {news : List (Addr × Obj)} {vs : List Value} {n : Nat}
theorem set_at {j : Nat} {t : Tok} {v : Value} {g : Obj → List (Addr × Obj)} {Q : Unit → Shared → Prop} (F : Fr h₀ L s.heap m) (N : News h₀ L s.heap news) (U : UpdF l (listOf vs.toArray n) news g) (hj : j < vs.length) (hz : j < 1000)
    (h : ∀ h', Fr h₀ L h' m → News h₀ L h' (g (listOf (vs.set j v).toArray n)) → Q () { s with heap := h' }) : wpAny (model prog w) A (setItem (.ref l) (.int ((j : Nat) : Int) t) v) Q E s := by
  obtain ⟨pre, post, rfl, hg, a, b⟩ := U.split
  have z := N (l, listOf vs.toArray n) (List.mem_append.mpr (.inr (.head _)))
  refine ki_setAt z.1 (by omega) (by omega) (by rw [List.size_toArray]; omega) (h _ (F.change (Heap.SameBut.update ..) z.2.1 z.2.2) ?_)
  rw [hg]
  refine ki_turn _ N a b ?_ ?_
  · show vs.toArray.setIfInBounds ((j : Nat) : Int).toNat v = (vs.set j v).toArray
    rw [Int.toNat_natCast]
    apply Array.toList_inj.mp
    simp
  · simp
end
theorem updMap {f : Nat → Addr × Obj} {i : Nat} {rest : List (Addr × Obj)} (hr : ∀ p ∈ rest, p.1 ≠ (f i).1) : ∀ (l : List Nat), i ∈ l → l.Nodup → (∀ k ∈ l, k ≠ i → (f k).1 ≠ (f i).1) →
    ∃ g, UpdF (f i).1 (f i).2 (l.map f ++ rest) g ∧ ∀ o', g o' = (l.map fun k => if k = i then ((f i).1, o') else f k) ++ rest
  | [], h, _, _ => nomatch h
  | a :: l, h, hn, hne => by
    have hn := List.nodup_cons.mp hn
    by_cases e : a = i
    · subst e
      refine ⟨_, UpdF.head fun p hp => ?_, fun o' => ?_⟩
      · rcases List.mem_append.mp hp with hp | hp
        · obtain ⟨k, hk, rfl⟩ := List.mem_map.mp hp
          exact hne k (.tail _ hk) fun c => hn.1 (c ▸ hk)
        · exact hr p hp
      · rw [List.map_cons, if_pos rfl, List.cons_append]
        have e2 : (l.map fun k => if k = a then ((f a).1, o') else f k) = l.map f := List.map_congr_left fun k hk => if_neg fun (c : k = a) => hn.1 (c ▸ hk)
        rw [e2]; rfl
    · have hi : i ∈ l := (List.mem_cons.mp h).resolve_left fun c => e c.symm
      obtain ⟨g, hU, hg⟩ := updMap hr l hi hn.2 fun k hk => hne k (.tail _ hk)
      refine ⟨_, UpdF.tail (hne a (.head _) e) hU, fun o' => ?_⟩
      rw [List.map_cons, if_neg e, List.cons_append, hg]
/-- a row of who is seen -/
noncomputable def rowObj (g : Nat → Nat → Bool) (i : Nat) : Obj := listOf (L6 fun j => .bool (g i j)).toArray 0
noncomputable def rowsL (qs : Nat → Addr) (g : Nat → Nat → Bool) : List (Addr × Obj) := (List.range 6).map fun k => (qs k, rowObj g k)
noncomputable def setG (g : Nat → Nat → Bool) (i j : Nat) : Nat → Nat → Bool := fun a b => if a = i ∧ b = j then true else g a b
theorem rowsL_mem {qs : Nat → Addr} {g : Nat → Nat → Bool} {i : Nat} (hi : i < 6) : (qs i, rowObj g i) ∈ rowsL qs g := List.mem_map.mpr ⟨i, List.mem_range.mpr hi, rfl⟩
theorem L6_set {g : Nat → Nat → Bool} {i j : Nat} (hj : j < 6) : (L6 fun k => .bool (g i k)).set j (.bool true) = L6 fun k => .bool (setG g i j i k) := by
  apply List.ext_getElem?
  intro k
  rw [List.getElem?_set]
  by_cases e : j = k
  · subst e
    rw [if_pos rfl, if_pos (by rw [L6_len]; exact hj), L6_at hj]
    simp [setG]
  · rw [if_neg e]
    rcases Nat.lt_or_ge k 6 with h | h
    · rw [L6_at h, L6_at h]
      simp [setG, show ¬ k = j from fun c => e c.symm]
    · rw [List.getElem?_eq_none (by rw [L6_len]; exact h), List.getElem?_eq_none (by rw [L6_len]; exact h)]
theorem rowsL_set {qs : Nat → Addr} {g : Nat → Nat → Bool} {i j : Nat} (_hi : i < 6) (hj : j < 6) : ((List.range 6).map fun k => if k = i then (qs i, listOf ((L6 fun k => .bool (g i k)).set j (.bool true)).toArray 0) else (qs k, rowObj g k)) = rowsL qs (setG g i j) := by
  unfold rowsL
  apply List.map_congr_left
  intro k _
  by_cases e : k = i
  · subst e
    rw [if_pos rfl, L6_set hj]
    rfl
  · rw [if_neg e]
    unfold rowObj setG
    simp [e]
theorem rowsL_upd {qs : Nat → Addr} {g : Nat → Nat → Bool} {i : Nat} {rest : List (Addr × Obj)} (hi : i < 6) (hinj : ∀ a, a < 6 → ∀ b, b < 6 → a ≠ b → qs a ≠ qs b) (hr : ∀ p ∈ rest, p.1 ≠ qs i) :
    ∃ g', UpdF (qs i) (rowObj g i) (rowsL qs g ++ rest) g' ∧ ∀ j, j < 6 → g' (listOf ((L6 fun k => .bool (g i k)).set j (.bool true)).toArray 0) = rowsL qs (setG g i j) ++ rest := by
  obtain ⟨g', hU, hg⟩ := updMap (f := fun k => (qs k, rowObj g k)) (i := i) hr (List.range 6) (List.mem_range.mpr hi) List.nodup_range fun k hk hne => hinj k (List.mem_range.mp hk) i hi hne
  exact ⟨g', hU, fun j hj => by rw [hg, rowsL_set hi hj]⟩
noncomputable def pairsL : List (Nat × Nat) := [(0, 1), (0, 2), (0, 3), (0, 4), (0, 5), (1, 2), (1, 3), (1, 4), (1, 5), (2, 3), (2, 4), (2, 5), (3, 4), (3, 5), (4, 5)]
noncomputable def baseP (i : Nat) : Nat := [0, 5, 9, 12, 14, 15].getD i 15
/-- the sights after the first n pairs -/
noncomputable def gUp (bit : Nat → Bool) : Nat → Nat → Nat → Bool
  | 0 => fun _ _ => false
  | n + 1 => let p := pairsL.getD n (0, 0); if bit n then setG (setG (gUp bit n) p.1 p.2) p.2 p.1 else gUp bit n
theorem base_succ {i : Nat} (h : i < 6) : baseP (i + 1) = baseP i + (5 - i) := by
  have : ∀ k, k < 6 → baseP (k + 1) = baseP k + (5 - k) := by decide
  exact this i h
theorem pair_at {i jj : Nat} (hi : i < 6) (hj : jj < 5 - i) : pairsL.getD (baseP i + jj) (0, 0) = (i, i + 1 + jj) := by
  have : ∀ k, k < 6 → ∀ l, l < 5 → l < 5 - k → pairsL.getD (baseP k + l) (0, 0) = (k, k + 1 + l) := by decide
  exact this i hi jj (by omega) hj
theorem base_lt {i jj : Nat} (hi : i < 6) (hj : jj < 5 - i) : baseP i + jj < 15 := by
  have : ∀ k, k < 6 → ∀ l, l < 5 → l < 5 - k → baseP k + l < 15 := by decide
  exact this i hi jj (by omega) hj
theorem gUp_succ (bit : Nat → Bool) (n : Nat) : gUp bit (n + 1) = if bit n then setG (setG (gUp bit n) (pairsL.getD n (0, 0)).1 (pairsL.getD n (0, 0)).2) (pairsL.getD n (0, 0)).2 (pairsL.getD n (0, 0)).1 else gUp bit n := rfl
theorem gUp_yes {bit : Nat → Bool} {i jj : Nat} (hi : i < 6) (hj : jj < 5 - i) (h : bit (baseP i + jj) = true) : gUp bit (baseP i + jj + 1) = setG (setG (gUp bit (baseP i + jj)) i (i + 1 + jj)) (i + 1 + jj) i := by
  rw [gUp_succ, if_pos h, pair_at hi hj]
theorem gUp_no {bit : Nat → Bool} {n : Nat} (h : bit n = false) : gUp bit (n + 1) = gUp bit n := by
  rw [gUp_succ, h]; rfl
noncomputable def bitD (d : Nat → Int) (k : Nat) : Bool := decide (((d (k / 5)).fdiv (2 ^ (k % 5))).fmod 2 = 1)
theorem nat_fdiv5 (p : Nat) : ((p : Nat) : Int).fdiv 5 = ((p / 5 : Nat) : Int) := by rw [Int.fdiv_eq_ediv_of_nonneg _ (by decide)]; omega
theorem nat_fmod5 (p : Nat) : ((p : Nat) : Int).fmod 5 = ((p % 5 : Nat) : Int) := by rw [Int.fmod_eq_emod_of_nonneg _ (by decide)]; omega
theorem up_small {i : Nat} (h : i < 6) : Builtin.Range.small (((i : Nat) : Int) + 1) 6 1 = true := by
  have : ∀ k, k < 6 → Builtin.Range.small (((k : Nat) : Int) + 1) 6 1 = true := by decide
  exact this i h
theorem up_size {i : Nat} (h : i < 6) : Builtin.Range.rangeSize (((i : Nat) : Int) + 1) 6 1 = ((5 - i : Nat) : Int) := by
  have : ∀ k, k < 6 → Builtin.Range.rangeSize (((k : Nat) : Int) + 1) 6 1 = ((5 - k : Nat) : Int) := by decide
  exact this i h
/-- forget how many tokens were drawn -/
theorem tgen {α : Type} {M : Model} {A : Around} {x : Sem α} {Q : α → Shared → Prop} {E : Value → Shared → Prop} {hp : Heap} {gs : Array GenState} {dr : Drawn} {tk : Nat} {os : OsState} (h : ∀ t : Nat, wpAny M A x Q E ⟨hp, gs, dr, t, os⟩) : wpAny M A x Q E ⟨hp, gs, dr, tk, os⟩ := h tk
theorem rows_ne {qs : Nat → Addr} {g : Nat → Nat → Bool} {nx : List (Addr × Obj)} {I : Addr} (hq : ∀ k, k < 6 → I ≠ qs k) (hn : ∀ p ∈ nx, p.1 ≠ I) : ∀ p ∈ rowsL qs g ++ nx, p.1 ≠ I := fun p hp => by
  rcases List.mem_append.mp hp with hp | hp
  · obtain ⟨k, hk, rfl⟩ := List.mem_map.mp hp
    exact fun e => hq k (List.mem_range.mp hk) e.symm
  · exact hn p hp
theorem bgen {M : Model} {A : Around} {x : Sem Bool} {E : Value → Shared → Prop} {s : Shared} {P : Bool → Shared → Prop} (h : ∀ Q' : Bool → Shared → Prop, (∀ y s', P y s' → Q' y s') → wpAny M A x Q' E s) : wpAny M A x P E s := h P fun _ _ z => z
end
section
open PySem PySem.W PySem.Calls PyProof.Rows PyProof.V Mine
set_option maxRecDepth 100000
/-- a dict of texts by texts -/
structure Due (prog : Program) (w : World) (o : Obj) (F : Str → Option Str) (k : Nat) : Prop where
  ex : ∃ kvs D, o.IsDictOf (PySem.strKind prog w) kvs ∧ FlatPairs PyData.str kvs D ∧ D.length ≤ k ∧ ∀ x, PySem.Spec.lookup (.str x) D = (F x).map PyData.str
section
variable {prog : Program} {w : World} {A : Around} {E : Value → Shared → Prop} {s : Shared} {h₀ : Heap} {L d : Addr} {m : Str → Option Value} {news : List (Addr × Obj)} {g : Obj → List (Addr × Obj)} {o : Obj} {F : Str → Option Str} {k : Nat}
theorem Due.nil (h1 : o.IsDictOf (PySem.strKind prog w) []) (h2 : FlatPairs PyData.str [] []) : Due prog w o (fun _ => none) 0 := ⟨⟨[], [], h1, h2, Nat.le_refl _, fun _ => rfl⟩⟩
noncomputable def setF (F : Str → Option Str) (x v : Str) : Str → Option Str := fun y => if y = x then some v else F y
theorem due_set {x v : Str} {t u : Tok} {Q : Unit → Shared → Prop} (Fx : Fr h₀ L s.heap m) (N : News h₀ L s.heap news) (U : UpdF d o news g) (hd : Due prog w o F k) (hk : k ≤ 1000)
    (h : ∀ h' o' tk', Fr h₀ L h' m → News h₀ L h' (g o') → Due prog w o' (setF F x v) (k + 1) → Q () { s with heap := h', toks := tk' }) :
    wpAny (model prog w) A (setItem (.ref d) (.str x t) (.str v u)) Q E s := by
  obtain ⟨kvs, D, h1, h2, h3, h4⟩ := hd.ex
  refine setItem_K PyProof.V.same_str (strKind_is _ _ _ _) (Flat.str v u) Fx N U h1 h2 (fun h' o' F' N' a b => h h' o' _ F' N' ⟨⟨_, _, a, b, ?_, fun y => ?_⟩⟩) (by rw [sizeLine_eq]; omega)
  · exact Nat.le_trans (putD_length_le _ _ _) (Nat.succ_le_succ h3)
  · rw [lookup_putK keyEnc_str]
    unfold setF
    by_cases e : y = x
    · subst e; rw [if_pos rfl, if_pos rfl]; rfl
    · rw [if_neg e, if_neg e]; exact h4 y
theorem due_at {x v : Str} {t : Tok} {value slice : Expr} {Q : Value → Shared → Prop} (N : News h₀ L s.heap news) (hm : (d, o) ∈ news) (hs : (d == sysModules) = false) (hd : Due prog w o F k) (hx : F x = some v) (h : ∀ u tk', Q (.str v u) { s with toks := tk' })
    (hsub : subscripted slice false (.ref d) (.str x t) = operate [.ref d, .str x t] (getItem (.ref d) (.str x t)) := by with_unfolding_all rfl) (hg : ∀ r, letTemporaryGo value (.ref d) r = pure () := by intro _; with_unfolding_all rfl) :
    wpAny (model prog w) A (subscriptTail value slice (.ref d) (.str x t)) Q E s := by
  obtain ⟨kvs, D, h1, h2, h3, h4⟩ := hd.ex
  refine item_strTab (TabAt.ofNews N hm hs h1 h2) (dv := .str v) ?_ (fun v' hv => ?_) hsub hg
  · rw [h4, hx]; rfl
  · obtain ⟨u, rfl⟩ := Flat.str_inv hv
    exact h u _
end
end
section
open PySem PySem.W PySem.Calls PyProof.Rows PyProof.V PySem.Spec
open Builtin
set_option maxRecDepth 100000
theorem forIn_count {σ : Type} (body : Nat → σ → Sem (ForInStep σ)) (f : Nat → σ) (n : Nat) (h : ∀ j i, i < n → body j (f i) = pure (.yield (f (i + 1)))) : ∀ k j i, i + k = n → forIn (List.range' j k) (f i) body = (pure (f n) : Sem σ) := by
  intro k
  induction k with
  | zero => intro j i e; have : i = n := by omega
            subst this; rfl
  | succ k ih =>
    intro j i e
    rw [List.range'_succ, List.forIn_cons, h j i (by omega)]
    exact ih (j + 1) (i + 1) (by omega)
theorem run_ascii {id : String} {b : Array UInt8} (h : ∀ x ∈ b.toList, x.toNat < 128) (hz : b.size ≤ 1000) : _codecs.runDecoder id _codecs.utf8Decoder none true b 0 [] = pure ((b.toList.map UInt8.toNat).toArray, b.size) := by
  unfold _codecs.runDecoder
  simp only [Std.Legacy.Range.forIn_eq_forIn_range', Std.Legacy.Range.size]
  rw [show (0, (#[] : Array Nat), ({ held := [] } : _codecs.Faults)) = (fun p => (p, ((b.toList.take p).map UInt8.toNat).toArray, ({ held := [] } : _codecs.Faults))) 0 from by simp]
  rw [forIn_count _ (fun p => (p, ((b.toList.take p).map UInt8.toNat).toArray, ({ held := [] } : _codecs.Faults))) b.size ?_ _ _ _ (by omega)]
  · refine Eq.trans (pure_bind _ _) ?_
    simp [List.take_of_length_le]
  · intro j i hi
    have h1 : ¬ ((((b.toList.take i).map UInt8.toNat).toArray).size > sizeLine) := by rw [sizeLine_eq]; simp; omega
    have h2 : ¬ (i ≥ b.size) := by omega
    simp only [if_neg h1, if_neg h2]
    have hc : (b.getD i 0).toNat < 128 := by
      have := h (b.getD i 0) (by simp [Array.getD, hi])
      exact this
    have e : _codecs.utf8Decoder.find true b i = .text [(b.getD i 0).toNat] (i + 1) := by
      have e1 : Bytes.utf8At b i = (.char (b.getD i 0).toNat, i + 1) := by
        unfold Bytes.utf8At
        simp only []
        rw [if_pos hc]
      show (match Bytes.utf8At b i with | (.char c, nxt) => _codecs.Found.char c nxt | (.bad _ stop reason, _) => _codecs.Found.bad stop reason _) = _
      rw [e1]
      rfl
    rw [e]
    refine congrArg (fun r => pure (ForInStep.yield (i + 1, r, ({ held := [] } : _codecs.Faults)))) ?_
    rw [List.take_add_one]
    simp [Array.getD, hi]
/-- a number's letters to the base 16 -/
noncomputable def hexS (n : Nat) : Str := ⟨((hexL n).map (65 + ·)).toArray⟩
theorem apB_toNat (n : Nat) : (apB n).toList.map UInt8.toNat = (hexL n).map (65 + ·) := by
  unfold apB
  rw [List.toList_toArray, List.map_map]
  refine List.map_congr_left fun d hd => ?_
  have := hexL_lt n d hd
  show (UInt8.ofNat (65 + d)).toNat = _
  simp; omega
section
variable {prog : Program} {w : World} {A : Around} {E : Value → Shared → Prop} {s : Shared} {t : Tok} {Q : Value → Shared → Prop}
theorem decode_ns {b : Array UInt8} {ns : List Nat} (hb : b.toList.map UInt8.toNat = ns) (ha : ∀ n ∈ ns, n < 128) (hz : ns.length ≤ 1000) (hne : ns ≠ []) (h : ∀ t' k, Q (.str ⟨ns.toArray⟩ t') { s with toks := k }) :
    wpAny (model prog w) A (call (.builtin "bytes.decode") [.bytes b t]) Q E s := by
  have hl : b.size = ns.length := by rw [← hb]; simp
  obtain ⟨l⟩ := b
  cases l with
  | nil => exact absurd hb.symm hne
  | cons c cs =>
    refine KBd.decode (x := ⟨ns.toArray⟩) (n := (c :: cs).toArray.size) (fun id => ?_) (by show ns.toArray.size ≤ _; simp; omega) h
    rw [run_ascii (fun x hx => ha _ (by rw [← hb]; exact List.mem_map_of_mem hx)) (Nat.le_trans (Nat.le_of_eq hl) hz), hb]
theorem decode_hex {n : Nat} (hn : n ≠ 0) (hz : n < 16 ^ 16) (h : ∀ t' k, Q (.str (hexS n) t') { s with toks := k }) :
    wpAny (model prog w) A (call (.builtin "bytes.decode") [.bytes (apB n) t]) Q E s := by
  refine decode_ns (apB_toNat n) (fun x hx => ?_) ?_ ?_ h
  · obtain ⟨d, hd, rfl⟩ := List.mem_map.mp hx
    have := hexL_lt n d hd; omega
  · have := hexL_size 16 n hz; simp; omega
  · rw [hexL_pos hn]; simp
variable {value slice : PySem.Expr} {h₀ : Heap} {L : Addr} {m : PySem.Str → Option Value} {news : List (Addr × Obj)}
end
end
section
open PySem PySem.W PySem.Calls PyProof.Rows Mine
set_option maxRecDepth 100000
/-- a word of figures -/
noncomputable def wordD (figs : List Nat) : Str := ⟨(figs.map (65 + ·)).toArray⟩
/-- who stands in the row, the figures of each, who went -/
structure St where
  row : List Nat
  fig : Nat → List Nat
  gone : List Nat
noncomputable def St.wd (s : St) (x : Nat) : Str := wordD (s.fig x)
noncomputable def St.at (s : St) (j : Nat) : Nat := s.row.getD j 0
noncomputable def firstOf (s : St) (v : Str) : Nat := (bisRun false (fun j => strLt (s.wd (s.at j)) v) (fun (_ : Unit) _ => ()) s.row.length 0 s.row.length ()).1
noncomputable def placeOf (s : St) (v : Str) : Nat := (bisRun true (fun j => strLt v (s.wd (s.at j))) (fun (_ : Unit) _ => ()) s.row.length 0 s.row.length ()).1
noncomputable def lastW (s : St) : Str := s.wd (s.at (s.row.length - 1))
noncomputable def told (g : Nat → Nat → Bool) (x : Nat) : List Nat := ((List.range 6).map (5 - ·)).filter (g x)
/-- one who is told of is put in anew -/
noncomputable def markS (f : Nat) (s : St) (o : Nat) : St := ⟨s.row.erase o, fun y => if y = o then s.fig o ++ [f] else s.fig y, s.gone⟩
noncomputable def put1 (f : Nat) (s : St) (o : Nat) : St :=
  if o ∈ s.row then ⟨(markS f s o).row.insertIdx (placeOf (markS f s o) ((markS f s o).wd o)) o, (markS f s o).fig, s.gone⟩
  else s
noncomputable def pickOf (way i : Nat) (s : St) : Nat := firstOf s (lastW s) + way / 6 ^ i % (s.row.length - firstOf s (lastW s))
noncomputable def popS (way i : Nat) (s : St) : St := ⟨s.row.eraseIdx (pickOf way i s), s.fig, s.gone ++ [s.at (pickOf way i s)]⟩
noncomputable def figT (mark turn : Nat) : Nat := 3 * turn - 3 - mark / 3 ^ (turn - 1) % 3
noncomputable def turnS (g : Nat → Nat → Bool) (way mark i : Nat) (s : St) : St := (told g (s.at (pickOf way i s))).foldl (put1 (figT mark (6 - i))) (popS way i s)
noncomputable def runS (g : Nat → Nat → Bool) (way mark : Nat) : Nat → St
  | 0 => ⟨[5, 4, 3, 2, 1, 0], fun _ => [], []⟩
  | i + 1 => turnS g way mark i (runS g way mark i)
noncomputable def Sorted (s : St) : Prop := s.row.Pairwise fun a b => strLt (s.wd b) (s.wd a) = false
/-- what holds between the turns and within one -/
structure Ok (n : Nat) (s : St) : Prop where
  len : s.row.length = n
  nodup : s.row.Nodup
  lt : ∀ x ∈ s.row, x < 6
  sorted : Sorted s
  figs : ∀ x, ∀ f ∈ s.fig x, 1 ≤ f ∧ f ≤ 15
theorem bis_spec {test : Nat → Bool} {n : Nat} (hmono : ∀ i j, i ≤ j → j < n → test i = true → test j = true) : ∀ (f lo hi : Nat), hi - lo ≤ f → lo ≤ hi → hi ≤ n → (∀ i, i < lo → test i = false) → (∀ i, hi ≤ i → i < n → test i = true) →
    (bisRun true test (fun (_ : Unit) _ => ()) f lo hi ()).1 ≤ n ∧ (∀ i, i < (bisRun true test (fun (_ : Unit) _ => ()) f lo hi ()).1 → test i = false) ∧ ∀ i, (bisRun true test (fun (_ : Unit) _ => ()) f lo hi ()).1 ≤ i → i < n → test i = true
  | 0, lo, hi, h1, h2, h3, h4, h5 => by
    have : lo = hi := Nat.le_antisymm h2 (Nat.le_of_sub_eq_zero (Nat.le_zero.mp h1))
    subst this
    exact ⟨h3, h4, h5⟩
  | f + 1, lo, hi, h1, h2, h3, h4, h5 => by
    by_cases h : lo < hi
    · unfold bisRun
      rw [if_pos h]
      have hb := mid_b h
      cases ht : test ((lo + hi) / 2) with
      | true =>
        simp only [beq_self_eq_true, if_true]
        exact bis_spec hmono f lo _ (Nat.le_of_lt_succ (Nat.lt_of_lt_of_le (Nat.sub_lt_sub_right hb.1 hb.2) h1)) hb.1 (Nat.le_trans (Nat.le_of_lt hb.2) h3) h4 fun i hi1 hi2 => hmono _ _ hi1 hi2 ht
      | false =>
        simp only [show (false == true) = false from rfl, Bool.false_eq_true, if_false]
        refine bis_spec hmono f _ hi (Nat.le_of_lt_succ (Nat.lt_of_lt_of_le (Nat.sub_lt_sub_left h (Nat.lt_succ_of_le hb.1)) h1)) hb.2 h3 (fun i hi1 => ?_) h5
        cases hti : test i with
        | false => rfl
        | true => rw [hmono i ((lo + hi) / 2) (Nat.le_of_lt_succ hi1) (Nat.lt_of_lt_of_le hb.2 h3) hti] at ht; cases ht
    · have : lo = hi := Nat.le_antisymm h2 (Nat.not_lt.mp h)
      subst this
      unfold bisRun
      rw [if_neg h]
      exact ⟨h3, h4, h5⟩
theorem bis_not {test : Nat → Bool} : ∀ (f lo hi : Nat), bisRun false test (fun (_ : Unit) _ => ()) f lo hi () = bisRun true (fun i => !test i) (fun (_ : Unit) _ => ()) f lo hi ()
  | 0, _, _ => rfl
  | f + 1, lo, hi => by
    unfold bisRun
    rw [bis_not f, bis_not f]
    cases test ((lo + hi) / 2) <;> rfl
theorem at_get {s : St} {j : Nat} (h : j < s.row.length) : s.at j = s.row[j] := by unfold St.at; simp [List.getD, h]
theorem sorted_at {s : St} (hs : Sorted s) {i j : Nat} (hij : i ≤ j) (hj : j < s.row.length) : strLt (s.wd (s.at j)) (s.wd (s.at i)) = false := by
  rcases Nat.lt_or_ge i j with h | h
  · rw [at_get hj, at_get (Nat.lt_trans h hj)]
    exact (List.pairwise_iff_getElem.mp hs) i j _ hj h
  · obtain rfl : i = j := Nat.le_antisymm hij h
    exact strLt_irr _
theorem firstOf_spec {s : St} (hs : Sorted s) (v : Str) : firstOf s v ≤ s.row.length ∧ (∀ i, i < firstOf s v → strLt (s.wd (s.at i)) v = true) ∧ ∀ i, firstOf s v ≤ i → i < s.row.length → strLt (s.wd (s.at i)) v = false := by
  unfold firstOf
  rw [bis_not]
  obtain ⟨h1, h2, h3⟩ := bis_spec (test := fun i => !strLt (s.wd (s.at i)) v) (n := s.row.length) (fun i j hij hj ht => by
    rw [Bool.not_eq_true'] at ht ⊢
    have := sorted_at hs hij hj
    cases h : strLt (s.wd (s.at j)) v with
    | false => rfl
    | true =>
      by_cases e : s.wd (s.at j) = s.wd (s.at i)
      · rw [e, ht] at h; cases h
      · have := strLt_tr (strLt_tot e this) h
        rw [ht] at this; cases this) s.row.length 0 s.row.length (Nat.le_refl _) (Nat.zero_le _) (Nat.le_refl _) (fun i hi => absurd hi (Nat.not_lt_zero _)) (fun i h1 h2 => absurd h2 (Nat.not_lt.mpr h1))
  exact ⟨h1, fun i hi => by simpa using h2 i hi, fun i hi hn => by simpa using h3 i hi hn⟩
theorem placeOf_spec {s : St} (hs : Sorted s) (v : Str) : placeOf s v ≤ s.row.length ∧ (∀ i, i < placeOf s v → strLt v (s.wd (s.at i)) = false) ∧ ∀ i, placeOf s v ≤ i → i < s.row.length → strLt v (s.wd (s.at i)) = true := by
  unfold placeOf
  exact bis_spec (test := fun i => strLt v (s.wd (s.at i))) (n := s.row.length) (fun i j hij hj ht => by
    have := sorted_at hs hij hj
    by_cases e : s.wd (s.at j) = s.wd (s.at i)
    · rw [e]; exact ht
    · exact strLt_tr ht (strLt_tot e this)) s.row.length 0 s.row.length (Nat.le_refl _) (Nat.zero_le _) (Nat.le_refl _) (fun i hi => absurd hi (Nat.not_lt_zero _)) (fun i h1 h2 => absurd h2 (Nat.not_lt.mpr h1))
theorem drop_get {α : Type} {l : List α} {p : Nat} {x : α} (h : x ∈ l.drop p) : ∃ i, p ≤ i ∧ ∃ hi : i < l.length, l[i] = x := by
  obtain ⟨i, hi, e⟩ := List.getElem_of_mem h
  rw [List.getElem_drop] at e
  exact ⟨p + i, Nat.le_add_right _ _, by rw [List.length_drop] at hi; rw [Nat.add_comm]; exact Nat.add_lt_of_lt_sub hi, e⟩
theorem Ok.first {n : Nat} {s : St} (h : Ok n s) : firstOf s (s.wd (s.at 0)) = 0 := by
  rcases Nat.eq_zero_or_pos (firstOf s (s.wd (s.at 0))) with e | e
  · exact e
  · have := (firstOf_spec h.sorted (s.wd (s.at 0))).2.1 0 e
    rw [strLt_irr] at this; cases this
theorem last_eq {n : Nat} {s : St} (h : Ok n s) {i : Nat} (h1 : firstOf s (lastW s) ≤ i) (h2 : i < n) : s.wd (s.at i) = lastW s := by
  have hf := (firstOf_spec h.sorted (lastW s)).2.2 i h1 (by rw [h.len]; exact h2)
  have hl := sorted_at h.sorted (i := i) (j := s.row.length - 1) (by rw [h.len]; exact Nat.le_sub_one_of_lt h2) (by rw [h.len]; exact Nat.sub_lt (Nat.zero_lt_of_lt h2) Nat.one_pos)
  by_cases e : s.wd (s.at i) = lastW s
  · exact e
  · have := strLt_tot e hf
    unfold lastW at this
    rw [hl] at this; cases this
theorem first_lt {n : Nat} {s : St} (h : Ok n s) (hn : 0 < n) : firstOf s (lastW s) < n := by
  rcases Nat.lt_or_ge (firstOf s (lastW s)) n with e | e
  · exact e
  · have := (firstOf_spec h.sorted (lastW s)).2.1 (s.row.length - 1) (by rw [h.len]; exact Nat.lt_of_lt_of_le (Nat.sub_lt hn Nat.one_pos) e)
    unfold lastW at this
    rw [strLt_irr] at this; cases this
theorem Ok.last {n : Nat} {s : St} (h : Ok n s) (hn : 0 < n) : firstOf s (lastW s) < n ∧ s.row.drop (firstOf s (lastW s)) = s.row.filter fun x => s.wd x == lastW s := by
  refine ⟨first_lt h hn, ?_⟩
  have e : s.row.filter (fun x => s.wd x == lastW s) = (s.row.take (firstOf s (lastW s)) ++ s.row.drop (firstOf s (lastW s))).filter (fun x => s.wd x == lastW s) := by rw [List.take_append_drop]
  rw [e, List.filter_append, List.filter_eq_nil_iff.mpr, List.nil_append, List.filter_eq_self.mpr]
  · intro x hx
    obtain ⟨i, hpi, hi, e⟩ := drop_get hx
    have h1 := last_eq h hpi (by rw [← h.len]; exact hi)
    rw [at_get hi, e] at h1
    rw [h1]; exact beq_self_eq_true _
  · intro x hx
    obtain ⟨i, hi, e⟩ := List.mem_take_iff_getElem.mp hx
    have h1 := (firstOf_spec h.sorted (lastW s)).2.1 i (Nat.lt_of_lt_of_le hi (Nat.min_le_left _ _))
    rw [at_get (Nat.lt_of_lt_of_le hi (Nat.min_le_right _ _)), e] at h1
    intro h2
    rw [eq_of_beq h2, strLt_irr] at h1; cases h1
theorem Ok.pick {n way i : Nat} {s : St} (h : Ok n s) (hn : 0 < n) : pickOf way i s < n ∧ s.wd (s.at (pickOf way i s)) = lastW s := by
  have h1 := first_lt h hn
  have h2 : pickOf way i s < n := by
    unfold pickOf
    rw [h.len]
    exact Nat.lt_of_lt_of_le (Nat.add_lt_add_left (Nat.mod_lt (way / 6 ^ i) (Nat.sub_pos_of_lt h1)) _) (Nat.le_of_eq (Nat.add_sub_cancel' (Nat.le_of_lt h1)))
  exact ⟨h2, last_eq h (Nat.le_add_right _ _) h2⟩
theorem Ok.pop {n way i : Nat} {s : St} (h : Ok (n + 1) s) : Ok n (popS way i s) := by
  have hp := (h.pick (way := way) (i := i) (Nat.succ_pos n)).1
  have hsub : (s.row.eraseIdx (pickOf way i s)).Sublist s.row := List.eraseIdx_sublist _ _
  refine ⟨?_, h.nodup.sublist hsub, fun x hx => h.lt x (hsub.subset hx), List.Pairwise.sublist hsub h.sorted, h.figs⟩
  show (s.row.eraseIdx _).length = n
  rw [List.length_eraseIdx, if_pos (by rw [h.len]; exact hp), h.len]
  rfl
theorem ins_cut {α : Type} {a : α} : ∀ (l : List α) (n : Nat), n ≤ l.length → l.insertIdx n a = l.take n ++ a :: l.drop n
  | l, 0, _ => by simp
  | [], n + 1, h => by simp at h
  | x :: l, n + 1, h => by
    rw [List.insertIdx_succ_cons, ins_cut l n (by simpa using h)]
    simp
theorem Ok.put {n f o : Nat} {s : St} (h : Ok n s) (hf : 1 ≤ f ∧ f ≤ 15) : Ok n (put1 f s o) := by
  unfold put1
  split
  · rename_i ho
    obtain ⟨s1, hs1⟩ : ∃ s1 : St, s1 = markS f s o := ⟨_, rfl⟩
    rw [← hs1]
    have hr : s1.row = s.row.erase o := by rw [hs1]; rfl
    have hno : o ∉ s1.row := by rw [hr]; exact List.Nodup.not_mem_erase h.nodup
    have hsub : s1.row.Sublist s.row := by rw [hr]; exact List.erase_sublist
    have hw : ∀ x ∈ s1.row, s1.wd x = s.wd x := fun x hx => by
      have : x ≠ o := fun e => hno (e ▸ hx)
      rw [hs1]; show wordD (if x = o then _ else _) = _
      rw [if_neg this]; rfl
    have hso : Sorted s1 := by
      have : s1.row.Pairwise fun a b => strLt (s.wd b) (s.wd a) = false := List.Pairwise.sublist hsub h.sorted
      refine List.Pairwise.imp_of_mem (fun ha hb hr => ?_) this
      rw [hw _ ha, hw _ hb]; exact hr
    have hln : s1.row.length + 1 = n := by rw [hr, List.length_erase_of_mem ho, ← h.len]; exact Nat.succ_pred_eq_of_pos (List.length_pos_of_mem ho)
    obtain ⟨p1, p2, p3⟩ := placeOf_spec hso (s1.wd o)
    refine ⟨?_, ?_, ?_, ?_, ?_⟩
    · show (s1.row.insertIdx _ o).length = n
      rw [List.length_insertIdx_of_le_length p1]; exact hln
    · show (s1.row.insertIdx _ o).Nodup
      rw [ins_cut _ _ p1]
      have : (o :: s1.row).Nodup := List.nodup_cons.mpr ⟨hno, h.nodup.sublist hsub⟩
      rw [← List.take_append_drop (placeOf s1 (s1.wd o)) s1.row] at this
      exact (List.perm_middle.nodup_iff).mpr this
    · intro x hx
      rcases (List.mem_insertIdx p1).mp hx with rfl | hx
      · exact h.lt _ ho
      · exact h.lt _ (hsub.subset hx)
    · show (s1.row.insertIdx _ o).Pairwise fun a b => strLt (s1.wd b) (s1.wd a) = false
      rw [ins_cut _ _ p1, List.pairwise_append]
      refine ⟨List.Pairwise.sublist (List.take_sublist _ _) hso, List.pairwise_cons.mpr ⟨fun b hb => ?_, List.Pairwise.sublist (List.drop_sublist _ _) hso⟩, fun a ha b hb => ?_⟩
      · obtain ⟨i, hpi, hi, e⟩ := drop_get hb
        have := p3 _ hpi hi
        rw [at_get hi, e] at this
        cases h2 : strLt (s1.wd b) (s1.wd o) with
        | false => rfl
        | true => have := strLt_tr h2 this; rw [strLt_irr] at this; cases this
      · obtain ⟨i, hi, e⟩ := List.mem_take_iff_getElem.mp ha
        have h1 := p2 i (Nat.lt_of_lt_of_le hi (Nat.min_le_left _ _))
        rw [at_get (Nat.lt_of_lt_of_le hi (Nat.min_le_right _ _)), e] at h1
        rcases List.mem_cons.mp hb with rfl | hb
        · exact h1
        · obtain ⟨j, hpj, hj, e'⟩ := drop_get hb
          have h2 := sorted_at hso (i := i) (j := j) (Nat.le_of_lt (Nat.lt_of_lt_of_le (Nat.lt_of_lt_of_le hi (Nat.min_le_left _ _)) hpj)) hj
          rw [at_get (Nat.lt_of_lt_of_le hi (Nat.min_le_right _ _)), e, at_get hj, e'] at h2
          exact h2
    · intro x f' hf'
      rw [hs1] at hf'
      dsimp only [markS] at hf'
      split at hf'
      · rcases List.mem_append.mp hf' with h1 | h1
        · exact h.figs _ _ h1
        · rw [List.mem_singleton.mp h1]; exact hf
      · exact h.figs _ _ hf'
  · exact h
end

section
open PySem PySem.W PySem.Calls PyProof.Rows Mine
set_option maxRecDepth 100000
set_option maxHeartbeats 8000000
theorem reset10 : True := by
  w_top off
  k_with_none
  k_with "=k_all" => first | assumption | exact allLt_ne (by assumption) (by omega) | exact allLt_ne (And.right (by assumption)) (by omega) | exact allLt_ne (And.right (And.right (by assumption))) (by omega) | exact allLt_ne (And.right (And.right (And.right (by assumption)))) (by omega)
  k_with "=size_fits" => ((try simp only [List.size_toArray, sizeLine_eq]); omega)
  k_with "=ktr_room" => first | exact room1 (by assumption) (by decide) | exact room0 (by assumption) | exact room4 (by assumption) | exact room8 (by assumption) | exact room48 (by assumption) | fail "room"
  k_with "=ktr_units" => first | exact units1 (by assumption) (by decide) | exact units1 (k := 8) (by assumption) (by decide) | exact units4 (by assumption) | exact units8 (by assumption) | exact units48 (by assumption) | fail "units"
  k_with "=k_in" => first | k_in_fast | assumption | exact Frag.In.keeps (by k_asm) (Fr.keep (by k_asm))
  k_with "=call builtin:str.lower" => (k_here; refine lower_K (by first | assumption | exact Clean.low (by assumption)) ?_; intro _ _)
  k_with "=c1" => ((case k1 => k_asm); (case k2 => k_asm); (case k3 => k_asm); (case k4 => k_asm); (case k5 => k_asm); (case k6 => ktr_room); (case k7 => ktr_units))
  k_with "=subscriptTail Name Slice ref ref" => (k_here; (with_reducible show wpAny _ _ (subscriptTail _ (PySem.Expr.Slice _ _ none _) (Value.ref _) (Value.ref _)) _ _ _); k_dflt (refine' kms_slice_lit (by k_asm) (by k_asm) (by kmk_list) (by kmk_part) (by kmk_part) (by exact rfl) ?_ (by with_unfolding_all rfl) (by kmk_pure) (by kmk_size)); intro kxD kxH kxF kxN kxl; (try k_lt kxl); (try simp only [List.toList_toArray, pick_all, pick_init, pick_lit] at kxN))
  k_with "=call builtin:len" => (k_here; (refine' len_at (by k_asm) (by k_mem) (by omega) ?_); intro _ _)
  k_with "=callWith ref" => (k_here; k_dflt (refine' callWith_F (by exact FnAt.of (by k_asm) (by k_mem)) ?_; k_whole))
  k_with "=callWith ref" => (k_here; (with_reducible show wpAny _ _ (callWith _ (Value.ref (OfNat.ofNat _)) _ (backTo _ (starEach (_ :: _) _)) (backToKw _ _)) _ _ _); k_dflt (refine' callWith_KW (by k_asm) (by k_is) (by exact rfl) ?_; k_whole))
  k_with "=callWith ref" => (k_here; (with_reducible show wpAny _ _ (callWith _ (Value.ref (OfNat.ofNat _)) _ (backTo _ (starEach (_ :: _) _)) []) _ _ _); k_dflt (refine' callWith_K (by k_asm) (by k_is) ?_; k_whole))
  k_with "=call ref" => (k_here; (with_reducible show wpAny _ _ (call (Value.ref 117) _ _) _ _ _); k_dflt (refine' C1.use (conv _ _ _ _ _ (by first | assumption | exact Clean.low (by assumption)) _) (by k_asm) (by k_asm) (by k_asm) (by k_asm) (by k_asm) (by ktr_room) (by ktr_units) ?_; intro kxr kxnews kxH kxT kxF kxN kxP; obtain ⟨kxe1, kxe2⟩ := kxP; subst kxe1; subst kxe2; (try dsimp only)))
  k_with "=subscriptTail Name Name ref int" => (k_here; (with_reducible rename News _ _ _ _ => kN); refine at6 kN (by k_mem) (by first | assumption | exact IsOrd.lt (by assumption) _ (by assumption) | omega | exact IsOrd.lt (by assumption) _ (by omega)) ?_)
  k_with "=subscriptTail Name Subscript ref int" => (k_here; (with_reducible rename News _ _ _ _ => kN); refine at6 kN (by k_mem) (by first | assumption | exact IsOrd.lt (by assumption) _ (by assumption) | omega | exact IsOrd.lt (by assumption) _ (by omega)) ?_)
  k_with "=subscriptTail Subscript Name Subscript Subscript ref int" => (k_here; k_dflt (refine kba_turn (value' := PySem.Expr.Name (PySem.Str.ofString "_") ⟨0, 0, 0, 0⟩) (fun _ => rfl) ?_); (with_reducible rename News _ _ _ _ => kN); (with_reducible rename SeesIn _ _ _ _ _ _ => kS); refine at6 kN (by repeat (first | exact SeesIn.row kS _ (by first | assumption | exact IsOrd.lt (by assumption) _ (by assumption) | omega | exact IsOrd.lt (by assumption) _ (by omega)) | refine List.Mem.tail _ ?_)) (by first | assumption | exact IsOrd.lt (by assumption) _ (by assumption) | omega | exact IsOrd.lt (by assumption) _ (by omega)) ?_)
  k_with "=subscriptTail Subscript Name Name Name ref int" => (k_here; k_dflt (refine kba_turn (value' := PySem.Expr.Name (PySem.Str.ofString "_") ⟨0, 0, 0, 0⟩) (fun _ => rfl) ?_); (with_reducible rename News _ _ _ _ => kN); (with_reducible rename SeesIn _ _ _ _ _ _ => kS); refine at6 kN (by repeat (first | exact SeesIn.row kS _ (by first | assumption | exact IsOrd.lt (by assumption) _ (by assumption) | omega | exact IsOrd.lt (by assumption) _ (by omega)) | refine List.Mem.tail _ ?_)) (by first | assumption | exact IsOrd.lt (by assumption) _ (by assumption) | omega | exact IsOrd.lt (by assumption) _ (by omega)) ?_)
  k_with "=call builtin:str.join" => refine Hold.out ?_
  trivial
theorem hadd (w : World) (x l : Addr) (vs : List Value) (n : Nat) (kvs : List (Str × Str)) (nm val : Str) (t u : Tok) (hn : Clean nm) (hv : Clean val) (hv14 : val.length ≤ 14) (hk : CleanT kvs) (rest : List (Addr × Obj)) (hT : TabL 216 w rest x l vs kvs) :
    C1 w (.ref 213) [.ref x, .str nm t, .str val u] [] 14 ((l, listOf vs.toArray n) :: rest) (fun news' r => ∃ vs' n' rest', news' = (l, listOf vs'.toArray n') :: rest' ∧ Grow l rest rest' ∧ TabL 216 w rest' x l vs' (kvs ++ [(nm, val)]) ∧ r = .none) := by
  unfold C1
  k_fill
  intro p loose mean mg mb dp un gd cn nm' ig ic mr a ccd cl outer A₀ base h₀ L m s Q E B F X N T hd hu ret
  obtain ⟨dx, tk, dn, hx, hdx⟩ := hT.inst
  have hoff := hT.off
  have hz : vs.length ≤ 100 := by rw [hT.pairs.length]; exact hk.1
  refine wpAny_call ?_
  k_dflt k_enter
  k_steps
  unfold Hold
  (rename News _ _ _ _ => N9)
  replace N9 : News _ _ _ ((_, _) :: (l, _) :: rest) := news_drop N9 (List.forall_mem_cons.mpr ⟨.tail _ (.head _), List.forall_mem_cons.mpr ⟨.tail _ (.tail _ (.tail _ (.head _))), fun p hp => .tail _ (.tail _ (.tail _ (.tail _ hp)))⟩⟩)
  (rename PyProof.V.FlatPairs _ _ _ => hz1); clear hz1
  (rename Obj.IsDictOf _ _ _ => hz1); clear hz1
  refine KT.join_B 14 (l := [()]) (g := fun _ => val) (News.isList N9 (.head _)) (.cons (.str _ _) .nil) (fun _ _ => hv14) (by decide) (by decide) ?_
  intro tj kj
  rw [show Txt.join (Str.ofString "; ") ([()].map fun _ => val) = val from rfl]
  k_steps
  (rename News _ _ _ _ => N9); (rename _ ∧ _ ∧ AllLt _ _ => hl1)
  obtain ⟨hl0, hl1, hl2⟩ := hl1
  exact ret _ _ _ _ (by k_asm) (news_drop N9 (news := (l, _) :: (_, _) :: _) (List.forall_mem_cons.mpr ⟨.tail _ (.tail _ (.head _)), List.forall_mem_cons.mpr ⟨.head _, fun p hp => .tail _ (.tail _ (.tail _ hp))⟩⟩)) ⟨_ ++ [_], _, _, by rw [List.push_toArray], Grow.one hl1 (allLt_mem hl2), hT.snoc hl1, rfl⟩
end
section
open PySem PySem.W PySem.Calls PyProof.Rows Mine
set_option maxRecDepth 100000
set_option maxHeartbeats 8000000
theorem reset11 : True := by
  w_top off
  k_with_none
  k_with "=k_all" => first | assumption | exact allLt_ne (by assumption) (by omega) | exact allLt_ne (And.right (by assumption)) (by omega) | exact allLt_ne (And.right (And.right (by assumption))) (by omega) | exact allLt_ne (And.right (And.right (And.right (by assumption)))) (by omega)
  k_with "=size_fits" => ((try simp only [List.size_toArray, sizeLine_eq]); omega)
  k_with "=ktr_room" => first | exact room1 (by assumption) (by decide) | exact room0 (by assumption) | exact room4 (by assumption) | exact room8 (by assumption) | exact room48 (by assumption) | fail "room"
  k_with "=ktr_units" => first | exact units1 (by assumption) (by decide) | exact units1 (k := 8) (by assumption) (by decide) | exact units4 (by assumption) | exact units8 (by assumption) | exact units48 (by assumption) | fail "units"
  k_with "=k_in" => first | k_in_fast | assumption | exact Frag.In.keeps (by k_asm) (Fr.keep (by k_asm))
  k_with "=call builtin:str.lower" => (k_here; refine lower_K (by first | assumption | exact Clean.low (by assumption)) ?_; intro _ _)
  k_with "=c1" => ((case k1 => k_asm); (case k2 => k_asm); (case k3 => k_asm); (case k4 => k_asm); (case k5 => k_asm); (case k6 => ktr_room); (case k7 => ktr_units))
  k_with "=subscriptTail Name Slice ref ref" => (k_here; (with_reducible show wpAny _ _ (subscriptTail _ (PySem.Expr.Slice _ _ none _) (Value.ref _) (Value.ref _)) _ _ _); k_dflt (refine' kms_slice_lit (by k_asm) (by k_asm) (by kmk_list) (by kmk_part) (by kmk_part) (by exact rfl) ?_ (by with_unfolding_all rfl) (by kmk_pure) (by kmk_size)); intro kxD kxH kxF kxN kxl; (try k_lt kxl); (try simp only [List.toList_toArray, pick_all, pick_init, pick_lit] at kxN))
  k_with "=call builtin:len" => (k_here; (refine' len_at (by k_asm) (by k_mem) (by omega) ?_); intro _ _)
  k_with "=callWith ref" => (k_here; k_dflt (refine' callWith_F (by exact FnAt.of (by k_asm) (by k_mem)) ?_; k_whole))
  k_with "=callWith ref" => (k_here; (with_reducible show wpAny _ _ (callWith _ (Value.ref (OfNat.ofNat _)) _ (backTo _ (starEach (_ :: _) _)) (backToKw _ _)) _ _ _); k_dflt (refine' callWith_KW (by k_asm) (by k_is) (by exact rfl) ?_; k_whole))
  k_with "=callWith ref" => (k_here; (with_reducible show wpAny _ _ (callWith _ (Value.ref (OfNat.ofNat _)) _ (backTo _ (starEach (_ :: _) _)) []) _ _ _); k_dflt (refine' callWith_K (by k_asm) (by k_is) ?_; k_whole))
  k_with "=call ref" => (k_here; (with_reducible show wpAny _ _ (call (Value.ref 117) _ _) _ _ _); k_dflt (refine' C1.use (conv _ _ _ _ _ (by first | assumption | exact Clean.low (by assumption)) _) (by k_asm) (by k_asm) (by k_asm) (by k_asm) (by k_asm) (by ktr_room) (by ktr_units) ?_; intro kxr kxnews kxH kxT kxF kxN kxP; obtain ⟨kxe1, kxe2⟩ := kxP; subst kxe1; subst kxe2; (try dsimp only)))
  k_with "=subscriptTail Name Name ref int" => (k_here; (with_reducible rename News _ _ _ _ => kN); refine at6 kN (by k_mem) (by first | assumption | exact IsOrd.lt (by assumption) _ (by assumption) | omega | exact IsOrd.lt (by assumption) _ (by omega)) ?_)
  k_with "=subscriptTail Name Subscript ref int" => (k_here; (with_reducible rename News _ _ _ _ => kN); refine at6 kN (by k_mem) (by first | assumption | exact IsOrd.lt (by assumption) _ (by assumption) | omega | exact IsOrd.lt (by assumption) _ (by omega)) ?_)
  k_with "=subscriptTail Subscript Name Subscript Subscript ref int" => (k_here; k_dflt (refine kba_turn (value' := PySem.Expr.Name (PySem.Str.ofString "_") ⟨0, 0, 0, 0⟩) (fun _ => rfl) ?_); (with_reducible rename News _ _ _ _ => kN); (with_reducible rename SeesIn _ _ _ _ _ _ => kS); refine at6 kN (by repeat (first | exact SeesIn.row kS _ (by first | assumption | exact IsOrd.lt (by assumption) _ (by assumption) | omega | exact IsOrd.lt (by assumption) _ (by omega)) | refine List.Mem.tail _ ?_)) (by first | assumption | exact IsOrd.lt (by assumption) _ (by assumption) | omega | exact IsOrd.lt (by assumption) _ (by omega)) ?_)
  k_with "=subscriptTail Subscript Name Name Name ref int" => (k_here; k_dflt (refine kba_turn (value' := PySem.Expr.Name (PySem.Str.ofString "_") ⟨0, 0, 0, 0⟩) (fun _ => rfl) ?_); (with_reducible rename News _ _ _ _ => kN); (with_reducible rename SeesIn _ _ _ _ _ _ => kS); refine at6 kN (by repeat (first | exact SeesIn.row kS _ (by first | assumption | exact IsOrd.lt (by assumption) _ (by assumption) | omega | exact IsOrd.lt (by assumption) _ (by omega)) | refine List.Mem.tail _ ?_)) (by first | assumption | exact IsOrd.lt (by assumption) _ (by assumption) | omega | exact IsOrd.lt (by assumption) _ (by omega)) ?_)
  k_with "=eval ListComp" => (k_here; k_dflt (refine LCt.ListComp_T (F₀ := by k_asm) (by with_unfolding_all rfl) (by decide) (by rfl) (by decide) (by rfl) ?_))
  k_with "=CompSrcT" => refine Hold.out ?_
  trivial
noncomputable def allT (kvs : List (Str × Str)) (nm : Str) : List Str := (kvs.filter fun kv => lowS kv.1 == nm).map (·.2)
theorem strsSnoc {vs : List Value} {ws : List Str} {a : Str} {t : Tok} (h : StrsAre vs ws) : StrsAre (vs ++ [.str a t]) (ws ++ [a]) := h.append' (.cons a t .nil)
theorem hall (w : World) (x l : Addr) (vs : List Value) (n : Nat) (kvs : List (Str × Str)) (nm : Str) (t : Tok) (hn : Clean nm) (hk : CleanT kvs) (rest : List (Addr × Obj)) (hT : TabL 216 w rest x l vs kvs) :
    C1 w (.ref 155) [.ref x, .str nm t] [] 8 ((l, listOf vs.toArray n) :: rest) (fun news' r => ∃ q ws k, news' = (q, listOf ws.toArray k) :: (l, listOf vs.toArray n) :: rest ∧ StrsAre ws (allT kvs (lowS nm)) ∧ (∀ p ∈ (l, listOf vs.toArray n) :: rest, p.1 ≠ q) ∧ r = .ref q) := by
  unfold C1
  k_fill
  intro p loose mean mg mb dp un gd cn nm' ig ic mr a ccd cl outer A₀ base h₀ L m s Q E B F X N T hd hu ret
  obtain ⟨dx, tk, dn, hx, hdx⟩ := hT.inst
  have hoff := hT.off
  have hp := hT.pairs
  have hz : vs.length ≤ 100 := by rw [hT.pairs.length]; exact hk.1
  refine wpAny_call ?_
  k_dflt k_enter
  k_steps
  unfold Hold
  (rename Fr _ _ _ _ => F₁); (rename News _ _ _ _ => N₁)
  obtain ⟨X₁, hX⟩ := newsName N₁
  refine LCt.CompSrcT.ledger (by rfl) F₁ N₁ (by k_mem) (by size_fits) ?_
  intro g'
  refine compT_inv (n := vs.toArray.size) (fun i ys nx => nx = X₁ ∧ StrsAre ys (((kvs.take i).filter fun kv => lowS kv.1 == lowS nm).map (·.2))) ?_ ?_ _ _ _ _ (Nat.zero_add _) ⟨hX, by simpa using StrsAre.nil⟩
  · rintro i v ys nx I oI C oC D m₂ h tk E' hi hv ⟨rfl, hys⟩ hC hx F' N' off ne
    subst hX
    obtain ⟨q, k, v, t1, u1, rfl, hkv, hq⟩ := hp.at (by simpa using hv)
    have hc := hk.2 (k, v) (List.mem_of_getElem? hkv)
    obtain ⟨hc1, hc2⟩ := hc
    clear F₁ N₁
    k_steps
    · (rename (lowS k == lowS nm) = true => he)
      exact LCg.CompEnd.intro (by k_asm) (by k_asm) _ (fun _ hp => hp) off (.inr ⟨_, by k_mem, rfl, _, rfl⟩) ⟨rfl, by rw [filter_take_yes hkv he, List.map_append]; exact strsSnoc hys⟩
    · (rename (lowS k == lowS nm) = false => he)
      exact LCg.CompEnd.intro (by k_asm) (by k_asm) _ (fun _ hp => hp) off (.inr ⟨_, by k_mem, rfl, _, rfl⟩) ⟨rfl, by rw [filter_take_no hkv he]; exact hys⟩
  · rintro ys nx ⟨rfl, hys⟩
    subst hX
    clear F₁ N₁
    rw [show vs.toArray.size = kvs.length from by simp [hp.length], List.take_length] at hys
    k_steps
    (rename News _ _ _ _ => N9); (with_reducible rename _ ∧ _ ∧ LCg.Off1 _ _ => ho)
    obtain ⟨D9, hD9⟩ := newsHead N9
    subst hD9
    exact ret _ _ _ _ (by k_asm) (news_drop N9 (news := (D9, listOf ys.toArray ys.length) :: (l, listOf vs.toArray n) :: rest) (List.forall_mem_cons.mpr ⟨.head _, fun _ hp => .tail _ (.tail _ hp)⟩)) ⟨D9, ys, ys.length, rfl, hys, List.forall_mem_cons.mpr ⟨ho.2.1, off1_mem ho.2.2⟩, rfl⟩
end
section
open PySem PySem.W PySem.Calls PyProof.Rows Mine
set_option maxRecDepth 100000
set_option maxHeartbeats 8000000
theorem reset12 : True := by
  w_top off
  k_with_none
  k_with "=k_all" => first | assumption | exact allLt_ne (by assumption) (by omega) | exact allLt_ne (And.right (by assumption)) (by omega) | exact allLt_ne (And.right (And.right (by assumption))) (by omega) | exact allLt_ne (And.right (And.right (And.right (by assumption)))) (by omega)
  k_with "=size_fits" => ((try simp only [List.size_toArray, sizeLine_eq]); omega)
  k_with "=ktr_room" => first | exact room1 (by assumption) (by decide) | exact room0 (by assumption) | exact room4 (by assumption) | exact room8 (by assumption) | exact room48 (by assumption) | fail "room"
  k_with "=ktr_units" => first | exact units1 (by assumption) (by decide) | exact units1 (k := 8) (by assumption) (by decide) | exact units4 (by assumption) | exact units8 (by assumption) | exact units48 (by assumption) | fail "units"
  k_with "=k_in" => first | k_in_fast | assumption | exact Frag.In.keeps (by k_asm) (Fr.keep (by k_asm))
  k_with "=call builtin:str.lower" => (k_here; refine lower_K (by first | assumption | exact Clean.low (by assumption)) ?_; intro _ _)
  k_with "=c1" => ((case k1 => k_asm); (case k2 => k_asm); (case k3 => k_asm); (case k4 => k_asm); (case k5 => k_asm); (case k6 => ktr_room); (case k7 => ktr_units))
  k_with "=subscriptTail Name Slice ref ref" => (k_here; (with_reducible show wpAny _ _ (subscriptTail _ (PySem.Expr.Slice _ _ none _) (Value.ref _) (Value.ref _)) _ _ _); k_dflt (refine' kms_slice_lit (by k_asm) (by k_asm) (by kmk_list) (by kmk_part) (by kmk_part) (by exact rfl) ?_ (by with_unfolding_all rfl) (by kmk_pure) (by kmk_size)); intro kxD kxH kxF kxN kxl; (try k_lt kxl); (try simp only [List.toList_toArray, pick_all, pick_init, pick_lit] at kxN))
  k_with "=call builtin:len" => (k_here; (refine' len_at (by k_asm) (by k_mem) (by omega) ?_); intro _ _)
  k_with "=callWith ref" => (k_here; k_dflt (refine' callWith_F (by exact FnAt.of (by k_asm) (by k_mem)) ?_; k_whole))
  k_with "=callWith ref" => (k_here; (with_reducible show wpAny _ _ (callWith _ (Value.ref (OfNat.ofNat _)) _ (backTo _ (starEach (_ :: _) _)) (backToKw _ _)) _ _ _); k_dflt (refine' callWith_KW (by k_asm) (by k_is) (by exact rfl) ?_; k_whole))
  k_with "=callWith ref" => (k_here; (with_reducible show wpAny _ _ (callWith _ (Value.ref (OfNat.ofNat _)) _ (backTo _ (starEach (_ :: _) _)) []) _ _ _); k_dflt (refine' callWith_K (by k_asm) (by k_is) ?_; k_whole))
  k_with "=call ref" => (k_here; (with_reducible show wpAny _ _ (call (Value.ref 117) _ _) _ _ _); k_dflt (refine' C1.use (conv _ _ _ _ _ (by first | assumption | exact Clean.low (by assumption)) _) (by k_asm) (by k_asm) (by k_asm) (by k_asm) (by k_asm) (by ktr_room) (by ktr_units) ?_; intro kxr kxnews kxH kxT kxF kxN kxP; obtain ⟨kxe1, kxe2⟩ := kxP; subst kxe1; subst kxe2; (try dsimp only)))
  k_with "=subscriptTail Name Name ref int" => (k_here; (with_reducible rename News _ _ _ _ => kN); refine at6 kN (by k_mem) (by first | assumption | exact IsOrd.lt (by assumption) _ (by assumption) | omega | exact IsOrd.lt (by assumption) _ (by omega)) ?_)
  k_with "=subscriptTail Name Subscript ref int" => (k_here; (with_reducible rename News _ _ _ _ => kN); refine at6 kN (by k_mem) (by first | assumption | exact IsOrd.lt (by assumption) _ (by assumption) | omega | exact IsOrd.lt (by assumption) _ (by omega)) ?_)
  k_with "=subscriptTail Subscript Name Subscript Subscript ref int" => (k_here; k_dflt (refine kba_turn (value' := PySem.Expr.Name (PySem.Str.ofString "_") ⟨0, 0, 0, 0⟩) (fun _ => rfl) ?_); (with_reducible rename News _ _ _ _ => kN); (with_reducible rename SeesIn _ _ _ _ _ _ => kS); refine at6 kN (by repeat (first | exact SeesIn.row kS _ (by first | assumption | exact IsOrd.lt (by assumption) _ (by assumption) | omega | exact IsOrd.lt (by assumption) _ (by omega)) | refine List.Mem.tail _ ?_)) (by first | assumption | exact IsOrd.lt (by assumption) _ (by assumption) | omega | exact IsOrd.lt (by assumption) _ (by omega)) ?_)
  k_with "=subscriptTail Subscript Name Name Name ref int" => (k_here; k_dflt (refine kba_turn (value' := PySem.Expr.Name (PySem.Str.ofString "_") ⟨0, 0, 0, 0⟩) (fun _ => rfl) ?_); (with_reducible rename News _ _ _ _ => kN); (with_reducible rename SeesIn _ _ _ _ _ _ => kS); refine at6 kN (by repeat (first | exact SeesIn.row kS _ (by first | assumption | exact IsOrd.lt (by assumption) _ (by assumption) | omega | exact IsOrd.lt (by assumption) _ (by omega)) | refine List.Mem.tail _ ?_)) (by first | assumption | exact IsOrd.lt (by assumption) _ (by assumption) | omega | exact IsOrd.lt (by assumption) _ (by omega)) ?_)
  k_with "=getMethod ref" => (k_here; (with_reducible show wpAny _ _ (getMethod (Value.ref _) (PySem.Str.ofString "search") _) _ _ _); k_dflt (refine' re_method_K (by k_asm) (by k_asm) (by k_is) ?_))
  k_with "=call builtin:re.Pattern.search" => (k_here; k_dflt (refine' re_search_K (by k_asm) (by k_asm) (by k_is) (by k_is) (by first | exact .inl (by decide +kernel) | exact .inr (by decide +kernel)) (by assumption) ?_))
  k_with "=exec For Tuple Name cons nil" => (k_here; (with_reducible rename Fr _ _ _ _ => lF'); with_unfolding_all refine For_myF lF' ?_)
  k_with "=pyIter ref" => refine Hold.out ?_
  trivial
theorem hinit (w : World) (l : Addr) (vs : List Value) (n : Nat) (kvs : List (Str × Str)) (hk : CleanT kvs) (rest : List (Addr × Obj)) (hp : PairsIn rest vs kvs) (hoff : ∀ p ∈ rest, p.1 ≠ l) :
    C1 w (.ref 216) [.ref l] [] 12 ((l, listOf vs.toArray n) :: rest) (fun news' r => ∃ x rest', news' = (l, listOf vs.toArray n) :: rest' ∧ Grow l rest rest' ∧ TabL 216 w rest' x l vs kvs ∧ r = .ref x) := by
  unfold C1
  k_fill
  intro p loose mean mg mb dp un gd cn nm' ig ic mr a ccd cl outer A₀ base h₀ L m s Q E B F X N T hd hu ret
  k_steps
  unfold Hold
  (rename Fr _ _ _ _ => F₁); (rename News _ _ _ _ => N₁)
  obtain ⟨x, hx⟩ := newsHead N₁
  subst hx
  obtain ⟨X₁, hX⟩ := newsName N₁
  (rename _ ∧ AllLt _ _ => hl1); (rename _ < x => hl2)
  refine Iter_list_my (k := n) (vs := vs) (fun i m₁ nx => m₁ (Str.ofString "self") = some (.ref x) ∧ nx = X₁) rfl F₁ N₁ ?_ ?_ ?_ ?_
  · rintro i m nx ⟨-, rfl⟩; exact hX ▸ .tail _ (.tail _ (.head _))
  · exact ⟨rfl, hX⟩
  · rintro I i v m₁ nx h tk io hv ⟨hm, rfl⟩ hI F' N'
    subst hX
    clear F₁ N₁
    replace F' := frPut F' hm
    obtain ⟨q, k, v, t1, u1, rfl, hkv, hq⟩ := hp.at hv
    have hc := hk.2 (k, v) (List.mem_of_getElem? hkv)
    obtain ⟨hc1, hc2⟩ := hc
    k_steps
    exact ForStep.next (by k_asm) (by k_asm) (fun _ hp => hp) hI ⟨rfl, rfl⟩
  · rintro m₁ nx h tk ⟨hm, rfl⟩ F' N'
    subst hX
    clear F₁ N₁
    replace F' := frPut F' hm
    k_steps
    (rename News _ _ _ _ => N9)
    obtain ⟨hl1, hl3⟩ := hl1
    have hl4 := allLt_mem hl3
    exact ret _ _ _ _ (by k_asm) (news_drop N9 (news := (l, _) :: (x, _) :: (_, _) :: rest) (List.forall_mem_cons.mpr ⟨.tail _ (.tail _ (.head _)), List.forall_mem_cons.mpr ⟨.head _, List.forall_mem_cons.mpr ⟨.tail _ (.head _), fun p hp => .tail _ (.tail _ (.tail _ hp))⟩⟩⟩)) ⟨x, _, rfl,
      (Grow.one hl1 hl4).trans (Grow.one (Nat.lt_trans hl1 hl2) (List.forall_mem_cons.mpr ⟨hl2, fun p hp => Nat.lt_trans (hl4 p hp) hl2⟩)),
      ⟨⟨_, _, _, .head _, .tail _ (.head _)⟩, hp.mono fun p hp => .tail _ (.tail _ hp), List.forall_mem_cons.mpr ⟨Nat.ne_of_gt (Nat.lt_trans hl1 hl2), List.forall_mem_cons.mpr ⟨Nat.ne_of_gt hl1, hoff⟩⟩⟩, rfl⟩
end
section
open PySem PySem.W PySem.Calls PyProof.Rows Mine
set_option maxRecDepth 100000
set_option maxHeartbeats 8000000
theorem reset13 : True := by
  w_top off
  k_with_none
  k_with "=k_all" => first | assumption | exact allLt_ne (by assumption) (by omega) | exact allLt_ne (And.right (by assumption)) (by omega) | exact allLt_ne (And.right (And.right (by assumption))) (by omega) | exact allLt_ne (And.right (And.right (And.right (by assumption)))) (by omega)
  k_with "=size_fits" => ((try simp only [List.size_toArray, sizeLine_eq]); omega)
  k_with "=ktr_room" => first | exact room1 (by assumption) (by decide) | exact room0 (by assumption) | exact room4 (by assumption) | exact room8 (by assumption) | exact room48 (by assumption) | fail "room"
  k_with "=ktr_units" => first | exact units1 (by assumption) (by decide) | exact units1 (k := 8) (by assumption) (by decide) | exact units4 (by assumption) | exact units8 (by assumption) | exact units48 (by assumption) | fail "units"
  k_with "=k_in" => first | k_in_fast | assumption | exact Frag.In.keeps (by k_asm) (Fr.keep (by k_asm))
  k_with "=call builtin:str.lower" => (k_here; refine lower_K (by first | assumption | exact Clean.low (by assumption)) ?_; intro _ _)
  k_with "=c1" => ((case k1 => k_asm); (case k2 => k_asm); (case k3 => k_asm); (case k4 => k_asm); (case k5 => k_asm); (case k6 => ktr_room); (case k7 => ktr_units))
  k_with "=subscriptTail Name Slice ref ref" => (k_here; (with_reducible show wpAny _ _ (subscriptTail _ (PySem.Expr.Slice _ _ none _) (Value.ref _) (Value.ref _)) _ _ _); k_dflt (refine' kms_slice_lit (by k_asm) (by k_asm) (by kmk_list) (by kmk_part) (by kmk_part) (by exact rfl) ?_ (by with_unfolding_all rfl) (by kmk_pure) (by kmk_size)); intro kxD kxH kxF kxN kxl; (try k_lt kxl); (try simp only [List.toList_toArray, pick_all, pick_init, pick_lit] at kxN))
  k_with "=call builtin:len" => (k_here; (refine' len_at (by k_asm) (by k_mem) (by omega) ?_); intro _ _)
  k_with "=callWith ref" => (k_here; k_dflt (refine' callWith_F (by exact FnAt.of (by k_asm) (by k_mem)) ?_; k_whole))
  k_with "=callWith ref" => (k_here; (with_reducible show wpAny _ _ (callWith _ (Value.ref (OfNat.ofNat _)) _ (backTo _ (starEach (_ :: _) _)) (backToKw _ _)) _ _ _); k_dflt (refine' callWith_KW (by k_asm) (by k_is) (by exact rfl) ?_; k_whole))
  k_with "=callWith ref" => (k_here; (with_reducible show wpAny _ _ (callWith _ (Value.ref (OfNat.ofNat _)) _ (backTo _ (starEach (_ :: _) _)) []) _ _ _); k_dflt (refine' callWith_K (by k_asm) (by k_is) ?_; k_whole))
  k_with "=call ref" => (k_here; (with_reducible show wpAny _ _ (call (Value.ref 117) _ _) _ _ _); k_dflt (refine' C1.use (conv _ _ _ _ _ (by first | assumption | exact Clean.low (by assumption)) _) (by k_asm) (by k_asm) (by k_asm) (by k_asm) (by k_asm) (by ktr_room) (by ktr_units) ?_; intro kxr kxnews kxH kxT kxF kxN kxP; obtain ⟨kxe1, kxe2⟩ := kxP; subst kxe1; subst kxe2; (try dsimp only)))
  k_with "=subscriptTail Name Name ref int" => (k_here; (with_reducible rename News _ _ _ _ => kN); refine at6 kN (by k_mem) (by first | assumption | exact IsOrd.lt (by assumption) _ (by assumption) | omega | exact IsOrd.lt (by assumption) _ (by omega)) ?_)
  k_with "=subscriptTail Name Subscript ref int" => (k_here; (with_reducible rename News _ _ _ _ => kN); refine at6 kN (by k_mem) (by first | assumption | exact IsOrd.lt (by assumption) _ (by assumption) | omega | exact IsOrd.lt (by assumption) _ (by omega)) ?_)
  k_with "=subscriptTail Subscript Name Subscript Subscript ref int" => (k_here; k_dflt (refine kba_turn (value' := PySem.Expr.Name (PySem.Str.ofString "_") ⟨0, 0, 0, 0⟩) (fun _ => rfl) ?_); (with_reducible rename News _ _ _ _ => kN); (with_reducible rename SeesIn _ _ _ _ _ _ => kS); refine at6 kN (by repeat (first | exact SeesIn.row kS _ (by first | assumption | exact IsOrd.lt (by assumption) _ (by assumption) | omega | exact IsOrd.lt (by assumption) _ (by omega)) | refine List.Mem.tail _ ?_)) (by first | assumption | exact IsOrd.lt (by assumption) _ (by assumption) | omega | exact IsOrd.lt (by assumption) _ (by omega)) ?_)
  k_with "=subscriptTail Subscript Name Name Name ref int" => (k_here; k_dflt (refine kba_turn (value' := PySem.Expr.Name (PySem.Str.ofString "_") ⟨0, 0, 0, 0⟩) (fun _ => rfl) ?_); (with_reducible rename News _ _ _ _ => kN); (with_reducible rename SeesIn _ _ _ _ _ _ => kS); refine at6 kN (by repeat (first | exact SeesIn.row kS _ (by first | assumption | exact IsOrd.lt (by assumption) _ (by assumption) | omega | exact IsOrd.lt (by assumption) _ (by omega)) | refine List.Mem.tail _ ?_)) (by first | assumption | exact IsOrd.lt (by assumption) _ (by assumption) | omega | exact IsOrd.lt (by assumption) _ (by omega)) ?_)
  trivial
theorem TabIn.mono {C : Addr} {w : World} {news news' : List (Addr × Obj)} {x l : Addr} {vs : List Value} {n : Nat} {kvs : List (Str × Str)} (h : TabIn C w news x l vs n kvs) (hs : ∀ p ∈ news, p ∈ news') : TabIn C w news' x l vs n kvs :=
  ⟨let ⟨dx, tk, dn, a, b⟩ := h.inst; ⟨dx, tk, dn, hs _ a, hs _ b⟩, hs _ h.list, h.pairs.mono hs⟩
theorem news_fun {h₀ h : Heap} {L a : Addr} {nx : List (Addr × Obj)} {o o' : Obj} (N : News h₀ L h nx) (h1 : (a, o) ∈ nx) (h2 : (a, o') ∈ nx) : o = o' := by
  have e1 := (N _ h1).1
  have e2 := (N _ h2).1
  rw [e1] at e2
  exact Option.some.inj e2
theorem news_ne {h₀ h : Heap} {L a b : Addr} {nx : List (Addr × Obj)} {o o' : Obj} (N : News h₀ L h nx) (h1 : (a, o) ∈ nx) (h2 : (b, o') ∈ nx) (ne : o ≠ o') : a ≠ b := fun e => by
  subst e; exact ne (news_fun N h1 h2)
noncomputable def off (S : List Addr) (nx : List (Addr × Obj)) : List (Addr × Obj) := nx.filter fun p => !S.contains p.1
theorem off_mem {S : List Addr} {nx : List (Addr × Obj)} {p : Addr × Obj} (h : p ∈ nx) (hn : ∀ a ∈ S, p.1 ≠ a) : p ∈ off S nx := by
  refine List.mem_filter.mpr ⟨h, ?_⟩
  simp only [Bool.not_eq_true', List.contains_eq_mem, decide_eq_false_iff_not]
  exact fun e => hn _ e rfl
theorem off_ne {S : List Addr} {nx : List (Addr × Obj)} {a : Addr} (ha : a ∈ S) : ∀ p ∈ off S nx, p.1 ≠ a := by
  intro p hp e
  have := (List.mem_filter.mp hp).2
  simp only [Bool.not_eq_true', List.contains_eq_mem, decide_eq_false_iff_not] at this
  exact this (e ▸ ha)
theorem off_sub {S : List Addr} {nx : List (Addr × Obj)} : ∀ p ∈ off S nx, p ∈ nx := fun _ hp => (List.mem_filter.mp hp).1
/-- what stood stands, but at S -/
noncomputable def Keep (S : List Addr) (nx nx' : List (Addr × Obj)) : Prop := ∀ p ∈ nx, (∀ a ∈ S, p.1 ≠ a) → p ∈ nx'
theorem PairsIn.off {nx : List (Addr × Obj)} {S : List Addr} {vs : List Value} {kvs : List (Str × Str)} (h : PairsIn nx vs kvs) (ho : ∀ q k v t u, (q, tupOf [.str k t, .str v u]) ∈ nx → ∀ a ∈ S, q ≠ a) : PairsIn (off S nx) vs kvs := by
  induction h with
  | nil => exact .nil
  | cons hm _ ih => exact .cons (off_mem hm (ho _ _ _ _ _ hm)) ih
/-- a table of headers, its list wherever -/
noncomputable def HasTab (w : World) (nx : List (Addr × Obj)) (x l : Addr) (kvs : List (Str × Str)) : Prop := ∃ ls ln, TabIn 216 w nx x l ls ln kvs
theorem HasTab.mono {w : World} {nx nx' : List (Addr × Obj)} {x l : Addr} {kvs : List (Str × Str)} (h : HasTab w nx x l kvs) (hs : ∀ p ∈ nx, p ∈ nx') : HasTab w nx' x l kvs :=
  let ⟨ls, ln, hT⟩ := h
  ⟨ls, ln, hT.mono hs⟩
theorem HasTab.keep {w : World} {h₀ h : Heap} {L x l l2 : Addr} {nx nx' : List (Addr × Obj)} {kvs : List (Str × Str)} {vs2 : List Value} {n2 : Nat} (hT : HasTab w nx x l kvs) (N : News h₀ L h nx) (h2 : (l2, listOf vs2.toArray n2) ∈ nx) (hne : l ≠ l2) (hk : Keep [l2] nx nx') : HasTab w nx' x l kvs := by
  obtain ⟨ls, ln, hT⟩ := hT
  obtain ⟨dx, tk, dn, a, b⟩ := hT.inst
  refine ⟨ls, ln, ⟨dx, tk, dn, hk _ a (List.forall_mem_singleton.mpr (news_ne N a h2 (by simp))), hk _ b (List.forall_mem_singleton.mpr (news_ne N b h2 (by simp)))⟩, hk _ hT.list (List.forall_mem_singleton.mpr hne), ?_⟩
  have := hT.pairs
  clear hT a b
  induction this with
  | nil => exact .nil
  | cons hm _ ih => exact .cons (hk _ hm (List.forall_mem_singleton.mpr (news_ne N hm h2 (by simp)))) ih
theorem HasTab.split {w : World} {h₀ h : Heap} {L : Addr} {nx : List (Addr × Obj)} {x l : Addr} {kvs : List (Str × Str)} (hT : HasTab w nx x l kvs) (N : News h₀ L h nx) :
    ∃ ls ln, (l, listOf ls.toArray ln) ∈ nx ∧ News h₀ L h ((l, listOf ls.toArray ln) :: off [l] nx) ∧ TabL 216 w (off [l] nx) x l ls kvs := by
  obtain ⟨ls, ln, hT⟩ := hT
  refine ⟨ls, ln, hT.list, fun p hp => ?_, ?_⟩
  · rcases List.mem_cons.mp hp with rfl | hp
    · exact N _ hT.list
    · exact N _ (off_sub _ hp)
  · obtain ⟨dx, tk, dn, h1, h2⟩ := hT.inst
    refine ⟨⟨dx, tk, dn, off_mem h1 ?_, off_mem h2 ?_⟩, hT.pairs.off fun q k v t u hq => ?_, off_ne (.head _)⟩
    · exact List.forall_mem_singleton.mpr (news_ne N h1 hT.list (by simp))
    · exact List.forall_mem_singleton.mpr (news_ne N h2 hT.list (by simp))
    · exact List.forall_mem_singleton.mpr (news_ne N hq hT.list (by simp))
theorem keep_all {h₀ h : Heap} {L l : Addr} {o : Obj} {nx nx' : List (Addr × Obj)} (N : News h₀ L h nx) (hl : (l, o) ∈ nx) (h1 : (l, o) ∈ nx') (h2 : ∀ p ∈ off [l] nx, p ∈ nx') : ∀ p ∈ nx, p ∈ nx' := fun p hp => by
  by_cases e : p.1 = l
  · have : p = (l, o) := by
      obtain ⟨a, b⟩ := p
      subst e
      exact congrArg _ (news_fun N hp hl)
    rw [this]; exact h1
  · exact h2 p (off_mem hp (List.forall_mem_singleton.mpr e))
theorem hsetV (w : World) (x l : Addr) (kvs : List (Str × Str)) (nm val : Str) (t u : Tok) (nx : List (Addr × Obj)) (hn : Clean nm) (hv : Clean val) (hk : CleanT kvs) (hT : HasTab w nx x l kvs) :
    C1 w (.ref 131) [.ref x, .str nm t, .str val u] [] 14 nx (fun nx' r => HasTab w nx' x l ((kvs.filter fun kv => lowS kv.1 != lowS nm) ++ [(nm, val)]) ∧ Keep [l] nx nx' ∧ r = .none) := by
  unfold C1
  intro p loose mean mg mb dp un gd cn nm' ig ic mr a ccd cl outer A₀ base h₀ L m s Q E B F X N T hd hu ret
  obtain ⟨ls, ln, -, N2, hT2⟩ := hT.split N
  refine hset w x l ls ln kvs nm val t u hn hv hk _ hT2 p loose mean mg mb dp un gd cn nm' ig ic mr a ccd cl outer A₀ base h₀ L m s Q E B F X N2 T hd hu ?_
  rintro r news' h' tk' F' N' ⟨vs', n', rest', rfl, hg, hT', hr⟩
  exact ret _ _ _ _ F' N' ⟨⟨_, _, hT'.toIn⟩, fun p hp hn => .tail _ (hg.1 _ (off_mem hp hn)), hr⟩
theorem hdelV (w : World) (x l : Addr) (kvs : List (Str × Str)) (nm : Str) (t : Tok) (nx : List (Addr × Obj)) (hn : Clean nm) (hk : CleanT kvs) (hT : HasTab w nx x l kvs) :
    C1 w (.ref 136) [.ref x, .str nm t] [] 8 nx (fun nx' r => HasTab w nx' x l (kvs.filter fun kv => lowS kv.1 != lowS nm) ∧ Keep [l] nx nx' ∧ r = .none) := by
  unfold C1
  intro p loose mean mg mb dp un gd cn nm' ig ic mr a ccd cl outer A₀ base h₀ L m s Q E B F X N T hd hu ret
  obtain ⟨ls, ln, -, N2, hT2⟩ := hT.split N
  refine hdel w x l ls ln kvs nm t hn hk _ hT2 p loose mean mg mb dp un gd cn nm' ig ic mr a ccd cl outer A₀ base h₀ L m s Q E B F X N2 T hd hu ?_
  rintro r news' h' tk' F' N' ⟨vs', n', rest', rfl, hg, hT', -, hr⟩
  exact ret _ _ _ _ F' N' ⟨⟨_, _, hT'.toIn⟩, fun p hp hn => .tail _ (hg.1 _ (off_mem hp hn)), hr⟩
theorem haddV (w : World) (x l : Addr) (kvs : List (Str × Str)) (nm val : Str) (t u : Tok) (nx : List (Addr × Obj)) (hn : Clean nm) (hv : Clean val) (hv14 : val.length ≤ 14) (hk : CleanT kvs) (hT : HasTab w nx x l kvs) :
    C1 w (.ref 213) [.ref x, .str nm t, .str val u] [] 14 nx (fun nx' r => HasTab w nx' x l (kvs ++ [(nm, val)]) ∧ Keep [l] nx nx' ∧ r = .none) := by
  unfold C1
  intro p loose mean mg mb dp un gd cn nm' ig ic mr a ccd cl outer A₀ base h₀ L m s Q E B F X N T hd hu ret
  obtain ⟨ls, ln, -, N2, hT2⟩ := hT.split N
  refine hadd w x l ls ln kvs nm val t u hn hv hv14 hk _ hT2 p loose mean mg mb dp un gd cn nm' ig ic mr a ccd cl outer A₀ base h₀ L m s Q E B F X N2 T hd hu ?_
  rintro r news' h' tk' F' N' ⟨vs', n', rest', rfl, hg, hT', hr⟩
  exact ret _ _ _ _ F' N' ⟨⟨_, _, hT'.toIn⟩, fun p hp hn => .tail _ (hg.1 _ (off_mem hp hn)), hr⟩
theorem hallV (w : World) (x l : Addr) (kvs : List (Str × Str)) (nm : Str) (t : Tok) (nx : List (Addr × Obj)) (hn : Clean nm) (hk : CleanT kvs) (hT : HasTab w nx x l kvs) :
    C1 w (.ref 155) [.ref x, .str nm t] [] 8 nx (fun nx' r => ∃ q ws k, (q, listOf ws.toArray k) :: nx = nx' ∧ StrsAre ws (allT kvs (lowS nm)) ∧ (∀ p ∈ nx, p.1 ≠ q) ∧ r = .ref q) := by
  unfold C1
  intro p loose mean mg mb dp un gd cn nm' ig ic mr a ccd cl outer A₀ base h₀ L m s Q E B F X N T hd hu ret
  obtain ⟨ls, ln, hl, N2, hT2⟩ := hT.split N
  refine hall w x l ls ln kvs nm t hn hk _ hT2 p loose mean mg mb dp un gd cn nm' ig ic mr a ccd cl outer A₀ base h₀ L m s Q E B F X N2 T hd hu ?_
  rintro r news' h' tk' F' N' ⟨q, ws, k, rfl, hws, hne, hr⟩
  have hka := keep_all N hl (nx' := (l, listOf ls.toArray ln) :: off [l] nx) (.head _) fun p hp => .tail _ hp
  exact ret _ _ _ _ F' (fun p hp => by
    rcases List.mem_cons.mp hp with rfl | hp
    · exact N' _ (.head _)
    · exact N' _ (.tail _ (hka _ hp))) ⟨q, ws, k, rfl, hws, fun p hp => hne p (hka p hp), hr⟩
theorem hinitV (w : World) (l : Addr) (vs : List Value) (n : Nat) (kvs : List (Str × Str)) (hk : CleanT kvs) (nx : List (Addr × Obj)) (hl : (l, listOf vs.toArray n) ∈ nx) (hp : PairsIn nx vs kvs) :
    C1 w (.ref 216) [.ref l] [] 12 nx (fun nx' r => ∃ x, HasTab w nx' x l kvs ∧ (∀ p ∈ nx, p ∈ nx') ∧ r = .ref x) := by
  unfold C1
  intro p loose mean mg mb dp un gd cn nm' ig ic mr a ccd cl outer A₀ base h₀ L m s Q E B F X N T hd hu ret
  have N2 : News h₀ L s.heap ((l, listOf vs.toArray n) :: off [l] nx) := fun p hp => by
    rcases List.mem_cons.mp hp with rfl | hp
    · exact N _ hl
    · exact N _ (off_sub _ hp)
  refine hinit w l vs n kvs hk _ (hp.off fun q k v t u hq => List.forall_mem_singleton.mpr (news_ne N hq hl (by simp))) (off_ne (.head _)) p loose mean mg mb dp un gd cn nm' ig ic mr a ccd cl outer A₀ base h₀ L m s Q E B F X N2 T hd hu ?_
  rintro r news' h' tk' F' N' ⟨x, rest', rfl, hg, hT', hr⟩
  exact ret _ _ _ _ F' N' ⟨x, ⟨_, _, hT'.toIn⟩, keep_all N hl (.head _) fun p hp => .tail _ (hg.1 _ hp), hr⟩
theorem hgetV (w : World) (x l : Addr) (kvs : List (Str × Str)) (nm : Str) (t : Tok) (nx : List (Addr × Obj)) (hn : Clean nm) (hk : CleanT kvs) (hT : HasTab w nx x l kvs) :
    C1 w (.ref 163) [.ref x, .str nm t] [] 8 nx (fun nx' r => nx = nx' ∧ optV (getT kvs (lowS nm)) r) := by
  obtain ⟨ls, ln, hT⟩ := hT
  exact hget w x l ls ln kvs nm t hn hk nx hT
theorem hitemsV (w : World) (x l : Addr) (kvs : List (Str × Str)) (nx : List (Addr × Obj)) (hk : CleanT kvs) (hT : HasTab w nx x l kvs) :
    C1 w (.ref 180) [.ref x] [] 4 nx (fun nx' r => ∃ q vs, (q, listOf vs.toArray 0) :: nx = nx' ∧ PairsIn nx vs kvs ∧ (∀ p ∈ nx, p.1 ≠ q) ∧ r = .ref q) := by
  unfold C1
  intro p loose mean mg mb dp un gd cn nm' ig ic mr a ccd cl outer A₀ base h₀ L m s Q E B F X N T hd hu ret
  obtain ⟨ls, ln, hl, N2, hT2⟩ := hT.split N
  refine hitems w x l ls ln kvs hk _ hT2 p loose mean mg mb dp un gd cn nm' ig ic mr a ccd cl outer A₀ base h₀ L m s Q E B F X N2 T hd hu ?_
  rintro r news' h' tk' F' N' ⟨q, rfl, hlq, hlt, hr⟩
  have hka := keep_all N hl (nx' := (l, listOf ls.toArray ln) :: off [l] nx) (.head _) fun p hp => .tail _ hp
  exact ret _ _ _ _ F' (fun p hp => by
    rcases List.mem_cons.mp hp with rfl | hp
    · exact N' _ (.head _)
    · exact N' _ (.tail _ (hka _ hp))) ⟨q, ls, rfl, hT2.pairs.mono off_sub, fun p hp => by
      rcases List.mem_cons.mp (hka p hp) with rfl | hp
      · exact Nat.ne_of_lt hlq
      · exact Nat.ne_of_lt (allLt_mem hlt p hp), hr⟩
end
section
open PySem PySem.W PySem.Calls PyProof.Rows PyProof.V Mine
set_option maxRecDepth 100000
section
variable {prog : Program} {w : World} {A : Around} {E : Value → Shared → Prop} {s : Shared} {h₀ : Heap} {L D : Addr} {m : Str → Option Value} {news : List (Addr × Obj)} {vs : List Value} {kvs : List (Str × Str)} {n : Nat}
theorem lsort_few {Q : Value → Shared → Prop} (F : Fr h₀ L s.heap m) (N : News h₀ L s.heap ((D, listOf vs.toArray n) :: news)) (hD : ∀ p ∈ news, p.1 ≠ D) (h1 : vs.length < 2)
    (h : ∀ n' h', Fr h₀ L h' m → News h₀ L h' ((D, listOf vs.toArray n') :: news) → Q .none { s with heap := h' }) :
    wpAny (model prog w) A (call (.builtin "list.sort") [.ref D]) Q E s := by
  have nz := N _ (.head _)
  have ho : s.heap.get? D = some (seqObj "list" vs.toArray n) := nz.1
  have N₀ : News h₀ L s.heap news := fun p hp => N p (.tail _ hp)
  refine wpAny_call_entry slot_list_sort ⟨_, ho, rfl⟩ entry_list_sort ?_ (args_list_sort _)
  have s1 := Heap.SameBut.update s.heap D (Obj.mapSeq fun _ => (#[] : Array Value))
  obtain ⟨e1, ho1⟩ : ∃ e1, (s.heap.update D (Obj.mapSeq fun _ => (#[] : Array Value))).get? D = some (seqObj "list" #[] e1) := ⟨_, get?_update_seq ho fun _ => #[]⟩
  have F3 : Fr h₀ L (((s.heap.update D (Obj.mapSeq fun _ => (#[] : Array Value))).push (seqObj "tuple" vs.toArray 0)).push (seqObj "list" #[] 0)) m := ((kas_fr F s1 nz.2.1 nz.2.2).push _).push _
  have N2 : News h₀ L (((s.heap.update D (Obj.mapSeq fun _ => (#[] : Array Value))).push (seqObj "tuple" vs.toArray 0)).push (seqObj "list" #[] 0)) news :=
    (kas_news N₀ s1 hD).grown fun b x e => Heap.get?_push_of_some _ (Heap.get?_push_of_some _ e)
  have ho6 : (((s.heap.update D (Obj.mapSeq fun _ => (#[] : Array Value))).push (seqObj "tuple" vs.toArray 0)).push (seqObj "list" #[] 0)).get? D = some (seqObj "list" #[] e1) := Heap.get?_push_of_some _ (Heap.get?_push_of_some _ ho1)
  rw [list_sort_plain]
  refine wpAny_bind (listItems_at ho rfl ?_)
  refine wpAny_bind (listUpdate_at ho rfl ?_ (by rw [List.size_toArray, sizeLine_eq]; omega) (Nat.zero_le _))
  refine wpAny_bind (seqEpoch_at ho1 rfl ?_)
  refine wpAny_bind (wpAny_newTuple ?_ (by show vs.length ≤ _; rw [sizeLine_eq]; omega))
  refine wpAny_bind (wpAny_newList ?_ (Nat.zero_le _))
  refine wpAny_holding ?_
  show wpAny (model prog w) _ _ _ _ { s with heap := ((s.heap.update D (Obj.mapSeq fun _ => (#[] : Array Value))).push (seqObj "tuple" vs.toArray 0)).push (seqObj "list" #[] 0) }
  dsimp only
  have hn2 : vs.toArray.size < 2 := by rw [List.size_toArray]; exact h1
  rw [if_pos hn2, if_pos hn2]
  refine wpAny_bind (wpAny_pure ?_)
  rw [StateT.run_pure]
  refine wpAny_bind (wpAny_pure ?_)
  dsimp only
  refine wpAny_bind (seqEpoch_at ho6 rfl ?_)
  have hout : (arrOf (SortSt.mk' general' (vs.toArray.zip vs.toArray) #[] 7 none)).map (·.2) = vs.toArray := by
    show (vs.toArray.zip vs.toArray).map (·.2) = vs.toArray
    apply Array.toList_inj.mp
    simp [List.map_snd_zip]
  rw [hout]
  have s2 := Heap.SameBut.update (((s.heap.update D (Obj.mapSeq fun _ => (#[] : Array Value))).push (seqObj "tuple" vs.toArray 0)).push (seqObj "list" #[] 0)) D (Obj.mapSeq fun _ => vs.toArray)
  obtain ⟨c2, hc2⟩ : ∃ c2, ((((s.heap.update D (Obj.mapSeq fun _ => (#[] : Array Value))).push (seqObj "tuple" vs.toArray 0)).push (seqObj "list" #[] 0)).update D (Obj.mapSeq fun _ => vs.toArray)).get? D = some (seqObj "list" vs.toArray c2) := ⟨_, get?_update_seq ho6 fun _ => vs.toArray⟩
  refine wpAny_bind (listUpdate_at ho6 rfl ?_ (Nat.zero_le _) (by rw [List.size_toArray, sizeLine_eq]; omega))
  simp only [bne_self_eq_false, Bool.false_eq_true, if_false]
  refine wpAny_pure ⟨_, rfl, h c2 _ (kas_fr F3 s2 nz.2.1 nz.2.2) ?_⟩
  intro p hp
  rcases List.mem_cons.mp hp with rfl | hp
  · exact ⟨hc2, nz.2⟩
  · exact (kas_news N2 s2 hD) p hp
theorem lsort_many {Q : Value → Shared → Prop} (F : Fr h₀ L s.heap m) (N : News h₀ L s.heap ((D, listOf vs.toArray n) :: news)) (hD : ∀ p ∈ news, p.1 ≠ D) (hp : PairsIn news vs kvs) (hnd : (kvs.map (·.1)).Nodup) (h2 : 2 ≤ kvs.length) (h5 : kvs.length ≤ 5)
    (h : ∀ vs' kvs' n' h', Fr h₀ L h' m → News h₀ L h' ((D, listOf vs'.toArray n') :: news) → PairsIn news vs' kvs' → kvs'.Perm kvs → kvs'.Pairwise (fun a b => strLt a.1 b.1 = true) → Q .none { s with heap := h' }) :
    wpAny (model prog w) A (call (.builtin "list.sort") [.ref D]) Q E s := by
  have hl := hp.length
  refine kat_lsort (vs := vs) F N (UpdF.head hD) (by simp) (by omega) (by omega) fun e1 h' F' N' => ?_
  obtain ⟨fs, ht, hfl, hfs⟩ := pairs_tups (h := h') (fun p hp => (N' p (.tail _ hp)).1) hp
  refine kat_kind ht (by omega) (T := .type "str") (fun v hv => ?_) rfl ?_
  · obtain ⟨k, t, rfl⟩ := hfs v hv
    exact .now
  · rw [hl]
    refine sat_wp (lt := fun i j => strLt (kvs.getD i (⟨#[]⟩, ⟨#[]⟩)).1 (kvs.getD j (⟨#[]⟩, ⟨#[]⟩)).1) (n := kvs.length) (fun i j C hi hj hC => ?_) (fun p hR => ?_) _ (sort_stable (key := fun i => (kvs.getD i (⟨#[]⟩, ⟨#[]⟩)).1) h2 h5)
    · unfold kas_ask
      obtain ⟨q1, k1, v1, t1, u1, e1, e2, hm1⟩ := hp.at (List.getElem?_eq_getElem (by omega : i < vs.length))
      obtain ⟨q2, k2, v2, t2, u2, e3, e4, hm2⟩ := hp.at (List.getElem?_eq_getElem (by omega : j < vs.length))
      have ev : vs.getD i .none = .ref q1 := by simp [List.getD, hl, hi, e1]
      have ev2 : vs.getD j .none = .ref q2 := by simp [List.getD, hl, hj, e3]
      have ek : kvs.getD i (⟨#[]⟩, ⟨#[]⟩) = (k1, v1) := by simp [List.getD, e2]
      have ek2 : kvs.getD j (⟨#[]⟩, ⟨#[]⟩) = (k2, v2) := by simp [List.getD, e4]
      rw [ev, ev2]
      rw [ek, ek2] at hC
      dsimp only at hC
      refine kat_lt (N' _ (.tail _ hm1)).1 rfl (N' _ (.tail _ hm2)).1 rfl ?_
      refine kat_cons (wpAny_eqBool_str ?_)
      refine kat_go (fun he => kat_yes ?_) (fun he => kat_no ?_)
      · have he : k1 = k2 := by simpa using he
        have hij : i = j := by
          have hpw := List.pairwise_iff_getElem.mp hnd
          by_cases hne : i = j
          · exact hne
          · have g1 : kvs[i] = (k1, v1) := by rw [List.getElem?_eq_getElem hi] at e2; exact Option.some.inj e2
            have g2 : kvs[j] = (k2, v2) := by rw [List.getElem?_eq_getElem hj] at e4; exact Option.some.inj e4
            rcases Nat.lt_or_gt_of_ne hne with h' | h'
            · exact absurd (show (kvs.map (·.1))[i]'(by simpa using hi) = (kvs.map (·.1))[j]'(by simpa using hj) by rw [List.getElem_map, List.getElem_map, g1, g2]; exact he) (hpw i j (by simpa using hi) (by simpa using hj) h')
            · exact absurd (show (kvs.map (·.1))[j]'(by simpa using hj) = (kvs.map (·.1))[i]'(by simpa using hi) by rw [List.getElem_map, List.getElem_map, g1, g2]; exact he.symm) (hpw j i (by simpa using hj) (by simpa using hi) h')
        subst hij
        rw [e2] at e4
        obtain ⟨rfl, rfl⟩ := Prod.mk.inj (Option.some.inj e4)
        rw [strLt_irr] at hC
        refine kat_cons (wpAny_eqBool_str ?_)
        refine kat_go (fun _ => kat_yes (kat_nil hC)) (fun he => absurd he (by simp))
      · exact oneLt_str hC
    · obtain ⟨hpm, ha⟩ := hR
      have hlow : ∀ i ∈ p.toList, i < kvs.length := fun i hi => List.mem_range.mp (hpm.mem_iff.mp hi)
      refine KasFin.intro F' N' (UpdF.head hD) fun h'' c F'' N'' => ?_
      refine h _ (p.toList.map fun i => kvs.getD i (⟨#[]⟩, ⟨#[]⟩)) c h'' F'' N'' (pairs_pick hp _ hlow) ?_ ?_
      · refine (hpm.map fun i => kvs.getD i (⟨#[]⟩, ⟨#[]⟩)).trans (List.Perm.of_eq (List.ext_getElem (by simp) fun i h1 h2 => ?_))
        have : i < kvs.length := h2
        simp [List.getD, this]
      · rw [List.pairwise_map]
        refine List.Pairwise.imp_of_mem (fun {i j} hi hj hs => hs.resolve_right fun e => ?_) ha
        have hi := hlow i hi
        have hj := hlow j hj
        have := (List.pairwise_iff_getElem.mp hnd) i j (by simpa using hi) (by simpa using hj) e.2
        rw [List.getElem_map, List.getElem_map] at this
        exact this (by have := e.1; simpa [List.getD, hi, hj] using this)
theorem lsort_pairs {Q : Value → Shared → Prop} (F : Fr h₀ L s.heap m) (N : News h₀ L s.heap ((D, listOf vs.toArray n) :: news)) (hD : ∀ p ∈ news, p.1 ≠ D) (hp : PairsIn news vs kvs) (hnd : (kvs.map (·.1)).Nodup) (h5 : kvs.length ≤ 5)
    (h : ∀ vs' kvs' n' h', Fr h₀ L h' m → News h₀ L h' ((D, listOf vs'.toArray n') :: news) → PairsIn news vs' kvs' → kvs'.Perm kvs → kvs'.Pairwise (fun a b => strLt a.1 b.1 = true) → Q .none { s with heap := h' }) :
    wpAny (model prog w) A (call (.builtin "list.sort") [.ref D]) Q E s := by
  by_cases h2 : 2 ≤ kvs.length
  · exact lsort_many F N hD hp hnd h2 h5 h
  · refine lsort_few F N hD (by rw [hp.length]; omega) fun n' h' F' N' => h vs kvs n' h' F' N' hp (.refl _) ?_
    match kvs, h2 with
    | [], _ => exact .nil
    | [_], _ => exact List.pairwise_singleton _ _
    | _ :: _ :: _, h2 => simp at h2
theorem sorted_list {l : Addr} {Q : Value → Shared → Prop} (F : Fr h₀ L s.heap m) (N : News h₀ L s.heap news) (hl : (l, listOf vs.toArray n) ∈ news) (h64 : vs.length < 64)
    (h : ∀ B h', Fr h₀ L h' m → News h₀ L h' ((B, listOf vs.toArray 0) :: news) → (∀ q ∈ news, q.1 < B) →
      wpAny (model prog w) A.in1 (call (.builtin "list.sort") [.ref B]) (fun _ s' => Q (.ref B) s') E { s with heap := h' }) :
    wpAny (model prog w) A (call (.builtin "sorted") [.ref l]) Q E s := by
  have hli : s.heap.IsList l vs.toArray := ⟨_, (N _ hl).1, rfl, _, rfl⟩
  refine Calls.call_function_entry kind_sorted plain_sorted entry_sorted (args_sorted1 _) ?_
  unfold Builtin.«sorted»
  refine wpAny_bind (m := checkCount "sorted" 1 1 _) (wpAny_pure ?_)
  refine wpAny_bind (collect_list hli ?_ (by rw [sizeLine_eq]; omega))
  refine wpAny_bind (wpAny_newList ?_ (by rw [sizeLine_eq]; omega))
  have hsz : ((s.heap.push (seqObj "list" #[] 0)).update s.heap.objs.size (Obj.mapSeq (· ++ vs.toArray))).objs.size = s.heap.objs.size + 1 := by
    rw [Heap.size_update, size_push']
  have hoL : (((s.heap.push (seqObj "list" #[] 0)).update s.heap.objs.size (Obj.mapSeq (· ++ vs.toArray))).push (seqObj "list" vs.toArray 0)).get? (s.heap.objs.size + 1) = some (seqObj "list" vs.toArray 0) := by
    rw [← hsz]; exact Heap.get?_push_size _ rfl
  have keep : ∀ b o, s.heap.get? b = some o → (((s.heap.push (seqObj "list" #[] 0)).update s.heap.objs.size (Obj.mapSeq (· ++ vs.toArray))).push (seqObj "list" vs.toArray 0)).get? b = some o := fun b o q => by
    have hlt : b < s.heap.objs.size := Heap.lt_size q
    rw [Heap.get?_push_ne _ _ _ (by rw [hsz]; exact Nat.ne_of_lt (Nat.lt_succ_of_lt hlt)), Heap.get?_update_ne _ _ _ _ (Nat.ne_of_lt hlt), Heap.get?_push_ne _ _ _ (Nat.ne_of_lt hlt)]
    exact q
  have hL : L < s.heap.objs.size := F.ns.lt
  show wpAny _ _ _ _ _ { s with heap := ((s.heap.push (seqObj "list" #[] 0)).update s.heap.objs.size (Obj.mapSeq (· ++ vs.toArray))).push (seqObj "list" vs.toArray 0) }
  rw [hsz]
  have hg := h (s.heap.objs.size + 1) _ (F.kept keep) (fun p hp => by
    rcases List.mem_cons.mp hp with rfl | hp
    · exact ⟨hoL, Nat.ne_of_gt (Nat.lt_succ_of_lt hL), Heap.get?_none_of_le (Nat.le_trans F.above (Nat.le_succ_of_le (Nat.le_of_lt hL)))⟩
    · exact (N.grown keep) p hp) (fun p hp => Nat.lt_succ_of_lt (Heap.lt_size (N p hp).1))
  refine wpAny_bind (wpAny_holding (wpAny_mono hg (fun _ s' x => ?_) fun _ _ e => e))
  exact wpAny_pure ⟨_, rfl, x⟩
theorem sorted_pairs {l : Addr} {Q : Value → Shared → Prop} (F : Fr h₀ L s.heap m) (N : News h₀ L s.heap news) (hl : (l, listOf vs.toArray n) ∈ news) (hp : PairsIn news vs kvs) (hnd : (kvs.map (·.1)).Nodup) (h5 : kvs.length ≤ 5)
    (h : ∀ B vs' kvs' n' h', Fr h₀ L h' m → News h₀ L h' ((B, listOf vs'.toArray n') :: news) → (∀ q ∈ news, q.1 < B) → PairsIn news vs' kvs' → kvs'.Perm kvs → kvs'.Pairwise (fun a b => strLt a.1 b.1 = true) → Q (.ref B) { s with heap := h' }) :
    wpAny (model prog w) A (call (.builtin "sorted") [.ref l]) Q E s := by
  refine sorted_list F N hl (by rw [hp.length]; omega) fun B h' F' N' hlt => ?_
  exact lsort_pairs F' N' (fun p hp => Nat.ne_of_lt (hlt p hp)) hp hnd h5 fun vs' kvs' n' h'' F'' N'' hp' hperm hs => h B vs' kvs' n' h'' F'' N'' hlt hp' hperm hs
end
end
section
open PySem PySem.W PySem.Calls PyProof.Rows PyProof.V PySem.Spec Mine
set_option maxRecDepth 100000
noncomputable def dTexts (kvs : List (Str × Str)) : List PyData := kvs.map fun p => .tuple [.str p.1, .str p.2]
theorem clean_ok {x : Str} (h : Clean x) : PyData.strOk x = true := by
  unfold PyData.strOk
  rw [Array.all_eq_true_iff_forall_mem]
  intro c hc
  have := h.2 c hc
  exact decide_eq_true (by omega)
theorem dTexts_lay : ∀ kvs : List (Str × Str), (∀ kv ∈ kvs, Clean kv.1 ∧ Clean kv.2) → PyData.canLayAll0 (dTexts kvs) = true
  | [], _ => rfl
  | p :: r, h => by
    obtain ⟨h1, h2⟩ := h p (.head _)
    simp only [dTexts, List.map_cons, PyData.canLayAll0, PyData.canLay0, clean_ok h1, clean_ok h2, Bool.and_true, Bool.true_and]
    exact dTexts_lay r fun kv hk => h kv (.tail _ hk)
theorem dTexts_depth : ∀ kvs : List (Str × Str), PyData.depthAll (dTexts kvs) ≤ 1
  | [] => by simp [dTexts, PyData.depthAll]
  | p :: r => by
    have := dTexts_depth r
    simp only [dTexts, List.map_cons, PyData.depthAll, PyData.depth] at this ⊢
    omega
theorem dTexts_shaped (kvs : List (Str × Str)) (h : ∀ kv ∈ kvs, Clean kv.1 ∧ Clean kv.2) : SeqAt.shaped (.list (dTexts kvs)) = true := by
  have h1 := dTexts_lay kvs h
  have h2 := dTexts_depth kvs
  show (PyData.canLayAll0 (dTexts kvs) && decide (PyData.depthAll (dTexts kvs) + 1 ≤ 64)) = true
  rw [h1, Bool.true_and]
  exact decide_eq_true (by omega)
theorem reads_pairs {h : Heap} {news : List (Addr × Obj)} (hN : ∀ p ∈ news, h.get? p.1 = some p.2) {vs : List Value} {kvs : List (Str × Str)} (hp : PairsIn news vs kvs) : ∃ as, ReadsAll h vs (dTexts kvs) as := by
  induction hp with
  | nil => exact ⟨_, ReadsAll.nil⟩
  | cons hm _ ih =>
    obtain ⟨as, ih⟩ := ih
    exact ⟨_, ReadsAll.cons (reads_tuple_at (hN _ hm) rfl rfl (ReadsAll.cons (Reads.str _ _) (ReadsAll.cons (Reads.str _ _) ReadsAll.nil))) ih⟩
end
section
open PySem PySem.W PySem.Calls PyProof.Rows PyProof.V Mine
open PyProof.Rows.LCg
set_option maxRecDepth 100000
section
variable {prog : Program} {w : World} {A : Around} {E : Value → Shared → Prop} {s : Shared} {env : Env} {h₀ : Heap} {L : Addr} {m : Str → Option Value}
/-- the addresses of a comprehension whose loop name is a cell -/
noncomputable def Off4 (I C K D : Addr) (nx : List (Addr × Obj)) : Prop := ∀ p ∈ nx, p.1 ≠ I ∧ p.1 ≠ C ∧ p.1 ≠ K ∧ p.1 ≠ D
/-- a stop for the walk -/
structure HoldS (P : Prop) : Prop where
  out : P
theorem funEnv_cell {scope : Scope} {outer : Env} {x : Str} {cl : List (Str × Addr)} {qual : Str} {Q : Env → Shared → Prop} (hk : scope.kind = .function)
    (hcells : ∀ n, cellsFrom n scope.names cl = (x, n) :: cl) (hpush : ∀ h : Heap, pushCells h scope.names = h.push { cls := .type "cell", data := .cell none })
    (h : Q { scope := scope, locals := s.heap.objs.size, globals := outer.globals, cells := (x, s.heap.objs.size + 1) :: cl, qual := qual, func := none, code := outer.code, frame := outer.frame, builtins := outer.builtins }
      { s with heap := (s.heap.push { cls := .type "dict", data := .dict #[] }).push { cls := .type "cell", data := .cell none } }) :
    wpAny (model prog w) A (newFunctionEnv scope outer.globals cl [] qual none .none (some outer)) Q E s := by
  simp only [newFunctionEnv, Option.isSome_some, if_true]
  refine wpAny_bind (wpAny_alloc ?_)
  refine wpAny_bind (wpAny_layCells _ (fun name kind cells => by cases hkc : kind == NameKind.cell <;> simp [hkc]) _ _ _ _ ?_)
  rw [hcells, hpush, show ({ s with heap := s.heap.push { cls := .type "dict", data := .dict #[] } } : Shared).heap.objs.size = s.heap.objs.size + 1 from Heap.size_push ..]
  refine wpAny_bind ?_
  rw [List.forIn_nil]
  exact wpAny_pure (wpAny_pure h)
end
end
section
open PySem PySem.W PySem.Calls PyProof.Rows PyProof.V Mine
open PyProof.Rows.LCg
set_option maxRecDepth 100000
section
variable {prog : Program} {w : World} {A : Around} {E : Value → Shared → Prop} {s : Shared} {env : Env} {h₀ : Heap} {L : Addr} {m : Str → Option Value}
/-- a turn's end -/
inductive EndC (h₀ : Heap) (L : Addr) (m : Str → Option Value) (s₁ : Shared) (I C K D : Addr) (oI oC oK : Obj) (ys : List Value) (P : List (Addr × Obj) → Prop) (s' : Shared) : Prop where
  | intro (h' : Heap) (tk' : Nat) (nx' : List (Addr × Obj)) : s' = { s₁ with heap := h', toks := tk' } → Fr h₀ L h' m → News h₀ L h' ((I, oI) :: (C, oC) :: (K, oK) :: (D, lst ys) :: nx') → Off4 I C K D nx' → P nx' → EndC h₀ L m s₁ I C K D oI oC oK ys P s'
/-- the source of a comprehension whose loop name is a cell -/
inductive SrcC (prog : Program) (w : World) (A : Around) (h₀ : Heap) (L : Addr) (m : Str → Option Value) (env : Env) (ct elt : Expr) (x : Str) (scope : Scope) (cl : List (Str × Addr)) (J : Nat → List Value → List (Addr × Obj) → Prop) (Q : Value → Shared → Prop) (xv : Value) (s₁ : Shared) : Prop where
  | intro (ax : Addr) (its : List Value) (k : Nat) (news : List (Addr × Obj)) : xv = .ref ax → A.handled = none → Fr h₀ L s₁.heap m → News h₀ L s₁.heap news → (∀ i ys nx, J i ys nx → (ax, listOf (List.toArray its) k) ∈ nx) → its.length ≤ sizeLine → J 0 [] news →
      (∀ i v ys nx I oI C oC K oK D h tk (E' : Value → Shared → Prop), its[i]? = some v → J i ys nx → oK.data = .cell (some v) → Fr h₀ L h m → News h₀ L h ((I, oI) :: (C, oC) :: (K, oK) :: (D, lst ys) :: nx) → Off4 I C K D nx → ((@Ne Nat I C) ∧ (@Ne Nat I K) ∧ (@Ne Nat I D) ∧ (@Ne Nat C K) ∧ (@Ne Nat C D) ∧ (@Ne Nat K D)) →
        wpAny (model prog w) A (isTrue ct (compEnvC scope ((x, K) :: cl) C env) (eval ct (compEnvC scope ((x, K) :: cl) C env))) (fun ok s' => if ok = true then
            wpAny (model prog w) A (eval elt (compEnvC scope ((x, K) :: cl) C env)) (fun y s' => EndC h₀ L m s₁ I C K D oI oC oK ys (J (i + 1) (ys ++ [y])) s') E' s'
            else EndC h₀ L m s₁ I C K D oI oC oK ys (J (i + 1) ys) s') E' { s₁ with heap := h, toks := tk }) →
      (∀ D ys nx h tk, J its.length ys nx → Fr h₀ L h m → News h₀ L h ((D, lst ys) :: nx) → (∀ p ∈ nx, p.1 ≠ D) → Q (.ref D) { s₁ with heap := h, toks := tk }) → SrcC prog w A h₀ L m env ct elt x scope cl J Q xv s₁
/-- between the turns -/
inductive LoopC (h₀ : Heap) (L : Addr) (m : Str → Option Value) (s₁ : Shared) (J : Nat → List Value → List (Addr × Obj) → Prop) (I C K D ax : Addr) (n : Nat) (k' : Nat) (s' : Shared) : Prop where
  | intro (h' : Heap) (tk i : Nat) (ys : List Value) (m' : Str → Option Value) (news' : List (Addr × Obj)) (oK : Obj) (v0 : Option Value) : s' = { s₁ with heap := h', toks := tk } → i ≤ n → k' = n + 1 - i → ys.length ≤ i → h'.IsListIter I ax i → Fr h₀ L h' m → h'.Ns C m' → h'.get? K = some oK → oK.data = .cell v0 → News h₀ L h' ((D, lst ys) :: news') → Off4 I C K D news' → J i ys news' → LoopC h₀ L m s₁ J I C K D ax n k' s'
theorem step_k {n i : Nat} (h : i < n) : n + 1 - (i + 1) < n + 1 - i := by rw [Nat.add_sub_add_right]; exact Nat.sub_lt_sub_right (Nat.le_of_lt h) (Nat.lt_succ_self n)
theorem ListComp_cellT {ct elt iter : Expr} {x : Str} {px : Pos} {scope : Scope} {cl : List (Str × Addr)} {pos : Pos} {Q : Value → Shared → Prop} (_F₀ : Fr h₀ L s.heap m) (J : Nat → List Value → List (Addr × Obj) → Prop)
    (hclos : closureFor scope env = pure cl) (hkind : scope.kind = .function) (hnames : ∀ y ∈ scope.names, y.2 = .local → scope.names.lookup y.1 = some .local)
    (hcells : ∀ n, cellsFrom n scope.names cl = (x, n) :: cl) (hpush : ∀ h : Heap, pushCells h scope.names = h.push { cls := .type "cell", data := .cell none })
    (hx : (relabel scope env).names.lookup x = some .cell)
    (h : wpAny (model prog w) A (eval iter env) (SrcC prog w A h₀ L m env ct elt x scope cl J Q) E s)
    (hs : ∀ x, foldedSetIterable iter env x = pure x := by intro _; rfl) :
    wpAny (model prog w) A (eval (.ListComp elt [⟨.Name x px, iter, [ct], 0⟩] scope pos) env) Q E s := by
  rw [eval_ListComp]
  refine wpAny_comprehension_free (use := none) rfl hs hclos hkind hnames (wpAny_mono h (fun xv s₁ h₁ => ?_) fun _ _ e => e)
  obtain ⟨ax, its, k, news, rfl, hh, F, N, hJl, hsz, hJ, turn, done⟩ := h₁
  have hls : s₁.heap.IsList ax its.toArray := ⟨_, (N _ (hJl _ _ _ hJ)).1, rfl, k, rfl⟩
  have hlt : ax < s₁.heap.objs.size := Heap.lt_size (N _ (hJl _ _ _ hJ)).1
  refine wpAny_pyIter_list hls ?_
  have W := Walks.list (prog := prog) (w := w) (A := A) hh s₁.heap.objs.size ax (Nat.ne_of_lt hlt) its.toArray
  rw [show its.toArray.size = its.length from by simp] at W
  refine wpAny_newObj_type (funEnv_cell (s := ⟨_, _, _, _, _⟩) hkind hcells hpush ?_)
  obtain ⟨I, hIe⟩ : ∃ I, I = s₁.heap.objs.size := ⟨_, rfl⟩
  obtain ⟨HI, hHI⟩ : ∃ H, H = s₁.heap.push { cls := .type "list_iterator", data := .fields #[.ref ax, .int 0 0] } := ⟨_, rfl⟩
  obtain ⟨HD, hHD⟩ : ∃ H, H = HI.push { cls := .type "list", data := .seq #[] } := ⟨_, rfl⟩
  obtain ⟨HC, hHC⟩ : ∃ H, H = HD.push { cls := .type "dict", data := .dict #[] } := ⟨_, rfl⟩
  obtain ⟨HK, hHK⟩ : ∃ H, H = HC.push { cls := .type "cell", data := .cell none } := ⟨_, rfl⟩
  have sI : HI.objs.size = I + 1 := by rw [hHI, Heap.size_push, hIe]
  have sD : HD.objs.size = I + 2 := by rw [hHD, Heap.size_push, sI]
  have sC : HC.objs.size = I + 3 := by rw [hHC, Heap.size_push, sD]
  have old : ∀ b o, s₁.heap.get? b = some o → HK.get? b = some o := fun b o e => by
    rw [hHK, hHC, hHD, hHI]
    exact Heap.get?_push_of_some _ (Heap.get?_push_of_some _ (Heap.get?_push_of_some _ (Heap.get?_push_of_some _ e)))
  have gI : HK.get? I = some { cls := .type "list_iterator", data := .fields #[.ref ax, .int 0 0] } := by
    rw [hHK, hHC, hHD]
    refine Heap.get?_push_of_some _ (Heap.get?_push_of_some _ (Heap.get?_push_of_some _ ?_))
    rw [hHI, hIe]; exact Heap.get?_push_size _ rfl
  have gD : HK.get? (I + 1) = some (lst []) := by
    rw [hHK, hHC]
    refine Heap.get?_push_of_some _ (Heap.get?_push_of_some _ ?_)
    rw [hHD, ← sI]; exact Heap.get?_push_size _ rfl
  have gC : HK.Ns (I + 2) (fun _ => none) := by
    have h1 : (HD.push { cls := .type "dict", data := .dict #[] }).Ns HD.objs.size (fun _ => none) := Heap.Ns.new HD (.type "dict")
    rw [sD, ← hHC] at h1
    rw [hHK]
    exact h1.at' fun o e => Heap.get?_push_of_some _ e
  have gK : HK.get? (I + 3) = some { cls := .type "cell", data := .cell none } := by
    rw [hHK, ← sC]; exact Heap.get?_push_size _ rfl
  have fresh : ∀ a, I ≤ a → h₀.get? a = none := fun a ha => by
    cases e : h₀.get? a with
    | none => rfl
    | some o' => have := Heap.lt_size (F.keep a o' e); rw [← hIe] at this; exact absurd this (Nat.not_lt.mpr ha)
  have hLI : L < I := by rw [hIe]; exact F.ns.lt
  rw [← hIe] at W
  have nLI : L ≠ I := Nat.ne_of_lt hLI
  have nLD : I + 1 ≠ L := Nat.ne_of_gt (Nat.lt_of_lt_of_le hLI (Nat.le_add_right _ _))
  have nLC : I + 2 ≠ L := Nat.ne_of_gt (Nat.lt_of_lt_of_le hLI (Nat.le_add_right _ _))
  have nLK : I + 3 ≠ L := Nat.ne_of_gt (Nat.lt_of_lt_of_le hLI (Nat.le_add_right _ _))
  have nI1 : I ≠ I + 1 := Nat.ne_of_lt (Nat.lt_succ_self _)
  have nI2 : I ≠ I + 2 := Nat.ne_of_lt (Nat.lt_add_of_pos_right (by decide))
  have nI3 : I ≠ I + 3 := Nat.ne_of_lt (Nat.lt_add_of_pos_right (by decide))
  have nCK : I + 2 ≠ I + 3 := Nat.ne_of_lt (Nat.lt_succ_self (I + 2))
  have nCD : I + 2 ≠ I + 1 := Nat.ne_of_gt (Nat.lt_succ_self (I + 1))
  have nKD : I + 3 ≠ I + 1 := Nat.ne_of_gt (Nat.lt_add_of_pos_right (n := I + 1) (k := 2) (by decide))
  have hnI : ∀ p ∈ news, p.1 < I := fun p hp => by rw [hIe]; exact Heap.lt_size (N p hp).1
  have off₀ : Off4 I (I + 2) (I + 3) (I + 1) news := fun p hp => by
    have := hnI p hp
    exact ⟨Nat.ne_of_lt this, Nat.ne_of_lt (Nat.lt_of_lt_of_le this (Nat.le_add_right _ _)), Nat.ne_of_lt (Nat.lt_of_lt_of_le this (Nat.le_add_right _ _)), Nat.ne_of_lt (Nat.lt_of_lt_of_le this (Nat.le_add_right _ _))⟩
  have goal : ∀ (I' D' C' K' : Addr) (s₃ : Shared), I' = I → D' = I + 1 → C' = I + 2 → K' = I + 3 → s₃ = { s₁ with heap := HK } → codeAny (model prog w) A (.compStart (.ListComp elt [⟨.Name x px, iter, [ct], 0⟩] scope pos) 0 (.ref I') (.ref D') (compEnvC scope ((x, K') :: cl) C' env)) (compPost (model prog w) A E none Q (.ref D') C') s₃ := by
    intro I' D' C' K' s₃ e1 e2 e3 e4 e5
    rw [e1, e2, e3, e4, e5]
    have loop : codeAny (model prog w) A (.compLoop (.ListComp elt [⟨.Name x px, iter, [ct], 0⟩] scope pos) 0 (.ref I) (.ref (I + 1)) (compEnvC scope ((x, I + 3) :: cl) (I + 2) env)) (compPost (model prog w) A E none Q (.ref (I + 1)) (I + 2)) { s₁ with heap := HK } := by
      refine codeAny_compLoop_tests
        (LoopC h₀ L m s₁ J I (I + 2) (I + 3) (I + 1) ax its.length) ?_ (its.length + 1)
        ⟨HK, s₁.toks, 0, [], _, news, _, _, rfl, Nat.zero_le _, rfl, Nat.le_refl _, ⟨_, gI, rfl, rfl⟩, F.keeps old, gC, gK, rfl, fun p hp => ?_, off₀, hJ⟩
      · rintro k' s' ⟨h', tk, i, ys, m', news', oK, v0, rfl, hi, rfl, hyl, hit, F', hn', hK, hKd, N', off', hJ'⟩
        have hlist : h'.IsList ax its.toArray := ⟨_, (N' _ (.tail _ (hJl _ _ _ hJ'))).1, rfl, k, rfl⟩
        by_cases hlt : i < its.length
        · refine W.item i _ _ _ hlt ⟨hit, hlist⟩ fun v h₂ tk₂ hPv hst₂ hk₂ => ?_
          have keep₂ : ∀ b o, b ≠ I → h'.get? b = some o → h₂.get? b = some o := fun b o hb e => hk₂ b o (by simpa using hb) e
          have hK₂ := keep₂ (I + 3) _ nI3.symm hK
          refine wpAny_assign_Name (wpAny_storeName_cell (by show (relabel scope env).kind = .function; exact hkind) hx (by show List.lookup x ((x, I + 3) :: cl) = _; simp) ⟨oK, hK₂, hKd⟩ fun h₃ hv₃ hs₃ => ?_)
          refine wpAny_tests_one ?_
          obtain ⟨oK₃, hK₃, hKd₃⟩ := hv₃
          obtain ⟨oI, hI₂, hIc, hId⟩ := hst₂.1
          have hI₃ : h₃.get? I = some oI := hs₃.extBut _ _ nI3 hI₂
          have hn₃ : h₃.Ns (I + 2) m' := (hn'.at' fun o e => keep₂ _ o nI2.symm e).at' fun o e => hs₃.extBut _ _ nCK e
          obtain ⟨oC, heC, hoC⟩ := ns_obj hn₃
          have F₃ : Fr h₀ L h₃ m := (fr_but F' hk₂ nLI (fresh _ (Nat.le_refl _))).change hs₃ nLK (fresh _ (Nat.le_add_right _ _))
          have N₂ : News h₀ L h₂ ((I + 1, lst ys) :: news') := news_but N' hk₂ fun p hp => by
            rcases List.mem_cons.mp hp with rfl | hp
            · exact Nat.ne_of_gt (Nat.lt_succ_self I)
            · exact (off' p hp).1
          have N₃ : News h₀ L h₃ ((I, oI) :: (I + 2, oC) :: (I + 3, oK₃) :: (I + 1, lst ys) :: news') := fun p hp => by
            rcases List.mem_cons.mp hp with rfl | hp
            · exact ⟨hI₃, Nat.ne_of_gt hLI, fresh _ (Nat.le_refl _)⟩
            · rcases List.mem_cons.mp hp with rfl | hp
              · exact ⟨heC, Nat.ne_of_gt (Nat.lt_of_lt_of_le hLI (Nat.le_add_right _ _)), fresh _ (Nat.le_add_right _ _)⟩
              · rcases List.mem_cons.mp hp with rfl | hp
                · exact ⟨hK₃, Nat.ne_of_gt (Nat.lt_of_lt_of_le hLI (Nat.le_add_right _ _)), fresh _ (Nat.le_add_right _ _)⟩
                · refine ⟨hs₃.extBut _ _ ?_ (N₂ p hp).1, (N₂ p hp).2⟩
                  rcases List.mem_cons.mp hp with rfl | hp
                  · exact nKD.symm
                  · exact (off' p hp).2.2.1
          refine wpAny_mono (turn i v ys news' I oI (I + 2) oC (I + 3) oK₃ (I + 1) h₃ tk₂ _ (by simpa using hPv) hJ' hKd₃ F₃ N₃ off' ⟨nI2, nI3, nI1, nCK, nCD, nKD⟩) (fun ok s₄ hT => ?_) fun _ _ e => e
          cases ok with
          | true =>
            simp only [if_true] at hT ⊢
            refine wpAny_mono hT (fun y s₄ h₄ => ?_) fun _ _ e => e
            obtain ⟨h₄, tk₄, nx₄, rfl, F₄, N₄, off₄, J₄⟩ := h₄
            have zI := (N₄ _ (.head _)).1
            have zC := (N₄ _ (.tail _ (.head _))).1
            have zK := (N₄ _ (.tail _ (.tail _ (.head _)))).1
            have zD := N₄ _ (.tail _ (.tail _ (.tail _ (.head _))))
            refine append_at (hsz := by show ys.toArray.size ≤ sizeLine; rw [List.size_toArray]; exact Nat.le_trans (Nat.le_trans hyl hi) hsz) zD.1 fun h₅ hs₅ hD₅ => ?_
            refine ⟨its.length + 1 - (i + 1), step_k hlt, h₅, tk₄, i + 1, ys ++ [y], _, nx₄, oK₃, _, rfl, hlt, rfl, by rw [List.length_append]; exact Nat.succ_le_succ hyl, ⟨oI, hs₅.extBut _ _ nI1 zI, hIc, hId⟩, F₄.change hs₅ zD.2.1 zD.2.2,
              (hoC.ns zC).at' fun o e => hs₅.extBut _ _ nCD e, hs₅.extBut _ _ nKD zK, hKd₃, fun p hp => ?_, off₄, J₄⟩
            rcases List.mem_cons.mp hp with rfl | hp
            · exact ⟨hD₅.trans (congrArg some (lst_snoc ys y)), zD.2⟩
            · have z := N₄ p (.tail _ (.tail _ (.tail _ (.tail _ hp))))
              exact ⟨hs₅.extBut _ _ (off₄ p hp).2.2.2 z.1, z.2⟩
          | false =>
            simp only [Bool.false_eq_true, if_false] at hT ⊢
            obtain ⟨h₄, tk₄, nx₄, rfl, F₄, N₄, off₄, J₄⟩ := hT
            have zI := (N₄ _ (.head _)).1
            have zC := (N₄ _ (.tail _ (.head _))).1
            have zK := (N₄ _ (.tail _ (.tail _ (.head _)))).1
            have zD := N₄ _ (.tail _ (.tail _ (.tail _ (.head _))))
            refine ⟨its.length + 1 - (i + 1), step_k hlt, h₄, tk₄, i + 1, ys, _, nx₄, oK₃, _, rfl, hlt, rfl, Nat.le_succ_of_le hyl, ⟨oI, zI, hIc, hId⟩, F₄,
              (hoC.ns zC), zK, hKd₃, fun p hp => ?_, off₄, J₄⟩
            rcases List.mem_cons.mp hp with rfl | hp
            · exact zD
            · exact N₄ p (.tail _ (.tail _ (.tail _ (.tail _ hp))))
        · obtain rfl : i = its.length := Nat.le_antisymm hi (Nat.not_lt.mp hlt)
          refine W.done _ _ _ ⟨hit, hlist⟩ fun h₂ tk₂ hk₂ => ?_
          have N₂ : News h₀ L h₂ ((I + 1, lst ys) :: news') := news_but N' hk₂ fun p hp => by
            rcases List.mem_cons.mp hp with rfl | hp
            · exact Nat.ne_of_gt (Nat.lt_succ_self I)
            · exact (off' p hp).1
          have F₂ : Fr h₀ L h₂ m := fr_but F' hk₂ nLI (fresh _ (Nat.le_refl _))
          refine ⟨m', hn'.at' fun o e => hk₂ _ o (by simpa using nI2.symm) e, fun h'' hs'' => done (I + 1) ys news' h'' tk₂ hJ' (F₂.change hs'' nLC (fresh _ (Nat.le_add_right _ _))) (fun p hp => ⟨hs''.extBut _ _ ?_ (N₂ p hp).1, (N₂ p hp).2⟩) fun p hp => (off' p hp).2.2.2⟩
          rcases List.mem_cons.mp hp with rfl | hp
          · exact nCD.symm
          · exact (off' p hp).2.1
      · rcases List.mem_cons.mp hp with rfl | hp
        · exact ⟨gD, Nat.ne_of_gt (Nat.lt_of_lt_of_le hLI (Nat.le_add_right _ _)), fresh _ (Nat.le_add_right _ _)⟩
        · exact ⟨old _ _ (N p hp).1, (N p hp).2⟩
    exact codeAny_compStart_list loop (W.self 0 _ _ _ ⟨⟨_, gI, rfl, rfl⟩, hls.at fun o e => old _ _ e⟩ loop)
  subst hHK hHC hHD hHI
  exact goal _ _ _ _ _ hIe.symm sI sD (congrArg (· + 1) sD) rfl
end
end
section
open PySem PySem.W PySem.Calls PyProof.Rows PyProof.V Mine
open PyProof.Rows.LCg
set_option maxRecDepth 100000
section
variable {prog : Program} {w : World} {A : Around} {E : Value → Shared → Prop} {R : Result → Shared → Prop} {s : Shared} {env : Env} {h₀ : Heap} {L : Addr} {m : Str → Option Value}
noncomputable abbrev LC2 (elt t1 i1 t2 i2 ct : Expr) (scope : Scope) (pos : Pos) : Expr := .ListComp elt [⟨t1, i1, [], 0⟩, ⟨t2, i2, [ct], 0⟩] scope pos
theorem turn_outer (elt t1 i1 t2 i2 ct : Expr) (scope : Scope) (pos : Pos) (it acc : Value) (env : Env) :
    compTurn (LC2 elt t1 i1 t2 i2 ct scope pos) 0 it acc env = (do
      standAt i1.pos
      match ← pyNext it with
      | none => pure (.done .next)
      | some v =>
        letOwnedTupleGo t1 it v
        assign t1 env v
        let mut ok := true
        for c in ([] : List Expr) do
          if ok then ok ← isTrue c env (eval c env)
        if ok then
          let x ← eval i2 env
          standAt i2.pos
          let x ← foldedSetIterable i2 env x
          let _ ← runOwn (.compStart (LC2 elt t1 i1 t2 i2 ct scope pos) 1 (← holding [x] (pyIter x)) acc env) env
        again (.compLoop (LC2 elt t1 i1 t2 i2 ct scope pos) 0 it acc env)) := by rfl
theorem turn_inner (elt t1 i1 t2 i2 ct : Expr) (scope : Scope) (pos : Pos) (it acc : Value) (env : Env) :
    compTurn (LC2 elt t1 i1 t2 i2 ct scope pos) 1 it acc env = (do
      standAt i2.pos
      match ← pyNext it with
      | none => pure (.done .next)
      | some v =>
        letOwnedTupleGo t2 it v
        assign t2 env v
        let mut ok := true
        for c in [ct] do
          if ok then ok ← isTrue c env (eval c env)
        if ok then
          (do let _ ← call (.builtin "list.append") [acc, ← eval elt env])
        again (.compLoop (LC2 elt t1 i1 t2 i2 ct scope pos) 1 it acc env)) := by rfl
theorem start_inner {elt t1 i1 t2 i2 ct : Expr} {scope : Scope} {pos : Pos} {it acc : Value}
    (h0 : codeAny (model prog w) A (.compLoop (LC2 elt t1 i1 t2 i2 ct scope pos) 1 it acc env) R s)
    (h : wpAny (model prog w) A (pyIter it) (fun it' s' => codeAny (model prog w) A (.compLoop (LC2 elt t1 i1 t2 i2 ct scope pos) 1 it' acc env) R s')
      (notedBy (model prog w) A env fun x s' => R (.error x) s') s) :
    codeAny (model prog w) A (.compStart (LC2 elt t1 i1 t2 i2 ct scope pos) 1 it acc env) R s := by
  refine codeAny_of_tree ?_
  show wpAny _ _ ((compStart (LC2 elt t1 i1 t2 i2 ct scope pos) 1 it acc env).onRaise (fun x => do noteFrame x env; standAt theWindowsPlace)) _ _ s
  refine wpAny_notedAt ?_
  unfold compStart
  show wpAny _ _ (ask >>= _) _ _ s
  refine wpAny_bind (wpAny_askSetting (wpAny_ite ?_))
  split
  · first
      | exact wpAny_bind (wpAny_pure (wpAny_pure (And.intro rfl h0)))
      | exact wpAny_pure (And.intro rfl h0)
  · first
      | exact wpAny_bind (wpAny_rule (wpAny_bind (wpAny_standAt (wpAny_bind (wpAny_mono h (fun it' s' h' => wpAny_pure (And.intro rfl h')) fun _ _ x => x)))))
      | (refine wpAny_bind (wpAny_rule ?_); show wpAny _ _ (standAt i2.pos >>= _) _ _ s; exact wpAny_bind (wpAny_standAt (wpAny_bind (wpAny_mono h (fun it' s' h' => wpAny_pure (And.intro rfl h')) fun _ _ x => x))))
theorem loop_inner {elt t1 i1 t2 i2 ct : Expr} {scope : Scope} {pos : Pos} {it acc : Value} (I : Nat → Shared → Prop)
    (turn : ∀ n s, I n s → wpAny (model prog w) A (pyNext it) (fun r s₁ => match r with
      | none => R (.ok .next) s₁
      | some v => wpAny (model prog w) A (assign t2 env v) (fun _ s₂ =>
          wpAny (model prog w) A (isTrue ct env (eval ct env)) (fun ok s₃ =>
            if ok = true then wpAny (model prog w) A (eval elt env) (fun x s₄ =>
              wpAny (model prog w) A (call (.builtin "list.append") [acc, x]) (fun _ s₅ => ∃ m, m < n ∧ I m s₅) (notedBy (model prog w) A env fun e s' => R (.error e) s') s₄) (notedBy (model prog w) A env fun e s' => R (.error e) s') s₃
            else ∃ m, m < n ∧ I m s₃) (notedBy (model prog w) A env fun e s' => R (.error e) s') s₂) (notedBy (model prog w) A env fun e s' => R (.error e) s') s₁) (notedBy (model prog w) A env fun e s' => R (.error e) s') s)
    (n : Nat) (h : I n s) (ht : ∀ v, letOwnedTupleGo t2 it v = pure () := by intro _; rfl) :
    codeAny (model prog w) A (.compLoop (LC2 elt t1 i1 t2 i2 ct scope pos) 1 it acc env) R s := by
  refine codeAny_loop rfl I (fun n s hI => ?_) n h
  show wpAny _ A ((compTurn (LC2 elt t1 i1 t2 i2 ct scope pos) 1 it acc env).onRaise (fun x => do noteFrame x env; theTreesLotGoes x)) _ _ s
  refine wpAny_noted ?_
  rw [turn_inner]
  refine wpAny_bind (wpAny_standAt (wpAny_bind (wpAny_mono (turn n s hI) (fun r s₁ h₁ => ?_) fun _ _ h' => h')))
  cases r with
  | none => exact wpAny_pure h₁
  | some v =>
    refine wpAny_bind (wpAny_of_eq (ht v) ?_)
    refine wpAny_bind (wpAny_mono h₁ (fun _ s₂ h₂ => wpAny_bind (wpAny_mono (wpAny_tests_one h₂) (fun ok s₃ h₃ => ?_) fun _ _ h' => h')) fun _ _ h' => h')
    cases ok with
    | false => exact wpAny_pure ⟨rfl, h₃⟩
    | true =>
      exact wpAny_bind (wpAny_bind (wpAny_mono h₃ (fun x s₄ h₄ => wpAny_bind (wpAny_mono h₄ (fun _ s₅ h₅ => wpAny_pure (wpAny_pure ⟨rfl, h₅⟩)) fun _ _ h' => h')) fun _ _ h' => h'))
theorem loop_outer {elt t1 i1 t2 i2 ct : Expr} {scope : Scope} {pos : Pos} {it acc : Value} (I : Nat → Shared → Prop)
    (turn : ∀ n s, I n s → wpAny (model prog w) A (pyNext it) (fun r s₁ => match r with
      | none => R (.ok .next) s₁
      | some v => wpAny (model prog w) A (assign t1 env v) (fun _ s₂ =>
          wpAny (model prog w) A (eval i2 env) (fun x s₃ => wpAny (model prog w) A (pyIter x) (fun it2 s₄ =>
            codeAny (model prog w) A (.compStart (LC2 elt t1 i1 t2 i2 ct scope pos) 1 it2 acc env) (fun r s₅ => match r with
              | .ok _ => ∃ m, m < n ∧ I m s₅
              | .error e => cameBackBy (model prog w) A env (notedBy (model prog w) A env fun e s' => R (.error e) s') e s₅) s₄)
            (notedBy (model prog w) A env fun e s' => R (.error e) s') s₃) (notedBy (model prog w) A env fun e s' => R (.error e) s') s₂) (notedBy (model prog w) A env fun e s' => R (.error e) s') s₁) (notedBy (model prog w) A env fun e s' => R (.error e) s') s)
    (n : Nat) (h : I n s) (hs : ∀ x, foldedSetIterable i2 env x = pure x) (ht : ∀ v, letOwnedTupleGo t1 it v = pure () := by intro _; rfl) :
    codeAny (model prog w) A (.compLoop (LC2 elt t1 i1 t2 i2 ct scope pos) 0 it acc env) R s := by
  refine codeAny_loop rfl I (fun n s hI => ?_) n h
  show wpAny _ A ((compTurn (LC2 elt t1 i1 t2 i2 ct scope pos) 0 it acc env).onRaise (fun x => do noteFrame x env; theTreesLotGoes x)) _ _ s
  refine wpAny_noted ?_
  rw [turn_outer]
  refine wpAny_bind (wpAny_standAt (wpAny_bind (wpAny_mono (turn n s hI) (fun r s₁ h₁ => ?_) fun _ _ h' => h')))
  cases r with
  | none => exact wpAny_pure h₁
  | some v =>
    refine wpAny_bind (wpAny_of_eq (ht v) ?_)
    refine wpAny_bind (wpAny_mono h₁ (fun _ s₂ h₂ => wpAny_bind (wpAny_mono (wpAny_tests_nil (Q := fun ok s₃ => ok = true ∧ s₃ = s₂) ⟨rfl, rfl⟩) (fun ok s₃ h₃ => ?_) fun _ _ h' => h')) fun _ _ h' => h')
    obtain ⟨rfl, rfl⟩ := h₃
    refine wpAny_bind (wpAny_mono h₂ (fun x s₄ h₄ => wpAny_bind (wpAny_standAt (wpAny_bind (wpAny_of_eq (hs x) (wpAny_bind (wpAny_holding (wpAny_mono h₄ (fun it2 s₅ h₅ => ?_) fun _ _ h' => h'))))))) fun _ _ h' => h')
    refine wpAny_bind (wpAny_runOwn (codeAny_mono h₅ fun r s₆ h₆ => ?_))
    cases r with
    | ok f => exact wpAny_pure ⟨rfl, h₆⟩
    | error e => exact h₆
end
/-- apart from the two iterators, the loop's names and the list that is made -/
noncomputable def Off22 (I2 I C D : Addr) (nx : List (Addr × Obj)) : Prop := ∀ p ∈ nx, p.1 ≠ I2 ∧ p.1 ≠ I ∧ p.1 ≠ C ∧ p.1 ≠ D
section
variable {prog : Program} {w : World} {A : Around} {E : Value → Shared → Prop} {s : Shared} {env : Env} {h₀ : Heap} {L : Addr} {m : Str → Option Value}
/-- a turn's end -/
inductive End2 (h₀ : Heap) (L : Addr) (m : Str → Option Value) (s₁ : Shared) (I2 I C D : Addr) (oI2 oI oC : Obj) (ys : List Value) (P : List (Addr × Obj) → Prop) (s' : Shared) : Prop where
  | intro (h' : Heap) (tk' : Nat) (nx' : List (Addr × Obj)) : s' = { s₁ with heap := h', toks := tk' } → Fr h₀ L h' m → News h₀ L h' ((I2, oI2) :: (I, oI) :: (C, oC) :: (D, lst ys) :: nx') → Off22 I2 I C D nx' → P nx' → End2 h₀ L m s₁ I2 I C D oI2 oI oC ys P s'
/-- the inner source -/
inductive In2 (prog : Program) (w : World) (A : Around) (h₀ : Heap) (L : Addr) (m : Str → Option Value) (env : Env) (ct elt : Expr) (x y : Str) (scope : Scope) (cl : List (Str × Addr)) (Ji : Nat → List Value → List (Addr × Obj) → Prop) (Jn : List Value → List (Addr × Obj) → Prop) (xi : Value) (s₁ : Shared) (I C D : Addr) (oI oC : Obj) (ys : List Value) (nx : List (Addr × Obj)) (xv2 : Value) (s₂ : Shared) : Prop where
  | intro (r2 : Addr) (a2 b2 c2 : Int) (t2 u2 v2 : Tok) (n2 : Nat) (h' : Heap) (tk' : Nat) : xv2 = .ref r2 → s₂ = { s₁ with heap := h', toks := tk' } → Fr h₀ L h' m → News h₀ L h' ((I, oI) :: (C, oC) :: (D, lst ys) :: nx) → IsRange h' r2 a2 b2 c2 t2 u2 v2 → Builtin.Range.small a2 b2 c2 = true → Builtin.Range.rangeSize a2 b2 c2 = ((n2 : Nat) : Int) →
      (∀ j tj ys nx I2 oI2 oC m₃ h tk (E' : Value → Shared → Prop), j < n2 → Ji j ys nx → NsObj oC m₃ → m₃ x = some xi → m₃ y = some (.int (a2 + (j : Int) * c2) tj) → Fr h₀ L h m → News h₀ L h ((I2, oI2) :: (I, oI) :: (C, oC) :: (D, lst ys) :: nx) → Off22 I2 I C D nx → ((@Ne Nat I2 I) ∧ (@Ne Nat I2 C) ∧ (@Ne Nat I2 D) ∧ (@Ne Nat I C) ∧ (@Ne Nat I D) ∧ (@Ne Nat C D)) →
        wpAny (model prog w) A (isTrue ct (compEnvC scope cl C env) (eval ct (compEnvC scope cl C env))) (fun ok s' => if ok = true then
          wpAny (model prog w) A (eval elt (compEnvC scope cl C env)) (fun y s' => End2 h₀ L m s₁ I2 I C D oI2 oI oC ys (Ji (j + 1) (ys ++ [y])) s') E' s'
          else End2 h₀ L m s₁ I2 I C D oI2 oI oC ys (Ji (j + 1) ys) s') E' { s₁ with heap := h, toks := tk }) →
      (∀ ys nx, Ji n2 ys nx → Jn ys nx) → In2 prog w A h₀ L m env ct elt x y scope cl Ji Jn xi s₁ I C D oI oC ys nx xv2 s₂
inductive Src2 (prog : Program) (w : World) (A : Around) (h₀ : Heap) (L : Addr) (m : Str → Option Value) (env : Env) (ct elt i2 : Expr) (x y : Str) (scope : Scope) (cl : List (Str × Addr)) (J : Nat → Nat → List Value → List (Addr × Obj) → Prop) (mf : Addr → Str → Option Value) (Fin : Addr → Shared → Prop) (xv : Value) (s₁ : Shared) : Prop where
  | intro (r : Addr) (a b c : Int) (t u v : Tok) (n : Nat) (news : List (Addr × Obj)) : xv = .ref r → A.handled = none → Fr h₀ L s₁.heap m → News h₀ L s₁.heap news → IsRange s₁.heap r a b c t u v → Builtin.Range.small a b c = true → Builtin.Range.rangeSize a b c = ((n : Nat) : Int) → J 0 0 [] news →
      (∀ i t ys nx I oI C oC D m₂ h tk (E' : Value → Shared → Prop), i < n → J i 0 ys nx → NsObj oC m₂ → m₂ x = some (.int (a + (i : Int) * c) t) → Fr h₀ L h m → News h₀ L h ((I, oI) :: (C, oC) :: (D, lst ys) :: nx) → Off3 I C D nx →
        wpAny (model prog w) A (eval i2 (compEnvC scope cl C env)) (In2 prog w A h₀ L m env ct elt x y scope cl (J i) (J (i + 1) 0) (.int (a + (i : Int) * c) t) s₁ I C D oI oC ys nx) E' { s₁ with heap := h, toks := tk }) →
      (∀ D ys nx h tk, J n 0 ys nx → Fr h₀ L h (mf D) → News h₀ L h ((D, lst ys) :: nx) → (∀ p ∈ nx, p.1 ≠ D) → Fin D { s₁ with heap := h, toks := tk }) → Src2 prog w A h₀ L m env ct elt i2 x y scope cl J mf Fin xv s₁
/-- between the outer turns -/
inductive LoopO (h₀ : Heap) (L : Addr) (m : Str → Option Value) (s₁ : Shared) (J : Nat → Nat → List Value → List (Addr × Obj) → Prop) (I C D : Addr) (a c : Int) (n : Nat) (k' : Nat) (s' : Shared) : Prop where
  | intro (h' : Heap) (tk i : Nat) (ys : List Value) (m' : Str → Option Value) (nx : List (Addr × Obj)) : s' = { s₁ with heap := h', toks := tk } → i ≤ n → k' = n + 1 - i → IsRangeIter h' I (a + (i : Int) * c) ((n : Int) - (i : Int)) c → Fr h₀ L h' m → h'.Ns C m' → News h₀ L h' ((D, lst ys) :: nx) → Off3 I C D nx → J i 0 ys nx → LoopO h₀ L m s₁ J I C D a c n k' s'
/-- between the inner turns -/
inductive LoopI (h₀ : Heap) (L : Addr) (m : Str → Option Value) (s₁ : Shared) (Ji : Nat → List Value → List (Addr × Obj) → Prop) (x : Str) (xi : Value) (I2 I C D : Addr) (oI : Obj) (a2 c2 : Int) (n2 : Nat) (k' : Nat) (s' : Shared) : Prop where
  | intro (h' : Heap) (tk j : Nat) (ys : List Value) (m' : Str → Option Value) (nx : List (Addr × Obj)) : s' = { s₁ with heap := h', toks := tk } → j ≤ n2 → k' = n2 + 1 - j → IsRangeIter h' I2 (a2 + (j : Int) * c2) ((n2 : Int) - (j : Int)) c2 → Fr h₀ L h' m → h'.Ns C m' → m' x = some xi → News h₀ L h' ((I, oI) :: (D, lst ys) :: nx) → Off22 I2 I C D nx → Ji j ys nx → LoopI h₀ L m s₁ Ji x xi I2 I C D oI a2 c2 n2 k' s'
theorem two_core {ct elt i1 i2 : Expr} {x y : Str} {px py : Pos} {scope : Scope} {cl : List (Str × Addr)} {pos : Pos} {xv : Value} {s₁ : Shared} {mf : Addr → Str → Option Value} {Fin : Addr → Shared → Prop} {J : Nat → Nat → List Value → List (Addr × Obj) → Prop} {RR : Value → Addr → Result → Shared → Prop} (hJsz : ∀ i j ys nx, J i j ys nx → ys.length ≤ 99)
    (hcell : ∀ y ∈ scope.names, y.2 ≠ .cell) (hkind : scope.kind = .function)
    (hx : scope.names.lookup x = some .local) (hy : scope.names.lookup y = some .local) (hxy : x ≠ y)
    (h : Src2 prog w A h₀ L m env ct elt i2 x y scope cl J mf Fin xv s₁)
    (hRR : ∀ D C h tk m' ys nx, Fr h₀ L h m → News h₀ L h ((D, lst ys) :: nx) → (∀ p ∈ nx, p.1 ≠ D) → h.Ns C m' → h₀.get? C = none → C ≠ L → C ≠ D → (∀ p ∈ nx, p.1 ≠ C) → (∀ h' tk', Fr h₀ L h' (mf D) → News h₀ L h' ((D, lst ys) :: nx) → Fin D { s₁ with heap := h', toks := tk' }) → RR (.ref D) C (.ok .next) { s₁ with heap := h, toks := tk })
    (hs2 : ∀ e x, foldedSetIterable i2 e x = pure x) :
    wpAny (model prog w) A (pyIter xv) (fun it s₂ => wpAny (model prog w) A (newList []) (fun acc s₃ => wpAny (model prog w) A (newFunctionEnv scope env.globals cl [] env.qual none .none (some env)) (fun cenv s₄ =>
      codeAny (model prog w) A (.compStart (LC2 elt (.Name x px) i1 (.Name y py) i2 ct scope pos) 0 it acc { cenv with scope := relabel scope env }) (RR acc cenv.locals) s₄) E s₃) E s₂) E s₁ := by
  obtain ⟨r, a, b, c, t, u, v, n, news, rfl, hh, F, N, hr, hsm, hn, hJ, turn, done⟩ := h
  refine wpAny_pyIter_range hr hsm ?_
  refine wpAny_newObj_type (wpAny_newFunctionEnv hcell (by intro y hy; simp at hy) (fun h₁ hns₁ hsb₁ => ?_) hkind)
  dsimp only at hns₁ hsb₁ ⊢
  obtain ⟨I, hIe⟩ : ∃ I, I = s₁.heap.objs.size := ⟨_, rfl⟩
  have hI₀ : h₀.get? I = none := by rw [hIe]; exact next_is_new F
  have hLI : L < I := by rw [hIe]; exact F.ns.lt
  have hnI : ∀ p ∈ news, p.1 < I := fun p hp => by rw [hIe]; exact Heap.lt_size (N p hp).1
  obtain ⟨HI, hHI⟩ : ∃ H, H = s₁.heap.push { cls := .type "range_iterator", data := .fields #[rawInt a, rawInt (Builtin.Range.rangeSize a b c), rawInt c] } := ⟨_, rfl⟩
  have sI : HI.objs.size = I + 1 := by rw [hHI, Heap.size_push, hIe]
  rw [← hHI] at hns₁ hsb₁ ⊢
  obtain ⟨HD, hHD⟩ : ∃ H, H = HI.push { cls := .type "list", dict := none, data := .seq ([] : List Value).toArray } := ⟨_, rfl⟩
  have sD : HD.objs.size = I + 2 := by rw [hHD, Heap.size_push, sI]
  rw [← hHD] at hns₁ hsb₁ ⊢
  rw [sD] at hns₁ hsb₁
  have below : ∀ k, h₀.get? (I + k) = none := fun k => by
    cases e : h₀.get? (I + k) with
    | none => rfl
    | some o' => have := Heap.lt_size (F.keep _ o' e); rw [← hIe] at this; exact absurd this (Nat.not_lt.mpr (Nat.le_add_right _ _))
  have old : ∀ b o, s₁.heap.get? b = some o → h₁.get? b = some o := fun b o e => by
    have hb : b < I := by rw [hIe]; exact Heap.lt_size e
    refine hsb₁.extBut b o (Nat.ne_of_lt (Nat.lt_of_lt_of_le hb (Nat.le_add_right _ _))) (Heap.get?_push_of_some _ ?_)
    rw [hHD, hHI]
    exact Heap.get?_push_of_some _ (Heap.get?_push_of_some _ e)
  have nLI : L ≠ I := Nat.ne_of_lt hLI
  have nDL : I + 1 ≠ L := Nat.ne_of_gt (Nat.lt_of_lt_of_le hLI (Nat.le_add_right _ _))
  have nCL : I + 2 ≠ L := Nat.ne_of_gt (Nat.lt_of_lt_of_le hLI (Nat.le_add_right _ _))
  have nID : I ≠ I + 1 := Nat.ne_of_lt (Nat.lt_succ_self _)
  have nIC : I ≠ I + 2 := Nat.ne_of_lt (Nat.lt_add_of_pos_right (by decide))
  have nCD : I + 2 ≠ I + 1 := Nat.ne_of_gt (Nat.lt_succ_self (I + 1))
  have gI : IsRangeIter h₁ I (a + ((0 : Nat) : Int) * c) ((n : Int) - ((0 : Nat) : Int)) c := by
    show h₁.get? I = some _
    refine hsb₁.extBut _ _ nIC (Heap.get?_push_of_some _ ?_)
    rw [hHD]
    refine Heap.get?_push_of_some _ ?_
    rw [hHI, hIe, hn]
    simpa using Heap.get?_push_size _ rfl
  have gD : h₁.get? (I + 1) = some (lst []) := by
    refine hsb₁.extBut _ _ nCD.symm (Heap.get?_push_of_some _ ?_)
    rw [hHD, ← sI]
    exact Heap.get?_push_size _ rfl
  have W := Walks.range (prog := prog) (w := w) hh I a c n
  have goal : ∀ (I' D' C' : Addr) (s₃ : Shared), I' = I → D' = I + 1 → C' = I + 2 → s₃ = { s₁ with heap := h₁, toks := s₁.toks + ([] : List (Str × Value)).length } → codeAny (model prog w) A (.compStart (LC2 elt (.Name x px) i1 (.Name y py) i2 ct scope pos) 0 (.ref I') (.ref D') (compEnvC scope cl C' env)) (RR (.ref D') C') s₃ := by
    intro I' D' C' s₃ e1 e2 e3 e5
    rw [e1, e2, e3, e5]
    have loop : codeAny (model prog w) A (.compLoop (LC2 elt (.Name x px) i1 (.Name y py) i2 ct scope pos) 0 (.ref I) (.ref (I + 1)) (compEnvC scope cl (I + 2) env)) (RR (.ref (I + 1)) (I + 2)) { s₁ with heap := h₁, toks := s₁.toks + ([] : List (Str × Value)).length } := by
      refine loop_outer
        (LoopO h₀ L m s₁ J I (I + 2) (I + 1) a c n) ?_ (n + 1)
        ⟨h₁, _, 0, [], _, news, rfl, Nat.zero_le _, rfl, gI, F.keeps old, hns₁, fun p hp => ?_, Off3.of fun p hp => ?_, hJ⟩ (hs2 _)
      · rintro k' s' ⟨h', tk, i, ys, m', nx, rfl, hi, rfl, hit, F', hn', N', off', hJ'⟩
        by_cases hlt : i < n
        · refine W.item i _ _ _ hlt hit fun v h₂ tk₂ hPv hst₂ hk₂ => ?_
          obtain ⟨t, rfl⟩ := hPv
          refine wpAny_assign_Name (wpAny_storeName_local (lookup_relabel_local hx) (hn'.at' fun o e => hk₂ _ o (by simpa using nIC.symm) e) (fun h₃ hn₃ hs₃ => ?_) (by simp [compEnvC, relabel, hkind]))
          have off3 := off'.mem
          have hI₃ : IsRangeIter h₃ I (a + ((i + 1 : Nat) : Int) * c) ((n : Int) - ((i + 1 : Nat) : Int)) c := hs₃.extBut _ _ nIC hst₂
          obtain ⟨oC, heC, hoC⟩ := ns_obj hn₃
          have F₃ : Fr h₀ L h₃ m := (fr_but F' hk₂ nLI hI₀).change hs₃ nCL (below 2)
          have N₂ : News h₀ L h₂ ((I + 1, lst ys) :: nx) := news_but N' hk₂ fun p hp => by
            rcases List.mem_cons.mp hp with rfl | hp
            · exact nID.symm
            · exact (off3 p hp).1
          have N₃ : News h₀ L h₃ ((I, _) :: (I + 2, oC) :: (I + 1, lst ys) :: nx) := fun p hp => by
            rcases List.mem_cons.mp hp with rfl | hp
            · exact ⟨hI₃, nLI.symm, hI₀⟩
            · rcases List.mem_cons.mp hp with rfl | hp
              · exact ⟨heC, nCL, below 2⟩
              · have z := N₂ p hp
                refine ⟨hs₃.extBut _ _ ?_ z.1, z.2⟩
                rcases List.mem_cons.mp hp with rfl | hp
                · exact nCD.symm
                · exact (off3 p hp).2.1
          refine wpAny_mono (turn i t ys nx I _ (I + 2) oC (I + 1) _ h₃ _ _ hlt hJ' hoC (by simp) F₃ N₃ off') (fun xv2 s₄ h₄ => ?_) fun _ _ e => e
          obtain ⟨r2, a2, b2, c2, t2, u2, v2, n2, hq, tk₄, rfl, rfl, F₄, N₄, hr2, hsm2, hn2, turn2, fin2⟩ := h₄
          refine wpAny_pyIter_range hr2 hsm2 ?_
          obtain ⟨I2, hI2⟩ : ∃ I2, I2 = hq.objs.size := ⟨_, rfl⟩
          dsimp only
          rw [← hI2, hn2]
          have hI2₀ : h₀.get? I2 = none := by rw [hI2]; exact next_is_new F₄
          have hLI2 : L ≠ I2 := by rw [hI2]; exact Nat.ne_of_lt F₄.ns.lt
          have lt2 : ∀ p ∈ ((I, _) :: (I + 2, oC) :: (I + 1, lst ys) :: nx : List (Addr × Obj)), p.1 ≠ I2 := fun p hp => by rw [hI2]; exact Nat.ne_of_lt (Heap.lt_size (N₄ p hp).1)
          have nI2I : I2 ≠ I := (lt2 _ (.head _)).symm
          have nI2C : I2 ≠ I + 2 := (lt2 _ (.tail _ (.head _))).symm
          have nI2D : I2 ≠ I + 1 := (lt2 _ (.tail _ (.tail _ (.head _)))).symm
          have W2 := Walks.range (prog := prog) (w := w) (A := A) hh I2 a2 c2 n2
          obtain ⟨h₅, hh5⟩ : ∃ h5, h5 = hq.push { cls := .type "range_iterator", data := .fields #[rawInt a2, rawInt ((n2 : Nat) : Int), rawInt c2] } := ⟨_, rfl⟩
          rw [← hh5]
          have old5 : ∀ b o, hq.get? b = some o → h₅.get? b = some o := fun b o e => by rw [hh5]; exact Heap.get?_push_of_some _ e
          have gI2 : IsRangeIter h₅ I2 (a2 + ((0 : Nat) : Int) * c2) ((n2 : Int) - ((0 : Nat) : Int)) c2 := by
            show h₅.get? I2 = some _
            rw [hh5, hI2]
            simpa using Heap.get?_push_size _ rfl
          have loop2 : ∀ R' : Result → Shared → Prop, (∀ h₉ tk₉ ys' m₉ nx', Fr h₀ L h₉ m → h₉.Ns (I + 2) m₉ → News h₀ L h₉ ((I, { cls := .type "range_iterator", data := .fields #[rawInt (a + ((i + 1 : Nat) : Int) * c), rawInt ((n : Int) - ((i + 1 : Nat) : Int)), rawInt c] }) :: (I + 1, lst ys') :: nx') → Off3 I (I + 2) (I + 1) nx' → J i n2 ys' nx' → R' (.ok .next) { s₁ with heap := h₉, toks := tk₉ }) →
              codeAny (model prog w) A (.compLoop (LC2 elt (.Name x px) i1 (.Name y py) i2 ct scope pos) 1 (.ref I2) (.ref (I + 1)) (compEnvC scope cl (I + 2) env)) R' { s₁ with heap := h₅, toks := tk₄ } := by
            intro R' hR'
            refine loop_inner
              (LoopI h₀ L m s₁ (J i) x (.int (a + (i : Int) * c) t) I2 I (I + 2) (I + 1) { cls := .type "range_iterator", data := .fields #[rawInt (a + ((i + 1 : Nat) : Int) * c), rawInt ((n : Int) - ((i + 1 : Nat) : Int)), rawInt c] } a2 c2 n2) ?_ (n2 + 1)
              ⟨h₅, _, 0, ys, _, nx, rfl, Nat.zero_le _, rfl, gI2, F₄.keeps old5, (hoC.ns (N₄ _ (.tail _ (.head _))).1).keeps old5, by simp, fun p hp => ?_, fun p hp => ⟨lt2 p (.tail _ (.tail _ (.tail _ hp))), off3 p hp⟩, hJ'⟩
            · rintro k' s' ⟨h', tk, j, ys', m₆, nx', rfl, hj, rfl, hit', F₆, hn₆, hmx, N₆, off₆, hJ₆⟩
              by_cases hlt2 : j < n2
              · refine W2.item j _ _ _ hlt2 hit' fun v h₇ tk₇ hPv hst₇ hk₇ => ?_
                obtain ⟨tj, rfl⟩ := hPv
                refine wpAny_assign_Name (wpAny_storeName_local (lookup_relabel_local hy) (hn₆.at' fun o e => hk₇ _ o (by simpa using nI2C.symm) e) (fun h₈ hn₈ hs₈ => ?_) (by simp [compEnvC, relabel, hkind]))
                obtain ⟨oC8, heC8, hoC8⟩ := ns_obj hn₈
                have hI2₈ : IsRangeIter h₈ I2 (a2 + ((j + 1 : Nat) : Int) * c2) ((n2 : Int) - ((j + 1 : Nat) : Int)) c2 := hs₈.extBut _ _ nI2C hst₇
                have F₈ : Fr h₀ L h₈ m := (fr_but F₆ hk₇ hLI2 hI2₀).change hs₈ nCL (below 2)
                have N₇ := news_but N₆ hk₇ fun p hp => by
                  rcases List.mem_cons.mp hp with rfl | hp
                  · exact nI2I.symm
                  · rcases List.mem_cons.mp hp with rfl | hp
                    · exact nI2D.symm
                    · exact (off₆ p hp).1
                have N₈ : News h₀ L h₈ ((I2, _) :: (I, _) :: (I + 2, oC8) :: (I + 1, lst ys') :: nx') := fun p hp => by
                  rcases List.mem_cons.mp hp with rfl | hp
                  · exact ⟨hI2₈, hLI2.symm, hI2₀⟩
                  · rcases List.mem_cons.mp hp with rfl | hp
                    · have z := N₇ _ (.head _)
                      exact ⟨hs₈.extBut _ _ nIC z.1, z.2⟩
                    · rcases List.mem_cons.mp hp with rfl | hp
                      · exact ⟨heC8, nCL, below 2⟩
                      · have z := N₇ p (.tail _ hp)
                        refine ⟨hs₈.extBut _ _ ?_ z.1, z.2⟩
                        rcases List.mem_cons.mp hp with rfl | hp
                        · exact nCD.symm
                        · exact (off₆ p hp).2.2.1
                refine wpAny_mono (turn2 j tj ys' nx' I2 _ oC8 _ h₈ _ _ hlt2 hJ₆ hoC8 (by simp [hxy, hmx]) (by simp) F₈ N₈ off₆ ⟨nI2I, nI2C, nI2D, nIC, nID, nCD⟩) (fun ok s₉ h₉ => ?_) fun _ _ e => e
                cases ok with
                | true =>
                  simp only [if_true] at h₉ ⊢
                  refine wpAny_mono h₉ (fun yv s₉ h₉ => ?_) fun _ _ e => e
                  obtain ⟨h9, tk9, nx9, rfl, F9, N9, off9, J9⟩ := h₉
                  have zI2 := (N9 _ (.head _)).1
                  have zI := N9 _ (.tail _ (.head _))
                  have zC := (N9 _ (.tail _ (.tail _ (.head _)))).1
                  have zD := N9 _ (.tail _ (.tail _ (.tail _ (.head _))))
                  refine append_at (hsz := by show ys'.toArray.size ≤ sizeLine; rw [List.size_toArray, sizeLine_eq]; exact Nat.le_trans (hJsz _ _ _ _ hJ₆) (by decide)) zD.1 fun ha hsa hDa => ?_
                  refine ⟨n2 + 1 - (j + 1), step_k hlt2, ha, tk9, j + 1, ys' ++ [yv], _, nx9, rfl, hlt2, rfl, hsa.extBut _ _ nI2D zI2, F9.change hsa zD.2.1 zD.2.2, (hoC8.ns zC).at' fun o e => hsa.extBut _ _ nCD e, by simp [hxy, hmx], fun p hp => ?_, off9, J9⟩
                  rcases List.mem_cons.mp hp with rfl | hp
                  · exact ⟨hsa.extBut _ _ nID zI.1, zI.2⟩
                  · rcases List.mem_cons.mp hp with rfl | hp
                    · exact ⟨hDa.trans (congrArg some (lst_snoc ys' yv)), zD.2⟩
                    · have z := N9 p (.tail _ (.tail _ (.tail _ (.tail _ hp))))
                      exact ⟨hsa.extBut _ _ (off9 p hp).2.2.2 z.1, z.2⟩
                | false =>
                  simp only [Bool.false_eq_true, if_false] at h₉ ⊢
                  obtain ⟨h9, tk9, nx9, rfl, F9, N9, off9, J9⟩ := h₉
                  have zC := (N9 _ (.tail _ (.tail _ (.head _)))).1
                  refine ⟨n2 + 1 - (j + 1), step_k hlt2, h9, tk9, j + 1, ys', _, nx9, rfl, hlt2, rfl, (N9 _ (.head _)).1, F9, hoC8.ns zC, by simp [hxy, hmx], fun p hp => ?_, off9, J9⟩
                  rcases List.mem_cons.mp hp with rfl | hp
                  · exact N9 _ (.tail _ (.head _))
                  · exact N9 p (.tail _ (.tail _ (.tail _ hp)))
              · obtain rfl : j = n2 := Nat.le_antisymm hj (Nat.not_lt.mp hlt2)
                refine W2.done _ _ _ hit' fun h₇ tk₇ hk₇ => ?_
                refine hR' h₇ tk₇ ys' m₆ nx' (fr_but F₆ hk₇ hLI2 hI2₀) (hn₆.at' fun o e => hk₇ _ o (by simpa using nI2C.symm) e) (news_but N₆ hk₇ fun p hp => ?_) (Off3.of fun p hp => (off₆ p hp).2) hJ₆
                rcases List.mem_cons.mp hp with rfl | hp
                · exact nI2I.symm
                · rcases List.mem_cons.mp hp with rfl | hp
                  · exact nI2D.symm
                  · exact (off₆ p hp).1
            · rcases List.mem_cons.mp hp with rfl | hp
              · have z := N₄ _ (.head _)
                exact ⟨old5 _ _ z.1, z.2⟩
              · have z := N₄ p (.tail _ (.tail _ hp))
                exact ⟨old5 _ _ z.1, z.2⟩
          refine start_inner ?l (W2.self 0 _ _ _ gI2 ?l)
          exact loop2 _ fun h₉ tk₉ ys' m₉ nx' F₉ n₉ N₉ off₉ J₉ => ⟨n + 1 - (i + 1), step_k hlt, h₉, tk₉, i + 1, ys', m₉, nx', rfl, hlt, rfl, (N₉ _ (.head _)).1, F₉, n₉, fun p hp => N₉ p (.tail _ hp), off₉, fin2 _ _ J₉⟩
        · obtain rfl : i = n := Nat.le_antisymm hi (Nat.not_lt.mp hlt)
          refine W.done _ _ _ hit fun h₂ tk₂ hk₂ => ?_
          have off3 := off'.mem
          have N₂ : News h₀ L h₂ ((I + 1, lst ys) :: nx) := news_but N' hk₂ fun p hp => by
            rcases List.mem_cons.mp hp with rfl | hp
            · exact nID.symm
            · exact (off3 p hp).1
          exact hRR (I + 1) (I + 2) h₂ tk₂ m' ys nx (fr_but F' hk₂ nLI hI₀) N₂ (fun p hp => (off3 p hp).2.2) (hn'.at' fun o e => hk₂ _ o (by simp [nIC.symm]) e) (below 2) nCL nCD (fun p hp => (off3 p hp).2.1) fun h' tk' F9 N9 => done _ _ _ _ _ hJ' F9 N9 fun p hp => (off3 p hp).2.2
      · rcases List.mem_cons.mp hp with rfl | hp
        · exact ⟨gD, nDL, below 1⟩
        · exact ⟨old _ _ (N p hp).1, (N p hp).2⟩
      · have := hnI p hp
        exact ⟨Nat.ne_of_lt this, Nat.ne_of_lt (Nat.lt_of_lt_of_le this (Nat.le_add_right _ _)), Nat.ne_of_lt (Nat.lt_of_lt_of_le this (Nat.le_add_right _ _))⟩
    exact codeAny_compStart_list loop (W.self 0 _ _ _ gI loop)
  have eD : s₁.heap.objs.size = I := hIe.symm
  exact goal _ _ _ _ eD sI sD rfl
theorem Assign_ListComp_two {ct elt i1 i2 : Expr} {x y z : Str} {px py pz : Pos} {scope : Scope} {cl : List (Str × Addr)} {pos spos : Pos} {Q : Flow → Shared → Prop} (_F₀ : Fr h₀ L s.heap m) (hLe : env.locals = L) (J : Nat → Nat → List Value → List (Addr × Obj) → Prop) (hJsz : ∀ i j ys nx, J i j ys nx → ys.length ≤ 99)
    (hsw : swapsWith (LC2 elt (.Name x px) i1 (.Name y py) i2 ct scope pos) (some (.Name z pz)) spos.line env = pure true)
    (hclos : closureFor scope env = pure cl) (hcell : ∀ y ∈ scope.names, y.2 ≠ .cell) (hkind : scope.kind = .function) (hnames : ∀ y ∈ scope.names, y.2 = .local → scope.names.lookup y.1 = some .local)
    (hx : scope.names.lookup x = some .local) (hy : scope.names.lookup y = some .local) (hxy : x ≠ y)
    (hz : env.kindOf z = some .local) (hp : (env.scope.kind == .class || (env.scope.kind == .module && env.locals != env.globals)) = false)
    (h : wpAny (model prog w) A (eval i1 env) (Src2 prog w A h₀ L m env ct elt i2 x y scope cl J (fun D a => if a = z then some (.ref D) else m a) (fun _ s' => Q .next s')) E s)
    (hs : ∀ x, foldedSetIterable i1 env x = pure x := by intro _; rfl) (hs2 : ∀ e x, foldedSetIterable i2 e x = pure x := by intro _ _; rfl) :
    wpAny (model prog w) A (exec (.Assign [.Name z pz] (LC2 elt (.Name x px) i1 (.Name y py) i2 ct scope pos) spos) env) Q E s := by
  subst hLe
  rw [exec_Assign_Name_used _ _ _ _ hsw]
  refine wpAny_bind (wpAny_standAt (wpAny_bind ?_))
  show wpAny _ A (do let _ ← comprehension (LC2 elt (.Name x px) i1 (.Name y py) i2 ct scope pos) scope env _ (newList []) false (eval i1 env) (some (assign (.Name z pz) env))) _ _ s
  refine wpAny_bind (wpAny_mono (wpAny_comprehension_free (use := some (assign (.Name z pz) env)) (Q := fun _ s' => Q .next s') rfl hs hclos hkind hnames
    (wpAny_mono h (fun xv s₁ h₁ => ?_) fun _ _ e => e)) (fun _ s' hq => wpAny_pure (wpAny_pure hq)) fun _ _ e => e)
  refine two_core hJsz hcell hkind hx hy hxy h₁ (fun D C h tk m' ys nx F N off hn hC₀ hCL hCD offC fin => ?_) hs2
  show wpAny _ A (assign (.Name z pz) env (.ref D)) _ _ _
  refine wpAny_assign_Name (wpAny_storeName_local hz F.ns (fun h₂ hn₂ hs₂ => ?_) hp)
  have hL₀ : h₀.get? env.locals = none := Heap.get?_none_of_le F.above
  have F₂ : Fr h₀ env.locals h₂ (fun a => if a = z then some (.ref D) else m a) := ⟨hn₂, fun b o e => hs₂.extBut b o (fun q => by rw [q, hL₀] at e; cases e) (F.keep b o e), F.above⟩
  refine ⟨m', hn.sameBut hs₂ hCL, fun h'' hs'' => fin h'' _ (F₂.change hs'' hCL hC₀) fun p hp => ?_⟩
  have z : h₂.get? p.1 = some p.2 := hs₂.extBut _ _ (N p hp).2.1 (N p hp).1
  refine ⟨hs''.extBut _ _ ?_ z, (N p hp).2⟩
  rcases List.mem_cons.mp hp with rfl | hp
  · exact hCD.symm
  · exact offC p hp
end
end
section
open PySem PySem.W PySem.Calls PyProof.Rows Mine
set_option maxRecDepth 100000
set_option maxHeartbeats 8000000
theorem reset14 : True := by
  w_top off
  k_with_none
  k_with "=k_all" => first | assumption | exact allLt_ne (by assumption) (by omega) | exact allLt_ne (And.right (by assumption)) (by omega) | exact allLt_ne (And.right (And.right (by assumption))) (by omega) | exact allLt_ne (And.right (And.right (And.right (by assumption)))) (by omega)
  k_with "=size_fits" => ((try simp only [List.size_toArray, sizeLine_eq]); omega)
  k_with "=ktr_room" => first | exact room1 (by assumption) (by decide) | exact room0 (by assumption) | exact room4 (by assumption) | exact room8 (by assumption) | exact room48 (by assumption) | fail "room"
  k_with "=ktr_units" => first | exact units1 (by assumption) (by decide) | exact units1 (k := 8) (by assumption) (by decide) | exact units4 (by assumption) | exact units8 (by assumption) | exact units48 (by assumption) | fail "units"
  k_with "=k_in" => first | k_in_fast | assumption | exact Frag.In.keeps (by k_asm) (Fr.keep (by k_asm))
  k_with "=call builtin:str.lower" => (k_here; refine lower_K (by first | assumption | exact Clean.low (by assumption)) ?_; intro _ _)
  k_with "=c1" => ((case k1 => k_asm); (case k2 => k_asm); (case k3 => k_asm); (case k4 => k_asm); (case k5 => k_asm); (case k6 => ktr_room); (case k7 => ktr_units))
  k_with "=subscriptTail Name Slice ref ref" => (k_here; (with_reducible show wpAny _ _ (subscriptTail _ (PySem.Expr.Slice _ _ none _) (Value.ref _) (Value.ref _)) _ _ _); k_dflt (refine' kms_slice_lit (by k_asm) (by k_asm) (by kmk_list) (by kmk_part) (by kmk_part) (by exact rfl) ?_ (by with_unfolding_all rfl) (by kmk_pure) (by kmk_size)); intro kxD kxH kxF kxN kxl; (try k_lt kxl); (try simp only [List.toList_toArray, pick_all, pick_init, pick_lit] at kxN))
  k_with "=call builtin:len" => (k_here; (refine' len_at (by k_asm) (by k_mem) (by omega) ?_); intro _ _)
  k_with "=callWith ref" => (k_here; k_dflt (refine' callWith_F (by exact FnAt.of (by k_asm) (by k_mem)) ?_; k_whole))
  k_with "=callWith ref" => (k_here; (with_reducible show wpAny _ _ (callWith _ (Value.ref (OfNat.ofNat _)) _ (backTo _ (starEach (_ :: _) _)) (backToKw _ _)) _ _ _); k_dflt (refine' callWith_KW (by k_asm) (by k_is) (by exact rfl) ?_; k_whole))
  k_with "=callWith ref" => (k_here; (with_reducible show wpAny _ _ (callWith _ (Value.ref (OfNat.ofNat _)) _ (backTo _ (starEach (_ :: _) _)) []) _ _ _); k_dflt (refine' callWith_K (by k_asm) (by k_is) ?_; k_whole))
  k_with "=call ref" => (k_here; (with_reducible show wpAny _ _ (call (Value.ref 117) _ _) _ _ _); k_dflt (refine' C1.use (conv _ _ _ _ _ (by first | assumption | exact Clean.low (by assumption)) _) (by k_asm) (by k_asm) (by k_asm) (by k_asm) (by k_asm) (by ktr_room) (by ktr_units) ?_; intro kxr kxnews kxH kxT kxF kxN kxP; obtain ⟨kxe1, kxe2⟩ := kxP; subst kxe1; subst kxe2; (try dsimp only)))
  k_with "=subscriptTail Name Name ref int" => (k_here; (with_reducible rename News _ _ _ _ => kN); refine at6 kN (by k_mem) (by first | assumption | exact IsOrd.lt (by assumption) _ (by assumption) | omega | exact IsOrd.lt (by assumption) _ (by omega)) ?_)
  k_with "=subscriptTail Name Subscript ref int" => (k_here; (with_reducible rename News _ _ _ _ => kN); refine at6 kN (by k_mem) (by first | assumption | exact IsOrd.lt (by assumption) _ (by assumption) | omega | exact IsOrd.lt (by assumption) _ (by omega)) ?_)
  k_with "=subscriptTail Subscript Name Subscript Subscript ref int" => (k_here; k_dflt (refine kba_turn (value' := PySem.Expr.Name (PySem.Str.ofString "_") ⟨0, 0, 0, 0⟩) (fun _ => rfl) ?_); (with_reducible rename News _ _ _ _ => kN); (with_reducible rename SeesIn _ _ _ _ _ _ => kS); refine at6 kN (by repeat (first | exact SeesIn.row kS _ (by first | assumption | exact IsOrd.lt (by assumption) _ (by assumption) | omega | exact IsOrd.lt (by assumption) _ (by omega)) | refine List.Mem.tail _ ?_)) (by first | assumption | exact IsOrd.lt (by assumption) _ (by assumption) | omega | exact IsOrd.lt (by assumption) _ (by omega)) ?_)
  k_with "=subscriptTail Subscript Name Name Name ref int" => (k_here; k_dflt (refine kba_turn (value' := PySem.Expr.Name (PySem.Str.ofString "_") ⟨0, 0, 0, 0⟩) (fun _ => rfl) ?_); (with_reducible rename News _ _ _ _ => kN); (with_reducible rename SeesIn _ _ _ _ _ _ => kS); refine at6 kN (by repeat (first | exact SeesIn.row kS _ (by first | assumption | exact IsOrd.lt (by assumption) _ (by assumption) | omega | exact IsOrd.lt (by assumption) _ (by omega)) | refine List.Mem.tail _ ?_)) (by first | assumption | exact IsOrd.lt (by assumption) _ (by assumption) | omega | exact IsOrd.lt (by assumption) _ (by omega)) ?_)
  k_with "=exec Assign cons ListComp" => (k_here; refine Hold.out ?_)
  k_with "=Mine.Src2" => refine Hold.out ?_
  k_with "=Src2" => refine Hold.out ?_
  k_with "=subscriptTail List BinOp ref int" => refine Hold.out ?_
  k_with "=subscriptTail Subscript Name str int" => refine Hold.out ?_
  k_with "=last subscriptTail" => refine Hold.out ?_
  k_with "=binaryOp Add ref ref" => refine Hold.out ?_
  k_with "=subscriptTail" => refine Hold.out ?_
  k_with "=subscriptTail Constant Name str int" => refine Hold.out ?_
  trivial
noncomputable def lowG (k : Nat) : Str := ⟨#[97 + k]⟩
noncomputable def upG (k : Nat) : Str := ⟨#[65 + k]⟩
noncomputable def nameP (i j : Nat) : Str := if (i + j) % 2 = 0 then lowG i else upG i
noncomputable def rowP (g : Nat → Nat → Bool) (i j : Nat) : List (Str × Str) := ((List.range j).filter fun jj => g i (5 - jj)).map fun jj => (nameP i (5 - jj), lowG (5 - jj))
noncomputable def pairsUp (g : Nat → Nat → Bool) (i j : Nat) : List (Str × Str) := ((List.range i).flatMap fun k => rowP g k 6) ++ rowP g i j
noncomputable def laidP (g : Nat → Nat → Bool) : List (Str × Str) := (Str.ofString "fab", Str.ofString "c") :: pairsUp g 6 0
theorem pairsUp_row (g : Nat → Nat → Bool) (i : Nat) : pairsUp g (i + 1) 0 = pairsUp g i 6 := by
  unfold pairsUp
  rw [List.range_succ, List.flatMap_append]
  simp [rowP]
theorem item_low {k : Nat} (h : k < 6) : Txt.item (Str.ofString "abcdef") ((k : Nat) : Int) = lowG k := by
  have : ∀ k, k < 6 → Txt.item (Str.ofString "abcdef") ((k : Nat) : Int) = lowG k := by decide
  exact this k h
theorem item_up {k : Nat} (h : k < 6) : Txt.item (Str.ofString "ABCDEF") ((k : Nat) : Int) = upG k := by
  have : ∀ k, k < 6 → Txt.item (Str.ofString "ABCDEF") ((k : Nat) : Int) = upG k := by decide
  exact this k h
theorem pairsUp_no {g : Nat → Nat → Bool} {i jj : Nat} (h : g i (5 - jj) = false) : pairsUp g i (jj + 1) = pairsUp g i jj := by
  unfold pairsUp rowP
  rw [range_filter_no (p := fun jj => g i (5 - jj)) h]
theorem pairsUp_yes {g : Nat → Nat → Bool} {i jj : Nat} (h : g i (5 - jj) = true) : pairsUp g i (jj + 1) = pairsUp g i jj ++ [(nameP i (5 - jj), lowG (5 - jj))] := by
  unfold pairsUp rowP
  rw [range_filter_yes (p := fun jj => g i (5 - jj)) h, List.map_append, List.append_assoc]
  rfl
noncomputable def baseS (i j : Nat) : Str := if (i + j) % 2 = 0 then Str.ofString "abcdef" else Str.ofString "ABCDEF"
theorem base_at (i j : Nat) (t u : Tok) : ∃ v, [Value.str (Str.ofString "abcdef") t, Value.str (Str.ofString "ABCDEF") u][(((i : Nat) : Int) + ((j : Nat) : Int)).fmod 2 |>.toNat]? = some (.str (baseS i j) v) := by
  have e : ((((i : Nat) : Int) + ((j : Nat) : Int)).fmod 2).toNat = (i + j) % 2 := by rw [Int.fmod_eq_emod_of_nonneg _ (by decide)]; exact Int.toNat_natCast _
  rw [e]
  unfold baseS
  rcases Nat.mod_two_eq_zero_or_one (i + j) with h | h
  · rw [h]; exact ⟨t, rfl⟩
  · rw [h]; exact ⟨u, rfl⟩
theorem base_len (i j : Nat) : (baseS i j).length = 6 := by unfold baseS; split <;> rfl
theorem base_item {i j : Nat} (h : i < 6) : Txt.item (baseS i j) ((i : Nat) : Int) = nameP i j := by
  unfold baseS nameP
  split
  · exact item_low h
  · exact item_up h
theorem mod2_lo (i j : Nat) : 0 ≤ (((i : Nat) : Int) + ((j : Nat) : Int)).fmod 2 ∧ (((i : Nat) : Int) + ((j : Nat) : Int)).fmod 2 < 2 ^ 63 := by
  rw [Int.fmod_eq_emod_of_nonneg _ (by decide)]; exact ⟨Int.emod_nonneg _ (by decide), Int.lt_trans (Int.emod_lt_of_pos _ (by decide)) (by decide)⟩
theorem rowP_len (g : Nat → Nat → Bool) (i j : Nat) : (rowP g i j).length ≤ j := by
  unfold rowP
  rw [List.length_map]
  exact Nat.le_trans (List.length_filter_le _ _) (Nat.le_of_eq List.length_range)
theorem pairsUp_len {g : Nat → Nat → Bool} {i j : Nat} (hi : i ≤ 6) (hj : j ≤ 6) : (pairsUp g i j).length ≤ 99 := by
  have h1 : ∀ k, ((List.range k).flatMap fun a => rowP g a 6).length ≤ 6 * k := by
    intro k
    induction k with
    | zero => simp
    | succ k ih =>
      rw [List.range_succ, List.flatMap_append, List.length_append]
      have := rowP_len g k 6
      simp only [List.flatMap_cons, List.flatMap_nil, List.append_nil]
      omega
  have h2 := rowP_len g i j
  have h3 := h1 i
  unfold pairsUp
  rw [List.length_append]
  omega
theorem llaid (w : World) (sl : Addr) (qs : Nat → Addr) (ks : Nat → Nat) (n : Nat) (g : Nat → Nat → Bool) (nx : List (Addr × Obj)) (hS : SeesIn nx sl qs ks n g) :
    C1 w (.ref 230) [.ref sl] [] 8 nx (fun nx' r => (∀ p ∈ nx, p ∈ nx') ∧ ∃ q vs k, (q, listOf vs.toArray k) ∈ nx' ∧ PairsIn nx' vs (laidP g) ∧ r = .ref q) := by
  unfold C1
  k_fill
  intro p loose mean mg mb dp un gd cn nm' ig ic mr a ccd cl outer A₀ base h₀ L m s Q E B F X N T hd hu ret
  refine wpAny_call ?_
  k_dflt k_enter
  k_steps
  unfold Hold
  rename_i o1 c1 N1
  (rename Fr _ _ _ _ => F1)
  have d1 : o1.data = .cell (some (.ref sl)) := c1
  clear c1
  obtain ⟨L1, hL1⟩ := newsL N1
  subst hL1
  refine Assign_ListComp_two F1 rfl (fun i j ys nx' => i ≤ 6 ∧ j ≤ 6 ∧ PairsIn nx' ys (pairsUp g i j) ∧ ∀ p ∈ (L1 + 1, o1) :: nx, p ∈ nx') (fun i j ys nx' h => by rw [h.2.2.1.length]; exact pairsUp_len h.1 h.2.1) (by rfl) (by with_unfolding_all rfl) (by decide) (by rfl) (by decide) (by rfl) (by rfl) (by decide) (by rfl) (by rfl) ?_
  k_steps
  unfold Hold
  skip
  (rename Fr _ _ _ _ => F9); (rename News _ _ _ _ => N9); (rename IsRange _ _ _ _ _ _ _ _ => hr9)
  refine ⟨_, 0, 6, 1, _, _, _, 6, _, rfl, rfl, F9, N9, hr9, by decide, by decide, ⟨by decide, by decide, .nil, fun p hp => hp⟩, ?_, ?_⟩
  · rintro i ti ys nx2 I oI C oC D m₂ h2 tk2 E' hi ⟨-, -, hJ, hsub⟩ hC hx F' N' off'
    clear F9 N9 hr9
    replace F' : Fr _ L1 h2 _ := F'
    replace N' : News _ L1 h2 _ := N'
    rw [Int.zero_add, Int.mul_one] at hx
    k_steps
    (rename Fr _ _ _ _ => F4); (rename News _ _ _ _ => N4); (rename IsRange _ _ _ _ _ _ _ _ => hr4)
    refine ⟨_, 5, -1, -1, _, _, _, 6, _, _, rfl, rfl, F4, N4, hr4, by decide, by decide, ?_, ?_⟩
    · rintro jj tj ys3 nx3 I2 oI2 oC3 m₃ h3 tk3 E3 hj ⟨-, -, hJ3, hsub3⟩ hC3 hx3 hy3 F' N' off3 ne3
      clear F4 N4 hr4 hJ hx
      replace F' : Fr _ L1 h3 _ := F'
      replace N' : News _ L1 h3 _ := N'
      obtain ⟨jn, hjn⟩ : ∃ jn, jn = 5 - jj := ⟨_, rfl⟩
      have hj6 : jn < 6 := hjn ▸ Nat.lt_succ_of_le (Nat.sub_le 5 jj)
      rw [Int.zero_add, Int.mul_one] at hx3
      rw [five_sub hjn hj] at hy3
      have hS3 : SeesIn nx3 sl qs ks n g := hS.mono fun p hp => hsub3 p (.tail _ hp)
      have hcm : (L1 + 1, o1) ∈ nx3 := hsub3 _ (.head _)
      have hSl := hS3.list
      obtain ⟨hne1, hne2, hne3, hne4, hne5, hne6⟩ := ne3
      refine bgen fun Qc hQc => ?_
      k_steps
      refine hQc _ _ ?_
      clear hQc
      (rename Fr _ _ _ _ => F5); (rename News _ _ _ _ => N5)
      by_cases hg : g i jn = true
      · rw [if_pos hg]
        refine cgen fun Qd hQd => ?_
        k_steps
        unfold Hold
        (rename News _ _ _ _ => N6)
        obtain ⟨tb, htb⟩ := base_at i jn tk3 (tk3 + 1)
        refine item_at N6 (.head _) (mod2_lo i jn).1 (mod2_lo i jn).2 htb ?_
        k_steps
        unfold Hold
        refine KXi.item (n := 6) (base_len _ _) (neg6 _) (lt6 hi) (by decide) ?_
        rw [base_item hi]
        intro _
        k_steps
        unfold Hold
        refine KXi.item (n := 6) (by rfl) (neg6 _) (lt6 hj6) (by decide) ?_
        rw [item_low hj6]
        intro _
        k_steps
        rename_i T h7 F7 N7 l7
        obtain ⟨-, t1, t2, t3, t4, t5⟩ := l7
        rw [hjn] at N7
        refine hQd _ _ ⟨h7, _, (T, tupOf [.str (nameP i (5 - jj)) _, .str (lowG (5 - jj)) _]) :: nx3, rfl, F7, news_drop N7 (List.forall_mem_cons.mpr ⟨.tail _ (.tail _ (.head _)), List.forall_mem_cons.mpr ⟨.tail _ (.tail _ (.tail _ (.head _))), List.forall_mem_cons.mpr ⟨.tail _ (.tail _ (.tail _ (.tail _ (.head _)))), List.forall_mem_cons.mpr ⟨.tail _ (.tail _ (.tail _ (.tail _ (.tail _ (.head _))))), List.forall_mem_cons.mpr ⟨.head _, fun p hp => .tail _ (.tail _ (.tail _ (.tail _ (.tail _ (.tail _ hp)))))⟩⟩⟩⟩⟩),
          List.forall_mem_cons.mpr ⟨⟨Nat.ne_of_gt t1, Nat.ne_of_gt t2, Nat.ne_of_gt t3, Nat.ne_of_gt t4⟩, off3⟩, Nat.le_of_lt hi, hj, ?_, fun p hp => .tail _ (hsub3 p hp)⟩
        rw [pairsUp_yes (by rw [← hjn]; exact hg)]
        exact (hJ3.mono fun p hp => .tail _ hp).snoc (.head _)
      · rw [if_neg hg]
        have hg' : g i (5 - jj) = false := by rw [← hjn]; simpa using hg
        exact ⟨_, _, nx3, rfl, F5, N5, off3, Nat.le_of_lt hi, hj, by rw [pairsUp_no hg']; exact hJ3, hsub3⟩
    · rintro ys3 nx3 ⟨h1, h2, h3, h4⟩
      refine ⟨hi, by decide, ?_, h4⟩
      rw [pairsUp_row]
      exact h3
  · rintro D ys nx3 h3 tk3 ⟨-, -, hJ, hsub⟩ F' N' hoff
    clear F9 N9 hr9
    replace F' : Fr _ L1 h3 _ := F'
    replace N' : News _ L1 h3 _ := N'
    dsimp only
    k_steps
    unfold Hold
    rename_i T h7 l7 R h8 F8 N8 l8
    have hlen := hJ.length
    have hlen2 := pairsUp_len (g := g) (i := 6) (j := 0) (by decide) (by decide)
    refine add_lists (vs := [Value.ref T]) (ws := ys) (hsz := by rw [hlen, sizeLine_eq]; show 1 + _ ≤ _; omega) F8 N8 (News.isList N8 (.head _)) (News.isList N8 (.tail _ (.tail _ (.head _)))) ?_
    intro h9 F9 N9
    k_steps
    (rename News _ _ _ _ => N7)
    exact ret _ _ _ _ (by k_asm) N7 ⟨fun p hp => .tail _ (.tail _ (.tail _ (.tail _ (hsub p (.tail _ hp))))), _, _, _, .head _, .cons (.tail _ (.tail _ (.head _))) (hJ.mono fun p hp => .tail _ (.tail _ (.tail _ (.tail _ hp)))), rfl⟩
end
section
open PySem PySem.W PySem.Calls PyProof.Rows
set_option maxRecDepth 100000
section
variable {prog : Program} {w : World} {A : Around} {E : Value → Shared → Prop} {s : Shared} {h₀ : Heap} {L a c P : Addr} {m mg mb : Str → Option Value} {cn : Str} {cs : Scope} {ccd : Value} {cl : List (Str × Addr)} {news : List (Addr × Obj)} {g : Obj → List (Addr × Obj)}
  {p : Program} {loose : List Str} {mean : ExcName → Option Value} {name qual : Str} {params : Arguments} {body : List Stmt} {scope : Scope} {ps : Array Value} {pos : Pos} {firstLine : Nat} {clos : List (Str × Addr)}
end
end
section
open PySem PySem.W PySem.Calls PyProof.Rows
set_option maxRecDepth 100000
theorem codeAmong_snoc_ne {pos pos2 : Pos} {c : Value} (l : List Value) (h : TriplesOk l) (hn : pos2.line ≠ pos.line ∨ pos2.col ≠ pos.col) :
    codeAmong pos2 (l ++ [rawInt pos.line, rawInt pos.col, c]) = codeAmong pos2 l := by
  fun_induction TriplesOk l with
  | case1 => 
    simp only [List.nil_append, rawInt, codeAmong]
    rw [if_neg]
    simp only [Bool.and_eq_true, beq_iff_eq]
    omega
  | case2 a t b u x rest ih =>
    simp only [List.cons_append, codeAmong]
    split
    · rfl
    · exact ih h
  | case3 l h1 h2 => exact h.elim
/-- a lambda's place: not made yet, or made -/
noncomputable def MadeL (pos : Pos) (qual : Str) (ps : Array Value) (nx : List (Addr × Obj)) : Prop := codeAmong pos ps.toList = none ∨ ∃ c' oc vs t, codeAmong pos ps.toList = some (.ref c') ∧ (c', oc) ∈ nx ∧ oc.data = .fields vs ∧ vs[1]? = some (.str qual t)
section
variable {prog : Program} {w : World} {A : Around} {E : Value → Shared → Prop} {s : Shared} {h₀ : Heap} {L a c P : Addr} {m mg mb : Str → Option Value} {cn : Str} {cs : Scope} {ccd : Value} {cl : List (Str × Addr)} {news : List (Addr × Obj)} {g : Obj → List (Addr × Obj)}
  {p : Program} {loose : List Str} {mean : ExcName → Option Value} {name qual : Str} {params : Arguments} {body : Expr} {scope : Scope} {ps : Array Value} {pos : Pos} {firstLine : Nat} {clos : List (Str × Addr)}
theorem klaBoth_K (avoid : Addr → Prop) {Q : Value → Shared → Prop} (ht : TriplesOk ps.toList) (hps : codeAmong pos ps.toList = none ∨ ∃ c' oc vs t, codeAmong pos ps.toList = some (.ref c') ∧ (c', oc) ∈ news ∧ oc.data = .fields vs ∧ vs[1]? = some (.str qual t) ∧ avoid c') (hav : ∀ c', (∀ q ∈ news, q.1 < c') → avoid c')
    (F : Fr h₀ L s.heap m) (N : News h₀ L s.heap news) (T : Top p loose mean mg mb h₀) (C : CodeHd h₀ c P) (hcd : ccd = .ref c) (U : UpdF P (tabObj ps) news g)
    (hcl : closureFor scope (envX cn cs L a ccd cl) = pure clos)
    (h : ∀ f c' oc vs t ctv h' tk ps', Fr h₀ L h' m →
      News h₀ L h' ((f, kla_obj name qual params body scope clos ((mg "__name__").getD .none) c' ctv) :: (c', oc) :: g (tabObj ps')) →
      oc.data = .fields vs → vs[1]? = some (.str qual t) → TriplesOk ps'.toList → codeAmong pos ps'.toList = some (.ref c') →
      (∀ pos2 : Pos, pos2.line ≠ pos.line ∨ pos2.col ≠ pos.col → codeAmong pos2 ps'.toList = codeAmong pos2 ps.toList) →
      avoid c' → (∀ q ∈ news, q.1 < f) → c' < f → Q (.ref f) { s with heap := h', toks := tk }) :
    wpAny (model prog w) A (makeFunction name qual params (.expr body) scope (envX cn cs L a ccd cl) [] [] [] pos firstLine) Q E s := by
  rcases hps with hps | ⟨c', oc, vs, t, hps, hm, hd, hv, ha⟩
  · refine kla_nest F N T C hcd U ht hps hcl fun f c' oc vs t ctv h' tk F' N' a1 a2 a3 a4 => h f c' oc vs t ctv h' tk _ F' N' a1 a2 ?_ ?_ (fun pos2 hp => ?_) (hav _ a3) (fun q hq => Nat.lt_trans (a3 q hq) a4) a4
    · simpa using TriplesOk_snoc _ _ _ _ ht
    · simpa using codeAmong_snoc _ ht hps
    · simpa using codeAmong_snoc_ne _ ht hp
  · obtain ⟨pre, post, e1, e2, -, -⟩ := U.split
    have hP : (P, tabObj ps) ∈ news := by rw [e1]; simp
    refine kla_hit (c' := c') F N T C hcd hP ht hps hcl fun f ctv h' tk F' N' a3 => h f c' oc vs t ctv h' tk ps F' ?_ hd hv ht hps (fun _ _ => rfl) ha a3 (a3 _ hm)
    rw [e2, ← e1]
    intro q hq
    rcases List.mem_cons.mp hq with rfl | hq
    · exact N' _ (.head _)
    · rcases List.mem_cons.mp hq with rfl | hq
      · exact N' _ (.tail _ hm)
      · exact N' _ (.tail _ hq)
end
section
variable {M : Model} {A : Around} {E : Value → Shared → Prop} {s : Shared} {h₀ : Heap} {L a : Addr} {m : Str → Option Value} {cn : Str} {cs : Scope} {ccd : Value} {cl : List (Str × Addr)}
  {x : Str} {v : Value} {news : List (Addr × Obj)} {g : Obj → List (Addr × Obj)} {c : Addr} {o : Obj} {v₀ : Option Value}
theorem storeX_C {Q : Unit → Shared → Prop} (F : Fr h₀ L s.heap m) (N : News h₀ L s.heap news) (hc : cl.lookup x = some c) (U : UpdF c o news g) (hd : o.data = .cell v₀)
    (h : ∀ h' o', Fr h₀ L h' m → News h₀ L h' (g o') → o'.data = .cell (some v) → Q () { s with heap := h' })
    (hk : cs.kind = .function := by rfl) (hx : (envX cn cs L a ccd cl).kindOf x = some .cell := by rfl) : wpAny M A (storeName (envX cn cs L a ccd cl) x v) Q E s := by
  obtain ⟨own, rest, rfl, hg, h1, h2⟩ := U.split
  have hmem := N (c, o) (List.mem_append_right _ (.head _))
  refine wpAny_storeName_cell hk hx hc ⟨o, hmem.1, hd⟩ fun h' hv hs => ?_
  obtain ⟨o', ho', hd'⟩ := hv
  refine h h' o' ⟨F.ns.sameBut hs (Ne.symm hmem.2.1), fun b ob e => (hs.2 b (fun q => ?_)).trans (F.keep b ob e), F.above⟩ (hg o' ▸ N.setAt h1 h2 hs ho') hd'
  rw [q, hmem.2.2] at e; cases e
end
end
section
open PySem PySem.W PySem.Calls PyProof.Rows Mine
set_option maxRecDepth 100000
theorem cmpK_str {prog : Program} {w : World} {x r : Str} {t u : Tok} {right b : Bool} (h : b = if right then strLt x r else strLt r x) : CmpK prog w (.str x t) (.str r u) right b := by
  intro A Q E s hq
  cases right with
  | true => exact lt_str (by rw [show (decide (x.cps.toList < r.cps.toList)) = b from h.symm]; exact hq s.toks)
  | false => exact lt_str (by rw [show (decide (r.cps.toList < x.cps.toList)) = b from h.symm]; exact hq s.toks)
theorem C1.same {w : World} {f : Value} {args : List Value} {kw : List (Str × Value)} {need : Nat} {B B' : List (Addr × Obj)} {P : Value → Prop} (c : C1 w f args kw need B (fun n r => B = n ∧ P r)) (h1 : ∀ p ∈ B, p ∈ B') (h2 : ∀ p ∈ B', p ∈ B) : C1 w f args kw need B' (fun n r => B' = n ∧ P r) := by
  intro p loose mean mg mb dp un gd cn nm ig ic mr a ccd cl outer A₀ base h₀ L m s Q E Bl F X N T hd hu k
  refine c p loose mean mg mb dp un gd cn nm ig ic mr a ccd cl outer A₀ base h₀ L m s Q E Bl F X (fun p hp => N p (h1 p hp)) T hd hu ?_
  rintro r n' h' tk' F' N' ⟨rfl, P⟩
  exact k r B' h' tk' F' (fun p hp => N' p (h2 p hp)) ⟨rfl, P⟩
theorem C1.mono {w : World} {f : Value} {args : List Value} {kw : List (Str × Value)} {need : Nat} {news : List (Addr × Obj)} {Post Post' : List (Addr × Obj) → Value → Prop} (c : C1 w f args kw need news Post) (h : ∀ n r, Post n r → Post' n r) : C1 w f args kw need news Post' := by
  intro p loose mean mg mb dp un gd cn nm ig ic mr a ccd cl outer A₀ base h₀ L m s Q E B F X N T hd hu k
  exact c p loose mean mg mb dp un gd cn nm ig ic mr a ccd cl outer A₀ base h₀ L m s Q E B F X N T hd hu fun r n' h' tk' F' N' P => k r n' h' tk' F' N' (h _ _ P)
theorem strsInsert {vs : List Value} {ns : List Str} {k : Str} {t : Tok} (h : StrsAre vs ns) : ∀ p, p ≤ vs.length → StrsAre (vs.insertIdx p (.str k t)) (ns.insertIdx p k) := by
  induction h with
  | nil => intro p hp; obtain rfl : p = 0 := by simpa using hp
           exact .cons _ _ .nil
  | cons n t' h ih =>
    intro p hp
    cases p with
    | zero => exact .cons _ _ (.cons _ _ h)
    | succ p => exact .cons _ _ (ih p (by simpa using hp))
theorem strsCut {vs : List Value} {ns : List Str} (h : StrsAre vs ns) : ∀ p, StrsAre (vs.eraseIdx p) (ns.eraseIdx p) := by
  induction h with
  | nil => intro p; exact .nil
  | cons n t' h ih =>
    intro p
    cases p with
    | zero => exact h
    | succ p => exact .cons _ _ (ih p)
theorem strsDrop {vs : List Value} {ns : List Str} (h : StrsAre vs ns) : ∀ p, StrsAre (vs.drop p) (ns.drop p) := by
  induction h with
  | nil => intro p; cases p <;> exact .nil
  | cons n t' h ih =>
    intro p
    cases p with
    | zero => exact .cons _ _ h
    | succ p => exact ih p
theorem pick_int {fi w n : Nat} (h : fi < n) : ((fi : Nat) : Int) + Int.fmod ((w : Nat) : Int) (((n : Nat) : Int) - ((fi : Nat) : Int)) = ((fi + w % (n - fi) : Nat) : Int) := by
  rw [show ((n : Nat) : Int) - ((fi : Nat) : Int) = ((n - fi : Nat) : Int) from (Int.ofNat_sub (Nat.le_of_lt h)).symm, Int.fmod_eq_emod_of_nonneg _ (Int.natCast_nonneg _)]
  norm_cast
theorem push_at {prog : Program} {w : World} {A : Around} {E : Value → Shared → Prop} {s : Shared} {h₀ : Heap} {L D : Addr} {m : Str → Option Value} {news : List (Addr × Obj)} {vs : List Value} {n : Nat} {g : Obj → List (Addr × Obj)} {v : Value} {Q : Value → Shared → Prop} (F : Fr h₀ L s.heap m) (N : News h₀ L s.heap news) (U : UpdF D (listOf vs.toArray n) news g) (hz : vs.length ≤ 1000)
    (h : ∀ h', Fr h₀ L h' m → News h₀ L h' (g (listOf (vs ++ [v]).toArray (n + 1))) → Q .none { s with heap := h' }) : wpAny (model prog w) A (call (.builtin "list.append") [.ref D, v]) Q E s := by
  obtain ⟨pre, post, rfl, hg, a', b'⟩ := U.split
  have z := N (D, listOf vs.toArray n) (List.mem_append.mpr (.inr (.head _)))
  refine append_at (hsz := by rw [sizeLine_eq, List.size_toArray]; omega) z.1 fun h' hs ho' => ?_
  rw [List.push_toArray] at ho'
  exact h h' (F.change hs z.2.1 z.2.2) (hg _ ▸ N.setAt a' b' hs ho')
theorem upper_low {prog : Program} {w : World} {A : Around} {E : Value → Shared → Prop} {s : Shared} {x : Nat} {t : Tok} {Q : Value → Shared → Prop} (hx : x < 6) (h : ∀ t k, Q (.str (upG x) t) { s with toks := k }) : wpAny (model prog w) A (call (.builtin "str.upper") [.str (lowG x) t]) Q E s := by
  have e : Txt.upper (lowG x) = upG x := by
    rw [upper_ascii (x := lowG x) (fun c hc => by
      have : c = 97 + x := List.mem_singleton.mp hc
      rw [this]; exact Nat.add_lt_add_left (Nat.lt_trans hx (by decide : 6 < 31)) 97)]
    unfold lowG upG up1
    simp only [List.map_toArray, List.map_cons, List.map_nil]
    rw [if_pos ⟨Nat.le_add_right 97 x, Nat.add_le_add_left (Nat.le_of_lt (Nat.lt_trans hx (by decide : 6 < 25))) 97⟩, (by decide : ∀ x, x < 6 → 97 + x - 32 = 65 + x) x hx]
  have hz : Builtin.Str.tooLong (Txt.upper (lowG x)).length = false := by rw [e]; exact decide_eq_false (by show ¬ _ < 1; decide)
  refine SC.upper hz ?_
  rw [e]
  exact h _ _
theorem first_or {tvs : List Value} {to : List Nat} (h : StrsAre tvs (to.map lowG)) : ∃ v, (tvs ++ [Value.none])[0]? = some v ∧ optV (to.head?.map lowG) v := by
  cases to with
  | nil =>
    have : tvs = [] := List.length_eq_zero_iff.mp h.length
    subst this
    exact ⟨_, rfl, rfl⟩
  | cons a r =>
    obtain ⟨t, ht⟩ := h.get 0 (lowG a) rfl
    refine ⟨_, ?_, t, rfl⟩
    have hl : 0 < tvs.length := by rw [h.length]; simp
    rw [List.getElem?_append_left hl]; exact ht
theorem ne_opt {prog : Program} {w : World} {A : Around} {E : Value → Shared → Prop} {s : Shared} {o : Option Str} {r v : Value} {Q : Value → Shared → Prop} (h1 : optV o r) (h2 : optV o v) (h : Q (.bool false) s) : wpAny (model prog w) A (compareOp .NotEq r v) Q E s := by
  rcases optV_cases h1 with ⟨rfl, rfl⟩ | ⟨x, t, rfl, rfl⟩
  · obtain rfl : v = .none := h2
    exact PySem.EqNone.ne_none_none h
  · obtain ⟨u, rfl⟩ := h2
    refine ne_str ?_
    rw [show (x != x) = false from by simp]
    exact h
theorem any_low (to : List Nat) (x : Nat) : (to.map lowG).any (· == lowG x) = to.contains x := by
  induction to with
  | nil => rfl
  | cons a r ih =>
    rw [List.map_cons, List.any_cons, ih, List.contains_cons]
    congr 1
    by_cases e : a = x
    · subst e; simp
    · have h1 : (lowG a == lowG x) = false := beq_false_of_ne fun h => e (by
        have : (#[97 + a] : Array Nat) = #[97 + x] := congrArg Str.cps h
        have : [97 + a] = [97 + x] := congrArg Array.toList this
        exact Nat.add_left_cancel (List.head_eq_of_cons_eq this))
      rw [h1]; exact (beq_false_of_ne (Ne.symm e)).symm
theorem map_ins {α β : Type} (f : α → β) (l : List α) (p : Nat) (k : α) : (l.insertIdx p k).map f = (l.map f).insertIdx p (f k) := by
  induction l generalizing p with
  | nil => cases p <;> simp
  | cons a l ih => cases p with
    | zero => simp
    | succ p => simp [ih]
theorem map_cut {α β : Type} (f : α → β) (l : List α) (p : Nat) : (l.eraseIdx p).map f = (l.map f).eraseIdx p := by
  induction l generalizing p with
  | nil => rfl
  | cons a l ih => cases p with
    | zero => rfl
    | succ p => simp [ih]
theorem at_map {st : St} {j : Nat} (h : j < st.row.length) : (st.row.map lowG)[j]? = some (lowG (st.at j)) := by
  rw [List.getElem?_map]; unfold St.at; simp [List.getD, h]
theorem at_mem {st : St} {j : Nat} (h : j < st.row.length) : st.at j ∈ st.row := by
  unfold St.at; simp [List.getD, h]
theorem item_last {prog : Program} {w : World} {A : Around} {E : Value → Shared → Prop} {s : Shared} {h₀ : Heap} {L l : Addr} {news : List (Addr × Obj)} {vs : List Value} {n : Nat} {value slice : Expr} {u : Tok} {v : Value} {Q : Value → Shared → Prop} (N : News h₀ L s.heap news) (hm : (l, listOf vs.toArray n) ∈ news) (h0 : 0 < vs.length) (hx : vs[vs.length - 1]? = some v) (h : Q v s)
    (hs : subscripted slice false (.ref l) (.int (-1) u) = operate [.ref l, .int (-1) u] (getItem (.ref l) (.int (-1) u)) := by with_unfolding_all rfl) :
    wpAny (model prog w) A (subscriptTail value slice (.ref l) (.int (-1) u)) Q E s :=
  tail_any (Heap.IsList.typeIs ⟨_, (N _ hm).1, rfl, _, rfl⟩) slot_list_getitem.lookup (wpAny_getItem_list_neg ⟨_, (N _ hm).1, rfl, _, rfl⟩ (by decide) (by rw [List.size_toArray]; exact Int.neg_le_neg (Int.ofNat_le.mpr h0)) (by decide) (by rw [List.size_toArray, show ((-1 : Int) + (vs.length : Int)).toNat = vs.length - 1 from by rw [Int.add_comm]; exact Int.toNat_sub _ 1]; simpa using hx) h) hs
theorem strs_lay : ∀ ss : List Str, (∀ x ∈ ss, Clean x) → PyData.canLayAll0 (ss.map PyData.str) = true
  | [], _ => rfl
  | p :: r, h => by
    simp only [List.map_cons, PyData.canLayAll0, PyData.canLay0, clean_ok (h p (.head _)), Bool.true_and]
    exact strs_lay r fun x hx => h x (.tail _ hx)
theorem strs_depth : ∀ ss : List Str, PyData.depthAll (ss.map PyData.str) = 0
  | [] => rfl
  | p :: r => by
    have := strs_depth r
    simp only [List.map_cons, PyData.depthAll, PyData.depth] at this ⊢
    omega
theorem strs_shaped (ss : List Str) (h : ∀ x ∈ ss, Clean x) : SeqAt.shaped (.list (ss.map PyData.str)) = true := by
  show (PyData.canLayAll0 (ss.map PyData.str) && decide (PyData.depthAll (ss.map PyData.str) + 1 ≤ 64)) = true
  rw [strs_lay ss h, strs_depth]
  rfl
theorem eqv_strs_self (ss : List Str) : PyData.eqv (.list (ss.map PyData.str)) (.list (ss.map PyData.str)) = true := by
  rw [PyData.eqv]
  induction ss with
  | nil => rfl
  | cons a r ih => simp only [List.map_cons, PyData.eqvAll, PyData.eqv]; rw [ih]; simp
theorem pick_drop (l : List Value) (k : Nat) : kms_pick l (some ((k : Nat) : Int)) none = l.drop k := by
  unfold kms_pick kms_lo kms_hi
  dsimp only
  rw [if_neg (Int.not_lt.mpr (Int.natCast_nonneg k)), Int.toNat_natCast, List.take_of_length_le (by rw [List.length_drop]; exact Nat.le_refl _)]
  rcases Nat.le_total k l.length with h | h
  · rw [Nat.min_eq_left h]
  · rw [Nat.min_eq_right h, List.drop_of_length_le h, List.drop_of_length_le (Nat.le_refl _)]
/-- bisect_left over the row -/
theorem bisl_row (W : World) (f rw : Addr) (rvs : List Value) (rn : Nat) (st : St) (v : Str) (tv : Tok) (need : Nat) (B : List (Addr × Obj)) (hrow : (rw, listOf rvs.toArray rn) ∈ B) (hrows : StrsAre rvs (st.row.map lowG)) (h6 : st.row.length ≤ 6) (hfn : ∃ oc od fd sl, (f, (⟨oc, od, .func fd, sl⟩ : Obj)) ∈ B)
    (hlam : ∀ x t, x ∈ st.row → C1 W (.ref f) [.str (lowG x) t] [] need B (fun n r => B = n ∧ ∃ t', r = .str (st.wd x) t')) :
    C1 W (.ref 72) [.ref rw, .str v tv] [("key", .ref f)] (need + 4) B (fun n r => B = n ∧ ∃ t, r = .int (firstOf st v : Nat) t) := by
  have hl : rvs.length = st.row.length := by rw [hrows.length, List.length_map]
  have := bisl W f rw (.str v tv) rvs rn need (fun _ : Unit => B) (fun _ => 0) (fun j => strLt (st.wd (st.at j)) v) (fun _ _ => ()) ⟨fun _ => hfn, fun _ => hrow, fun _ _ => Nat.zero_le _, fun _ i y hy _ => by
    have hi : i < st.row.length := by rw [← hl]; exact (List.getElem?_eq_some_iff.mp hy).1
    obtain ⟨t, ht⟩ := hrows.get i _ (at_map hi)
    obtain rfl : y = .str (lowG (st.at i)) t := by rw [ht] at hy; exact (Option.some.inj hy).symm
    refine (hlam _ t (at_mem hi)).mono ?_
    rintro n r ⟨e, t', rfl⟩
    exact ⟨e, cmpK_str rfl⟩⟩ (by rw [hl]; exact Nat.le_trans h6 (by decide)) () (by show 0 + _ ≤ _; rw [Nat.zero_add, hl]; exact Nat.le_trans h6 (by decide))
  rw [hl] at this
  exact this
/-- insort_right into the row -/
theorem ins_row (W : World) (f rw : Addr) (rvs : List Value) (rn : Nat) (st : St) (o : Nat) (to : Tok) (need : Nat) (B : List (Addr × Obj)) {h₀ h : Heap} {L : Addr} (N : News h₀ L h B) (hrow : (rw, listOf rvs.toArray rn) ∈ B) (hrows : StrsAre rvs (st.row.map lowG)) (h6 : st.row.length ≤ 6) (hfn : ∃ oc od fd sl, (f, (⟨oc, od, .func fd, sl⟩ : Obj)) ∈ B)
    (hlam : ∀ x t, x ∈ st.row ∨ x = o → C1 W (.ref f) [.str (lowG x) t] [] need B (fun n r => B = n ∧ ∃ t', r = .str (st.wd x) t')) :
    C1 W (.ref 54) [.ref rw, .str (lowG o) to] [("key", .ref f)] (need + 8) B (fun n r => (∃ vs k, (rw, listOf (List.toArray vs) k) ∈ n ∧ StrsAre vs ((st.row.insertIdx (placeOf st (st.wd o)) o).map lowG)) ∧ Keep [rw] B n ∧ r = .none) := by
  have hl : rvs.length = st.row.length := by rw [hrows.length, List.length_map]
  have i1 : ∀ p ∈ B, p ∈ (rw, listOf rvs.toArray rn) :: off [rw] B := keep_all N hrow (.head _) fun p hp => .tail _ hp
  have i2 : ∀ p ∈ (rw, listOf rvs.toArray rn) :: off [rw] B, p ∈ B := List.forall_mem_cons.mpr ⟨hrow, fun p hp => off_sub p hp⟩
  obtain ⟨a, b, c, d, hf⟩ := hfn
  have hfr : f ≠ rw := news_ne N hf hrow (by intro e; cases e)
  have hf2 : (f, (⟨a, b, .func c, d⟩ : Obj)) ∈ off [rw] B := off_mem hf (List.forall_mem_singleton.mpr hfr)
  have hlam' := fun x t hx => (hlam x t hx).same i1 i2
  have hx := (hlam' o to (.inr rfl)).mono (Post' := fun news' r => (rw, listOf rvs.toArray rn) :: off [rw] B = news' ∧ KeyC W f r true rw rvs rn need (fun _ : Unit => (rw, listOf rvs.toArray rn) :: off [rw] B) (fun _ => 0) (fun j => strLt (st.wd o) (st.wd (st.at j))) (fun _ _ => ())) (by
    rintro n r ⟨e, t', rfl⟩
    refine ⟨e, fun _ => ⟨a, b, c, d, .tail _ hf2⟩, fun _ => .head _, fun _ _ => Nat.zero_le _, fun _ i y hy _ => ?_⟩
    have hi : i < st.row.length := by rw [← hl]; exact (List.getElem?_eq_some_iff.mp hy).1
    obtain ⟨t, ht⟩ := hrows.get i _ (at_map hi)
    obtain rfl : y = .str (lowG (st.at i)) t := by rw [ht] at hy; exact (Option.some.inj hy).symm
    refine (hlam' _ t (.inl (at_mem hi))).mono ?_
    rintro n r ⟨e, t', rfl⟩
    exact ⟨e, cmpK_str rfl⟩)
  have := insort W f rw (.str (lowG o) to) rvs rn need (off [rw] B) _ (by rw [hl]; exact Nat.le_trans h6 (by decide)) (off_ne (.head _)) ⟨a, b, c, d, hf2⟩ hx
  intro p loose mean mg mb dp un gd cn nm ig ic mr a ccd cl outer A₀ base h₀ L m s Q E Bl F X N T hd hu k
  refine this p loose mean mg mb dp un gd cn nm ig ic mr a ccd cl outer A₀ base h₀ L m s Q E Bl F X (fun p hp => N p (i2 p hp)) T hd hu ?_
  rintro r n' h' tk' F' N' ⟨rfl, rfl⟩
  refine k _ _ h' tk' F' N' ⟨⟨_, _, .head _, ?_⟩, fun p hp hn => .tail _ (off_mem hp hn), rfl⟩
  have hp : (bisRun true (fun j => strLt (st.wd o) (st.wd (st.at j))) (fun (_ : Unit) _ => ()) rvs.length 0 rvs.length ()).1 ≤ rvs.length := bisRun_le _ _ _ _ (Nat.zero_le _)
  have h2 := strsInsert (k := lowG o) (t := to) hrows _ hp
  rw [map_ins]
  rw [hl] at h2 ⊢
  exact h2
end
section
open PySem
set_option maxRecDepth 100000
theorem nodup_sub {l : List Nat} (hn : l.Nodup) : ∀ {m : List Nat}, (∀ x ∈ l, x ∈ m) → l.length ≤ m.length := by
  induction l with
  | nil => intro m _; exact Nat.zero_le _
  | cons a r ih =>
    intro m hs
    have ha := hs a (.head _)
    obtain ⟨h1, h2⟩ := List.nodup_cons.mp hn
    have := ih h2 (m := m.erase a) fun x hx => (List.mem_erase_of_ne (fun e => h1 (by rw [← e]; exact hx))).mpr (hs x (.tail _ hx))
    rw [List.length_erase_of_mem ha] at this
    rw [List.length_cons]
    exact Nat.le_trans (Nat.succ_le_succ this) (Nat.le_of_eq (Nat.succ_pred_eq_of_pos (List.length_pos_of_mem ha)))
theorem group_nodup (n : Nat) : (groupP n).Nodup := List.Pairwise.sublist List.filter_sublist List.nodup_range
/-- a set that no edge of the group leaves holds all of it or nothing -/
theorem reach_one {g : Nat → Nat → Bool} {gr : List Nat} (h0 : 0 < gr.length) {S : Nat → Bool} (hS : ∀ y ∈ gr, ∀ z ∈ gr, g y z = true → S y = S z) : ∀ t, ∀ k ∈ reachP g gr t, S k = S (gr.getD 0 0)
  | 0, k, hk => by
    have e : k = gr.getD 0 0 := by simpa [reachP] using hk
    rw [e]
  | t + 1, k, hk => by
    obtain ⟨h1, h2⟩ := List.mem_filter.mp hk
    rcases Bool.or_eq_true _ _ ▸ h2 with h | h
    · exact reach_one h0 hS t k (List.contains_iff_mem.mp h)
    · rw [Bool.not_eq_true', List.isEmpty_eq_false_iff] at h
      obtain ⟨j, hj⟩ := List.exists_mem_of_ne_nil _ h
      obtain ⟨h3, h4⟩ := List.mem_filter.mp hj
      rw [hS k h1 j (reach_sub g h0 t j h3) h4]
      exact reach_one h0 hS t j h3
/-- an order of all six -/
structure Perm6 (o : Nat → Nat) : Prop where
  lt : ∀ i, i < 6 → o i < 6
  inj : ∀ i j, i < 6 → j < 6 → o i = o j → i = j
  sur : ∀ x, x < 6 → ∃ i, i < 6 ∧ o i = x
structure Graph (g : Nat → Nat → Bool) : Prop where
  sym : ∀ i j, g i j = g j i
  irr : ∀ i, g i i = false
theorem max_of (p : Nat → Bool) : ∀ n, (∃ i, i < n ∧ p i = true) → ∃ i, i < n ∧ p i = true ∧ ∀ j, j < n → p j = true → j ≤ i
  | 0, h => by obtain ⟨i, h1, _⟩ := h; exact absurd h1 (Nat.not_lt_zero _)
  | n + 1, h => by
    by_cases hp : p n = true
    · exact ⟨n, Nat.lt_succ_self _, hp, fun j hj _ => Nat.le_of_lt_succ hj⟩
    · obtain ⟨i, h1, h2⟩ := h
      have h3 : i < n := Nat.lt_of_le_of_ne (Nat.le_of_lt_succ h1) fun e => hp (e ▸ h2)
      obtain ⟨k, k1, k2, k3⟩ := max_of p n ⟨i, h3, h2⟩
      exact ⟨k, Nat.lt_succ_of_lt k1, k2, fun j hj hpj => k3 j (Nat.lt_of_le_of_ne (Nat.le_of_lt_succ hj) fun e => hp (e ▸ hpj)) hpj⟩
theorem two_of {l : List Nat} (hn : l.Nodup) (h2 : l.length = 2) {a b : Nat} (ha : a ∈ l) (hb : b ∈ l) (hne : a ≠ b) : ∀ x ∈ l, x = a ∨ x = b := by
  match l, h2 with
  | [u, v], _ =>
    intro x hx
    simp only [List.mem_cons, List.not_mem_nil, or_false] at ha hb hx
    rcases ha with rfl | rfl
    · exact hb.elim (fun e => absurd e.symm hne) fun e => e ▸ hx
    · exact hb.elim (fun e => (e ▸ hx).symm) fun e => absurd e.symm hne
theorem ring_no {g : Nat → Nat → Bool} {o : Nat → Nat} (G : Graph g) (P : Perm6 o) (hf : fullP g o = true) : ringP g = false := by
  refine ring_false fun i _ => ?_
  cases hr : ringAt g (15 + i) with
  | false => rfl
  | true =>
    exfalso
    unfold ringAt at hr
    rw [Bool.and_eq_true, Bool.and_eq_true, decide_eq_true_eq, decide_eq_true_eq, List.isEmpty_iff] at hr
    obtain ⟨⟨hl, ho⟩, he⟩ := hr
    have hnd := group_nodup (15 + i)
    have hgl : ∀ k ∈ groupP (15 + i), k < 6 := fun k hk => group_lt hk
    generalize groupP (15 + i) = gr at hl ho he hnd hgl
    have hdeg : ∀ k ∈ gr, (gr.filter fun j => g k j).length = 2 := fun k hk => by
      unfold oddP at ho
      have := List.filter_eq_nil_iff.mp ho k hk
      exact Decidable.of_not_not fun h => this (decide_eq_true h)
    obtain ⟨z, hz⟩ := List.exists_mem_of_length_pos (Nat.lt_trans (by decide) hl)
    obtain ⟨pz, hpz, ez⟩ := P.sur z (hgl z hz)
    obtain ⟨c, hc, hcg, hmax⟩ := max_of (fun p => gr.contains (o p)) 6 ⟨pz, hpz, by rw [ez]; exact List.contains_iff_mem.mpr hz⟩
    have hx := List.contains_iff_mem.mp hcg
    have hdx := hdeg _ hx
    have hndx : (gr.filter fun j => g (o c) j).Nodup := List.Pairwise.sublist List.filter_sublist hnd
    match hq : gr.filter fun j => g (o c) j, hdx, hndx with
    | [u, v], _, hnn =>
      have hu : u ∈ gr.filter fun j => g (o c) j := by rw [hq]; exact .head _
      have hv : v ∈ gr.filter fun j => g (o c) j := by rw [hq]; exact .tail _ (.head _)
      obtain ⟨hu, gu⟩ := List.mem_filter.mp hu
      obtain ⟨hv, gv⟩ := List.mem_filter.mp hv
      have huv : u ≠ v := by simpa using hnn
      have neu : o c ≠ u := fun e => by rw [← e, G.irr] at gu; cases gu
      have nev : o c ≠ v := fun e => by rw [← e, G.irr] at gv; cases gv
      obtain ⟨pu, hpu, eu⟩ := P.sur u (hgl u hu)
      obtain ⟨pv, hpv, evv⟩ := P.sur v (hgl v hv)
      have ltu : pu < c := Nat.lt_of_le_of_ne (hmax pu hpu (by rw [eu]; exact List.contains_iff_mem.mpr hu)) fun e => neu (by rw [← e, eu])
      have ltv : pv < c := Nat.lt_of_le_of_ne (hmax pv hpv (by rw [evv]; exact List.contains_iff_mem.mpr hv)) fun e => nev (by rw [← e, evv])
      have full : ∀ a b, a < b → b < c → g (o c) (o a) = true → g (o c) (o b) = true → g (o a) (o b) = true := fun a b hab hbc h1 h2 => by
        cases h3 : g (o a) (o b) with
        | true => rfl
        | false =>
          have := full_false (g := g) (o := o) hc hbc hab (by unfold badP; rw [h1, h2, h3]; rfl)
          rw [this] at hf; cases hf
      have guv : g u v = true := by
        rcases Nat.lt_or_gt_of_ne (show pu ≠ pv from fun e => huv (by rw [← eu, ← evv, e])) with h | h
        · have := full pu pv h ltv (by rw [eu]; exact gu) (by rw [evv]; exact gv)
          rw [eu, evv] at this; exact this
        · have := full pv pu h ltu (by rw [evv]; exact gv) (by rw [eu]; exact gu)
          rw [eu, evv] at this; rw [G.sym]; exact this
      have cl : ∀ {x a b : Nat}, x ∈ gr → a ∈ gr → b ∈ gr → a ≠ b → g x a = true → g x b = true → ∀ y ∈ gr, g x y = true → y = a ∨ y = b := fun {x a b} hx ha hb hne h1 h2 y hy h3 =>
        two_of (List.Pairwise.sublist List.filter_sublist hnd) (hdeg x hx) (List.mem_filter.mpr ⟨ha, h1⟩) (List.mem_filter.mpr ⟨hb, h2⟩) hne y (List.mem_filter.mpr ⟨hy, h3⟩)
      have c1 := cl hx hu hv huv gu gv
      have c2 := cl hu hx hv nev (by rw [G.sym]; exact gu) guv
      have c3 := cl hv hx hu neu (by rw [G.sym]; exact gv) (by rw [G.sym]; exact guv)
      have out : ∀ y ∈ gr, ∀ w ∈ gr, g y w = true → (decide (y = o c ∨ y = u ∨ y = v)) = true → (decide (w = o c ∨ w = u ∨ w = v)) = true := fun y hy w hw h1 h2 => by
        rw [decide_eq_true_eq] at h2 ⊢
        rcases h2 with rfl | rfl | rfl
        · rcases c1 w hw h1 with e | e <;> simp [e]
        · rcases c2 w hw h1 with e | e <;> simp [e]
        · rcases c3 w hw h1 with e | e <;> simp [e]
      have all := reach_one (g := g) (gr := gr) (Nat.lt_trans (by decide) hl) (S := fun y => decide (y = o c ∨ y = u ∨ y = v)) (fun y hy w hw h1 => by
        cases h2 : decide (y = o c ∨ y = u ∨ y = v) with
        | true => exact (out y hy w hw h1 h2).symm
        | false =>
          cases h3 : decide (w = o c ∨ w = u ∨ w = v) with
          | false => rfl
          | true => have := out w hw y hy (by rw [G.sym]; exact h1) h3; rw [this] at h2; cases h2) 6
      rw [he] at all
      have hxx := all _ hx
      have : gr.length ≤ [o c, u, v].length := nodup_sub hnd fun k hk => by
        have := all k hk
        rw [← hxx] at this
        simpa using this
      exact absurd this (Nat.not_le_of_lt hl)
end
section
open PySem
set_option maxRecDepth 100000
/-- the number of a group -/
noncomputable def numB (b0 b1 b2 b3 b4 b5 : Bool) : Nat := b0.toNat + 2 * b1.toNat + 4 * b2.toNat + 8 * b3.toNat + 16 * b4.toNat + 32 * b5.toNat
noncomputable def pick6 (b0 b1 b2 b3 b4 b5 : Bool) : List Nat := (if b0 then [0] else []) ++ (if b1 then [1] else []) ++ (if b2 then [2] else []) ++ (if b3 then [3] else []) ++ (if b4 then [4] else []) ++ (if b5 then [5] else [])
theorem num_fact : ∀ b0 b1 b2 b3 b4 b5 : Bool, 3 < (pick6 b0 b1 b2 b3 b4 b5).length → (15 ≤ numB b0 b1 b2 b3 b4 b5 ∧ numB b0 b1 b2 b3 b4 b5 < 64) ∧ groupP (numB b0 b1 b2 b3 b4 b5) = pick6 b0 b1 b2 b3 b4 b5 := by decide +kernel
theorem pick_filter (p : Nat → Bool) : (List.range 6).filter p = pick6 (p 0) (p 1) (p 2) (p 3) (p 4) (p 5) := by
  rw [show List.range 6 = [0, 1, 2, 3, 4, 5] from rfl]
  simp only [List.filter_cons, List.filter_nil, pick6]
  cases p 0 <;> cases p 1 <;> cases p 2 <;> cases p 3 <;> cases p 4 <;> cases p 5 <;> rfl
theorem perm_of {l m : List Nat} (hl : l.Nodup) (hm : m.Nodup) (h : ∀ x, x ∈ l ↔ x ∈ m) : l.Perm m := (List.perm_ext_iff_of_nodup hl hm).mpr h
/-- a connected two-regular group makes a ring -/
theorem ring_yes {g : Nat → Nat → Bool} {l : List Nat} (G : Graph g) (hn : l.Nodup) (hl : 3 < l.length) (h6 : ∀ x ∈ l, x < 6) (hdeg : ∀ x ∈ l, (l.filter fun j => g x j).length = 2) (hpath : ∀ i, (h : i + 1 < l.length) → g l[i] l[i + 1] = true) : ringP g = true := by
  have hp : ((List.range 6).filter fun k => l.contains k).Perm l := perm_of (List.Pairwise.sublist List.filter_sublist List.nodup_range) hn fun x => by
    rw [List.mem_filter, List.mem_range]
    exact ⟨fun h => List.contains_iff_mem.mp h.2, fun h => ⟨h6 x h, List.contains_iff_mem.mpr h⟩⟩
  have hle : l.length ≤ 6 := by have := nodup_sub hn (m := List.range 6) fun x hx => List.mem_range.mpr (h6 x hx); simpa using this
  rw [pick_filter] at hp
  obtain ⟨⟨n1, n2⟩, hg⟩ := num_fact (l.contains 0) (l.contains 1) (l.contains 2) (l.contains 3) (l.contains 4) (l.contains 5) (by rw [hp.length_eq]; exact hl)
  generalize numB _ _ _ _ _ _ = n at n1 n2 hg
  rw [← hg] at hp
  refine ring_true (i := n - 15) (Nat.sub_lt_left_of_lt_add n1 n2) ?_
  rw [Nat.add_sub_cancel' n1]
  unfold ringAt
  have hlen := hp.length_eq
  have h0 : 0 < (groupP n).length := by rw [hlen]; exact Nat.lt_trans (by decide) hl
  have hhead : (groupP n).getD 0 0 ∈ groupP n := by
    rw [show (groupP n).getD 0 0 = (groupP n)[0] from by simp [List.getD, h0]]
    exact List.getElem_mem h0
  generalize hgr : groupP n = gr at *
  have step : ∀ t x y, x ∈ reachP g gr t → y ∈ gr → g y x = true → y ∈ reachP g gr (t + 1) := fun t x y hx hy h => by
    refine List.mem_filter.mpr ⟨hy, ?_⟩
    rw [Bool.or_eq_true]
    refine .inr ?_
    rw [Bool.not_eq_true', List.isEmpty_eq_false_iff]
    exact List.ne_nil_of_mem (List.mem_filter.mpr ⟨hx, h⟩)
  have stay : ∀ t x, x ∈ gr → x ∈ reachP g gr t → x ∈ reachP g gr (t + 1) := fun t x hy hx => List.mem_filter.mpr ⟨hy, by rw [List.contains_iff_mem.mpr hx]; rfl⟩
  have stays : ∀ k t x, x ∈ gr → x ∈ reachP g gr t → x ∈ reachP g gr (t + k) := fun k => by
    induction k with
    | zero => intro t x _ h; exact h
    | succ k ih => intro t x hy h; exact stay _ _ hy (ih t x hy h)
  obtain ⟨s, hs, es⟩ := List.getElem_of_mem (hp.mem_iff.mp hhead)
  have go : ∀ d j, (hj : j < l.length) → (j = s + d ∨ s = j + d) → l[j] ∈ reachP g gr d := fun d => by
    induction d with
    | zero =>
      intro j hj h
      obtain rfl : j = s := h.elim id fun e => e.symm
      show l[j] ∈ [gr.getD 0 0]
      rw [es]; exact .head _
    | succ d ih =>
      intro j hj h
      rcases h with h | h
      · obtain rfl : j = (s + d) + 1 := h
        exact step d _ _ (ih (s + d) (Nat.lt_of_succ_lt hj) (.inl rfl)) (hp.mem_iff.mpr (List.getElem_mem hj)) (by rw [G.sym]; exact hpath (s + d) hj)
      · have hj1 : j + 1 < l.length := Nat.lt_of_le_of_lt (h ▸ Nat.add_le_add_left (Nat.succ_le_succ (Nat.zero_le d)) j) hs
        exact step d _ _ (ih (j + 1) hj1 (.inr (by rw [h, Nat.add_assoc, Nat.add_comm 1 d]))) (hp.mem_iff.mpr (List.getElem_mem hj)) (hpath j hj1)
  have hall : ∀ x ∈ gr, x ∈ reachP g gr 5 := fun x hx => by
    obtain ⟨j, hj, rfl⟩ := List.getElem_of_mem (hp.mem_iff.mp hx)
    rcases Nat.le_total s j with h | h
    · have := stays (5 - (j - s)) _ _ hx (go (j - s) j hj (.inl (Nat.add_sub_cancel' h).symm))
      rw [Nat.add_sub_cancel' (Nat.le_trans (Nat.sub_le j s) (Nat.le_of_lt_succ (Nat.lt_of_lt_of_le hj hle)))] at this; exact this
    · have := stays (5 - (s - j)) _ _ hx (go (s - j) j hj (.inr (Nat.add_sub_cancel' h).symm))
      rw [Nat.add_sub_cancel' (Nat.le_trans (Nat.sub_le s j) (Nat.le_of_lt_succ (Nat.lt_of_lt_of_le hs hle)))] at this; exact this
  rw [Bool.and_eq_true, Bool.and_eq_true, decide_eq_true_eq, decide_eq_true_eq, List.isEmpty_iff]
  refine ⟨⟨by rw [hlen]; exact hl, List.filter_eq_nil_iff.mpr fun k hk => ?_⟩, List.filter_eq_self.mpr fun k hk => by rw [List.contains_iff_mem.mpr (hall k hk)]; rfl⟩
  have := hdeg k (hp.mem_iff.mp hk)
  unfold degP
  rw [(hp.filter _).length_eq, this]
  decide
theorem nodup_map {o : Nat → Nat} (P : Perm6 o) {l : List Nat} (h6 : ∀ p ∈ l, p < 6) (hn : l.Nodup) : (l.map o).Nodup := by
  refine List.pairwise_map.mpr (List.Pairwise.imp_of_mem (fun ha hb hne e => hne (P.inj _ _ (h6 _ ha) (h6 _ hb) e)) hn)
end
section
open PySem
set_option maxRecDepth 100000
theorem min_of (p : Nat → Prop) (h : ∃ i, p i) : ∃ i, p i ∧ ∀ j, p j → i ≤ j := by
  obtain ⟨i, hi⟩ := h
  induction i using Nat.strongRecOn with
  | ind i ih =>
    by_cases hj : ∃ j, j < i ∧ p j
    · obtain ⟨j, h1, h2⟩ := hj
      exact ih j h1 h2
    · exact ⟨i, hi, fun j h => Nat.le_of_not_lt fun hl => hj ⟨j, hl, h⟩⟩
/-- what the four-point rule says, over the order's places -/
noncomputable def FourOk (h : Nat → Nat → Bool) : Prop := ∀ c, c < 6 → ∀ b, b < c → ∀ a, a < b → h a c = true → h a b = false → ∃ d, d < a ∧ h d b = true ∧ h d c = false
noncomputable def BadAt (h : Nat → Nat → Bool) (c b a : Nat) : Prop := a < b ∧ b < c ∧ c < 6 ∧ h c a = true ∧ h c b = true ∧ h a b = false
/-- a cycle without a chord -/
structure Cyc (h : Nat → Nat → Bool) (l : List Nat) : Prop where
  lt : ∀ p ∈ l, p < 6
  nodup : l.Nodup
  long : 3 < l.length
  deg : ∀ x ∈ l, (l.filter fun j => h x j).length = 2
  path : ∀ i, (hi : i + 1 < l.length) → h l[i] l[i + 1] = true
theorem cyc4 {h : Nat → Nat → Bool} (G : Graph h) {a b c d : Nat} (ha : a < 6) (hb : b < 6) (hc : c < 6) (hd : d < 6) (nd : [a, b, c, d].Nodup) (h1 : h a b = true) (h2 : h b c = true) (h3 : h c d = true) (h4 : h a d = true) (k1 : h a c = false) (k2 : h b d = false) : Cyc h [a, b, c, d] := by
  have s := fun {i j : Nat} {v : Bool} (e : h i j = v) => (G.sym j i).trans e
  refine ⟨by simp [ha, hb, hc, hd], nd, by simp, ?_, ?_⟩
  · simp only [List.forall_mem_cons, List.filter_cons, G.irr, h1, h2, h3, h4, k1, k2, s h1, s h2, s h3, s h4, s k1, s k2]
    simp
  · intro i hi
    match i, hi with
    | 0, _ => exact h1
    | 1, _ => exact h2
    | 2, _ => exact h3
theorem cyc5 {h : Nat → Nat → Bool} (G : Graph h) {a b c d e : Nat} (ha : a < 6) (hb : b < 6) (hc : c < 6) (hd : d < 6) (he : e < 6) (nd : [a, b, c, d, e].Nodup) (h1 : h a b = true) (h2 : h b c = true) (h3 : h c d = true) (h4 : h d e = true) (h5 : h a e = true)
    (k1 : h a c = false) (k2 : h a d = false) (k3 : h b d = false) (k4 : h b e = false) (k5 : h c e = false) : Cyc h [a, b, c, d, e] := by
  have s := fun {i j : Nat} {v : Bool} (e : h i j = v) => (G.sym j i).trans e
  refine ⟨by simp [ha, hb, hc, hd, he], nd, by simp, ?_, ?_⟩
  · simp only [List.forall_mem_cons, List.filter_cons, G.irr, h1, h2, h3, h4, h5, k1, k2, k3, k4, k5, s h1, s h2, s h3, s h4, s h5, s k1, s k2, s k3, s k4, s k5]
    simp
  · intro i hi
    match i, hi with
    | 0, _ => exact h1
    | 1, _ => exact h2
    | 2, _ => exact h3
    | 3, _ => exact h4
theorem cyc6 {h : Nat → Nat → Bool} (G : Graph h) {a b c d e f : Nat} (ha : a < 6) (hb : b < 6) (hc : c < 6) (hd : d < 6) (he : e < 6) (hf : f < 6) (nd : [a, b, c, d, e, f].Nodup) (h1 : h a b = true) (h2 : h b c = true) (h3 : h c d = true) (h4 : h d e = true) (h5 : h e f = true) (h6 : h a f = true)
    (k1 : h a c = false) (k2 : h a d = false) (k3 : h a e = false) (k4 : h b d = false) (k5 : h b e = false) (k6 : h b f = false) (k7 : h c e = false) (k8 : h c f = false) (k9 : h d f = false) : Cyc h [a, b, c, d, e, f] := by
  have s := fun {i j : Nat} {v : Bool} (e : h i j = v) => (G.sym j i).trans e
  refine ⟨by simp [ha, hb, hc, hd, he, hf], nd, by simp, ?_, ?_⟩
  · simp only [List.forall_mem_cons, List.filter_cons, G.irr, h1, h2, h3, h4, h5, h6, k1, k2, k3, k4, k5, k6, k7, k8, k9, s h1, s h2, s h3, s h4, s h5, s h6, s k1, s k2, s k3, s k4, s k5, s k6, s k7, s k8, s k9]
    simp
  · intro i hi
    match i, hi with
    | 0, _ => exact h1
    | 1, _ => exact h2
    | 2, _ => exact h3
    | 3, _ => exact h4
    | 4, _ => exact h5
theorem cyc_of {h : Nat → Nat → Bool} (G : Graph h) (H : FourOk h) {c : Nat} (hbad : ∃ b a, BadAt h c b a) : ∃ l, Cyc h l := by
  have s := fun {i j : Nat} {v : Bool} (e : h i j = v) => (G.sym j i).trans e
  obtain ⟨a, ⟨b, hab, hbc, hc, hca, hcb, hnab⟩, hmin⟩ := min_of (fun a => ∃ b, BadAt h c b a) (let ⟨b, a, h⟩ := hbad; ⟨a, b, h⟩)
  have hb6 := Nat.lt_trans hbc hc
  have hac := Nat.lt_trans hab hbc
  have ha6 := Nat.lt_trans hab hb6
  -- no earlier pair of c's neighbours
  have hm : ∀ x y, x < a → x < y → y < c → h c x = true → h c y = true → h x y = true := fun x y h1 h2 h3 h4 h5 => by
    cases h6 : h x y with
    | true => rfl
    | false => exact absurd (hmin x ⟨y, h2, h3, hc, h4, h5, h6⟩) (Nat.not_le_of_lt h1)
  obtain ⟨d, ⟨hda, hdb, hdc⟩, hdmin⟩ := min_of (fun d => d < a ∧ h d b = true ∧ h d c = false) (H c hc b hbc a hab (s hca) hnab)
  have hd6 := Nat.lt_trans hda ha6
  by_cases hdA : h d a = true
  · -- c b d a
    exact ⟨[c, b, d, a], cyc4 G hc hb6 hd6 ha6 ((by decide : ∀ c, c < 6 → ∀ b, b < c → ∀ a, a < b → ∀ d, d < a → [c, b, d, a].Nodup) c hc b hbc a hab d hda) hcb (s hdb) hdA hca (s hdc) (s hnab)⟩
  · rw [Bool.not_eq_true] at hdA
    obtain ⟨e, hed, hea, heb⟩ := H b hb6 a hab d hda hdb hdA
    have he6 := Nat.lt_trans hed hd6
    have hea' := Nat.lt_trans hed hda
    have hec : h e c = false := by
      cases h1 : h e c with
      | false => rfl
      | true => have := hm e b hea' (Nat.lt_trans hea' hab) hbc (s h1) hcb; rw [this] at heb; cases heb
    by_cases heD : h e d = true
    · -- c b d e a
      exact ⟨[c, b, d, e, a], cyc5 G hc hb6 hd6 he6 ha6 ((by decide : ∀ c, c < 6 → ∀ b, b < c → ∀ a, a < b → ∀ d, d < a → ∀ e, e < d → [c, b, d, e, a].Nodup) c hc b hbc a hab d hda e hed) hcb (s hdb) (s heD) hea hca (s hdc) (s hec) (s heb) (s hnab) hdA⟩
    · rw [Bool.not_eq_true] at heD
      obtain ⟨f, hfe, hfd, hfa⟩ := H a ha6 d hda e hed hea heD
      have hfc : h f c = false := by
        cases h1 : h f c with
        | false => rfl
        | true => have := hm f a (Nat.lt_trans hfe hea') (Nat.lt_trans hfe hea') hac (s h1) hca; rw [this] at hfa; cases hfa
      have hfb : h f b = false := by
        cases h1 : h f b with
        | false => rfl
        | true => exact absurd (hdmin f ⟨Nat.lt_trans hfe hea', h1, hfc⟩) (Nat.not_le_of_lt (Nat.lt_trans hfe hed))
      have d3 := (by decide : ∀ c, c < 6 → ∀ b, b < c → ∀ a, a < b → ∀ d, d < a → d < 3) c hc b hbc a hab d hda
      have e1 := (by decide : ∀ d, d < 3 → ∀ e, e < d → ∀ f, f < e → f = 0 ∧ e = 1 ∧ d = 2) d d3 e hed f hfe
      have b4 : b ≤ 4 := Nat.le_of_lt_succ (Nat.lt_of_lt_of_le hbc (Nat.le_of_lt_succ hc))
      have a3 : a = 3 := Nat.le_antisymm (Nat.le_of_lt_succ (Nat.lt_of_lt_of_le hab b4)) (by have := hda; rw [e1.2.2] at this; exact this)
      have b4 : b = 4 := Nat.le_antisymm b4 (by have := hab; rw [a3] at this; exact this)
      have c5 : c = 5 := Nat.le_antisymm (Nat.le_of_lt_succ hc) (by have := hbc; rw [b4] at this; exact this)
      by_cases hfE : h f e = true
      · -- c b d f e a
        exact ⟨[c, b, d, f, e, a], cyc6 G hc hb6 hd6 (Nat.lt_trans hfe he6) he6 ha6 (by rw [e1.1, e1.2.1, e1.2.2, a3, b4, c5]; decide) hcb (s hdb) (s hfd) hfE hea hca (s hdc) (s hfc) (s hec) (s hfb) (s heb) (s hnab) (s heD) hdA hfa⟩
      · rw [Bool.not_eq_true] at hfE
        obtain ⟨k, hk, _⟩ := H d hd6 e hed f hfe hfd hfE
        exact absurd hk (by rw [e1.1]; exact Nat.not_lt_zero _)
theorem full_ring {g : Nat → Nat → Bool} {o : Nat → Nat} (G : Graph g) (P : Perm6 o) (H : FourOk fun p q => g (o p) (o q)) : fullP g o = !ringP g := by
  cases hf : fullP g o with
  | true => rw [ring_no G P hf]; rfl
  | false =>
    have hb : ∃ c, ∃ b a, BadAt (fun p q => g (o p) (o q)) c b a := by
      unfold fullP at hf
      rw [Bool.not_eq_false', List.any_eq_true] at hf
      obtain ⟨c, hc, hf⟩ := hf
      obtain ⟨b, hb, hf⟩ := List.any_eq_true.mp hf
      obtain ⟨a, ha, hf⟩ := List.any_eq_true.mp hf
      unfold badP at hf
      rw [Bool.and_eq_true, Bool.and_eq_true, Bool.not_eq_true'] at hf
      exact ⟨c, b, a, List.mem_range.mp ha, List.mem_range.mp hb, List.mem_range.mp hc, hf.1.1, hf.1.2, hf.2⟩
    obtain ⟨c, hb⟩ := hb
    obtain ⟨l, C⟩ := cyc_of (h := fun p q => g (o p) (o q)) ⟨fun i j => G.sym _ _, fun i => G.irr _⟩ H hb
    have : ringP g = true := ring_yes (l := l.map o) G (nodup_map P C.lt C.nodup) (by rw [List.length_map]; exact C.long) (fun x hx => by obtain ⟨p, hp, rfl⟩ := List.mem_map.mp hx; exact P.lt p (C.lt p hp)) (fun x hx => by
      obtain ⟨p, hp, rfl⟩ := List.mem_map.mp hx
      rw [List.filter_map, List.length_map]
      exact C.deg p hp) (fun i hi => by
      rw [List.getElem_map, List.getElem_map]
      exact C.path i (by simpa using hi))
    rw [this]; rfl
end
section
open PySem PySem.W PySem.Calls PyProof.Rows
set_option maxRecDepth 100000
theorem told_mem {g : Nat → Nat → Bool} {x y : Nat} : y ∈ told g x ↔ y < 6 ∧ g x y = true := by
  unfold told
  rw [List.mem_filter, List.mem_map]
  refine and_congr_left fun _ => ⟨fun ⟨j, _, e⟩ => e ▸ Nat.lt_succ_of_le (Nat.sub_le 5 j), fun h => ⟨5 - y, List.mem_range.mpr (Nat.lt_succ_of_le (Nat.sub_le 5 y)), Nat.sub_sub_self (Nat.le_of_lt_succ h)⟩⟩
theorem told_nodup (g : Nat → Nat → Bool) (x : Nat) : (told g x).Nodup := List.Pairwise.sublist List.filter_sublist (by decide)
theorem put_row {f o : Nat} {s : St} {n : Nat} (h : Ok n s) (hf : 1 ≤ f ∧ f ≤ 15) : (put1 f s o).row.Perm s.row := by
  refine perm_of (h.put hf).nodup h.nodup fun x => ?_
  unfold put1
  split
  · rename_i ho
    show x ∈ (s.row.erase o).insertIdx (placeOf (markS f s o) ((markS f s o).wd o)) o ↔ _
    have hl := (h.put (o := o) hf).len
    have hle : placeOf (markS f s o) ((markS f s o).wd o) ≤ (s.row.erase o).length := by
      refine Nat.le_of_not_lt fun hlt => ?_
      unfold put1 at hl
      rw [if_pos ho] at hl
      have : ((s.row.erase o).insertIdx (placeOf (markS f s o) ((markS f s o).wd o)) o).length = n := hl
      rw [List.insertIdx_of_length_lt hlt, List.length_erase_of_mem ho, h.len] at this
      have h0 := List.length_pos_of_mem ho
      rw [h.len] at h0
      exact absurd this (Nat.ne_of_lt (Nat.sub_lt h0 Nat.one_pos))
    rw [List.mem_insertIdx hle]
    constructor
    · rintro (rfl | hx)
      · exact ho
      · exact List.mem_of_mem_erase hx
    · intro hx
      by_cases e : x = o
      · exact .inl e
      · exact .inr ((List.mem_erase_of_ne e).mpr hx)
  · exact Iff.rfl
theorem put_fig {f o : Nat} {s : St} (x : Nat) : (put1 f s o).fig x = if x = o ∧ o ∈ s.row then s.fig x ++ [f] else s.fig x := by
  unfold put1
  by_cases ho : o ∈ s.row
  · rw [if_pos ho]
    show (if x = o then s.fig o ++ [f] else s.fig x) = _
    by_cases e : x = o
    · subst e; rw [if_pos rfl, if_pos ⟨rfl, ho⟩]
    · rw [if_neg e, if_neg fun h => e h.1]
  · rw [if_neg ho, if_neg fun h => ho h.2]
theorem put_gone {f o : Nat} {s : St} : (put1 f s o).gone = s.gone := by unfold put1; split <;> rfl
/-- all who are told of are put in -/
theorem puts {f n : Nat} (hf : 1 ≤ f ∧ f ≤ 15) : ∀ (l : List Nat) (s : St), Ok n s → l.Nodup → Ok n (l.foldl (put1 f) s) ∧ (l.foldl (put1 f) s).row.Perm s.row ∧ (l.foldl (put1 f) s).gone = s.gone ∧ ∀ x, (l.foldl (put1 f) s).fig x = if x ∈ l ∧ x ∈ s.row then s.fig x ++ [f] else s.fig x
  | [], s, h, _ => ⟨h, List.Perm.refl _, rfl, fun x => by rw [if_neg fun h => nomatch h.1]; rfl⟩
  | o :: l, s, h, hn => by
    obtain ⟨h1, h2⟩ := List.nodup_cons.mp hn
    obtain ⟨a, b, c, d⟩ := puts hf l (put1 f s o) (h.put hf) h2
    have hp := put_row (o := o) h hf
    refine ⟨a, b.trans hp, c.trans put_gone, fun x => ?_⟩
    rw [List.foldl_cons, d x, put_fig x]
    by_cases e : x = o
    · subst e
      rw [if_neg fun h => h1 h.1]
      by_cases hr : x ∈ s.row
      · rw [if_pos ⟨rfl, hr⟩, if_pos ⟨.head _, hr⟩]
      · rw [if_neg fun h => hr h.2, if_neg fun h => hr h.2]
    · rw [if_neg (c := x = o ∧ o ∈ s.row) fun h => e h.1]
      by_cases hl : x ∈ l ∧ x ∈ s.row
      · rw [if_pos ⟨hl.1, hp.mem_iff.mpr hl.2⟩, if_pos ⟨.tail _ hl.1, hl.2⟩]
      · rw [if_neg fun h => hl ⟨h.1, hp.mem_iff.mp h.2⟩, if_neg fun h => hl ⟨(List.mem_cons.mp h.1).resolve_left e, h.2⟩]
theorem fig_ok {mark i : Nat} (hi : i < 5) : 1 ≤ figT mark (6 - i) ∧ figT mark (6 - i) ≤ 15 := by
  exact (by decide : ∀ i, i < 5 → ∀ m, m < 3 → 1 ≤ 3 * (6 - i) - 3 - m ∧ 3 * (6 - i) - 3 - m ≤ 15) i hi _ (Nat.mod_lt _ (by decide))
theorem fig_desc {mark d e : Nat} (h : d < e) (he : e < 6) : figT mark (6 - e) < figT mark (6 - d) := by
  exact (by decide : ∀ e, e < 6 → ∀ d, d < e → ∀ m, m < 3 → ∀ k, k < 3 → 3 * (6 - e) - 3 - k < 3 * (6 - d) - 3 - m) e he d h _ (Nat.mod_lt _ (by decide)) _ (Nat.mod_lt _ (by decide))
/-- who goes at a turn -/
noncomputable def pk (g : Nat → Nat → Bool) (way mark d : Nat) : Nat := (runS g way mark d).at (pickOf way d (runS g way mark d))
theorem cut_perm : ∀ {l : List Nat} {p : Nat}, p < l.length → l.Perm (l.getD p 0 :: l.eraseIdx p)
  | a :: l, 0, _ => List.Perm.refl _
  | a :: l, p + 1, h => by
    have := cut_perm (l := l) (p := p) (by simpa using h)
    exact (this.cons a).trans (List.Perm.swap _ _ _)
structure RunIs (g : Nat → Nat → Bool) (way mark i : Nat) (s : St) : Prop where
  ok : Ok (6 - i) s
  gone : s.gone = (List.range i).map (pk g way mark)
  perm : ((List.range i).map (pk g way mark) ++ s.row).Perm (List.range 6)
  fig : ∀ x ∈ s.row, s.fig x = ((List.range i).filter fun d => g (pk g way mark d) x).map fun d => figT mark (6 - d)
  len : ∀ x, (s.fig x).length ≤ i
theorem empty_puts (f : Nat) : ∀ (l : List Nat) (s : St), s.row = [] → l.foldl (put1 f) s = s
  | [], _, _ => rfl
  | o :: l, s, h => by
    have e : put1 f s o = s := by unfold put1; rw [h]; rfl
    rw [List.foldl_cons, e]; exact empty_puts f l s h
theorem run_is (g : Nat → Nat → Bool) (way mark : Nat) : ∀ i, i ≤ 6 → RunIs g way mark i (runS g way mark i)
  | 0, _ => by
    refine ⟨⟨rfl, by show ([5, 4, 3, 2, 1, 0] : List Nat).Nodup; decide, by show ∀ x ∈ ([5, 4, 3, 2, 1, 0] : List Nat), x < 6; decide, ?_, nofun⟩, rfl, by show ([5, 4, 3, 2, 1, 0] : List Nat).Perm (List.range 6); decide, fun x _ => rfl, fun x => Nat.le_refl _⟩
    show ([5, 4, 3, 2, 1, 0] : List Nat).Pairwise _
    refine List.Pairwise.imp (R := fun _ _ => True) (fun _ => strLt_irr _) ?_
    simp
  | i + 1, hi => by
    have R := run_is g way mark i (Nat.le_of_succ_le hi)
    obtain ⟨s, hs⟩ : ∃ s, s = runS g way mark i := ⟨_, rfl⟩
    have epk : pk g way mark i = s.at (pickOf way i s) := by rw [hs]; rfl
    rw [← hs] at R
    show RunIs g way mark (i + 1) (turnS g way mark i (runS g way mark i))
    rw [← hs]
    unfold turnS
    rw [← epk]
    obtain ⟨n, hn⟩ : ∃ n, 6 - i = n + 1 := ⟨5 - i, (by decide : ∀ i, i < 6 → 6 - i = 5 - i + 1) i hi⟩
    have hn' : 6 - (i + 1) = n := by rw [Nat.sub_succ, hn]; rfl
    have hok := R.ok
    rw [hn] at hok
    have hp := (hok.pick (way := way) (i := i) (Nat.succ_pos n)).1
    have hpop := hok.pop (way := way) (i := i)
    have hcut : s.row.Perm (pk g way mark i :: (popS way i s).row) := by rw [epk]; exact cut_perm (by rw [hok.len]; exact hp)
    have hperm : ∀ {r : List Nat}, r.Perm (popS way i s).row → ((List.range (i + 1)).map (pk g way mark) ++ r).Perm (List.range 6) := fun {r} h => by
      rw [List.range_succ, List.map_append, List.append_assoc]
      exact (((h.cons _).trans hcut.symm).append_left _).trans R.perm
    have hgone : (popS way i s).gone = (List.range (i + 1)).map (pk g way mark) := by
      rw [List.range_succ, List.map_append, ← R.gone]
      show s.gone ++ [_] = _
      rw [← epk]; rfl
    have hrow : ∀ x ∈ (popS way i s).row, x ∈ s.row := fun x hx => hcut.mem_iff.mpr (.tail _ hx)
    rcases Nat.lt_or_ge i 5 with h5 | h5
    · obtain ⟨a, b, c, d⟩ := puts (fig_ok (mark := mark) h5) (told g (pk g way mark i)) (popS way i s) hpop (told_nodup _ _)
      refine ⟨by rw [hn']; exact a, c.trans hgone, hperm b, fun x hx => ?_, fun x => ?_⟩
      · have hx := b.mem_iff.mp hx
        have hx6 := hpop.lt x hx
        rw [d x]
        show (if _ then s.fig x ++ _ else s.fig x) = _
        rw [R.fig x (hrow x hx)]
        by_cases e : g (pk g way mark i) x = true
        · rw [if_pos ⟨told_mem.mpr ⟨hx6, e⟩, hx⟩, range_filter_yes (p := fun d => g (pk g way mark d) x) e, List.map_append]; rfl
        · rw [if_neg fun h => e (told_mem.mp h.1).2, range_filter_no (p := fun d => g (pk g way mark d) x) (Bool.not_eq_true _ ▸ e)]
      · rw [d x]
        have := R.len x
        show (if _ then s.fig x ++ _ else s.fig x).length ≤ _
        split
        · rw [List.length_append]; exact Nat.succ_le_succ this
        · exact Nat.le_succ_of_le this
    · have he : (popS way i s).row = [] := List.length_eq_zero_iff.mp (by rw [hpop.len]; exact Nat.le_zero.mp (Nat.le_of_succ_le_succ (show n + 1 ≤ 1 by rw [← hn]; exact Nat.sub_le_sub_left h5 6)))
      rw [empty_puts _ _ _ he]
      refine ⟨by rw [hn']; exact hpop, hgone, hperm (List.Perm.refl _), fun x hx => (by rw [he] at hx; cases hx), fun x => Nat.le_succ_of_le (R.len x)⟩
/-- who is told of earlier has the greater word -/
theorem lex_lt {p q : Nat → Bool} {f : Nat → Nat} {a : Nat} (hq : q a = true) (hp : p a = false) (hsub : ∀ d, d < a → p d = true → q d = true) : ∀ n s, s ≤ a → a < s + n → (∀ d e, s ≤ d → d < e → e < s + n → f e < f d) → ((List.range' s n).filter p).map f < ((List.range' s n).filter q).map f
  | 0, s, h1, h2, _ => absurd h2 (Nat.not_lt.mpr h1)
  | n + 1, s, h1, h2, hf => by
    rw [List.range'_succ, List.filter_cons, List.filter_cons]
    have hsn : s + 1 + n = s + (n + 1) := Nat.succ_add_eq_add_succ s n
    have low : q s = true → p s = false → ((List.range' (s + 1) n).filter p).map f < f s :: ((List.range' (s + 1) n).filter q).map f := fun _ _ => by
      match h : (List.range' (s + 1) n).filter p with
      | [] => exact List.nil_lt_cons _ _
      | d :: r =>
        have hd : d ∈ (List.range' (s + 1) n).filter p := by rw [h]; exact .head _
        have hd := List.mem_range'_1.mp (List.mem_filter.mp hd).1
        rw [List.map_cons, List.cons_lt_cons_iff]
        exact .inl (hf s d (Nat.le_refl _) hd.1 (hsn ▸ hd.2))
    rcases Nat.lt_or_ge s a with h | h
    · have ih := lex_lt hq hp hsub n (s + 1) h (hsn ▸ h2) fun d e h1 h2 h3 => hf d e (Nat.le_of_succ_le h1) h2 (hsn ▸ h3)
      cases h1 : p s with
      | true =>
        rw [hsub s h h1]
        simp only [if_true, List.map_cons]
        rw [List.cons_lt_cons_iff]
        exact .inr ⟨rfl, ih⟩
      | false =>
        cases h2 : q s with
        | false => simpa using ih
        | true => simpa using low h2 h1
    · obtain rfl : s = a := Nat.le_antisymm h1 h
      rw [hq, hp]
      simpa using low hq hp
theorem run_four (g : Nat → Nat → Bool) (way mark : Nat) : FourOk fun p q => g (pk g way mark p) (pk g way mark q) := by
  intro c hc b hbc a hab hac hnab
  refine Decidable.byContradiction fun hno => ?_
  have hsub : ∀ d, d < a → g (pk g way mark d) (pk g way mark b) = true → g (pk g way mark d) (pk g way mark c) = true := fun d hd h => by
    cases h2 : g (pk g way mark d) (pk g way mark c) with
    | true => rfl
    | false => exact absurd ⟨d, hd, h, h2⟩ hno
  have hb6 := Nat.lt_trans hbc hc
  have R := run_is g way mark b (Nat.le_of_lt hb6)
  have R6 := run_is g way mark 6 (Nat.le_refl _)
  obtain ⟨s, hs⟩ : ∃ s, s = runS g way mark b := ⟨_, rfl⟩
  have epk : pk g way mark b = s.at (pickOf way b s) := by rw [hs]; rfl
  rw [← hs] at R
  obtain ⟨h1, h2⟩ := R.ok.pick (way := way) (i := b) (Nat.sub_pos_of_lt hb6)
  have hbr : pk g way mark b ∈ s.row := by
    rw [epk]; unfold St.at; rw [List.getD, List.getElem?_eq_getElem (by rw [R.ok.len]; exact h1)]; exact List.getElem_mem _
  have nod : ((List.range 6).map (pk g way mark)).Nodup := by
    have := R6.perm
    rw [List.length_eq_zero_iff.mp (R6.ok.len), List.append_nil] at this
    exact (this.nodup_iff).mpr List.nodup_range
  have hcr : pk g way mark c ∈ s.row := by
    have hm : pk g way mark c ∈ List.range 6 := by
      have := R6.perm
      rw [List.length_eq_zero_iff.mp (R6.ok.len), List.append_nil] at this
      exact this.mem_iff.mp (List.mem_map.mpr ⟨c, List.mem_range.mpr hc, rfl⟩)
    rcases List.mem_append.mp (R.perm.mem_iff.mpr hm) with h | h
    · obtain ⟨d, hd, e⟩ := List.mem_map.mp h
      have hd := List.mem_range.mp hd
      have := List.pairwise_map.mp nod
      have h3 := (List.pairwise_iff_getElem.mp this) d c (by rw [List.length_range]; exact Nat.lt_trans hd hb6) (by rw [List.length_range]; exact hc) (Nat.lt_trans hd hbc)
      rw [List.getElem_range, List.getElem_range] at h3
      exact absurd e h3
    · exact h
  have hmax : strLt (s.wd (pk g way mark b)) (s.wd (pk g way mark c)) = false := by
    obtain ⟨j, hj, e⟩ := List.getElem_of_mem hcr
    have := sorted_at R.ok.sorted (i := j) (j := s.row.length - 1) (Nat.le_sub_one_of_lt hj) (Nat.sub_lt (Nat.zero_lt_of_lt hj) Nat.one_pos)
    rw [at_get hj, e] at this
    rw [epk, h2]; exact this
  have : strLt (s.wd (pk g way mark b)) (s.wd (pk g way mark c)) = true := by
    unfold strLt St.wd wordD
    rw [decide_eq_true_eq, R.fig _ hbr, R.fig _ hcr, List.map_map, List.map_map, List.range_eq_range']
    exact lex_lt (p := fun d => g (pk g way mark d) (pk g way mark b)) (q := fun d => g (pk g way mark d) (pk g way mark c)) (a := a) (f := (65 + ·) ∘ fun d => figT mark (6 - d)) hac hnab hsub b 0 (Nat.zero_le _) (by rw [Nat.zero_add]; exact hab) fun d e _ h2 h3 => Nat.add_lt_add_left (fig_desc h2 (Nat.lt_trans (by rw [Nat.zero_add] at h3; exact h3) hb6)) 65
  rw [hmax] at this; cases this
theorem run_perm (g : Nat → Nat → Bool) (way mark : Nat) : Perm6 (pk g way mark) := by
  have R6 := run_is g way mark 6 (Nat.le_refl _)
  have hp := R6.perm
  rw [List.length_eq_zero_iff.mp (R6.ok.len), List.append_nil] at hp
  refine ⟨fun i hi => List.mem_range.mp (hp.mem_iff.mp (List.mem_map.mpr ⟨i, List.mem_range.mpr hi, rfl⟩)), fun i j hi hj e => ?_, fun x hx => ?_⟩
  · have := List.pairwise_map.mp ((hp.nodup_iff).mpr List.nodup_range)
    have := List.pairwise_iff_getElem.mp this
    rcases Nat.lt_trichotomy i j with h | h | h
    · have h3 := this i j (by simpa using hi) (by simpa using hj) h
      rw [List.getElem_range, List.getElem_range] at h3
      exact absurd e h3
    · exact h
    · have h3 := this j i (by simpa using hj) (by simpa using hi) h
      rw [List.getElem_range, List.getElem_range] at h3
      exact absurd e.symm h3
  · obtain ⟨i, hi, e⟩ := List.mem_map.mp (hp.mem_iff.mpr (List.mem_range.mpr hx))
    exact ⟨i, List.mem_range.mp hi, e⟩
end
section
open PySem PySem.W PySem.Calls PyProof.Rows Mine
set_option maxRecDepth 100000
theorem lowG_inj {x y : Nat} (h : lowG x = lowG y) : x = y := by
  have : (#[97 + x] : Array Nat) = #[97 + y] := congrArg Str.cps h
  have : [97 + x] = [97 + y] := congrArg Array.toList this
  exact Nat.add_left_cancel (List.head_eq_of_cons_eq this)
theorem lowG_beq (x y : Nat) : (lowG x == lowG y) = (x == y) := by
  rw [Bool.eq_iff_iff, beq_iff_eq, beq_iff_eq]
  exact ⟨lowG_inj, fun h => h ▸ rfl⟩
theorem clean_one {c : Nat} (h : 65 ≤ c ∧ c ≤ 122) : Clean (⟨#[c]⟩ : Str) := ⟨by show 1 ≤ 1000; decide, fun d hd => by rw [List.mem_singleton.mp (Array.mem_toList_iff.mpr hd)]; exact h⟩
theorem low_clean {x : Nat} (h : x < 6) : Clean (lowG x) := clean_one ((by decide : ∀ x, x < 6 → 65 ≤ 97 + x ∧ 97 + x ≤ 122) x h)
theorem up_clean {x : Nat} (h : x < 6) : Clean (upG x) := clean_one ((by decide : ∀ x, x < 6 → 65 ≤ 65 + x ∧ 65 + x ≤ 122) x h)
theorem lowS_one (c : Nat) : lowS ⟨#[c]⟩ = ⟨#[lo1 c]⟩ := by simp [lowS]
theorem lowS_up {x : Nat} (h : x < 6) : lowS (upG x) = lowG x := by
  have e : ∀ x, x < 6 → lo1 (65 + x) = 97 + x := by decide
  unfold upG lowG; rw [lowS_one, e x h]
theorem lowS_lowG {x : Nat} (h : x < 6) : lowS (lowG x) = lowG x := by
  have e : ∀ x, x < 6 → lo1 (97 + x) = 97 + x := by decide
  unfold lowG; rw [lowS_one, e x h]
theorem lowS_name {i j : Nat} (h : i < 6) : lowS (nameP i j) = lowG i := by
  unfold nameP; split
  · exact lowS_lowG h
  · exact lowS_up h
theorem lowS_fab {x : Nat} : (lowS (Str.ofString "fab") == lowG x) = false := beq_false_of_ne fun h => by
  have : (lowS (Str.ofString "fab")).cps.size = (lowG x).cps.size := by rw [h]
  have e : (lowS (Str.ofString "fab")).cps.size = 3 := by unfold lowS; rw [Array.size_map]; rfl
  rw [e] at this
  cases this
noncomputable def toldUp (g : Nat → Nat → Bool) (x i : Nat) : List Nat := ((List.range i).filter fun j => g x (5 - j)).map (5 - ·)
theorem toldUp_yes {g : Nat → Nat → Bool} {x i : Nat} (h : g x (5 - i) = true) : toldUp g x (i + 1) = toldUp g x i ++ [5 - i] := by
  unfold toldUp; rw [range_filter_yes (p := fun j => g x (5 - j)) h, List.map_append]; rfl
theorem toldUp_no {g : Nat → Nat → Bool} {x i : Nat} (h : g x (5 - i) = false) : toldUp g x (i + 1) = toldUp g x i := by
  unfold toldUp; rw [range_filter_no (p := fun j => g x (5 - j)) h]
theorem toldUp_6 (g : Nat → Nat → Bool) (x : Nat) : toldUp g x 6 = told g x := by
  unfold toldUp told; rw [List.filter_map]; rfl
theorem told_lt {g : Nat → Nat → Bool} {x y : Nat} (h : y ∈ told g x) : y < 6 := (told_mem.mp h).1
theorem told_len (g : Nat → Nat → Bool) (x : Nat) : (told g x).length ≤ 6 := Nat.le_trans (List.length_filter_le _ _) (by simp)
theorem row_other {g : Nat → Nat → Bool} {k x : Nat} (hk : k < 6) (h : k ≠ x) : (rowP g k 6).filter (fun kv => lowS kv.1 == lowG x) = [] := by
  unfold rowP
  rw [List.filter_map, List.map_eq_nil_iff, List.filter_eq_nil_iff]
  intro j _
  show ¬ (lowS (nameP k (5 - j)) == lowG x) = true
  rw [lowS_name hk, lowG_beq]
  simpa using h
theorem row_same {g : Nat → Nat → Bool} {x : Nat} (hk : x < 6) : (rowP g x 6).filter (fun kv => lowS kv.1 == lowG x) = rowP g x 6 := by
  rw [List.filter_eq_self]
  intro a ha
  obtain ⟨j, _, rfl⟩ := List.mem_map.mp ha
  show (lowS (nameP x (5 - j)) == lowG x) = true
  rw [lowS_name hk]
  exact beq_self_eq_true _
theorem flat_one {α β : Type} {f : Nat → List α} {x : Nat} {h : α → β} : ∀ n, (∀ k, k < n → k ≠ x → f k = []) → ((List.range n).flatMap f) = if x < n then f x else []
  | 0, _ => rfl
  | n + 1, hf => by
    rw [List.range_succ, List.flatMap_append, flat_one (h := h) n fun k hk => hf k (Nat.lt_succ_of_lt hk)]
    rw [List.flatMap_cons, List.flatMap_nil, List.append_nil]
    by_cases e : n = x
    · subst e; rw [if_neg (Nat.lt_irrefl _), if_pos (Nat.lt_succ_self _), List.nil_append]
    · rw [hf n (Nat.lt_succ_self _) e, List.append_nil]
      by_cases h1 : x < n
      · rw [if_pos h1, if_pos (Nat.lt_succ_of_lt h1)]
      · rw [if_neg h1, if_neg fun h2 => e (Nat.le_antisymm (Nat.not_lt.mp h1) (Nat.le_of_lt_succ h2))]
theorem all_laid {g : Nat → Nat → Bool} {x : Nat} (h : x < 6) : allT (laidP g) (lowG x) = (told g x).map lowG := by
  unfold allT laidP pairsUp
  rw [List.filter_cons, lowS_fab, if_neg (by decide), List.filter_append, show rowP g 6 0 = [] from rfl, List.filter_nil, List.append_nil, List.filter_flatMap, flat_one (h := fun kv : Str × Str => kv) (x := x) 6 fun k hk hne => row_other hk hne, if_pos h, row_same h, ← toldUp_6]
  unfold rowP toldUp
  rw [List.map_map, List.map_map]
  rfl
theorem get_all (kvs : List (Str × Str)) (nm : Str) : getT kvs nm = (allT kvs nm).head? := by
  unfold getT allT
  rw [List.head?_map, List.head?_filter]
theorem get_laid {g : Nat → Nat → Bool} {x : Nat} (h : x < 6) : getT (laidP g) (lowG x) = (told g x).head?.map lowG := by
  rw [get_all, all_laid h, List.head?_map]
theorem laidP_clean (g : Nat → Nat → Bool) : ∀ kv ∈ laidP g, (Clean kv.1 ∧ Clean kv.2) ∧ kv.2.length ≤ 14 := by
  intro kv hk
  rcases List.mem_cons.mp hk with rfl | hk
  · refine ⟨⟨⟨by decide, ?_⟩, ⟨by decide, ?_⟩⟩, by decide⟩ <;> decide
  · rcases List.mem_append.mp hk with hk | hk
    · obtain ⟨i, hi, hk⟩ := List.mem_flatMap.mp hk
      obtain ⟨j, hj, rfl⟩ := List.mem_map.mp hk
      have hi := List.mem_range.mp hi
      refine ⟨⟨?_, low_clean (Nat.lt_succ_of_le (Nat.sub_le 5 j))⟩, by show 1 ≤ 14; decide⟩
      show Clean (nameP i (5 - j))
      unfold nameP; split
      · exact low_clean hi
      · exact up_clean hi
    · cases hk
theorem laidP_len (g : Nat → Nat → Bool) : (laidP g).length ≤ 100 := by
  show (pairsUp g 6 0).length + 1 ≤ 100
  exact Nat.succ_le_succ (pairsUp_len (g := g) (i := 6) (j := 0) (by decide) (by decide))
theorem clean_take {kvs : List (Str × Str)} (h : CleanT kvs) (i : Nat) : CleanT (kvs.take i) := ⟨Nat.le_trans (List.length_take_le' _ _) h.1, fun kv hk => h.2 kv (List.mem_of_mem_take hk)⟩
/-- the table of words at first -/
noncomputable def kv0 : List (Str × Str) := ([5, 4, 3, 2, 1, 0] : List Nat).map fun k => (lowG k, PySem.Str.empty)
theorem empty_clean : Clean PySem.Str.empty := ⟨by decide, nofun⟩
theorem kv0_clean : CleanT kv0 := by
  refine ⟨by decide, fun kv hk => ?_⟩
  obtain ⟨k, hk', rfl⟩ := List.mem_map.mp hk
  have e : ∀ k ∈ ([5, 4, 3, 2, 1, 0] : List Nat), k < 6 := by decide
  exact ⟨low_clean (e k hk'), empty_clean⟩
/-- the words told after i of the row -/
noncomputable def due0 : Nat → Str → Option Str
  | 0 => fun _ => none
  | i + 1 => setF (due0 i) (lowG (([5, 4, 3, 2, 1, 0] : List Nat).getD i 0)) PySem.Str.empty
theorem due_have : ∀ n j, j < n → due0 n (lowG (([5, 4, 3, 2, 1, 0] : List Nat).getD j 0)) = some PySem.Str.empty
  | n + 1, j, h => by
    show setF (due0 n) _ _ _ = _
    unfold setF
    split
    · rfl
    · rename_i hne
      rcases Nat.lt_or_ge j n with h1 | h1
      · exact due_have n j h1
      · obtain rfl : j = n := Nat.le_antisymm (Nat.le_of_lt_succ h) h1
        exact absurd rfl hne
theorem due6 : ∀ x, x < 6 → due0 6 (lowG x) = some PySem.Str.empty := fun x hx => by
  have := due_have 6 (5 - x) (Nat.lt_succ_of_le (Nat.sub_le 5 x))
  have e : ∀ x, x < 6 → ([5, 4, 3, 2, 1, 0] : List Nat).getD (5 - x) 0 = x := by decide
  rw [e x hx] at this
  exact this
/-- the word table, up to order -/
structure Marks (st : St) (kvs : List (Str × Str)) : Prop where
  perm : kvs.Perm (st.row.map fun x => (lowG x, st.wd x))
theorem Marks.all {st : St} {kvs : List (Str × Str)} {n x : Nat} (M : Marks st kvs) (O : Ok n st) : allT kvs (lowG x) = if x ∈ st.row then [st.wd x] else [] := by
  have h1 : (allT kvs (lowG x)).Perm ((st.row.filter fun y => y == x).map st.wd) := by
    unfold allT
    refine ((M.perm.filter _).map _).trans ?_
    rw [List.filter_map, List.map_map]
    refine List.Perm.of_eq (congrArg (List.map _) (List.filter_congr fun y hy => ?_))
    show (lowS (lowG y) == lowG x) = (y == x)
    rw [lowS_lowG (O.lt y hy), lowG_beq]
  have h2 : (st.row.filter fun y => y == x) = if x ∈ st.row then [x] else [] := by
    have := O.nodup
    generalize st.row = r at this
    induction r with
    | nil => rfl
    | cons a r ih =>
      obtain ⟨n1, n2⟩ := List.nodup_cons.mp this
      rw [List.filter_cons, ih n2]
      by_cases e : a = x
      · subst e
        rw [if_pos (beq_self_eq_true _), if_neg n1, if_pos (.head _)]
      · rw [if_neg (by simpa using e)]
        by_cases h : x ∈ r
        · rw [if_pos h, if_pos (.tail _ h)]
        · rw [if_neg h, if_neg fun h2 => (List.mem_cons.mp h2).elim (fun e2 => e e2.symm) h]
  rw [h2] at h1
  split
  · rename_i hx; rw [if_pos hx] at h1; exact List.perm_singleton.mp h1
  · rename_i hx; rw [if_neg hx] at h1; exact List.perm_nil.mp h1
theorem Marks.get {st : St} {kvs : List (Str × Str)} {n x : Nat} (M : Marks st kvs) (O : Ok n st) (hx : x < 6) : getT kvs (lowS (lowG x)) = if x ∈ st.row then some (st.wd x) else none := by
  rw [lowS_lowG hx, get_all, M.all O]
  split <;> rfl
theorem wordD_clean {figs : List Nat} (h : ∀ f ∈ figs, 1 ≤ f ∧ f ≤ 15) (hl : figs.length ≤ 8) : Clean (wordD figs) := by
  refine ⟨by show (figs.map _).toArray.size ≤ 1000; rw [List.size_toArray, List.length_map]; exact Nat.le_trans hl (by decide), fun c hc => ?_⟩
  obtain ⟨f, hf, rfl⟩ := List.mem_map.mp (Array.mem_toList_iff.mpr hc)
  have := h f hf
  exact (by decide : ∀ f, f < 16 → 65 ≤ 65 + f ∧ 65 + f ≤ 122) f (Nat.lt_succ_of_le this.2)
theorem Marks.clean {st : St} {kvs : List (Str × Str)} {n : Nat} (M : Marks st kvs) (O : Ok n st) (hn : n ≤ 6) (hl : ∀ x, (st.fig x).length ≤ 8) : CleanT kvs := by
  refine ⟨by rw [M.perm.length_eq, List.length_map, O.len]; exact Nat.le_trans hn (by decide), fun kv hk => ?_⟩
  obtain ⟨x, hx, rfl⟩ := List.mem_map.mp (M.perm.mem_iff.mp hk)
  exact ⟨low_clean (O.lt x hx), wordD_clean (O.figs x) (hl x)⟩
theorem Marks.without {st : St} {kvs : List (Str × Str)} {n o : Nat} (M : Marks st kvs) (O : Ok n st) : (kvs.filter fun kv => lowS kv.1 != lowG o).Perm ((st.row.erase o).map fun x => (lowG x, st.wd x)) := by
  refine (M.perm.filter _).trans ?_
  rw [List.filter_map, List.Nodup.erase_eq_filter O.nodup]
  refine List.Perm.of_eq (congrArg (List.map _) (List.filter_congr fun y hy => ?_))
  show (lowS (lowG y) != lowG o) = (y != o)
  unfold bne
  rw [lowS_lowG (O.lt y hy), lowG_beq]
theorem Marks.pop {st : St} {kvs : List (Str × Str)} {n way i : Nat} (M : Marks st kvs) (O : Ok (n + 1) st) : Marks (popS way i st) (kvs.filter fun kv => lowS kv.1 != lowG (st.at (pickOf way i st))) := by
  refine ⟨(M.without O).trans (List.Perm.map _ ?_)⟩
  have hp := (O.pick (way := way) (i := i) (Nat.succ_pos n)).1
  have hc := cut_perm (l := st.row) (p := pickOf way i st) (by rw [O.len]; exact hp)
  exact (hc.erase _).trans (by show (List.erase (st.at (pickOf way i st) :: _) _).Perm _; rw [List.erase_cons_head]; exact List.Perm.refl _)
theorem Marks.put {st : St} {kvs : List (Str × Str)} {n f o : Nat} (M : Marks st kvs) (O : Ok n st) (hf : 1 ≤ f ∧ f ≤ 15) (ho : o ∈ st.row) : Marks (put1 f st o) ((kvs.filter fun kv => lowS kv.1 != lowG o) ++ [(lowG o, wordD (st.fig o ++ [f]))]) := by
  refine ⟨(List.perm_append_comm.trans (List.Perm.cons _ (M.without O))).trans ?_⟩
  have hw : ∀ x ∈ st.row.erase o, st.wd x = (put1 f st o).wd x := fun x hx => by
    have hne : x ≠ o := fun e => (List.Nodup.not_mem_erase O.nodup) (e ▸ hx)
    unfold St.wd
    rw [put_fig, if_neg fun h => hne h.1]
  have ho' : (put1 f st o).wd o = wordD (st.fig o ++ [f]) := by unfold St.wd; rw [put_fig, if_pos ⟨rfl, ho⟩]
  rw [List.map_congr_left fun x hx => by rw [hw x hx], ← ho']
  have : (o :: st.row.erase o).Perm (put1 f st o).row := (List.perm_cons_erase ho).symm.trans (put_row O hf).symm
  exact (List.Perm.map (fun x => (lowG x, (put1 f st o).wd x)) this)
theorem run_ok (g : Nat → Nat → Bool) (way mark i : Nat) (hi : i ≤ 6) : Ok (6 - i) (runS g way mark i) := (run_is g way mark i hi).ok
theorem run_len (g : Nat → Nat → Bool) (way mark i : Nat) (hi : i ≤ 6) : ∀ x, ((runS g way mark i).fig x).length ≤ i := (run_is g way mark i hi).len
theorem run_gone (g : Nat → Nat → Bool) (way mark i : Nat) (hi : i ≤ 6) : (runS g way mark i).gone.length = i := by rw [(run_is g way mark i hi).gone]; simp
/-- the number of a word -/
theorem hexL_fold : ∀ (b : List Nat) (w : Nat), (w ≠ 0 ∨ ∀ f, b.head? = some f → f ≠ 0) → (∀ f ∈ b, f < 16) → hexL (wholeF w b) = hexL w ++ b
  | [], w, _, _ => by show hexL w = _; rw [List.append_nil]
  | f :: b, w, h0, h => by
    have hf := h f (.head _)
    have hn : 16 * w + f ≠ 0 := by
      rcases h0 with h0 | h0
      · exact fun e => h0 ((Nat.mul_eq_zero.mp (Nat.add_eq_zero_iff.mp e).1).resolve_left (by decide))
      · exact fun e => h0 f rfl (Nat.add_eq_zero_iff.mp e).2
    show hexL (wholeF (16 * w + f) b) = _
    rw [hexL_fold b _ (.inl hn) fun x hx => h x (.tail _ hx), hexL_pos hn, show (16 * w + f) / 16 = w from by rw [Nat.mul_add_div (by decide), Nat.div_eq_of_lt hf, Nat.add_zero], show (16 * w + f) % 16 = f from by rw [Nat.mul_add_mod, Nat.mod_eq_of_lt hf], List.append_assoc]
    rfl
theorem hexS_word {figs : List Nat} (h : ∀ f ∈ figs, 1 ≤ f ∧ f ≤ 15) : hexS (wholeF 0 figs) = wordD figs := by
  unfold hexS wordD
  rw [hexL_fold figs 0 (.inr fun f hf => Nat.ne_of_gt (h f (List.mem_of_head? hf)).1) fun f hf => Nat.lt_succ_of_le (h f hf).2]
  rw [hexL_zero, List.nil_append]
theorem whole_snoc (w : Nat) (figs : List Nat) (f : Nat) : wholeF w (figs ++ [f]) = 16 * wholeF w figs + f := by unfold wholeF; rw [List.foldl_append]; rfl
theorem whole_lt : ∀ (figs : List Nat) (w k : Nat), w < 16 ^ k → (∀ f ∈ figs, f < 16) → wholeF w figs < 16 ^ (k + figs.length)
  | [], w, k, h, _ => h
  | f :: r, w, k, h, hf => by
    have h1 := hf f (.head _)
    have := whole_lt r (16 * w + f) (k + 1) (by rw [Nat.pow_succ]; exact Nat.lt_of_lt_of_le (Nat.add_lt_add_left h1 _) (by rw [Nat.mul_comm 16 w]; exact Nat.succ_mul w 16 ▸ Nat.mul_le_mul_right 16 h)) fun x hx => hf x (.tail _ hx)
    rw [List.length_cons, show k + (r.length + 1) = k + 1 + r.length from by rw [Nat.add_comm r.length 1, Nat.add_assoc]]
    exact this
end
section
open PySem PySem.W PySem.Calls PyProof.Rows PyProof.V Mine
open PyProof.Rows.LCg PyProof.Rows.LCt
set_option maxRecDepth 100000
section
variable {prog : Program} {w : World} {A : Around} {E : Value → Shared → Prop} {s : Shared} {env : Env} {h₀ : Heap} {L : Addr} {m : Str → Option Value}
/-- the source of a comprehension: a range with any step -/
noncomputable def SrcStep (prog : Program) (w : World) (A : Around) (h₀ : Heap) (L : Addr) (m : Str → Option Value) (env : Env) (ct elt : Expr) (x : Str) (scope : Scope) (cl : List (Str × Addr)) (Fin : Shared → List Value → List (Addr × Obj) → Prop) (xv : Value) (s₁ : Shared) : Prop :=
  ∃ (r : Addr) (a b c : Int) (t u v : Tok) (n : Nat) (news : List (Addr × Obj)), xv = .ref r ∧ A.handled = none ∧ Fr h₀ L s₁.heap m ∧ News h₀ L s₁.heap news ∧ IsRange s₁.heap r a b c t u v ∧ Builtin.Range.small a b c = true ∧ Builtin.Range.rangeSize a b c = ((n : Nat) : Int) ∧ n ≤ sizeLine ∧
    ∀ g, CompRestT prog w A h₀ L m env ct elt x scope cl { s₁ with heap := g } (fun _ => True) (fun i v => ∃ t, v = .int (a + (i : Int) * c) t) (Fin { s₁ with heap := g }) n 0 [] news
theorem ListComp_step {ct elt iter : Expr} {x : Str} {px : Pos} {scope : Scope} {cl : List (Str × Addr)} {pos : Pos} {Q : Value → Shared → Prop} (_F₀ : Fr h₀ L s.heap m)
    (hclos : closureFor scope env = pure cl) (hcell : ∀ y ∈ scope.names, y.2 ≠ .cell) (hkind : scope.kind = .function)
    (hnames : ∀ y ∈ scope.names, y.2 = .local → scope.names.lookup y.1 = some .local) (hx : scope.names.lookup x = some .local)
    (h : wpAny (model prog w) A (eval iter env) (SrcStep prog w A h₀ L m env ct elt x scope cl (fun s₂ => FinE h₀ L m s₂ Q)) E s)
    (hs : ∀ x, foldedSetIterable iter env x = pure x := by intro _; rfl) :
    wpAny (model prog w) A (eval (.ListComp elt [⟨.Name x px, iter, [ct], 0⟩] scope pos) env) Q E s := by
  rw [eval_ListComp]
  refine wpAny_comprehension_free (use := none) rfl hs hclos hkind hnames (wpAny_mono h (fun xv s₁ h₁ => ?_) fun _ _ e => e)
  obtain ⟨r, a, b, c, t, u, v, n, news, rfl, hh, F, N, hr, hsm, hn, hsz, R⟩ := h₁
  refine wpAny_pyIter_range hr hsm ?_
  refine block_T (Walks.range hh s₁.heap.objs.size a c n) hsz (fun i h st => ⟨_, st⟩) (fun i h h' o nw st e e' _ _ _ => ?_) hcell hkind hx ?_ (fun b hb => ?_)
    (F.keeps fun _ _ e => Heap.get?_push_of_some _ e) (N.grown fun _ _ e => Heap.get?_push_of_some _ e) (Nat.ne_of_lt F.ns.lt) (next_is_new F) (fun p hp => Nat.ne_of_lt (Heap.lt_size (N p hp).1)) trivial (R _) ?_
  · have st' : h.get? s₁.heap.objs.size = some _ := st
    show h'.get? s₁.heap.objs.size = some _
    rw [e', ← e]; exact st'
  · show IsRangeIter _ _ _ _ _
    rw [hn]; simpa [IsRangeIter, rawInt] using Heap.get?_push_size _ rfl
  · rw [List.mem_singleton.mp hb]
    show s₁.heap.objs.size < (s₁.heap.push _).objs.size
    rw [Heap.size_push]; exact Nat.lt_succ_self _
  · intro D C h tk m' ys news' F' N' o1 hn hC₀ hD₀ hCL hDL hCD offC fin
    refine ⟨m', hn, fun h'' hs'' => fin D h'' tk (F'.change hs'' hCL hC₀) (fun p hp => ?_) o1⟩
    refine ⟨hs''.extBut _ _ ?_ (N' p hp).1, (N' p hp).2⟩
    rcases List.mem_cons.mp hp with rfl | hp
    · exact Ne.symm hCD
    · exact offC p hp
end
end
section
open PySem PySem.W PySem.Calls PyProof.Rows
set_option maxRecDepth 100000
section
variable {prog : Program} {w : World} {A : Around} {E : Value → Shared → Prop} {s : Shared} {env : Env} {h₀ : Heap} {target : Expr} {body : List Stmt} {Q : Flow → Shared → Prop}
/-- a loop over a list of the ledger that the loop leaves alone -/
theorem Iter_list_my2 {m : Str → Option Value} {news : List (Addr × Obj)} {l : Addr} {vs : List Value} {k : Nat} (J : Nat → (Str → Option Value) → List (Addr × Obj) → Prop)
    (hh : A.handled = none) (F : Fr h₀ env.locals s.heap m) (N : News h₀ env.locals s.heap news) (hl : ∀ i m nx, J i m nx → (l, listOf vs.toArray k) ∈ nx) (hJ : J 0 m news)
    (turn : ∀ I i v m₁ nx h tk io, (io.cls = .type "list_iterator" ∧ io.data = .fields #[.ref l, .int ((i + 1 : Nat) : Int) 0]) → vs[i]? = some v → J i m₁ nx → (∀ p ∈ nx, p.1 ≠ I) → Fr h₀ env.locals h m₁ → News h₀ env.locals h ((I, io) :: nx) →
      wpAny (model prog w) A (assign target env v) (fun _ s' => wpAny (model prog w) A (execs body env) (ForStep h₀ env.locals { s with heap := h, toks := tk } I J Q i io) E s') E { s with heap := h, toks := tk })
    (done : ∀ m₁ nx h tk, J vs.length m₁ nx → Fr h₀ env.locals h m₁ → News h₀ env.locals h nx → Q .next { s with heap := h, toks := tk }) :
    wpAny (model prog w) A (pyIter (.ref l)) (fun it s₂ => ForAt prog w A h₀ env target body Q E it s₂) E s := by
  have hl0 := hl _ _ _ hJ
  have hls : s.heap.IsList l vs.toArray := ⟨_, (N _ hl0).1, rfl, k, rfl⟩
  have hlt : l < s.heap.objs.size := Heap.lt_size (N _ hl0).1
  refine wpAny_pyIter_list hls ?_
  have W := Walks.list (prog := prog) (w := w) hh s.heap.objs.size l (Nat.ne_of_lt hlt) vs.toArray
  rw [show vs.toArray.size = vs.length from by simp] at W
  refine ⟨_, _, vs.length, _, _, m, news, J, rfl, W, ⟨_, Heap.get?_push_size _ rfl⟩, Nat.ne_of_lt F.ns.lt, next_is_new F, (fun p hp e => absurd (Heap.lt_size (N p hp).1) (e ▸ Nat.lt_irrefl _)), ?_, ⟨⟨_, Heap.get?_push_size _ rfl, rfl, rfl⟩, hls.at fun o e => Heap.get?_push_of_some _ e⟩, F.push _, (fun p hp => ⟨Heap.get?_push_of_some _ (N p hp).1, (N p hp).2⟩), hJ, (fun i h st => let ⟨o, ho, _⟩ := st.1; ⟨o, ho⟩), (fun i s' v Q' st hq => letGo_list st.1 hq), ?_, ?_⟩
  · intro b hb
    rcases List.mem_cons.mp hb with e | hb
    · exact .inl e
    · exact .inr (.inr ⟨_, fun i m nx hj => (List.mem_singleton.mp hb) ▸ hl i m nx hj⟩)
  · intro i v m₁ nx h tk io hi hP hj hnx st F₁ N₁
    obtain ⟨o, ho, hc, hd⟩ := st.1
    have e := (N₁ _ (.head _)).1
    rw [ho] at e
    obtain rfl := Option.some.inj e
    exact turn _ i v m₁ nx h tk _ ⟨hc, hd⟩ (by simpa using hP) hj hnx F₁ N₁
  · exact done
end
end
section
open PySem PySem.W PySem.Calls PyProof.Rows
set_option maxRecDepth 100000
/-- a range's iterator -/
noncomputable def RIter (io : Obj) : Prop := ∃ x y z : Int, io.cls = .type "range_iterator" ∧ io.data = .fields #[rawInt x, rawInt y, rawInt z]
section
variable {prog : Program} {w : World} {A : Around} {E : Value → Shared → Prop} {s : Shared} {env : Env} {h₀ : Heap} {target : Expr} {body : List Stmt} {Q : Flow → Shared → Prop}
theorem Iter_range_my2 {m : Str → Option Value} {news : List (Addr × Obj)} {r : Addr} {a b c : Int} {t u v : Tok} {n : Nat} (J : Nat → (Str → Option Value) → List (Addr × Obj) → Prop)
    (hh : A.handled = none) (hr : IsRange s.heap r a b c t u v) (hsmall : Builtin.Range.small a b c = true) (hn : Builtin.Range.rangeSize a b c = (n : Int)) (F : Fr h₀ env.locals s.heap m) (N : News h₀ env.locals s.heap news) (hJ : J 0 m news)
    (turn : ∀ I i t m₁ nx h tk io, RIter io → i < n → J i m₁ nx → (∀ p ∈ nx, p.1 ≠ I) → Fr h₀ env.locals h m₁ → News h₀ env.locals h ((I, io) :: nx) →
      wpAny (model prog w) A (assign target env (.int (a + i * c) t)) (fun _ s' => wpAny (model prog w) A (execs body env) (ForStep h₀ env.locals { s with heap := h, toks := tk } I J Q i io) E s') E { s with heap := h, toks := tk })
    (done : ∀ m₁ nx h tk, J n m₁ nx → Fr h₀ env.locals h m₁ → News h₀ env.locals h nx → Q .next { s with heap := h, toks := tk }) :
    wpAny (model prog w) A (pyIter (.ref r)) (fun it s₂ => ForAt prog w A h₀ env target body Q E it s₂) E s := by
  refine wpAny_pyIter_range hr hsmall ?_
  have W := Walks.range (prog := prog) (w := w) hh s.heap.objs.size a c n
  refine ⟨_, _, n, _, _, m, news, J, rfl, W, ⟨_, Heap.get?_push_size _ rfl⟩, Nat.ne_of_lt F.ns.lt, next_is_new F, (fun p hp e => absurd (Heap.lt_size (N p hp).1) (e ▸ Nat.lt_irrefl _)), ?_, ?_, F.push _, (fun p hp => ⟨Heap.get?_push_of_some _ (N p hp).1, (N p hp).2⟩), hJ, (fun i h st => ⟨_, st⟩), (fun i s' v Q' st hq => letGo_range st hq), ?_, ?_⟩
  · intro b hb
    exact .inl (List.mem_singleton.mp hb)
  · rw [hn]; simpa [IsRangeIter, rawInt] using Heap.get?_push_size _ rfl
  · rintro i v m₁ nx h tk io hi ⟨t, rfl⟩ hj hnx st F₁ N₁
    refine turn _ i t m₁ nx h tk io ?_ hi hj hnx F₁ N₁
    have e := (N₁ _ (.head _)).1
    have e2 : h.get? s.heap.objs.size = _ := st
    rw [e2] at e
    have e3 : _ = io := Option.some.inj e
    subst e3
    exact ⟨_, _, _, rfl, rfl⟩
  · exact done
end
end
section
open PySem PySem.W PySem.Calls PyProof.Rows
set_option maxRecDepth 100000
section
variable {prog : Program} {w : World} {A : Around} {E : Value → Shared → Prop} {s : Shared} {env : Env} {h₀ : Heap} {target : Expr} {body : List Stmt} {Q : Flow → Shared → Prop}
theorem letGo_str {I : Addr} {x : Str} {t : Tok} {i : Nat} {v : Value} {Q' : Unit → Shared → Prop} {s' : Shared} (hit : s'.heap.IsStrIter I "str_ascii_iterator" x t i) (h : Q' () s') :
    wpAny (model prog w) A (letOwnedTupleGo target (.ref I) v) Q' E s' := by
  obtain ⟨o, ho, hc, hd⟩ := hit
  unfold letOwnedTupleGo
  cases target <;> first
    | exact wpAny_pure h
    | (cases v <;> first
        | exact wpAny_pure h
        | (refine wpAny_bind (wpAny_load ho ?_)
           rw [hc, hd]
           exact wpAny_pure h))
/-- a loop over a text's letters -/
theorem Iter_str_my {m : Str → Option Value} {news : List (Addr × Obj)} {x : Str} {t : Tok} (J : Nat → (Str → Option Value) → List (Addr × Obj) → Prop)
    (hh : A.handled = none) (ha : x.cps.all (· < 128) = true) (F : Fr h₀ env.locals s.heap m) (N : News h₀ env.locals s.heap news) (hJ : J 0 m news)
    (turn : ∀ I i c u m₁ nx h tk io, x.cps[i]? = some c → J i m₁ nx → (∀ p ∈ nx, p.1 ≠ I) → Fr h₀ env.locals h m₁ → News h₀ env.locals h ((I, io) :: nx) →
      wpAny (model prog w) A (assign target env (.str ⟨#[c]⟩ u)) (fun _ s' => wpAny (model prog w) A (execs body env) (ForStep h₀ env.locals { s with heap := h, toks := tk } I J Q i io) E s') E { s with heap := h, toks := tk })
    (done : ∀ m₁ nx h tk, J x.cps.size m₁ nx → Fr h₀ env.locals h m₁ → News h₀ env.locals h nx → Q .next { s with heap := h, toks := tk }) :
    wpAny (model prog w) A (pyIter (.str x t)) (fun it s₂ => ForAt prog w A h₀ env target body Q E it s₂) E s := by
  refine wpAny_pyIter_ascii ha ?_
  have W := Walks.strAscii (prog := prog) (w := w) hh s.heap.objs.size x t
  refine ⟨_, _, x.cps.size, _, _, m, news, J, rfl, W, ⟨_, Heap.get?_push_size _ rfl⟩, Nat.ne_of_lt F.ns.lt, next_is_new F, (fun p hp e => absurd (Heap.lt_size (N p hp).1) (e ▸ Nat.lt_irrefl _)), ?_, ⟨_, Heap.get?_push_size _ rfl, rfl, rfl⟩, F.push _, (fun p hp => ⟨Heap.get?_push_of_some _ (N p hp).1, (N p hp).2⟩), hJ, (fun i h st => let ⟨o, ho, _⟩ := st; ⟨o, ho⟩), (fun i s' v Q' st hq => letGo_str st hq), ?_, ?_⟩
  · intro b hb
    exact .inl (List.mem_singleton.mp hb)
  · rintro i v m₁ nx h tk io hi ⟨c, u, hc, rfl⟩ hj hnx st F₁ N₁
    exact turn _ i c u m₁ nx h tk io hc hj hnx F₁ N₁
  · exact done
end
end
section
open PySem PySem.W PySem.Calls PyProof.Rows Mine
set_option maxRecDepth 100000
open Builtin in
theorem entry_nil {t : Tok} : «bytes.decode» ⟨[.bytes (List.toArray []) t], []⟩ = (rule "bytes.decode.empty" >>= fun _ => mkStr PySem.Str.empty >>= fun v => ret v) := by kernel_rfl
open Builtin in
theorem meets_nil {t : Tok} : Meets («bytes.decode» ⟨[.bytes (List.toArray []) t], []⟩) (fun _ R s => ∀ t' k, R (.ok (.ret (.str PySem.Str.empty t'))) { s with toks := k }) := by
  refine .of_wp fun prog w A R s hS => ?_
  rw [entry_nil]
  exact wpAny_bind (wpAny_rule (wpAny_bind (wpAny_mkStr (wpAny_pure ⟨_, rfl, hS _ _⟩) (by decide))))
section
variable {prog : Program} {w : World} {A : Around} {E : Value → Shared → Prop} {s : Shared} {t : Tok} {Q : Value → Shared → Prop}
theorem decode_nil (h : ∀ t' k, Q (.str PySem.Str.empty t') { s with toks := k }) :
    wpAny (model prog w) A (call (.builtin "bytes.decode") [.bytes (List.toArray []) t]) Q E s :=
  call_meets FB.slot_bytes_decode (typeIs_bytes _ _ _) FB.entry_bytes_decode (FB.args_bytes_decode_1 _) meets_nil h
end
end
section
open PySem PySem.W PySem.Calls PyProof.Rows Mine
set_option maxRecDepth 100000
theorem n5_of {i n1 : Nat} (h : 6 - i = n1 + 1) : n1 ≤ 5 := Nat.le_of_succ_le_succ (show n1 + 1 ≤ 6 by rw [← h]; exact Nat.sub_le 6 i)
theorem pred_of {i : Nat} (h : i < 6) : ∃ n1, 6 - i = n1 + 1 := ⟨5 - i, (by decide : ∀ i, i < 6 → 6 - i = 5 - i + 1) i h⟩
theorem len_le {l n1 k : Nat} (h : l = n1 + 1) (hn : n1 ≤ 5) (hk : 6 ≤ k) : l ≤ k := h ▸ Nat.le_trans (Nat.succ_le_succ hn) hk
theorem six_sub {i tu : Nat} (h : tu = 6 - i) (hi : i < 6) : (6 : Int) + (i : Int) * -1 = ((tu : Nat) : Int) := h ▸ (by decide : ∀ i, i < 6 → (6 : Int) + ((i : Nat) : Int) * -1 = ((6 - i : Nat) : Int)) i hi
theorem five_lt {i j : Nat} (h : j = 5 - i) : j < 6 := h ▸ Nat.lt_succ_of_le (Nat.sub_le 5 i)
theorem sub_ne0 {a b : Nat} (h : b < a) : ((a : Nat) : Int) - ((b : Nat) : Int) ≠ 0 := fun e => Nat.ne_of_gt h (Int.ofNat.inj (Int.sub_eq_zero.mp e))
theorem ord_low (x : Nat) : ((97 + x : Nat) : Int) - 97 = ((x : Nat) : Int) := by rw [Int.natCast_add, Int.add_comm]; exact Int.add_sub_cancel _ _
theorem ex_le {tu ex i : Nat} (h : ex = tu - 1) (h2 : tu = 6 - i) : ex ≤ 5 := h ▸ h2 ▸ Nat.sub_le_sub_right (Nat.sub_le 6 i) 1
theorem tu_pred {tu ex i : Nat} (h : ex = tu - 1) (h2 : tu = 6 - i) (hi : i < 6) : ((tu : Nat) : Int) - 1 = ((ex : Nat) : Int) := h ▸ h2 ▸ (by decide : ∀ i, i < 6 → ((6 - i : Nat) : Int) - 1 = ((6 - i - 1 : Nat) : Int)) i hi
theorem pow3_ne (ex : Nat) : (3 : Int) ^ ((ex : Nat) : Int).toNat ≠ 0 := by
  exact Int.ne_of_gt (Int.pow_pos (by decide))
theorem hn8 {i : Nat} (h : i < 6) : i ≤ 8 := Nat.le_of_lt (Nat.lt_trans h (by decide))
theorem hn8' {i : Nat} (h : i < 6) : i + 1 ≤ 8 := Nat.le_trans (Nat.succ_le_of_lt h) (by decide)
theorem hn8'' {i : Nat} (h : i < 6) : i + 2 ≤ 8 := Nat.le_succ_of_le (Nat.succ_le_succ (Nat.succ_le_of_lt h))
theorem le6 {n1 : Nat} (h : n1 ≤ 5) : n1 ≤ 6 := Nat.le_succ_of_le h
theorem cut_size {rvs : List Value} {row : List Nat} {n1 pk : Nat} (h : StrsAre rvs ((row.eraseIdx pk).map lowG)) (hl : row.length = n1 + 1) (hn : n1 ≤ 5) : rvs.toArray.size ≤ sizeLine := by
  rw [List.size_toArray, h.length, List.length_map]
  exact size6 (Nat.le_trans (List.length_eraseIdx_le _ _) (Nat.le_trans (Nat.le_of_eq hl) (Nat.succ_le_succ hn)))
theorem told_size {tvs : List Value} {to : List Nat} {g : Nat → Nat → Bool} {nm : Nat} (h : StrsAre tvs (to.map lowG)) (ht : to = told g nm) : tvs.length + 1 ≤ sizeLine := by
  rw [h.length, List.length_map, ht, sizeLine_eq]
  exact Nat.le_trans (Nat.succ_le_succ (told_len g nm)) (by decide)
theorem pow3_log {e : Nat} (h : e ≤ 5) : ((3 : Int) ^ ((e : Nat) : Int).toNat).natAbs.log2 < 9000 := by
  have : ∀ e, e < 6 → ((3 : Int) ^ ((e : Nat) : Int).toNat).natAbs.log2 < 9000 := by decide +kernel
  exact this e (by omega)
theorem newsOut {h₀ h : Heap} {L a : Addr} {o : Obj} {nx : List (Addr × Obj)} (N : News h₀ L h nx) (hm : (a, o) ∈ nx) : News h₀ L h ((a, o) :: off [a] nx) := fun p hp => by
  rcases List.mem_cons.mp hp with rfl | hp
  · exact N _ hm
  · exact N _ (off_sub _ hp)
theorem memTo {X B : List (Addr × Obj)} (h : X = B) : ∀ p ∈ X, p ∈ B := fun _ hp => h ▸ hp
theorem newsOut2 {h₀ h : Heap} {L a : Addr} {q : Addr × Obj} {o : Obj} {nx : List (Addr × Obj)} (N : News h₀ L h (q :: nx)) (hm : (a, o) ∈ nx) : News h₀ L h (q :: (a, o) :: off [a] nx) := fun p hp => by
  rcases List.mem_cons.mp hp with rfl | hp
  · exact N _ (.head _)
  · rcases List.mem_cons.mp hp with rfl | hp
    · exact N _ (.tail _ hm)
    · exact N _ (.tail _ (off_sub _ hp))
theorem off_one {a : Addr} {p : Addr × Obj} {nx : List (Addr × Obj)} (h : p ∈ nx) (hn : p.1 ≠ a) : p ∈ off [a] nx := off_mem h (List.forall_mem_singleton.mpr hn)
theorem off_two {a b : Addr} {p : Addr × Obj} {nx : List (Addr × Obj)} (h : p ∈ nx) (hn : p.1 ≠ a) (hm : p.1 ≠ b) : p ∈ off [a, b] nx := off_mem h (List.forall_mem_cons.mpr ⟨hn, List.forall_mem_singleton.mpr hm⟩)
theorem cell_ne_list {o : Obj} {x : Option Value} (h : o.data = .cell x) (vs : List Value) (n : Nat) : o ≠ listOf vs.toArray n := by rintro rfl; cases h
theorem cell_ne_tup {o : Obj} {x : Option Value} (h : o.data = .cell x) (vs : List Value) : tupOf vs ≠ o := by rintro rfl; cases h
theorem cell_ne_list' {o : Obj} {x : Option Value} (h : o.data = .cell x) (vs : List Value) (n : Nat) : listOf vs.toArray n ≠ o := by rintro rfl; cases h
theorem list_ne {vs ws : List Value} {n k : Nat} (h : vs.length ≠ ws.length) : listOf vs.toArray n ≠ listOf ws.toArray k := fun e => h (by
  have : (Data.seq vs.toArray n : Data) = .seq ws.toArray k := congrArg Obj.data e
  injection this with e1
  rw [← List.size_toArray, e1, List.size_toArray])
/-- no instance, no dict, no pair -/
structure Odd (o : Obj) : Prop where
  inst : ∀ dx, instObj 216 dx ≠ o
  dict : ∀ es n, dictOf es n ≠ o
  tup : ∀ vs, tupOf vs ≠ o
theorem Odd.cell {o : Obj} {x : Option Value} (h : o.data = .cell x) : Odd o := ⟨fun _ e => (by subst e; cases h), fun _ _ e => (by subst e; cases h), fun _ e => (by subst e; cases h)⟩
theorem Odd.list (vs : List Value) (n : Nat) : Odd (listOf vs.toArray n) := ⟨fun _ => by simp, fun _ _ => by simp, fun _ => by simp⟩
theorem Odd.iter {o : Obj} {xs : Array Value} (h : o.cls = .type "list_iterator" ∧ o.data = .fields xs) : Odd o := ⟨fun _ e => (by subst e; cases h.2), fun _ _ e => (by subst e; cases h.2), fun _ e => (by subst e; cases h.2)⟩
theorem HasTab.apart {w : World} {h₀ h : Heap} {L x l a : Addr} {oa : Obj} {nx nx' : List (Addr × Obj)} {kvs : List (Str × Str)} (hT : HasTab w nx x l kvs) (N : News h₀ L h nx) (h2 : (a, oa) ∈ nx) (ho : Odd oa) (hl : l ≠ a) (hk : Keep [a] nx nx') : HasTab w nx' x l kvs := by
  obtain ⟨ls, ln, hT⟩ := hT
  obtain ⟨dx, tk, dn, c, b⟩ := hT.inst
  refine ⟨ls, ln, ⟨dx, tk, dn, hk _ c (List.forall_mem_singleton.mpr (news_ne N c h2 (ho.inst _))), hk _ b (List.forall_mem_singleton.mpr (news_ne N b h2 (ho.dict _ _)))⟩, hk _ hT.list (List.forall_mem_singleton.mpr hl), ?_⟩
  have := hT.pairs
  clear hT c b
  induction this with
  | nil => exact .nil
  | cons hm _ ih => exact .cons (hk _ hm (List.forall_mem_singleton.mpr (news_ne N hm h2 (ho.tup _)))) ih
theorem Keep.one {a : Addr} {nx nx' : List (Addr × Obj)} (h : ∀ p ∈ nx, p.1 ≠ a → p ∈ nx') : Keep [a] nx nx' := fun p hp hn => h p hp (hn a (.head _))
theorem Keep.to {a : Addr} {nx nx' : List (Addr × Obj)} {p : Addr × Obj} (h : Keep [a] nx nx') (hp : p ∈ nx) (hn : p.1 ≠ a) : p ∈ nx' := h p hp (List.forall_mem_singleton.mpr hn)
/-- what stands through the walk -/
structure Base (W : World) (nx : List (Addr × Obj)) (sl : Addr) (qs : Nat → Addr) (ks : Nat → Nat) (n : Nat) (g : Nat → Nat → Bool) (x1 la c1 : Addr) (o1 : Obj) : Prop where
  sees : SeesIn nx sl qs ks n g
  tab : HasTab W nx x1 la (laidP g)
  cell : (c1, o1) ∈ nx
theorem HasTab.offs {w : World} {h₀ h : Heap} {L x l : Addr} {S : List Addr} {nx : List (Addr × Obj)} {kvs : List (Str × Str)} (hT : HasTab w nx x l kvs) (N : News h₀ L h nx) (hS : ∀ a ∈ S, ∃ o, (a, o) ∈ nx ∧ Odd o) (hl : ∀ a ∈ S, l ≠ a) : HasTab w (off S nx) x l kvs := by
  obtain ⟨ls, ln, hT⟩ := hT
  obtain ⟨dx, tk, dn, c, b⟩ := hT.inst
  refine ⟨ls, ln, ⟨dx, tk, dn, off_mem c fun a ha => ?_, off_mem b fun a ha => ?_⟩, off_mem hT.list hl, hT.pairs.off fun q k v t u hq a ha => ?_⟩
  · obtain ⟨o, h1, h2⟩ := hS a ha; exact news_ne N c h1 (h2.inst _)
  · obtain ⟨o, h1, h2⟩ := hS a ha; exact news_ne N b h1 (h2.dict _ _)
  · obtain ⟨o, h1, h2⟩ := hS a ha; exact news_ne N hq h1 (h2.tup _)
theorem Base.offs {W : World} {h₀ h : Heap} {L : Addr} {nx : List (Addr × Obj)} {sl : Addr} {qs : Nat → Addr} {ks : Nat → Nat} {n : Nat} {g : Nat → Nat → Bool} {x1 la c1 : Addr} {o1 : Obj} {S : List Addr} (hB : Base W nx sl qs ks n g x1 la c1 o1) (N : News h₀ L h nx)
    (hS : ∀ a ∈ S, ∃ o, (a, o) ∈ nx ∧ Odd o ∧ (∀ vs k, listOf (List.toArray vs) k ≠ o) ∧ c1 ≠ a) : Base W (off S nx) sl qs ks n g x1 la c1 o1 := by
  have hl : ∀ q vs k, (q, listOf (List.toArray vs) k) ∈ nx → ∀ a ∈ S, q ≠ a := fun q vs k hq a ha => by
    obtain ⟨o, h1, h2, h3, h4⟩ := hS a ha; exact news_ne N hq h1 (h3 _ _)
  refine ⟨⟨off_mem hB.sees.list (hl _ _ _ hB.sees.list), fun i hi => off_mem (hB.sees.row i hi) (hl _ _ _ (hB.sees.row i hi))⟩, hB.tab.offs N (fun a ha => ?_) ?_, off_mem hB.cell fun a ha => ?_⟩
  · obtain ⟨o, h1, h2, h3, h4⟩ := hS a ha; exact ⟨o, h1, h2⟩
  · obtain ⟨ls, ln, hT⟩ := hB.tab; exact hl _ _ _ hT.list
  · obtain ⟨o, h1, h2, h3, h4⟩ := hS a ha; exact h4
theorem Base.mono {W : World} {nx nx' : List (Addr × Obj)} {sl : Addr} {qs : Nat → Addr} {ks : Nat → Nat} {n : Nat} {g : Nat → Nat → Bool} {x1 la c1 : Addr} {o1 : Obj} (hB : Base W nx sl qs ks n g x1 la c1 o1) (h : ∀ p ∈ nx, p ∈ nx') : Base W nx' sl qs ks n g x1 la c1 o1 := ⟨hB.sees.mono h, hB.tab.mono h, h _ hB.cell⟩
theorem MadeL.mono {pos : Pos} {qual : Str} {ps : Array Value} {nx nx' : List (Addr × Obj)} (h : MadeL pos qual ps nx) (hs : ∀ c oc vs t, (c, oc) ∈ nx → oc.data = .fields vs → vs[1]? = some (.str qual t) → (c, oc) ∈ nx') : MadeL pos qual ps nx' := by
  rcases h with h | ⟨c, oc, vs, t, h1, h2, h3, h4⟩
  · exact .inl h
  · exact .inr ⟨c, oc, vs, t, h1, hs _ _ _ _ h2 h3 h4, h3, h4⟩
theorem HasTab.aparts {w : World} {h₀ h : Heap} {L x l : Addr} {S : List Addr} {nx nx' : List (Addr × Obj)} {kvs : List (Str × Str)} (hT : HasTab w nx x l kvs) (N : News h₀ L h nx) (hS : ∀ a ∈ S, ∃ o, (a, o) ∈ nx ∧ Odd o) (hl : ∀ a ∈ S, l ≠ a) (hk : Keep S nx nx') : HasTab w nx' x l kvs :=
  (hT.offs N hS hl).mono fun p hp => hk p (off_sub p hp) fun a ha => off_ne ha p hp
noncomputable def qW : Str := Str.ofString "_law_walk" ++ Str.ofString ".<locals>." ++ Str.ofString "<lambda>"
/-- where the lambdas stand -/
noncomputable def posL : List Pos := [⟨183, 0, 183, 26⟩, ⟨186, 0, 186, 26⟩, ⟨209, 0, 209, 26⟩, ⟨214, 0, 214, 20⟩, ⟨215, 0, 215, 20⟩]
/-- all lambdas' places are made or not yet -/
structure Lams (P : Addr → Prop) (ps : Array Value) (nx : List (Addr × Obj)) : Prop where
  ok : TriplesOk ps.toList
  made : ∀ pos ∈ posL, codeAmong pos ps.toList = none ∨ ∃ c' oc vs t, codeAmong pos ps.toList = some (.ref c') ∧ (c', oc) ∈ nx ∧ oc.data = .fields vs ∧ vs[1]? = some (.str qW t) ∧ P c'
theorem triples_ne {oc : Obj} {vs : Array Value} {q : Str} {t : Tok} {ps : Array Value} (hp : TriplesOk ps.toList) (h1 : oc.data = .fields vs) (h2 : vs[1]? = some (.str q t)) : oc ≠ tabObj ps := by
  rintro rfl
  obtain rfl : ps = vs := Data.fields.inj h1
  obtain ⟨l⟩ := ps
  match l, hp with
  | [], _ => simp at h2
  | .int _ _ :: .int _ _ :: _ :: _, _ => simp at h2
theorem Odd.tab (ps : Array Value) : Odd (tabObj ps) := ⟨fun _ e => (by cases e), fun _ _ e => (by cases e), fun _ e => (by cases e)⟩
theorem Odd.rit {o : Obj} (h : RIter o) : Odd o := by
  obtain ⟨_, _, _, h1, h2⟩ := h
  exact ⟨fun _ e => (by subst e; cases h2), fun _ _ e => (by subst e; cases h2), fun _ e => (by subst e; cases h2)⟩
theorem Odd.code {o : Obj} {vs : Array Value} (h : o.data = .fields vs) : Odd o := ⟨fun _ e => (by subst e; cases h), fun _ _ e => (by subst e; cases h), fun _ e => (by subst e; cases h)⟩
theorem tab_ne_list (ps : Array Value) (vs : List Value) (k : Nat) : listOf vs.toArray k ≠ tabObj ps := fun e => by cases e
theorem posL_ok : ∀ p ∈ posL, ∀ q ∈ posL, p = q ∨ (q.line ≠ p.line ∨ q.col ≠ p.col) := by decide
theorem Lams.start {P : Addr → Prop} {ps : Array Value} {nx : List (Addr × Obj)} (H : Lams (fun _ => True) ps nx) (hP : ∀ p ∈ nx, P p.1) : Lams P ps nx := by
  refine ⟨H.ok, fun q hq => ?_⟩
  rcases H.made q hq with h | ⟨c2, oc2, vs2, t2, h1, h2, h3, h4, h5⟩
  · exact .inl h
  · exact .inr ⟨c2, oc2, vs2, t2, h1, h2, h3, h4, hP _ h2⟩
theorem Lams.stop {I : Addr} {ps : Array Value} {nx : List (Addr × Obj)} (H : Lams (fun c => c ≠ I) ps nx) : Lams (fun _ => True) ps (off [I] nx) := by
  refine ⟨H.ok, fun q hq => ?_⟩
  rcases H.made q hq with h | ⟨c2, oc2, vs2, t2, h1, h2, h3, h4, h5⟩
  · exact .inl h
  · exact .inr ⟨c2, oc2, vs2, t2, h1, off_one h2 h5, h3, h4, trivial⟩
theorem Lams.keep {P : Addr → Prop} {ps : Array Value} {h₀ h : Heap} {L a : Addr} {o : Obj} {nx B : List (Addr × Obj)} (H : Lams P ps nx) (N : News h₀ L h nx) (ha : (a, o) ∈ nx) (ho : ∀ vs, o.data ≠ .fields vs) (hs : ∀ p ∈ nx, p.1 ≠ a → p ∈ B) : Lams P ps B := by
  refine ⟨H.ok, fun q hq => ?_⟩
  rcases H.made q hq with h | ⟨c2, oc2, vs2, t2, h1, h2, h3, h4, h5⟩
  · exact .inl h
  · exact .inr ⟨c2, oc2, vs2, t2, h1, hs _ h2 (news_ne N h2 ha (fun e => ho _ (e ▸ h3))), h3, h4, h5⟩
theorem Lams.keeps {P : Addr → Prop} {S : List Addr} {ps : Array Value} {h₀ h : Heap} {L : Addr} {nx B : List (Addr × Obj)} (H : Lams P ps nx) (N : News h₀ L h nx) (hS : ∀ a ∈ S, ∃ o, (a, o) ∈ nx ∧ ∀ vs, o.data ≠ .fields vs) (hk : Keep S nx B) : Lams P ps B := by
  refine ⟨H.ok, fun q hq => ?_⟩
  rcases H.made q hq with h | ⟨c2, oc2, vs2, t2, h1, h2, h3, h4, h5⟩
  · exact .inl h
  · exact .inr ⟨c2, oc2, vs2, t2, h1, hk _ h2 (fun a ha => by obtain ⟨o, o1, o2⟩ := hS a ha; exact news_ne N h2 o1 (fun e => o2 _ (e ▸ h3))), h3, h4, h5⟩
theorem Lams.mono {P : Addr → Prop} {ps : Array Value} {nx B : List (Addr × Obj)} (H : Lams P ps nx) (hs : ∀ p ∈ nx, p ∈ B) : Lams P ps B := by
  refine ⟨H.ok, fun q hq => ?_⟩
  rcases H.made q hq with h | ⟨c2, oc2, vs2, t2, h1, h2, h3, h4, h5⟩
  · exact .inl h
  · exact .inr ⟨c2, oc2, vs2, t2, h1, hs _ h2, h3, h4, h5⟩
theorem Lams.next {P : Addr → Prop} {pos : Pos} {ps ps' : Array Value} {h₀ h : Heap} {L c' : Addr} {oc : Obj} {vs : Array Value} {tq : Tok} {nx B : List (Addr × Obj)} (H : Lams P ps nx) (hp : pos ∈ posL) (N : News h₀ L h nx) (hps : (232, tabObj ps) ∈ nx) (hd1 : oc.data = .fields vs) (hd2 : vs[1]? = some (.str qW tq)) (htr' : TriplesOk ps'.toList) (hcode : codeAmong pos ps'.toList = some (.ref c')) (hoth : ∀ pos2 : Pos, pos2.line ≠ pos.line ∨ pos2.col ≠ pos.col → codeAmong pos2 ps'.toList = codeAmong pos2 ps.toList)
    (hc : (c', oc) ∈ B) (hcP : P c') (hs : ∀ p ∈ nx, p.1 ≠ 232 → p ∈ B) : Lams P ps' B := by
  refine ⟨htr', fun q hq => ?_⟩
  rcases posL_ok pos hp q hq with rfl | hne
  · exact .inr ⟨c', oc, vs, tq, hcode, hc, hd1, hd2, hcP⟩
  · rcases H.made q hq with h | ⟨c2, oc2, vs2, t2, h1, h2, h3, h4, h5⟩
    · exact .inl ((hoth q hne).trans h)
    · exact .inr ⟨c2, oc2, vs2, t2, (hoth q hne).trans h1, hs _ h2 (news_ne N h2 hps (triples_ne H.ok h3 h4)), h3, h4, h5⟩
theorem Lams.toMk {pos : Pos} {ps : Array Value} {nx B : List (Addr × Obj)} {P : Addr → Prop} (H : Lams P ps nx) (hp : pos ∈ posL) {h₀ h : Heap} {L : Addr} (N : News h₀ L h nx) (hps : (232, tabObj ps) ∈ nx) (hs : ∀ p ∈ nx, p.1 ≠ 232 → p ∈ B) :
    codeAmong pos ps.toList = none ∨ ∃ c' oc vs t, codeAmong pos ps.toList = some (.ref c') ∧ (c', oc) ∈ B ∧ oc.data = .fields vs ∧ vs[1]? = some (.str qW t) ∧ P c' := by
  rcases H.made pos hp with h | ⟨c2, oc2, vs2, t2, h1, h2, h3, h4, h5⟩
  · exact .inl h
  · exact .inr ⟨c2, oc2, vs2, t2, h1, hs _ h2 (news_ne N h2 hps (triples_ne H.ok h3 h4)), h3, h4, h5⟩
/-- the state of the walk in the ledger -/
structure Wk (W : World) (L1 rw gn du l2 x2 : Addr) (d : List (Addr × Obj)) (st : St) (lim : Nat) (nx : List (Addr × Obj)) : Prop where
  name : ∃ v y, (L1 + 1 + 1, v) ∈ nx ∧ v.data = .cell y
  told : ∃ v y, (L1 + 1 + 1 + 1 + 1, v) ∈ nx ∧ v.data = .cell y
  lams : ∃ ps, (232, tabObj ps) ∈ nx ∧ Lams (fun _ => True) ps nx
  row : ∃ vs k, (rw, listOf (List.toArray vs) k) ∈ nx ∧ StrsAre vs (st.row.map lowG)
  gone : ∃ vs k, (gn, listOf (List.toArray vs) k) ∈ nx ∧ StrsAre vs (st.gone.map lowG)
  due : ∃ od F k, (du, od) ∈ nx ∧ Due PySem.Challenge.rw_uc0029_02.row.prog W od F k ∧ k ≤ lim ∧ ∀ x, x < 6 → F (lowG x) = some (st.wd x)
  marks : ∃ kvs, HasTab W nx x2 l2 kvs ∧ Marks st kvs
  base : ∀ p ∈ d, p ∈ nx
theorem cd234 {w : World} {h : Heap} (X : (hd.heap_39 w.params).In h) : CodeHd h 234 232 := by
  refine ⟨_, _, _, _, _, _, _, _, _, X 234 _ (by with_unfolding_all rfl), rfl, rfl, rfl, rfl, rfl, rfl, rfl, rfl, by decide⟩
end
section
open PySem PySem.W PySem.Calls PyProof.Rows Mine
set_option maxRecDepth 100000
noncomputable def putsM : List (Str × Value) → (Str → Option Value) → Str → Option Value
  | [], m => m
  | (x, v) :: r, m => fun y => if y = x then some v else putsM r m y
theorem puts_same {m : Str → Option Value} : ∀ {l : List (Str × Value)}, (∀ p ∈ l, m p.1 = some p.2) → putsM l m = m
  | [], _ => rfl
  | (x, v) :: r, h => by
    show (fun y => if y = x then some v else putsM r m y) = m
    rw [puts_same fun p hp => h p (.tail _ hp)]
    funext y
    by_cases e : y = x
    · rw [if_pos e, e]; exact (h (x, v) (.head _)).symm
    · rw [if_neg e]
theorem frPuts {h₀ h : Heap} {L : Addr} {m : Str → Option Value} (l : List (Str × Value)) (F : Fr h₀ L h m) (e : ∀ p ∈ l, m p.1 = some p.2) : Fr h₀ L h (putsM l m) := by rw [puts_same e]; exact F
/-- the order of a stable sort -/
noncomputable def SOrd (wd : Nat → Str) (names : List Nat) (a b : Nat) : Prop := strLt (wd a) (wd b) = true ∨ (wd a = wd b ∧ List.Sublist [a, b] names)
/-- names that stand in the row stand there as a stable sort by the words lays them -/
structure SRow (st : St) (names : List Nat) : Prop where
  nodup : names.Nodup
  sub : ∀ x ∈ names, x ∈ st.row
  stab : st.row.Pairwise fun a b => a ∈ names → b ∈ names → SOrd st.wd names a b
theorem row_pairs (l : List Nat) : l.Pairwise fun a b => List.Sublist [a, b] l := List.pairwise_of_forall_sublist fun h => h
theorem stab_start {st : St} {n : Nat} (O : Ok n st) (p : Nat → Bool) : SRow st (st.row.filter p) := by
  refine ⟨O.nodup.sublist List.filter_sublist, fun x hx => (List.mem_filter.mp hx).1, ?_⟩
  refine List.Pairwise.imp₂ (R := fun a b => strLt (st.wd b) (st.wd a) = false) (S := fun a b => List.Sublist [a, b] st.row) (fun a b h1 h2 ha hb => ?_) O.sorted (row_pairs _)
  by_cases e : st.wd a = st.wd b
  · refine .inr ⟨e, ?_⟩
    have := List.Sublist.filter p h2
    rw [List.filter_cons, (List.mem_filter.mp ha).2, if_pos rfl, List.filter_cons, (List.mem_filter.mp hb).2, if_pos rfl] at this
    exact this
  · exact .inl (strLt_tot (Ne.symm e) h1)
theorem stab_put {st : St} {names : List Nat} {n f o : Nat} (O : Ok n st) (S : SRow st names) (hf : 1 ≤ f ∧ f ≤ 15) (ho : o ∈ st.row) (hn : o ∉ names) : SRow (put1 f st o) (names ++ [o]) := by
  have O' := O.put (o := o) hf
  have hp := put_row (o := o) O hf
  refine ⟨List.nodup_append.mpr ⟨S.nodup, by simp, fun a ha b hb e => hn (by rw [← List.mem_singleton.mp hb, ← e]; exact ha)⟩, fun x hx => hp.mem_iff.mpr ?_, ?_⟩
  · rcases List.mem_append.mp hx with h | h
    · exact S.sub x h
    · rw [List.mem_singleton.mp h]; exact ho
  have hw : ∀ x, x ≠ o → (put1 f st o).wd x = st.wd x := fun x hx => by unfold St.wd; rw [put_fig, if_neg fun h => hx h.1]
  obtain ⟨s1, hs1⟩ : ∃ s1 : St, s1 = markS f st o := ⟨_, rfl⟩
  have hr : s1.row = st.row.erase o := by rw [hs1]; rfl
  have hno : o ∉ s1.row := by rw [hr]; exact List.Nodup.not_mem_erase O.nodup
  have hsub : s1.row.Sublist st.row := by rw [hr]; exact List.erase_sublist
  have hw1 : ∀ x, s1.wd x = (put1 f st o).wd x := fun x => by
    rw [hs1]; unfold St.wd; rw [put_fig]
    show wordD (if x = o then _ else _) = _
    by_cases e : x = o
    · subst e; rw [if_pos rfl, if_pos ⟨rfl, ho⟩]
    · rw [if_neg e, if_neg fun h => e h.1]
  have hso : Sorted s1 := by
    have : s1.row.Pairwise fun a b => strLt (st.wd b) (st.wd a) = false := List.Pairwise.sublist hsub O.sorted
    refine List.Pairwise.imp_of_mem (fun ha hb hr => ?_) this
    rw [hw1, hw1, hw _ fun e => hno (e ▸ ha), hw _ fun e => hno (e ▸ hb)]; exact hr
  obtain ⟨p1, p2, p3⟩ := placeOf_spec hso (s1.wd o)
  have hrow : (put1 f st o).row = s1.row.take (placeOf s1 (s1.wd o)) ++ o :: s1.row.drop (placeOf s1 (s1.wd o)) := by
    unfold put1
    rw [if_pos ho, ← hs1]
    exact ins_cut _ _ p1
  have hold : s1.row.Pairwise fun a b => a ∈ names ++ [o] → b ∈ names ++ [o] → SOrd (put1 f st o).wd (names ++ [o]) a b := by
    refine List.Pairwise.imp_of_mem (fun {a b} ha hb h h1 h2 => ?_) (List.Pairwise.sublist hsub S.stab)
    have ea : a ≠ o := fun e => hno (e ▸ ha)
    have eb : b ≠ o := fun e => hno (e ▸ hb)
    have h1 : a ∈ names := (List.mem_append.mp h1).resolve_right fun h => ea (List.mem_singleton.mp h)
    have h2 : b ∈ names := (List.mem_append.mp h2).resolve_right fun h => eb (List.mem_singleton.mp h)
    unfold SOrd
    rw [hw a ea, hw b eb]
    exact (h h1 h2).imp id fun h => ⟨h.1, h.2.trans (List.sublist_append_left _ _)⟩
  rw [hrow, List.pairwise_append]
  refine ⟨List.Pairwise.sublist (List.take_sublist _ _) hold, List.pairwise_cons.mpr ⟨fun b hb _ _ => .inl ?_, List.Pairwise.sublist (List.drop_sublist _ _) hold⟩, fun a ha b hb h1 h2 => ?_⟩
  · obtain ⟨i, hpi, hi, e⟩ := drop_get hb
    have := p3 _ hpi hi
    rw [at_get hi, e, hw1, hw1] at this
    exact this
  · rcases List.mem_cons.mp hb with rfl | hb
    · obtain ⟨i, hi, e⟩ := List.mem_take_iff_getElem.mp ha
      have h3 := p2 i (Nat.lt_of_lt_of_le hi (Nat.min_le_left _ _))
      rw [at_get (Nat.lt_of_lt_of_le hi (Nat.min_le_right _ _)), e, hw1, hw1] at h3
      by_cases e2 : (put1 f st b).wd a = (put1 f st b).wd b
      · have ea : a ≠ b := fun e => hno (e ▸ List.mem_of_mem_take ha)
        have h1 : a ∈ names := (List.mem_append.mp h1).resolve_right fun h => ea (List.mem_singleton.mp h)
        exact .inr ⟨e2, (List.singleton_sublist.mpr h1).append (List.Sublist.refl [b])⟩
      · exact .inl (strLt_tot (Ne.symm e2) h3)
    · rw [← List.take_append_drop (placeOf s1 (s1.wd o)) s1.row, List.pairwise_append] at hold
      exact hold.2.2 a ha b hb h1 h2
theorem sub_anti {a b : Nat} : ∀ {l : List Nat}, l.Nodup → List.Sublist [a, b] l → List.Sublist [b, a] l → False
  | c :: t, hn, h1, h2 => by
    obtain ⟨n1, n2⟩ := List.nodup_cons.mp hn
    cases h1 with
    | cons _ h1 =>
      cases h2 with
      | cons _ h2 => exact sub_anti n2 h1 h2
      | cons_cons _ h2 => exact n1 (h1.subset (.tail _ (.head _)))
    | cons_cons _ h1 =>
      cases h2 with
      | cons _ h2 => exact n1 (h2.subset (.tail _ (.head _)))
      | cons_cons _ h2 => exact n1 (h1.subset (.head _))
/-- there is but one stable sort -/
theorem sort_unique {names r : List Nat} {wd : Nat → Str} (hn : names.Nodup) (hp : r.Perm names) (hr : r.Pairwise (SOrd wd names)) {p : List Nat} (pp : p.Perm (List.range names.length)) (ps : p.Pairwise (Stab fun i => wd (names.getD i 0))) : (p.map fun i => names.getD i 0) = r := by
  have e : (List.range names.length).map (fun i => names.getD i 0) = names := List.ext_getElem (by simp) fun i h1 h2 => by simp [List.getD, h2]
  have hpp : (p.map fun i => names.getD i 0).Perm names := (pp.map _).trans (List.Perm.of_eq e)
  refine List.Perm.eq_of_pairwise (le := SOrd wd names) (fun a b _ _ h1 h2 => ?_) ?_ hr (hpp.trans hp.symm)
  · rcases h1 with h1 | ⟨e1, h1⟩
    · rcases h2 with h2 | ⟨e2, _⟩
      · have := strLt_tr h1 h2; rw [strLt_irr] at this; cases this
      · rw [e2, strLt_irr] at h1; cases h1
    · rcases h2 with h2 | ⟨_, h2⟩
      · rw [e1, strLt_irr] at h2; cases h2
      · exact (sub_anti hn h1 h2).elim
  · rw [List.pairwise_map]
    have hpr := List.pairwise_iff_getElem.mp (row_pairs names)
    refine List.Pairwise.imp_of_mem (fun {i j} hi hj h => ?_) ps
    have hi := List.mem_range.mp (pp.mem_iff.mp hi)
    have hj := List.mem_range.mp (pp.mem_iff.mp hj)
    rcases h with h | ⟨h1, h2⟩
    · exact .inl h
    · refine .inr ⟨h1, ?_⟩
      have := hpr i j hi hj h2
      simpa [List.getD, hi, hj] using this
end
section
open PySem PySem.W PySem.Calls PyProof.Rows Mine
set_option maxRecDepth 100000
/-- the names that the loop over the told ones leaves alone -/
structure InV (x1 gn Dn : Addr) (wv mark : Nat) (tm : Tok) (tu : Nat) (FG : Int) (m : Str → Option Value) : Prop where
  sights : m (Str.ofString "sights") = some (.ref x1)
  way : ∃ t, m (Str.ofString "way") = some (.int (wv : Nat) t)
  mark : m (Str.ofString "mark") = some (.int (mark : Nat) tm)
  gone : m (Str.ofString "gone") = some (.ref gn)
  turn : ∃ t, m (Str.ofString "turn") = some (.int (tu : Nat) t)
  names : m (Str.ofString "names") = some (.ref Dn)
  figure : ∃ t, m (Str.ofString "figure") = some (.int FG t)
theorem InV.fr {x1 gn Dn : Addr} {wv mark tu : Nat} {tm : Tok} {FG : Int} {m : Str → Option Value} (V : InV x1 gn Dn wv mark tm tu FG m) : ∃ t1 t2 t4, ∀ {h₀ h : Heap} {L : Addr}, Fr h₀ L h m → Fr h₀ L h (fun y => if y = Str.ofString "names" then some (.ref Dn) else if y = Str.ofString "figure" then some (.int FG t1) else if y = Str.ofString "turn" then some (.int (tu : Nat) t2) else if y = Str.ofString "mark" then some (.int (mark : Nat) tm) else if y = Str.ofString "way" then some (.int (wv : Nat) t4) else if y = Str.ofString "gone" then some (.ref gn) else if y = Str.ofString "sights" then some (.ref x1) else m y) := by
  obtain ⟨t1, h1⟩ := V.figure
  obtain ⟨t2, h2⟩ := V.turn
  obtain ⟨t4, h4⟩ := V.way
  refine ⟨t1, t2, t4, fun F => frPuts [(Str.ofString "names", .ref Dn), (Str.ofString "figure", .int FG t1), (Str.ofString "turn", .int (tu : Nat) t2), (Str.ofString "mark", .int (mark : Nat) tm), (Str.ofString "way", .int (wv : Nat) t4), (Str.ofString "gone", .ref gn), (Str.ofString "sights", .ref x1)] F ?_⟩
  exact List.forall_mem_cons.mpr ⟨V.names, List.forall_mem_cons.mpr ⟨h1, List.forall_mem_cons.mpr ⟨h2, List.forall_mem_cons.mpr ⟨V.mark, List.forall_mem_cons.mpr ⟨h4, List.forall_mem_cons.mpr ⟨V.gone, List.forall_mem_singleton.mpr V.sights⟩⟩⟩⟩⟩⟩
noncomputable def stIn (f : Nat) (to : List Nat) (s0 : St) (t : Nat) : St := (to.take t).foldl (put1 f) s0
noncomputable def nmIn (to : List Nat) (s0 : St) (t : Nat) : List Nat := s0.row.filter (fun x => !to.contains x) ++ (to.take t).filter fun x => s0.row.contains x
/-- what holds after t of the told ones -/
structure InP (f n : Nat) (to : List Nat) (s0 : St) (t : Nat) : Prop where
  ok : Ok n (stIn f to s0 t)
  row : (stIn f to s0 t).row.Perm s0.row
  gone : (stIn f to s0 t).gone = s0.gone
  stab : SRow (stIn f to s0 t) (nmIn to s0 t)
  len : ∀ x, ((stIn f to s0 t).fig x).length ≤ (s0.fig x).length + 1
theorem stIn_succ {f : Nat} {to : List Nat} {s0 : St} {t o : Nat} (h : to[t]? = some o) : stIn f to s0 (t + 1) = put1 f (stIn f to s0 t) o := by
  unfold stIn; rw [List.take_add_one, h, List.foldl_append]; rfl
theorem inP_start {f n : Nat} {to : List Nat} {s0 : St} (O : Ok n s0) : InP f n to s0 0 := by
  refine ⟨O, List.Perm.refl _, rfl, ?_, fun x => Nat.le_succ _⟩
  have : nmIn to s0 0 = s0.row.filter (fun x => !to.contains x) := by unfold nmIn; rw [List.take_zero, List.filter_nil, List.append_nil]
  rw [this]
  exact stab_start O _
theorem put_no {f o : Nat} {s : St} (h : o ∉ s.row) : put1 f s o = s := by unfold put1; rw [if_neg h]
theorem nm_no {to : List Nat} {s0 : St} {t o : Nat} (h : to[t]? = some o) (ho : o ∉ s0.row) : nmIn to s0 (t + 1) = nmIn to s0 t := by
  unfold nmIn
  rw [filter_take_no h (Bool.not_eq_true _ ▸ fun e => ho (List.contains_iff_mem.mp e))]
theorem nm_yes {to : List Nat} {s0 : St} {t o : Nat} (h : to[t]? = some o) (ho : o ∈ s0.row) : nmIn to s0 (t + 1) = nmIn to s0 t ++ [o] := by
  unfold nmIn
  rw [filter_take_yes h (List.contains_iff_mem.mpr ho), List.append_assoc]
theorem nm_new {to : List Nat} {s0 : St} {t o : Nat} (hn : to.Nodup) (h : to[t]? = some o) : o ∉ nmIn to s0 t := by
  unfold nmIn
  intro hm
  rcases List.mem_append.mp hm with hm | hm
  · have := (List.mem_filter.mp hm).2
    rw [List.contains_iff_mem.mpr (List.mem_of_getElem? h)] at this
    cases this
  · obtain ⟨j, hj, e⟩ := List.mem_take_iff_getElem.mp (List.mem_filter.mp hm).1
    obtain ⟨ht, et⟩ := List.getElem?_eq_some_iff.mp h
    have := (List.pairwise_iff_getElem.mp hn) j t (Nat.lt_of_lt_of_le hj (Nat.min_le_right _ _)) ht (Nat.lt_of_lt_of_le hj (Nat.min_le_left _ _))
    exact this (e.trans et.symm)
theorem fig_len {f n : Nat} {to : List Nat} {s0 : St} {t o : Nat} (hn : to.Nodup) (P : InP f n to s0 t) (h : to[t]? = some o) : (stIn f to s0 t).fig o = s0.fig o := by
  have : ∀ (l : List Nat) (s : St), o ∉ l → (l.foldl (put1 f) s).fig o = s.fig o := fun l => by
    induction l with
    | nil => intro s _; rfl
    | cons a r ih =>
      intro s ho
      rw [List.foldl_cons, ih _ fun h => ho (.tail _ h), put_fig, if_neg fun h : o = a ∧ _ => ho (by rw [h.1]; exact .head _)]
  refine this _ _ fun hm => ?_
  obtain ⟨j, hj, e⟩ := List.mem_take_iff_getElem.mp hm
  obtain ⟨ht, et⟩ := List.getElem?_eq_some_iff.mp h
  exact (List.pairwise_iff_getElem.mp hn) j t (Nat.lt_of_lt_of_le hj (Nat.min_le_right _ _)) ht (Nat.lt_of_lt_of_le hj (Nat.min_le_left _ _)) (e.trans et.symm)
theorem inP_no {f n : Nat} {to : List Nat} {s0 : St} {t o : Nat} (P : InP f n to s0 t) (h : to[t]? = some o) (ho : o ∉ (stIn f to s0 t).row) : InP f n to s0 (t + 1) := by
  have e1 := stIn_succ (f := f) (s0 := s0) h
  rw [put_no ho] at e1
  have e2 := nm_no h fun hm => ho (P.row.mem_iff.mpr hm)
  exact ⟨e1 ▸ P.ok, e1 ▸ P.row, e1 ▸ P.gone, by rw [e1, e2]; exact P.stab, e1 ▸ P.len⟩
theorem inP_yes {f n : Nat} {to : List Nat} {s0 : St} {t o : Nat} (hn : to.Nodup) (hf : 1 ≤ f ∧ f ≤ 15) (P : InP f n to s0 t) (h : to[t]? = some o) (ho : o ∈ (stIn f to s0 t).row) : InP f n to s0 (t + 1) := by
  have e1 := stIn_succ (f := f) (s0 := s0) h
  have e2 := nm_yes h (P.row.mem_iff.mp ho)
  refine ⟨e1 ▸ P.ok.put hf, by rw [e1]; exact (put_row P.ok hf).trans P.row, by rw [e1, put_gone]; exact P.gone, by rw [e1, e2]; exact stab_put P.ok P.stab hf ho (nm_new hn h), fun x => ?_⟩
  rw [e1, put_fig]
  split
  · rename_i hx
    rw [hx.1, fig_len hn P h, List.length_append]
    exact Nat.le_refl _
  · exact P.len x
theorem inP_end {f n : Nat} {to : List Nat} {s0 : St} {t : Nat} (P : InP f n to s0 t) (ht : to.length ≤ t) : (stIn f to s0 t).row.Perm (nmIn to s0 t) := by
  have hm : ∀ x, x ∈ (stIn f to s0 t).row ↔ x ∈ nmIn to s0 t := fun x => by
    rw [P.row.mem_iff]
    unfold nmIn
    rw [List.take_of_length_le ht, List.mem_append, List.mem_filter, List.mem_filter, List.contains_iff_mem]
    constructor
    · intro hx
      by_cases hc : x ∈ to
      · exact .inr ⟨hc, hx⟩
      · exact .inl ⟨hx, by simpa using hc⟩
    · rintro (h | h)
      · exact h.1
      · exact h.2
  exact perm_of P.ok.nodup P.stab.nodup hm
theorem strsPick {vs : List Value} {names : List Nat} (h : StrsAre vs (names.map lowG)) : ∀ {p : List Nat}, (∀ i ∈ p, i < names.length) → StrsAre (p.map fun i => vs.getD i .none) ((p.map fun i => names.getD i 0).map lowG)
  | [], _ => .nil
  | i :: p, hp => by
    have hi := hp i (.head _)
    obtain ⟨t, ht⟩ := h.get i (lowG names[i]) (by rw [List.getElem?_map, List.getElem?_eq_getElem hi]; rfl)
    have e1 : vs.getD i .none = .str (lowG names[i]) t := by rw [List.getD, ht]; rfl
    have e2 : names.getD i 0 = names[i] := by simp [List.getD, hi]
    simp only [List.map_cons]
    rw [e1, e2]
    exact .cons _ _ (strsPick h fun j hj => hp j (.tail _ hj))
/-- the two sorted lists are alike -/
theorem sort_row {f n : Nat} {to : List Nat} {s0 : St} {t : Nat} (P : InP f n to s0 t) (ht : to.length ≤ t) {p : List Nat} (pp : p.Perm (List.range (nmIn to s0 t).length)) (ps : p.Pairwise (Stab fun i => (stIn f to s0 t).wd ((nmIn to s0 t).getD i 0))) : (p.map fun i => (nmIn to s0 t).getD i 0) = (stIn f to s0 t).row := by
  have hp := inP_end P ht
  exact sort_unique P.stab.nodup hp (List.Pairwise.imp_of_mem (fun ha hb h => h (hp.mem_iff.mp ha) (hp.mem_iff.mp hb)) P.stab.stab) pp ps
theorem sort_self {n : Nat} {st : St} (O : Ok n st) {p : List Nat} (pp : p.Perm (List.range st.row.length)) (ps : p.Pairwise (Stab fun i => st.wd (st.row.getD i 0))) : (p.map fun i => st.row.getD i 0) = st.row := by
  have S := stab_start O fun _ => true
  rw [List.filter_eq_self.mpr fun _ _ => rfl] at S
  exact sort_unique O.nodup (List.Perm.refl _) (List.Pairwise.imp_of_mem (fun ha hb h => h ha hb) S.stab) pp ps
theorem sign_abs (tu : Nat) (N f : Nat) : ((1 - 2 * (((tu : Nat) : Int).fmod 2)) * (16 * ((N : Nat) : Int) + ((f : Nat) : Int))).natAbs = 16 * N + f := by
  have e : 16 * ((N : Nat) : Int) + ((f : Nat) : Int) = ((16 * N + f : Nat) : Int) := rfl
  rw [Int.fmod_eq_emod_of_nonneg _ (by decide), e, show ((tu : Nat) : Int) % 2 = ((tu % 2 : Nat) : Int) from rfl]
  rcases Nat.mod_two_eq_zero_or_one tu with h | h
  · rw [h, show (1 : Int) - 2 * ((0 : Nat) : Int) = 1 from rfl, Int.one_mul, Int.natAbs_natCast]
  · rw [h, show (1 : Int) - 2 * ((1 : Nat) : Int) = -1 from rfl, Int.neg_one_mul, Int.natAbs_neg, Int.natAbs_natCast]
theorem figT_int {mark tu ex : Nat} (h : 2 ≤ tu) (h7 : tu < 7) (he : ex = tu - 1) : 3 * ((tu : Nat) : Int) - 3 - (((mark : Nat) : Int).fdiv (3 ^ ((ex : Nat) : Int).toNat)).fmod 3 = ((figT mark tu : Nat) : Int) := by
  unfold figT
  rw [Int.toNat_natCast, Int.fmod_eq_emod_of_nonneg _ (by decide), Int.fdiv_eq_ediv_of_nonneg _ (Int.le_of_lt (Int.pow_pos (by decide))), ← he]
  have e : ((mark : Nat) : Int) / 3 ^ ex % 3 = ((mark / 3 ^ ex % 3 : Nat) : Int) := by norm_cast
  rw [e]
  exact (by decide : ∀ tu, tu < 7 → 2 ≤ tu → ∀ m, m < 3 → 3 * ((tu : Nat) : Int) - 3 - ((m : Nat) : Int) = ((3 * tu - 3 - m : Nat) : Int)) tu h7 h _ (Nat.mod_lt _ (by decide))
theorem Due.ne {prog : Program} {w : World} {o o' : Obj} {F : Str → Option Str} {k : Nat} (h : Due prog w o F k) (hc : ∀ es ep, o'.data ≠ .dict es ep) : o' ≠ o := by
  obtain ⟨kvs, D, ⟨es, ep, _, h1, _⟩, -⟩ := h.ex
  rintro rfl
  exact hc _ _ h1
theorem Due.fields {prog : Program} {w : World} {o : Obj} {F : Str → Option Str} {k : Nat} (h : Due prog w o F k) (vs : Array Value) : o.data ≠ .fields vs := by
  obtain ⟨kvs, D, ⟨es, ep, _, h1, _⟩, -⟩ := h.ex
  rw [h1]; intro e; cases e
/-- a store into the words told leaves the table alone -/
theorem HasTab.due {w : World} {h₀ h : Heap} {L x l du dx0 : Addr} {od : Obj} {prog : Program} {F : Str → Option Str} {k : Nat} {nx nx' : List (Addr × Obj)} {kvs : List (Str × Str)} (hT : HasTab w nx x l kvs) (N : News h₀ L h nx) (hx : (x, instObj 216 dx0) ∈ nx) (hne : dx0 ≠ du) (hdu : (du, od) ∈ nx) (hod : Due prog w od F k) (hk : Keep [du] nx nx') : HasTab w nx' x l kvs := by
  obtain ⟨ls, ln, hT⟩ := hT
  obtain ⟨dx, tk, dn, c, b⟩ := hT.inst
  have e : dx = dx0 := by
    have := news_fun N c hx
    injection this with e1 e2
    injection e2 with e3
  subst e
  have one := fun {p : Addr × Obj} (hp : p ∈ nx) (h : p.1 ≠ du) => hk p hp (List.forall_mem_singleton.mpr h)
  refine ⟨ls, ln, ⟨dx, tk, dn, one c (news_ne N c hdu (hod.ne (by intro _ _ e; cases e))), one b hne⟩, one hT.list (news_ne N hT.list hdu (hod.ne (by intro _ _ e; cases e))), ?_⟩
  have := hT.pairs
  clear hT c b
  induction this with
  | nil => exact .nil
  | cons hm _ ih => exact .cons (one hm (news_ne N hm hdu (hod.ne (by intro _ _ e; cases e)))) ih
theorem wd_mark {f o : Nat} {s : St} (ho : o ∈ s.row) (x : Nat) : (put1 f s o).wd x = (markS f s o).wd x := by
  unfold put1; rw [if_pos ho]; rfl
theorem row_mark {f o : Nat} {s : St} (ho : o ∈ s.row) : (put1 f s o).row = (markS f s o).row.insertIdx (placeOf (markS f s o) ((markS f s o).wd o)) o := by
  unfold put1; rw [if_pos ho]
theorem wordD_at {figs : List Nat} {i c : Nat} (h : (wordD figs).cps[i]? = some c) : ∃ f, figs[i]? = some f ∧ c = 65 + f := by
  unfold wordD at h
  rw [List.getElem?_toArray, List.getElem?_map] at h
  obtain ⟨f, h1, h2⟩ := Option.map_eq_some_iff.mp h
  exact ⟨f, h1, h2.symm⟩
theorem word_add (figs : List Nat) (f : Nat) : wordD figs ++ (⟨#[65 + f]⟩ : Str) = wordD (figs ++ [f]) := by
  show (⟨(figs.map (65 + ·)).toArray ++ #[65 + f]⟩ : Str) = _
  unfold wordD
  rw [List.map_append, ← List.append_toArray]
  rfl
theorem due_room {k i t : Nat} (h : k ≤ 6 + 6 * i + t) (hi : i < 6) (ht : t < 6) : k ≤ 1000 := Nat.le_trans h (Nat.le_trans (Nat.add_le_add (Nat.add_le_add_left (Nat.mul_le_mul_left 6 (Nat.le_of_lt hi)) 6) (Nat.le_of_lt ht)) (by decide))
theorem Marks.nodup {st : St} {kvs : List (Str × Str)} {n : Nat} (O : Ok n st) (h : kvs.Perm (st.row.map fun x => (lowG x, st.wd x))) : (kvs.map (·.1)).Nodup := by
  refine ((h.map (·.1)).nodup_iff).mpr ?_
  rw [List.map_map]
  exact List.pairwise_map.mpr (List.Pairwise.imp (fun hne e => hne (lowG_inj e)) O.nodup)
theorem sorted_uniq {a b : List (Str × Str)} (h : a.Perm b) (ha : a.Pairwise fun a b => strLt a.1 b.1 = true) (hb : b.Pairwise fun a b => strLt a.1 b.1 = true) : a = b :=
  List.Perm.eq_of_pairwise (le := fun a b => strLt a.1 b.1 = true) (fun x y _ _ h1 h2 => by
    have := strLt_tr h1 h2
    rw [strLt_irr] at this
    cases this) ha hb h
theorem due_next {k i t : Nat} (h : k ≤ 6 + 6 * i + t) (ht : t ≤ 6) : k ≤ 6 + 6 * (i + 1) := Nat.le_trans h (by rw [Nat.mul_succ, ← Nat.add_assoc]; exact Nat.add_le_add_left ht _)
noncomputable def tokOf : Value → Tok
  | .int _ t => t
  | _ => 0
theorem ord_of {ys : List Value} {o : Nat → Nat} (h : NatsAre ys ((List.range 6).map o)) : ∃ tk, ys = OrdVal o tk := by
  have hl : ys.length = 6 := by rw [h.length]; simp
  refine ⟨fun i => tokOf (ys.getD i .none), List.ext_getElem (by rw [hl, L6_len]) fun i h1 h2 => ?_⟩
  obtain ⟨t, ht⟩ := h.at_nat (i := i) (f := o i) (by rw [List.getElem?_map, List.getElem?_range (hl ▸ h1)]; rfl) (List.getElem?_eq_getElem h1)
  have e : ys.getD i .none = ys[i] := by simp [List.getD, h1]
  simp only [OrdVal, L6, List.getElem_map, List.getElem_range]
  rw [e, ht]
  rfl
theorem tu_two {tu i n1 : Nat} (h : tu = 6 - i) (h1 : 1 ≤ n1) (h2 : 6 - i = n1 + 1) : 2 ≤ tu := by rw [h, h2]; exact Nat.succ_le_succ h1
theorem i_lt5 {i n1 : Nat} (h1 : 1 ≤ n1) (h2 : 6 - i = n1 + 1) : i < 5 := Nat.lt_of_not_le fun h => Nat.not_succ_le_zero 0 (Nat.le_trans h1 (Nat.le_of_succ_le_succ (show n1 + 1 ≤ 1 by rw [← h2]; exact Nat.sub_le_sub_left h 6)))
theorem i1_7 {i : Nat} (h : i < 6) : i + 1 ≤ 7 := Nat.le_succ_of_le (Nat.succ_le_of_lt h)
theorem size8 {k : Nat} (h : k ≤ 8) : k ≤ sizeLine := by rw [sizeLine_eq]; exact Nat.le_trans h (by decide)
theorem chr_nat {FG : Int} {f : Nat} (h : FG = ((f : Nat) : Int)) : (65 + FG).toNat = 65 + f := by rw [h]; exact Int.toNat_natCast (65 + f)
theorem num_ne {num f : Nat} (h : 1 ≤ f ∧ f ≤ 15) : 16 * num + f ≠ 0 := fun e => Nat.not_succ_le_zero 0 (show 1 ≤ 0 by rw [← (Nat.add_eq_zero_iff.mp e).2]; exact h.1)
theorem num_lt {figs : List Nat} {f : Nat} (h : ∀ f ∈ figs, 1 ≤ f ∧ f ≤ 15) (hl : figs.length ≤ 7) (hf : 1 ≤ f ∧ f ≤ 15) : 16 * wholeF 0 figs + f < 16 ^ 16 := by
  have h1 := whole_lt figs 0 0 (by decide) fun x hx => Nat.lt_succ_of_le (h x hx).2
  have h2 : 16 ^ (0 + figs.length) ≤ 16 ^ 7 := Nat.pow_le_pow_right (by decide) (by rw [Nat.zero_add]; exact hl)
  exact Nat.lt_of_lt_of_le (Nat.add_lt_add_left (Nat.lt_succ_of_le hf.2) _) (Nat.le_trans (Nat.mul_le_mul_left 16 (Nat.le_trans h1 h2)) (by decide))
theorem wordD_size (figs : List Nat) : (wordD figs).cps.size = figs.length := by unfold wordD; simp
theorem wordD_ascii {figs : List Nat} (h : ∀ f ∈ figs, 1 ≤ f ∧ f ≤ 15) : (wordD figs).cps.all (· < 128) = true := by
  rw [Array.all_eq_true_iff_forall_mem]
  intro c hc
  obtain ⟨f, hf, rfl⟩ := List.mem_map.mp (Array.mem_toList_iff.mpr hc)
  exact decide_eq_true (Nat.lt_of_le_of_lt (Nat.add_le_add_left (h f hf).2 65) (by decide))
theorem whole_step {figs : List Nat} {i f : Nat} (h : figs[i]? = some f) : wholeF 0 (figs.take (i + 1)) = 16 * wholeF 0 (figs.take i) + f := by
  rw [List.take_add_one, h]; exact whole_snoc _ _ _
theorem whole_int {figs : List Nat} {i f : Nat} (h : figs[i]? = some f) : 16 * ((wholeF 0 (figs.take i) : Nat) : Int) + ((65 + f : Nat) : Int) - 65 = ((wholeF 0 (figs.take (i + 1)) : Nat) : Int) := by
  rw [whole_step h]
  show (16 * ((wholeF 0 (figs.take i) : Nat) : Int) + ((65 : Int) + ((f : Nat) : Int))) - 65 = _
  rw [Int.add_left_comm, Int.add_comm, Int.add_sub_cancel]; rfl
theorem idx_of {o : Nat} : ∀ {l : List Nat}, o ∈ l → ∃ j, l[j]? = some o ∧ (∀ i y, i < j → l[i]? = some y → y ≠ o) ∧ l.eraseIdx j = l.erase o
  | a :: l, h => by
    by_cases e : a = o
    · subst e
      exact ⟨0, rfl, fun i y hi => absurd hi (Nat.not_lt_zero _), by rw [List.erase_cons_head]; rfl⟩
    · obtain ⟨j, h1, h2, h3⟩ := idx_of ((List.mem_cons.mp h).resolve_left (Ne.symm e))
      refine ⟨j + 1, h1, fun i y hi hy => ?_, ?_⟩
      · cases i with
        | zero =>
          have : a = y := Option.some.inj hy
          rw [← this]; exact e
        | succ i => exact h2 i y (Nat.lt_of_succ_lt_succ hi) hy
      · rw [List.erase_cons_tail (by simpa using e), ← h3]; rfl
theorem low_idx {o : Nat} {l : List Nat} (h : o ∈ l) : ∃ j, (l.map lowG)[j]? = some (lowG o) ∧ (∀ i y, i < j → (l.map lowG)[i]? = some y → y ≠ lowG o) ∧ (l.map lowG).eraseIdx j = (l.erase o).map lowG := by
  obtain ⟨j, h1, h2, h3⟩ := idx_of h
  refine ⟨j, by rw [List.getElem?_map, h1]; rfl, fun i y hi hy e => ?_, by rw [← map_cut, h3]⟩
  rw [List.getElem?_map] at hy
  obtain ⟨x, hx, rfl⟩ := Option.map_eq_some_iff.mp hy
  exact h2 i x hi hx (lowG_inj e)
/-- the inner loop's own names -/
structure InW (x1 gn Dn : Addr) (wv mark : Nat) (tm : Tok) (tu : Nat) (FG : Int) (ot : Value) (nu : Nat) (m : Str → Option Value) : Prop where
  base : InV x1 gn Dn wv mark tm tu FG m
  other : m (Str.ofString "other") = some ot
  number : ∃ t, m (Str.ofString "number") = some (.int (nu : Nat) t)
theorem InW.fr {x1 gn Dn : Addr} {wv mark tu nu : Nat} {tm : Tok} {FG : Int} {ot : Value} {m : Str → Option Value} (V : InW x1 gn Dn wv mark tm tu FG ot nu m) : ∃ t0 t1 t2 t4, ∀ {h₀ h : Heap} {L : Addr}, Fr h₀ L h m → Fr h₀ L h (fun y => if y = Str.ofString "number" then some (.int (nu : Nat) t0) else if y = Str.ofString "other" then some ot else if y = Str.ofString "names" then some (.ref Dn) else if y = Str.ofString "figure" then some (.int FG t1) else if y = Str.ofString "turn" then some (.int (tu : Nat) t2) else if y = Str.ofString "mark" then some (.int (mark : Nat) tm) else if y = Str.ofString "way" then some (.int (wv : Nat) t4) else if y = Str.ofString "gone" then some (.ref gn) else if y = Str.ofString "sights" then some (.ref x1) else m y) := by
  obtain ⟨t0, h0⟩ := V.number
  obtain ⟨t1, h1⟩ := V.base.figure
  obtain ⟨t2, h2⟩ := V.base.turn
  obtain ⟨t4, h4⟩ := V.base.way
  refine ⟨t0, t1, t2, t4, fun F => frPuts [(Str.ofString "number", .int (nu : Nat) t0), (Str.ofString "other", ot), (Str.ofString "names", .ref Dn), (Str.ofString "figure", .int FG t1), (Str.ofString "turn", .int (tu : Nat) t2), (Str.ofString "mark", .int (mark : Nat) tm), (Str.ofString "way", .int (wv : Nat) t4), (Str.ofString "gone", .ref gn), (Str.ofString "sights", .ref x1)] F ?_⟩
  exact List.forall_mem_cons.mpr ⟨h0, List.forall_mem_cons.mpr ⟨V.other, List.forall_mem_cons.mpr ⟨V.base.names, List.forall_mem_cons.mpr ⟨h1, List.forall_mem_cons.mpr ⟨h2, List.forall_mem_cons.mpr ⟨V.base.mark, List.forall_mem_cons.mpr ⟨h4, List.forall_mem_cons.mpr ⟨V.base.gone, List.forall_mem_singleton.mpr V.base.sights⟩⟩⟩⟩⟩⟩⟩⟩
/-- an iterator goes out of the ledger -/
theorem Lams.drop {ps : Array Value} {h₀ h : Heap} {L I : Addr} {io : Obj} {nx : List (Addr × Obj)} (H : Lams (fun _ => True) ps nx) (N : News h₀ L h nx) (hI : (I, io) ∈ nx) (hio : ∀ vs q t, io.data = .fields vs → vs[1]? = some (.str q t) → False) : Lams (fun _ => True) ps (off [I] nx) := by
  refine ⟨H.ok, fun q hq => ?_⟩
  rcases H.made q hq with h | ⟨c2, oc2, vs2, t2, h1, h2, h3, h4, h5⟩
  · exact .inl h
  · exact .inr ⟨c2, oc2, vs2, t2, h1, off_one h2 (news_ne N h2 hI fun e => hio _ _ _ (e ▸ h3) h4), h3, h4, trivial⟩
end
section
open PySem PySem.W PySem.Calls PyProof.Rows Mine
set_option maxRecDepth 100000
set_option maxHeartbeats 8000000
theorem reset15 : True := by
  w_top off
  k_with_none
  k_with "=k_all" => first | assumption | exact allLt_ne (by assumption) (by omega) | exact allLt_ne (And.right (by assumption)) (by omega) | exact allLt_ne (And.right (And.right (by assumption))) (by omega) | exact allLt_ne (And.right (And.right (And.right (by assumption)))) (by omega)
  k_with "=size_fits" => ((try simp only [List.size_toArray, sizeLine_eq]); omega)
  k_with "=ktr_room" => first | exact room1 (by assumption) (by decide) | exact room0 (by assumption) | exact room4 (by assumption) | exact room8 (by assumption) | exact room48 (by assumption) | fail "room"
  k_with "=ktr_units" => first | exact units1 (by assumption) (by decide) | exact units1 (k := 8) (by assumption) (by decide) | exact units4 (by assumption) | exact units8 (by assumption) | exact units48 (by assumption) | fail "units"
  k_with "=k_in" => first | k_in_fast | assumption | exact Frag.In.keeps (by k_asm) (Fr.keep (by k_asm))
  k_with "=call builtin:str.lower" => (k_here; refine lower_K (by first | assumption | exact Clean.low (by assumption)) ?_; intro _ _)
  k_with "=c1" => ((case k1 => k_asm); (case k2 => k_asm); (case k3 => k_asm); (case k4 => k_asm); (case k5 => k_asm); (case k6 => ktr_room); (case k7 => ktr_units))
  k_with "=subscriptTail Name Slice ref ref" => (k_here; (with_reducible show wpAny _ _ (subscriptTail _ (PySem.Expr.Slice _ _ none _) (Value.ref _) (Value.ref _)) _ _ _); k_dflt (refine' kms_slice_lit (by k_asm) (by k_asm) (by kmk_list) (by kmk_part) (by kmk_part) (by exact rfl) ?_ (by with_unfolding_all rfl) (by kmk_pure) (by kmk_size)); intro kxD kxH kxF kxN kxl; (try k_lt kxl); (try simp only [List.toList_toArray, pick_all, pick_init, pick_lit] at kxN))
  k_with "=call builtin:len" => (k_here; (refine' len_at (by k_asm) (by k_mem) (by omega) ?_); intro _ _)
  k_with "=callWith ref" => (k_here; k_dflt (refine' callWith_F (by exact FnAt.of (by k_asm) (by k_mem)) ?_; k_whole))
  k_with "=callWith ref" => (k_here; (with_reducible show wpAny _ _ (callWith _ (Value.ref (OfNat.ofNat _)) _ (backTo _ (starEach (_ :: _) _)) (backToKw _ _)) _ _ _); k_dflt (refine' callWith_KW (by k_asm) (by k_is) (by exact rfl) ?_; k_whole))
  k_with "=callWith ref" => (k_here; (with_reducible show wpAny _ _ (callWith _ (Value.ref (OfNat.ofNat _)) _ (backTo _ (starEach (_ :: _) _)) []) _ _ _); k_dflt (refine' callWith_K (by k_asm) (by k_is) ?_; k_whole))
  k_with "=call ref" => (k_here; (with_reducible show wpAny _ _ (call (Value.ref 117) _ _) _ _ _); k_dflt (refine' C1.use (conv _ _ _ _ _ (by first | assumption | exact Clean.low (by assumption)) _) (by k_asm) (by k_asm) (by k_asm) (by k_asm) (by k_asm) (by ktr_room) (by ktr_units) ?_; intro kxr kxnews kxH kxT kxF kxN kxP; obtain ⟨kxe1, kxe2⟩ := kxP; subst kxe1; subst kxe2; (try dsimp only)))
  k_with "=subscriptTail Name Name ref int" => (k_here; (with_reducible rename News _ _ _ _ => kN); refine at6 kN (by k_mem) (by first | assumption | exact IsOrd.lt (by assumption) _ (by assumption) | omega | exact IsOrd.lt (by assumption) _ (by omega)) ?_)
  k_with "=subscriptTail Name Subscript ref int" => (k_here; (with_reducible rename News _ _ _ _ => kN); refine at6 kN (by k_mem) (by first | assumption | exact IsOrd.lt (by assumption) _ (by assumption) | omega | exact IsOrd.lt (by assumption) _ (by omega)) ?_)
  k_with "=subscriptTail Subscript Name Subscript Subscript ref int" => (k_here; k_dflt (refine kba_turn (value' := PySem.Expr.Name (PySem.Str.ofString "_") ⟨0, 0, 0, 0⟩) (fun _ => rfl) ?_); (with_reducible rename News _ _ _ _ => kN); (with_reducible rename SeesIn _ _ _ _ _ _ => kS); refine at6 kN (by repeat (first | exact SeesIn.row kS _ (by first | assumption | exact IsOrd.lt (by assumption) _ (by assumption) | omega | exact IsOrd.lt (by assumption) _ (by omega)) | refine List.Mem.tail _ ?_)) (by first | assumption | exact IsOrd.lt (by assumption) _ (by assumption) | omega | exact IsOrd.lt (by assumption) _ (by omega)) ?_)
  k_with "=subscriptTail Subscript Name Name Name ref int" => (k_here; k_dflt (refine kba_turn (value' := PySem.Expr.Name (PySem.Str.ofString "_") ⟨0, 0, 0, 0⟩) (fun _ => rfl) ?_); (with_reducible rename News _ _ _ _ => kN); (with_reducible rename SeesIn _ _ _ _ _ _ => kS); refine at6 kN (by repeat (first | exact SeesIn.row kS _ (by first | assumption | exact IsOrd.lt (by assumption) _ (by assumption) | omega | exact IsOrd.lt (by assumption) _ (by omega)) | refine List.Mem.tail _ ?_)) (by first | assumption | exact IsOrd.lt (by assumption) _ (by assumption) | omega | exact IsOrd.lt (by assumption) _ (by omega)) ?_)
  k_with "=exec For Tuple Call cons nil" => (k_here; (with_reducible rename Fr _ _ _ _ => lF'); with_unfolding_all refine For_myF lF' ?_)
  k_with "=exec For Name Name cons nil" => (k_here; (with_reducible rename Fr _ _ _ _ => lF'); with_unfolding_all refine For_myF lF' ?_)
  k_with "=exec For Name Call cons nil" => (k_here; (with_reducible rename Fr _ _ _ _ => lF'); with_unfolding_all refine For_myF lF' ?_)
  k_with "=pyIter ref" => refine Hold.out ?_
  k_with "=call ref" => refine Hold.out ?_
  k_with "=storeName" => (k_here; (first | (with_reducible show wpAny _ _ (storeName _ (Str.ofString "name") _) _ _ _) | (with_reducible show wpAny _ _ (storeName _ (Str.ofString "row") _) _ _ _) | (with_reducible show wpAny _ _ (storeName _ (Str.ofString "told") _) _ _ _) | (with_reducible show wpAny _ _ (storeName _ (Str.ofString "due") _) _ _ _) | (with_reducible show wpAny _ _ (storeName _ (Str.ofString "marks") _) _ _ _)); refine Hold.out ?_)
  k_with "=eval ListComp" => (k_here; refine Hold.out ?_)
  k_with "=exec Assign cons ListComp" => (k_here; refine Hold.out ?_)
  k_with "=subscriptTail Name BinOp ref int" => refine Hold.out ?_
  k_with "=binaryOp Add ref ref" => refine Hold.out ?_
  k_with "=subscriptTail BinOp" => refine Hold.out ?_
  k_with "=compareOp NotIn str ref" => refine Hold.out ?_
  k_with "=binaryOp Pow int int" => (k_here; (with_reducible show wpAny _ _ (binaryOp _ _ (Value.int (_ - _) _)) _ _ _); refine Hold.out ?_)
  k_with "=binaryOp FloorDiv int int" => (k_here; (with_reducible show wpAny _ _ (binaryOp _ _ (Value.int (_ ^ _) _)) _ _ _); refine Hold.out ?_)
  k_with "=Mine.SrcStep" => refine Hold.out ?_
  k_with "=SrcStep" => refine Hold.out ?_
  k_with "=CompSrcT" => refine Hold.out ?_
  k_with "=CompSrc" => refine Hold.out ?_
  k_with "=call builtin:bytes.decode" => refine Hold.out ?_
  k_with "=setItem ref str str" => refine Hold.out ?_
  k_with "=setItem ref str" => refine Hold.out ?_
  k_with "=neAll" => ((repeat' (refine List.forall_mem_cons.mpr ⟨?_, ?_⟩)) <;> first | exact List.forall_mem_nil _ | assumption | exact Ne.symm (by assumption) | (show @Ne Nat _ _; omega))
  k_with "=eval Lambda" => (k_here; kn_here; k_dflt (refine' kla_eval (by exact rfl) ?_); (refine Hold.out ?_))
  k_with "=subscriptTail Name Constant ref int" => refine Hold.out ?_
  k_with "=subscriptTail Name Slice ref ref" => refine Hold.out ?_
  k_with "=subscriptTail Name Name ref str" => refine Hold.out ?_
  k_with "=subscriptTail Name Subscript ref str" => refine Hold.out ?_
  k_with "=compareOp NotEq" => (k_here; (fail_if_success (with_reducible show wpAny _ _ (compareOp _ (Value.int _ _) _) _ _ _)); refine Hold.out ?_)
  k_with "=compareOp NotEq ref ref" => refine Hold.out ?_
  k_with "=delItem ref" => (k_here; k_dflt (refine' delItem_inst (by k_asm) (by k_asm) (by k_inst) (by k_is) (by k_is) (by k_is) ?_))
  k_with "=call builtin:str.upper" => (k_here; refine upper_low (by assumption) ?_; intro _ _)
  k_with "=call builtin:list.append" => refine Hold.out ?_
  k_with "=call builtin:list.pop" => refine Hold.out ?_
  k_with "=call builtin:len" => refine Hold.out ?_
  k_with "=subscriptTail Name UnaryOp ref int" => refine Hold.out ?_
  k_with "=pyIter str" => refine Hold.out ?_
  k_with "=call builtin:list.remove" => refine Hold.out ?_
  k_with "=call builtin:sorted" => refine Hold.out ?_
  k_with "=binaryOp Add str str" => refine Hold.out ?_
  trivial
theorem lwalk (W : World) (sl : Addr) (qs : Nat → Addr) (ks : Nat → Nat) (n : Nat) (g : Nat → Nat → Bool) (way mark : Nat) (tw tm : Tok) (rest : List (Addr × Obj)) (hS : SeesIn rest sl qs ks n g) :
    C1 W (.ref 235) [.ref sl, .int (way : Nat) tw, .int (mark : Nat) tm] [] 80 ((232, tabObj #[]) :: rest) (fun nx' r => SeesIn nx' sl qs ks n g ∧ ∃ ps, (232, tabObj ps) ∈ nx' ∧ ∃ ol on tk, (ol, listOf (OrdVal (pk g way mark) tk).toArray on) ∈ nx' ∧ r = .ref ol) := by
  unfold C1
  k_fill
  intro p loose mean mg mb dp un gd cn nm' ig ic mr a ccd cl outer A₀ base h₀ L m s Q E B F X N T hd hu ret
  have hlc : CleanT (laidP g) := ⟨laidP_len g, fun kv hk => (laidP_clean g kv hk).1⟩
  refine wpAny_call ?_
  k_dflt k_enter
  have cdB := cd234 (by assumption)
  k_steps
  unfold Hold
  (with_reducible rename _ ∧ AllLt _ rest => l1n)
  rename_i o6 o5 o4 o3 o2 o1 c6 c5 c4 c3 c2 c1 la h1 F1 N1 hl1
  obtain ⟨L1, hL1⟩ := newsL N1
  subst hL1
  have d1 : o1.data = .cell (some (.ref sl)) := c1
  have d2 : o2.data = .cell none := c2
  have d3 : o3.data = .cell none := c3
  have d4 : o4.data = .cell none := c4
  have d5 : o5.data = .cell none := c5
  have d6 : o6.data = .cell none := c6
  clear c1 c2 c3 c4 c5 c6
  obtain ⟨B0, hB0⟩ := newsName N1
  have mla : (la, listOf #[] 0) ∈ B0 := hB0 ▸ .head _
  have m6 : (L1 + 1 + 1 + 1 + 1 + 1 + 1, o6) ∈ B0 := hB0 ▸ .tail _ (.head _)
  have m5 : (L1 + 1 + 1 + 1 + 1 + 1, o5) ∈ B0 := hB0 ▸ .tail _ (.tail _ (.head _))
  have m4 : (L1 + 1 + 1 + 1 + 1, o4) ∈ B0 := hB0 ▸ .tail _ (.tail _ (.tail _ (.head _)))
  have m3 : (L1 + 1 + 1 + 1, o3) ∈ B0 := hB0 ▸ .tail _ (.tail _ (.tail _ (.tail _ (.head _))))
  have m2 : (L1 + 1 + 1, o2) ∈ B0 := hB0 ▸ .tail _ (.tail _ (.tail _ (.tail _ (.tail _ (.head _)))))
  have m1 : (L1 + 1, o1) ∈ B0 := hB0 ▸ .tail _ (.tail _ (.tail _ (.tail _ (.tail _ (.tail _ (.head _))))))
  have mt : (232, tabObj #[]) ∈ B0 := hB0 ▸ .tail _ (.tail _ (.tail _ (.tail _ (.tail _ (.tail _ (.tail _ (.head _)))))))
  have mS : SeesIn B0 sl qs ks n g := hS.mono fun p hp => hB0 ▸ .tail _ (.tail _ (.tail _ (.tail _ (.tail _ (.tail _ (.tail _ (.tail _ hp)))))))
  rw [hB0] at N1
  clear hB0 hl1
  have h232 : 232 < L1 := l1n.1
  k_dflt (refine C1.use (hinitV W la [] 0 [] ⟨Nat.zero_le _, nofun⟩ B0 mla .nil) (by k_asm) (by k_asm) (by k_asm) (by k_asm) (by k_asm) (by ktr_room) (by ktr_units) ?_)
  rintro r9 B1 h' tk' F' N' ⟨x1, hT1, hs1, rfl⟩
  replace m6 := hs1 _ m6
  replace m5 := hs1 _ m5
  replace m4 := hs1 _ m4
  replace m3 := hs1 _ m3
  replace m2 := hs1 _ m2
  replace m1 := hs1 _ m1
  replace mt := hs1 _ mt
  replace mS := mS.mono hs1
  have mla1 := hs1 _ mla
  clear hs1 F1 N1 mla
  refine tgen fun tk9 => ?_
  k_steps
  unfold Hold
  (rename News _ _ _ _ => N1)
  k_dflt (refine C1.use (llaid W sl qs ks n g B1 mS) (by k_asm) (by k_asm) (by k_asm) (by k_asm) (by k_asm) (by ktr_room) (by ktr_units) ?_)
  rintro r9 B2 h' tk' F' N' ⟨hs2, lq, vs0, n0, hlq, hP0, rfl⟩
  replace hT1 := hT1.mono hs2
  replace m6 := hs2 _ m6
  replace m5 := hs2 _ m5
  replace m4 := hs2 _ m4
  replace m3 := hs2 _ m3
  replace m2 := hs2 _ m2
  replace m1 := hs2 _ m1
  replace mt := hs2 _ mt
  replace mS := mS.mono hs2
  clear hs2 N1 mla1
  refine tgen fun tk9 => ?_
  k_steps
  unfold Hold
  (rename Fr _ _ _ _ => F9); (rename News _ _ _ _ => N9)
  obtain ⟨ls0, ln0, hT0⟩ := hT1
  have hls0 : ls0 = [] := List.length_eq_zero_iff.mp hT0.pairs.length
  subst hls0
  have hlaB := hT0.list
  have hne0 : ∀ q vs k, (q, listOf (List.toArray vs) k) ∈ B2 → vs.length ≠ 0 → q ≠ la := fun q vs k h hz => news_ne N9 h hlaB (list_ne hz)
  have hnc : ∀ q vs k, (q, listOf (List.toArray vs) k) ∈ B2 → q ≠ L1 + 1 + 1 := fun q vs k h => news_ne N9 h m2 (cell_ne_list' d2 _ _)
  have hvl : vs0.length ≠ 0 := by rw [hP0.length]; exact Nat.succ_ne_zero _
  obtain ⟨b0, hb0⟩ : ∃ b0, b0 = off [la, L1 + 1 + 1] B2 := ⟨_, rfl⟩
  have hb0a : ∀ p ∈ b0, p.1 ≠ la := hb0 ▸ off_ne (.head _)
  have hb0c : ∀ p ∈ b0, p.1 ≠ L1 + 1 + 1 := hb0 ▸ off_ne (.tail _ (.head _))
  have hla2 : la ≠ L1 + 1 + 1 := hnc _ _ _ hlaB
  have bq : (lq, listOf vs0.toArray n0) ∈ b0 := hb0 ▸ off_two hlq (hne0 _ _ _ hlq hvl) (hnc _ _ _ hlq)
  obtain ⟨dx1, tkx1, dnx1, hx1, hdx1⟩ := hT0.inst
  have bx : (x1, instObj 216 dx1) ∈ b0 := hb0 ▸ off_two hx1 (news_ne N9 hx1 hlaB (by simp)) (news_ne N9 hx1 m2 (by rintro rfl; cases d2))
  have bdx : (dx1, dictOf [hdEntry W tkx1 la] dnx1) ∈ b0 := hb0 ▸ off_two hdx1 (news_ne N9 hdx1 hlaB (by simp)) (news_ne N9 hdx1 m2 (by rintro rfl; cases d2))
  clear hx1 hdx1
  have bP : PairsIn b0 vs0 (laidP g) := hb0 ▸ hP0.off fun q k v t u hq => List.forall_mem_cons.mpr ⟨news_ne N9 hq hlaB (by simp), List.forall_mem_singleton.mpr (news_ne N9 hq m2 (cell_ne_tup d2 _))⟩
  have bS : SeesIn b0 sl qs ks n g := ⟨hb0 ▸ off_two mS.list (hne0 _ _ _ mS.list (by rw [L6_len]; decide)) (hnc _ _ _ mS.list), fun i hi => hb0 ▸ off_two (mS.row i hi) (hne0 _ _ _ (mS.row i hi) (by rw [L6_len]; decide)) (hnc _ _ _ (mS.row i hi))⟩
  have b6 : (L1 + 1 + 1 + 1 + 1 + 1 + 1, o6) ∈ b0 := hb0 ▸ off_two m6 (news_ne N9 m6 hlaB (cell_ne_list d6 _ _)) (neA (a := L1) 6 2 (by decide))
  have b5 : (L1 + 1 + 1 + 1 + 1 + 1, o5) ∈ b0 := hb0 ▸ off_two m5 (news_ne N9 m5 hlaB (cell_ne_list d5 _ _)) (neA (a := L1) 5 2 (by decide))
  have b4 : (L1 + 1 + 1 + 1 + 1, o4) ∈ b0 := hb0 ▸ off_two m4 (news_ne N9 m4 hlaB (cell_ne_list d4 _ _)) (neA (a := L1) 4 2 (by decide))
  have b3 : (L1 + 1 + 1 + 1, o3) ∈ b0 := hb0 ▸ off_two m3 (news_ne N9 m3 hlaB (cell_ne_list d3 _ _)) (neA (a := L1) 3 2 (by decide))
  have b1 : (L1 + 1, o1) ∈ b0 := hb0 ▸ off_two m1 (news_ne N9 m1 hlaB (cell_ne_list d1 _ _)) (neA (a := L1) 1 2 (by decide))
  have bt : (232, tabObj #[]) ∈ b0 := hb0 ▸ off_two mt (news_ne N9 mt hlaB fun e => tab_ne_list _ _ _ e.symm) (Nat.ne_of_lt (Nat.lt_of_lt_of_le h232 (Nat.le_add_right L1 2)))
  refine Iter_list_my2 (k := n0) (vs := vs0) (fun i m₁ nx' => m₁ (Str.ofString "sights") = some (.ref x1) ∧ m₁ (Str.ofString "way") = some (.int ((way : Nat) : Int) tw) ∧ m₁ (Str.ofString "mark") = some (.int ((mark : Nat) : Int) tm) ∧ (∃ v2 y, (L1 + 1 + 1, v2) ∈ nx' ∧ v2.data = .cell y) ∧ HasTab W nx' x1 la ((laidP g).take i) ∧ ∀ p ∈ b0, p ∈ nx') rfl F9 N9 ?_ ?_ ?_ ?_
  · rintro i m nx ⟨-, -, -, -, -, hb⟩; exact hb _ bq
  · exact ⟨rfl, rfl, rfl, ⟨o2, _, m2, d2⟩, ⟨_, _, hT0⟩, fun p hp => off_sub _ (hb0 ▸ hp)⟩
  · rintro I i v m₁ nx' h9 tk9 io hio hv ⟨hm1, hm2, hm3, ⟨v2, y2, hv2, dv2⟩, hT, hb⟩ hI F' N'
    clear F9 N9
    have hTo : HasTab W (off [L1 + 1 + 1] nx') x1 la ((laidP g).take i) := hT.apart (fun p hp => N' p (.tail _ hp)) hv2 (Odd.cell dv2) hla2 (Keep.one fun p hp hn => off_one hp hn)
    have hIl : la ≠ I := hI (la, _) (hT.choose_spec.choose_spec.list)
    refine qgen fun Qa hQa => ?_
    replace F' := frPut3 F' hm1 hm2 hm3
    obtain ⟨q, k, v, t1, u1, rfl, hkv, hq⟩ := bP.at hv
    replace N' := newsOut2 N' hv2
    have hq2 := off_one (hb _ hq) (hb0c _ hq)
    have hx2 := off_one (hb _ bx) (hb0c _ bx)
    have hdx2 := off_one (hb _ bdx) (hb0c _ bdx)
    k_steps
    unfold Hold
    (rename Fr _ _ _ _ => F4); (rename News _ _ _ _ => N4)
    k_dflt (refine storeX_C F4 N4 (c := L1 + 1 + 1) (v₀ := y2) (by rfl) (UpdF.tail (hI _ hv2).symm (UpdF.head (off_ne (.head _)))) dv2 ?_)
    intro h5 o2' F5 N5 d2'
    clear F4 N4
    k_steps
    unfold Hold
    (rename News _ _ _ _ => N4)
    have hkv' := hlc.2 _ (List.mem_of_getElem? hkv)
    have hT4 : HasTab W ((I, io) :: (L1 + 1 + 1, o2') :: off [L1 + 1 + 1] nx') x1 la ((laidP g).take i) := hTo.mono fun p hp => .tail _ (.tail _ hp)
    k_dflt (refine C1.use (haddV W x1 la ((laidP g).take i) k v t1 u1 _ hkv'.1 hkv'.2 (laidP_clean g _ (List.mem_of_getElem? hkv)).2 (clean_take hlc i) hT4) (by k_asm) (by k_asm) (by k_asm) (by k_asm) (by k_asm) (by ktr_room) (by ktr_units) ?_)
    rintro r9 B3 h' tk' F' N' ⟨hT5, hk5, rfl⟩
    refine tgen fun tk9 => ?_
    k_steps
    have e1 : (laidP g).take (i + 1) = (laidP g).take i ++ [(k, v)] := by rw [List.take_add_one, hkv]; rfl
    (rename News _ _ _ _ => N6)
    refine hQa _ _ (ForStep.next (by k_asm) N6 (news₂ := off [I] B3) (List.forall_mem_cons.mpr ⟨hk5.to (.head _) hIl.symm, off_sub⟩) (off_ne (.head _)) ⟨rfl, rfl, rfl, ⟨o2', _, off_one (hk5.to (.tail _ (.head _)) hla2.symm) (show @Ne Nat (L1 + 1 + 1) I from hI _ hv2), d2'⟩, ?_, fun p hp => ?_⟩)
    · rw [e1]
      exact hT5.apart N6 (hk5.to (.head _) hIl.symm) (Odd.iter hio) hIl (Keep.one fun p hp hn => off_one hp hn)
    · exact off_one (hk5.to (.tail _ (.tail _ (off_one (hb _ hp) (hb0c _ hp)))) (hb0a _ hp)) (hI _ (hb _ hp))
  · rintro m₁ nx' h9 tk9 ⟨hm1, hm2, hm3, ⟨v2, y2, hv2, dv2⟩, hT, hb⟩ F' N'
    clear F9 N9
    replace F' := frPut3 F' hm1 hm2 hm3
    rw [hP0.length, List.take_length] at hT
    replace N' : News _ L1 h9 nx' := N'
    have hB : Base W nx' sl qs ks n g x1 la (L1 + 1) o1 := ⟨bS.mono hb, hT, hb _ b1⟩
    replace b6 := hb _ b6
    replace b5 := hb _ b5
    replace b4 := hb _ b4
    replace b3 := hb _ b3
    replace bt := hb _ bt
    clear bS b1 bP bq bdx bx hb hb0a hb0c hb0 hnc hne0 hlaB hT0 hT hm1 hm2 hm3 m1 m2 m3 m4 m5 m6 mt mS hvl hlq hP0
    have cellO : ∀ {o : Obj} {x : Option Value}, o.data = .cell x → Odd o ∧ ∀ vs k, listOf (List.toArray vs) k ≠ o := fun h => ⟨Odd.cell h, fun vs k => cell_ne_list' h vs k⟩
    have hBo := hB.offs (S := [L1 + 1 + 1, L1 + 1 + 1 + 1, L1 + 1 + 1 + 1 + 1, L1 + 1 + 1 + 1 + 1 + 1, L1 + 1 + 1 + 1 + 1 + 1 + 1, 232]) N' (List.forall_mem_cons.mpr ⟨⟨_, hv2, (cellO dv2).1, (cellO dv2).2, neA (a := L1) 1 2 (by decide)⟩, List.forall_mem_cons.mpr ⟨⟨_, b3, (cellO d3).1, (cellO d3).2, neA (a := L1) 1 3 (by decide)⟩, List.forall_mem_cons.mpr ⟨⟨_, b4, (cellO d4).1, (cellO d4).2, neA (a := L1) 1 4 (by decide)⟩, List.forall_mem_cons.mpr ⟨⟨_, b5, (cellO d5).1, (cellO d5).2, neA (a := L1) 1 5 (by decide)⟩, List.forall_mem_cons.mpr ⟨⟨_, b6, (cellO d6).1, (cellO d6).2, neA (a := L1) 1 6 (by decide)⟩, List.forall_mem_singleton.mpr ⟨_, bt, ?odd, ?nl, ?ne⟩⟩⟩⟩⟩⟩)
    case odd => exact Odd.tab _
    case nl => exact fun vs k => tab_ne_list _ vs k
    case ne => exact Nat.ne_of_gt (Nat.lt_succ_of_lt h232)
    obtain ⟨b, hbe⟩ : ∃ b, b = off [L1 + 1 + 1, L1 + 1 + 1 + 1, L1 + 1 + 1 + 1 + 1, L1 + 1 + 1 + 1 + 1 + 1, L1 + 1 + 1 + 1 + 1 + 1 + 1, 232] nx' := ⟨_, rfl⟩
    rw [← hbe] at hBo
    have n2 : ∀ p ∈ b, p.1 ≠ L1 + 1 + 1 := hbe ▸ off_ne (.head _)
    have n3 : ∀ p ∈ b, p.1 ≠ L1 + 1 + 1 + 1 := hbe ▸ off_ne (.tail _ (.head _))
    have n4 : ∀ p ∈ b, p.1 ≠ L1 + 1 + 1 + 1 + 1 := hbe ▸ off_ne (.tail _ (.tail _ (.head _)))
    have n5 : ∀ p ∈ b, p.1 ≠ L1 + 1 + 1 + 1 + 1 + 1 := hbe ▸ off_ne (.tail _ (.tail _ (.tail _ (.head _))))
    have n6 : ∀ p ∈ b, p.1 ≠ L1 + 1 + 1 + 1 + 1 + 1 + 1 := hbe ▸ off_ne (.tail _ (.tail _ (.tail _ (.tail _ (.head _)))))
    have nt : ∀ p ∈ b, p.1 ≠ 232 := hbe ▸ off_ne (.tail _ (.tail _ (.tail _ (.tail _ (.tail _ (.head _))))))
    have hbn : ∀ p ∈ b, p ∈ nx' := fun p hp => off_sub _ (hbe ▸ hp)
    clear hbe hB cellO
    dsimp only
    k_steps
    unfold Hold
    rename_i rw h2 F2 N2 hlt2
    replace N2 : News _ L1 h2 _ := newsOut2 N2 b3
    k_dflt (refine storeX_C F2 N2 (c := L1 + 1 + 1 + 1) (v₀ := none) (by rfl) (UpdF.tail (Nat.ne_of_gt (hlt2 _ b3)) (UpdF.head (off_ne (.head _)))) d3 ?_)
    intro h3 o3' F3 N3 d3'
    clear F2 N2
    refine tgen fun tk9 => ?_
    k_steps
    unfold Hold
    (rename Fr _ _ _ _ => F2); (rename News _ _ _ _ => N2)
    obtain ⟨rv, hrv, hrs⟩ : ∃ rv : List Value, listOf rv.toArray 0 = listOf [Value.str (Str.ofString "f") _, Value.str (Str.ofString "e") _, Value.str (Str.ofString "d") _, Value.str (Str.ofString "c") _, Value.str (Str.ofString "b") _, Value.str (Str.ofString "a") _].toArray 0 ∧ StrsAre rv ([5, 4, 3, 2, 1, 0].map lowG) := ⟨_, rfl, .cons _ _ (.cons _ _ (.cons _ _ (.cons _ _ (.cons _ _ (.cons _ _ .nil)))))⟩
    rw [← hrv] at N2
    clear hrv
    obtain ⟨K1, hK1⟩ := newsName N2
    have crw : (rw, listOf rv.toArray 0) ∈ K1 := hK1 ▸ .head _
    k_dflt (refine LCg.ListComp_U F2 (by with_unfolding_all rfl) (by decide) (by rfl) (by decide) (by rfl) ?_)
    k_steps
    unfold Hold
    have h0v : ∀ i v, rv.toArray[i]? = some v → ∃ k t, ([5, 4, 3, 2, 1, 0] : List Nat)[i]? = some k ∧ v = Value.str (lowG k) t := fun i v hv => by
      obtain ⟨y, t, e1, e2⟩ := hrs.item i v (by rw [← List.getElem?_toArray]; exact hv)
      rw [List.getElem?_map] at e2
      obtain ⟨k, e3, e4⟩ := Option.map_eq_some_iff.mp e2
      exact ⟨k, t, e3, by rw [e1, ← e4]⟩
    have hrl : rv.length = 6 := hrs.length
    refine LCg.CompSrc.ledger (by rfl) F2 N2 (.head _) (by simp [hrl, sizeLine_eq]) ?_
    intro g'
    refine compU_inv (n := rv.toArray.size) (fun i ys nx => (∀ p ∈ K1, p ∈ nx) ∧ PairsIn nx ys ((([5, 4, 3, 2, 1, 0] : List Nat).take i).map fun k => (lowG k, PySem.Str.empty))) ?_ ?_ _ _ _ _ (Nat.zero_add _) ⟨fun p hp => hK1 ▸ hp, .nil⟩
    · rintro i v ys nx I oI C oC D m₂ h8 tk8 E' hi hv ⟨hsub, hys⟩ hC hx F' N' off ne
      obtain ⟨k, t9, hk, rfl⟩ := h0v i v hv
      refine cgen fun Qc hQc => ?_
      clear F2 N2
      k_steps
      unfold Hold
      k_dflt (refine C1.use (int2ap W 0 _ (by decide) _) (by k_asm) (by k_asm) (by k_asm) (by k_asm) (by k_asm) (by ktr_room) (by ktr_units) ?_)
      rintro r9 B5 h' tk' F' N' ⟨rfl, tb, rfl⟩
      rw [show (apB (Int.natAbs 0)) = List.toArray [] from rfl]
      k_steps
      unfold Hold
      refine decode_nil fun td kd => ?_
      k_steps
      rename_i T h7 F7 N7 l7
      obtain ⟨t1, t2, t3, t4⟩ := l7
      rename_i neT
      obtain ⟨ne1, ne2, ne3⟩ := ne
      refine hQc _ _ (LCg.CompEnd.intro F7 N7 ((T, tupOf [.str (lowG k) _, .str PySem.Str.empty _]) :: nx) (List.forall_mem_cons.mpr ⟨.tail _ (.head _), List.forall_mem_cons.mpr ⟨.tail _ (.tail _ (.head _)), List.forall_mem_cons.mpr ⟨.tail _ (.tail _ (.tail _ (.head _))), List.forall_mem_cons.mpr ⟨.head _, fun p hp => .tail _ (.tail _ (.tail _ (.tail _ hp)))⟩⟩⟩⟩) ⟨⟨Nat.ne_of_gt t1, Nat.ne_of_gt t2, Nat.ne_of_gt t3⟩, off⟩ (.inr ⟨_, .tail _ (hsub _ crw), rfl, _, rfl⟩) ⟨fun p hp => .tail _ (hsub p hp), ?_⟩)
      rw [List.take_add_one, hk, List.map_append]
      exact (hys.mono fun p hp => .tail _ hp).snoc (.head _)
    · rintro ys nx ⟨hsub, hys⟩
      clear F2 N2
      rw [show (([5, 4, 3, 2, 1, 0] : List Nat).take rv.toArray.size).map (fun k => (lowG k, PySem.Str.empty)) = kv0 from by rw [List.size_toArray, hrl]; rfl] at hys
      have k3 : (L1 + 1 + 1 + 1, o3') ∈ K1 := hK1 ▸ .tail _ (.head _)
      have k2 : (L1 + 1 + 1, v2) ∈ K1 := hK1 ▸ .tail _ (.tail _ (off_one hv2 (neA (a := L1) 2 3 (by decide))))
      have k4 : (L1 + 1 + 1 + 1 + 1, o4) ∈ K1 := hK1 ▸ .tail _ (.tail _ (off_one b4 (neA (a := L1) 4 3 (by decide))))
      have k5 : (L1 + 1 + 1 + 1 + 1 + 1, o5) ∈ K1 := hK1 ▸ .tail _ (.tail _ (off_one b5 (neA (a := L1) 5 3 (by decide))))
      have k6 : (L1 + 1 + 1 + 1 + 1 + 1 + 1, o6) ∈ K1 := hK1 ▸ .tail _ (.tail _ (off_one b6 (neA (a := L1) 6 3 (by decide))))
      have kt : (232, tabObj #[]) ∈ K1 := hK1 ▸ .tail _ (.tail _ (off_one bt (Nat.ne_of_lt (Nat.lt_of_lt_of_le h232 (Nat.le_add_right L1 3)))))
      have kb : ∀ p ∈ b, p ∈ K1 := fun p hp => hK1 ▸ .tail _ (.tail _ (off_one (hbn p hp) (n3 p hp)))
      have rwb : ∀ p ∈ b, p.1 ≠ rw := fun p hp => Nat.ne_of_lt (hlt2 p (hbn p hp))
      have rw2 : @Ne Nat rw (L1 + 1 + 1) := Nat.ne_of_gt (hlt2 _ hv2)
      have rw3 : @Ne Nat rw (L1 + 1 + 1 + 1) := Nat.ne_of_gt (hlt2 _ b3)
      have rw4 : @Ne Nat rw (L1 + 1 + 1 + 1 + 1) := Nat.ne_of_gt (hlt2 _ b4)
      have rw5 : @Ne Nat rw (L1 + 1 + 1 + 1 + 1 + 1) := Nat.ne_of_gt (hlt2 _ b5)
      have rw6 : @Ne Nat rw (L1 + 1 + 1 + 1 + 1 + 1 + 1) := Nat.ne_of_gt (hlt2 _ b6)
      have rwt : @Ne Nat rw 232 := Nat.ne_of_gt (hlt2 _ bt)
      clear hK1 b3 b4 b5 b6 bt hv2 hlt2 hbn h0v
      k_steps
      unfold Hold
      (rename News _ _ _ _ => N2); (with_reducible rename LCg.Off1 _ _ => ho1)
      obtain ⟨l2, hl2⟩ := newsHead N2
      subst hl2
      have hl2n := off1_mem ho1
      clear ho1
      k_dflt (refine C1.use (hinitV W l2 ys ys.length kv0 kv0_clean _ (.head _) (hys.mono fun p hp => .tail _ hp)) (by k_asm) (by k_asm) (by k_asm) (by k_asm) (by k_asm) (by ktr_room) (by ktr_units) ?_)
      rintro r9 B5 h' tk' F' N' ⟨x2, hT2, hs5, rfl⟩
      have l2K : ∀ p ∈ K1, p.1 ≠ l2 := fun p hp => hl2n p (hsub p hp)
      replace hs5 : ∀ p ∈ K1, p ∈ B5 := fun p hp => hs5 _ (.tail _ (hsub p hp))
      clear hl2n hsub hys N2
      refine tgen fun tk9 => ?_
      k_steps
      unfold Hold
      (rename Fr _ _ _ _ => F2); (rename News _ _ _ _ => N2)
      k_dflt (refine storeX_C F2 (newsOut N2 (hs5 _ k6)) (c := L1 + 1 + 1 + 1 + 1 + 1 + 1) (v₀ := none) (by rfl) (UpdF.head (off_ne (.head _))) d6 ?_)
      intro h4 o6' F4 N4 d6'
      obtain ⟨K2, hK2⟩ := newsName N4
      have q6 : (L1 + 1 + 1 + 1 + 1 + 1 + 1, o6') ∈ K2 := hK2 ▸ .head _
      have to2 : ∀ p ∈ K1, p.1 ≠ L1 + 1 + 1 + 1 + 1 + 1 + 1 → p ∈ K2 := fun p hp hn => hK2 ▸ .tail _ (off_one (hs5 p hp) hn)
      replace hT2 : HasTab W K2 x2 l2 kv0 := hT2.apart N2 (hs5 _ k6) (Odd.cell d6) (l2K _ k6).symm (Keep.one fun p hp hn => hK2 ▸ .tail _ (off_one hp hn))
      have l2b : ∀ p ∈ b, p.1 ≠ l2 := fun p hp => l2K p (kb p hp)
      have l22 : @Ne Nat l2 (L1 + 1 + 1) := (l2K _ k2).symm
      have l23 : @Ne Nat l2 (L1 + 1 + 1 + 1) := (l2K _ k3).symm
      have l24 : @Ne Nat l2 (L1 + 1 + 1 + 1 + 1) := (l2K _ k4).symm
      have l25 : @Ne Nat l2 (L1 + 1 + 1 + 1 + 1 + 1) := (l2K _ k5).symm
      have l26 : @Ne Nat l2 (L1 + 1 + 1 + 1 + 1 + 1 + 1) := (l2K _ k6).symm
      have l2t : @Ne Nat l2 232 := (l2K _ kt).symm
      have l2r : @Ne Nat l2 rw := (l2K _ crw).symm
      replace k2 := to2 _ k2 (neA (a := L1) 2 6 (by decide))
      replace k3 := to2 _ k3 (neA (a := L1) 3 6 (by decide))
      replace k4 := to2 _ k4 (neA (a := L1) 4 6 (by decide))
      replace k5 := to2 _ k5 (neA (a := L1) 5 6 (by decide))
      replace kt := to2 _ kt (Nat.ne_of_lt (Nat.lt_of_lt_of_le h232 (Nat.le_add_right L1 6)))
      replace crw := to2 _ crw rw6
      replace kb : ∀ p ∈ b, p ∈ K2 := fun p hp => to2 _ (kb p hp) (n6 p hp)
      rw [hK2] at N4
      clear k6 to2 hs5 l2K hK2 N2 F2
      refine tgen fun tk9 => ?_
      k_steps
      unfold Hold
      (rename Fr _ _ _ _ => F2); (rename News _ _ _ _ => N2)
      rename_i du h5 od hltd hsd hid hif _ _
      have hdue : Due PySem.Challenge.rw_uc0029_02.row.prog W od (due0 0) 0 := Due.nil hid hif
      have du2 : @Ne Nat du (L1 + 1 + 1) := Nat.ne_of_gt (hltd _ k2)
      have du3 : @Ne Nat du (L1 + 1 + 1 + 1) := Nat.ne_of_gt (hltd _ k3)
      have du4 : @Ne Nat du (L1 + 1 + 1 + 1 + 1) := Nat.ne_of_gt (hltd _ k4)
      have du5 : @Ne Nat du (L1 + 1 + 1 + 1 + 1 + 1) := Nat.ne_of_gt (hltd _ k5)
      have du6 : @Ne Nat du (L1 + 1 + 1 + 1 + 1 + 1 + 1) := Nat.ne_of_gt (hltd _ q6)
      have dut : @Ne Nat du 232 := Nat.ne_of_gt (hltd _ kt)
      have hdne : (du == sysModules) = false := beq_false_of_ne (Nat.ne_of_gt (Nat.lt_trans (show sysModules < 232 by decide) (hltd _ kt)))
      have dur : @Ne Nat du rw := Nat.ne_of_gt (hltd _ crw)
      obtain ⟨ls2, ln2, hT2i⟩ := hT2
      have dul : @Ne Nat du l2 := Nat.ne_of_gt (hltd _ hT2i.list)
      k_dflt (refine storeX_C F2 (newsOut2 N2 k5) (c := L1 + 1 + 1 + 1 + 1 + 1) (v₀ := none) (by rfl) (UpdF.tail du5 (UpdF.head (off_ne (.head _)))) d5 ?_)
      intro h6 o5' F6 N6 d5'
      obtain ⟨c, hce⟩ : ∃ c, c = (L1 + 1 + 1 + 1 + 1 + 1, o5') :: off [L1 + 1 + 1, L1 + 1 + 1 + 1 + 1 + 1] K2 := ⟨_, rfl⟩
      have cn2 : ∀ p ∈ c, p.1 ≠ L1 + 1 + 1 := hce ▸ List.forall_mem_cons.mpr ⟨neA (a := L1) 5 2 (by decide), off_ne (.head _)⟩
      have cnd : ∀ p ∈ c, p.1 ≠ du := hce ▸ List.forall_mem_cons.mpr ⟨du5.symm, fun p hp => Nat.ne_of_lt (hltd p (off_sub p hp))⟩
      have cT : HasTab W c x2 l2 kv0 := hce ▸ (HasTab.offs (S := [L1 + 1 + 1, L1 + 1 + 1 + 1 + 1 + 1]) ⟨ls2, ln2, hT2i⟩ (fun p hp => N2 p (.tail _ hp)) (List.forall_mem_cons.mpr ⟨⟨_, k2, Odd.cell dv2⟩, List.forall_mem_singleton.mpr ⟨_, k5, Odd.cell d5⟩⟩) (List.forall_mem_cons.mpr ⟨l22, List.forall_mem_singleton.mpr l25⟩)).mono fun p hp => .tail _ hp
      have c5 : (L1 + 1 + 1 + 1 + 1 + 1, o5') ∈ c := hce ▸ .head _
      have c6 : (L1 + 1 + 1 + 1 + 1 + 1 + 1, o6') ∈ c := hce ▸ .tail _ (off_two q6 (neA (a := L1) 6 2 (by decide)) (neA (a := L1) 6 5 (by decide)))
      have c4 : (L1 + 1 + 1 + 1 + 1, o4) ∈ c := hce ▸ .tail _ (off_two k4 (neA (a := L1) 4 2 (by decide)) (neA (a := L1) 4 5 (by decide)))
      have c3 : (L1 + 1 + 1 + 1, o3') ∈ c := hce ▸ .tail _ (off_two k3 (neA (a := L1) 3 2 (by decide)) (neA (a := L1) 3 5 (by decide)))
      have ct : (232, tabObj #[]) ∈ c := hce ▸ .tail _ (off_two kt (Nat.ne_of_lt (Nat.lt_of_lt_of_le h232 (Nat.le_add_right L1 2))) (Nat.ne_of_lt (Nat.lt_of_lt_of_le h232 (Nat.le_add_right L1 5))))
      replace crw : (rw, listOf rv.toArray 0) ∈ c := hce ▸ .tail _ (off_two crw rw2 rw5)
      have cb : ∀ p ∈ b, p ∈ c := fun p hp => hce ▸ .tail _ (off_two (kb p hp) (n2 p hp) (n5 p hp))
      have bdu : ∀ p ∈ b, p.1 ≠ du := fun p hp => Nat.ne_of_lt (hltd p (kb p hp))
      obtain ⟨K3, hK3⟩ := newsName N6
      have c2 : (L1 + 1 + 1, v2) ∈ K3 := hK3 ▸ .tail _ (.tail _ (off_one k2 (neA (a := L1) 2 5 (by decide))))
      have cd : (du, od) ∈ K3 := hK3 ▸ .head _
      have cK : ∀ p ∈ c, p ∈ K3 := fun p hp => by
        rw [hce] at hp
        rw [← hK3]
        rcases List.mem_cons.mp hp with rfl | hp
        · exact .tail _ (.head _)
        · exact .tail _ (.tail _ (off_one (off_sub p hp) (off_ne (.tail _ (.head _)) p hp)))
      rw [hK3] at N6
      clear hK3 hce k2 k3 k4 k5 kt kb q6 hltd hT2i hid hif N2 F2
      have k3 := cK _ c3
      refine tgen fun tk9 => ?_
      k_steps
      unfold Hold
      (rename Fr _ _ _ _ => F2); (rename News _ _ _ _ => N2)
      refine Iter_list_my2 (k := 0) (vs := rv) (fun i m₁ nx' => m₁ (Str.ofString "sights") = some (.ref x1) ∧ m₁ (Str.ofString "way") = some (.int ((way : Nat) : Int) tw) ∧ m₁ (Str.ofString "mark") = some (.int ((mark : Nat) : Int) tm) ∧ (∃ v2 y, (L1 + 1 + 1, v2) ∈ nx' ∧ v2.data = .cell y) ∧ (∃ od, (du, od) ∈ nx' ∧ Due PySem.Challenge.rw_uc0029_02.row.prog W od (due0 i) i) ∧ ∀ p ∈ c, p ∈ nx') rfl F2 N2 ?_ ?_ ?_ ?_
      · rintro i m nx ⟨-, -, -, -, -, hb⟩; exact hb _ crw
      · exact ⟨rfl, rfl, rfl, ⟨_, _, c2, dv2⟩, ⟨_, cd, hdue⟩, cK⟩
      · rintro I i v m₁ nx' h9 tk9 io hio hv ⟨hm1, hm2, hm3, ⟨v2', y2', hv2, dv2'⟩, ⟨od', hod, hdue'⟩, hb⟩ hI F' N'
        clear F2 N2
        refine qgen fun Qa hQa => ?_
        replace F' := frPut3 F' hm1 hm2 hm3
        obtain ⟨y, t9, rfl, e2⟩ := hrs.item i v hv
        rw [List.getElem?_map] at e2
        obtain ⟨k, hk, hky⟩ := Option.map_eq_some_iff.mp e2
        replace N' := newsOut2 N' hv2
        have hod2 := off_one hod du2
        have hr2 := off_one (hb _ crw) (cn2 _ crw)
        have h52 := off_one (hb _ c5) (cn2 _ c5)
        k_steps
        unfold Hold
        (rename Fr _ _ _ _ => F4); (rename News _ _ _ _ => N4)
        k_dflt (refine storeX_C F4 N4 (c := L1 + 1 + 1) (v₀ := y2') (by rfl) (UpdF.tail (hI _ hv2).symm (UpdF.head (off_ne (.head _)))) dv2' ?_)
        intro h8 o2' F5 N5 d2'
        clear F4 N4
        k_steps
        unfold Hold
        (rename Fr _ _ _ _ => F6); (rename News _ _ _ _ => N6)
        have hId : @Ne Nat du I := hI _ hod
        have hI2 : @Ne Nat (L1 + 1 + 1) I := hI _ hv2
        refine due_set F6 (newsOut N6 (.tail _ (.tail _ hod2))) (UpdF.head (off_ne (.head _))) hdue' (Nat.le_trans (Nat.le_of_lt (List.getElem?_eq_some_iff.mp hv).1) (Nat.le_trans (Nat.le_of_eq hrl) (by decide))) ?_
        intro h9 od2 tk9 F9 N9 hdue2
        clear F6 N6
        k_steps
        (rename News _ _ _ _ => N7)
        refine hQa _ _ (ForStep.next (by k_asm) N7 (news₂ := off [I] ((du, od2) :: off [du] ((I, io) :: (L1 + 1 + 1, o2') :: off [L1 + 1 + 1] nx'))) (List.forall_mem_cons.mpr ⟨.tail _ (off_one (.head _) hId.symm), off_sub⟩) (off_ne (.head _)) ⟨rfl, rfl, rfl, ⟨o2', _, off_one (.tail _ (off_one (.tail _ (.head _)) du2.symm)) hI2, d2'⟩, ⟨od2, off_one (.head _) hId, ?_⟩, fun p hp => off_one (.tail _ (off_one (.tail _ (.tail _ (off_one (hb _ hp) (cn2 _ hp)))) (cnd _ hp))) (hI _ (hb _ hp))⟩)
        rw [← hky] at hdue2
        have e3 : (([5, 4, 3, 2, 1, 0] : List Nat).getD i 0) = k := by rw [List.getD, hk]; rfl
        show Due _ _ _ (setF (due0 i) (lowG (([5, 4, 3, 2, 1, 0] : List Nat).getD i 0)) PySem.Str.empty) _
        rw [e3]
        exact hdue2
      · rintro m₁ nx' h9 tk9 ⟨hm1, hm2, hm3, ⟨v2', y2', hv2, dv2'⟩, ⟨od', hod, hdue'⟩, hb⟩ F' N'
        clear F2 N2
        replace F' := frPut3 F' hm1 hm2 hm3
        replace N' : News _ L1 h9 nx' := N'
        rw [hrl] at hdue'
        dsimp only
        k_steps
        unfold Hold
        (rename Fr _ _ _ _ => F9); (rename News _ _ _ _ => N9); (rename IsRange _ _ _ _ _ _ _ _ => hr9)
        obtain ⟨gn, hgn⟩ := newsHead N9
        subst hgn
        (with_reducible rename ∀ p ∈ nx', p.1 < gn => hlg)
        obtain ⟨d, hde⟩ : ∃ d, d = off [L1 + 1 + 1, L1 + 1 + 1 + 1 + 1, 232, rw, l2, du] nx' := ⟨_, rfl⟩
        obtain ⟨dx2, tkx2, dnx2, hx2, hdx2⟩ := cT.choose_spec.choose_spec.inst
        have offL : ∀ (p : Addr × Obj), p ∈ nx' → p.1 ≠ L1 + 1 + 1 → p.1 ≠ L1 + 1 + 1 + 1 + 1 → p.1 ≠ 232 → p.1 ≠ rw → p.1 ≠ l2 → p.1 ≠ du → p ∈ d := fun p hp a1 a2 a3 a4 a5 a6 => hde ▸ off_mem hp (List.forall_mem_cons.mpr ⟨a1, List.forall_mem_cons.mpr ⟨a2, List.forall_mem_cons.mpr ⟨a3, List.forall_mem_cons.mpr ⟨a4, List.forall_mem_cons.mpr ⟨a5, List.forall_mem_singleton.mpr a6⟩⟩⟩⟩⟩)
        have Nx : News _ L1 _ nx' := fun p hp => N9 p (.tail _ hp)
        have u32' : ∀ k, @Ne Nat (L1 + k) 232 := fun k => Nat.ne_of_gt (Nat.lt_of_lt_of_le h232 (Nat.le_add_right _ _))
        have hBd : Base W d sl qs ks n g x1 la (L1 + 1) o1 := hBo.mono fun p hp => offL p (hb p (cb p hp)) (n2 p hp) (n4 p hp) (nt p hp) (rwb p hp) (l2b p hp) (bdu p hp)
        obtain ⟨dx1, tkx1, dnx1, dx1m, ddx1m⟩ := hBd.tab.choose_spec.choose_spec.inst
        have d3m : (L1 + 1 + 1 + 1, o3') ∈ d := offL _ (hb _ c3) (neA (a := L1) 3 2 (by decide)) (neA (a := L1) 3 4 (by decide)) (u32' 3) rw3.symm l23.symm du3.symm
        have d5m : (L1 + 1 + 1 + 1 + 1 + 1, o5') ∈ d := offL _ (hb _ c5) (neA (a := L1) 5 2 (by decide)) (neA (a := L1) 5 4 (by decide)) (u32' 5) rw5.symm l25.symm du5.symm
        have d6m : (L1 + 1 + 1 + 1 + 1 + 1 + 1, o6') ∈ d := offL _ (hb _ c6) (neA (a := L1) 6 2 (by decide)) (neA (a := L1) 6 4 (by decide)) (u32' 6) rw6.symm l26.symm du6.symm
        have c4 := hb _ c4
        have ct := hb _ ct
        have crw' := hb _ crw
        have x22 : @Ne Nat x2 (L1 + 1 + 1) := news_ne Nx (hb _ hx2) hv2 ((Odd.cell dv2').inst _)
        have x24 : @Ne Nat x2 (L1 + 1 + 1 + 1 + 1) := news_ne Nx (hb _ hx2) c4 ((Odd.cell d4).inst _)
        have x2t : @Ne Nat x2 232 := news_ne Nx (hb _ hx2) ct ((Odd.tab _).inst _)
        have x2r : @Ne Nat x2 rw := news_ne Nx (hb _ hx2) crw' ((Odd.list _ _).inst _)
        have x2l : @Ne Nat x2 l2 := news_ne Nx (hb _ hx2) (hb _ cT.choose_spec.choose_spec.list) ((Odd.list _ _).inst _)
        have dx22 : @Ne Nat dx2 (L1 + 1 + 1) := news_ne Nx (hb _ hdx2) hv2 ((Odd.cell dv2').dict _ _)
        have dx24 : @Ne Nat dx2 (L1 + 1 + 1 + 1 + 1) := news_ne Nx (hb _ hdx2) c4 ((Odd.cell d4).dict _ _)
        have dx2t : @Ne Nat dx2 232 := news_ne Nx (hb _ hdx2) ct ((Odd.tab _).dict _ _)
        have dx2r : @Ne Nat dx2 rw := news_ne Nx (hb _ hdx2) crw' ((Odd.list _ _).dict _ _)
        have dx2l : @Ne Nat dx2 l2 := news_ne Nx (hb _ hdx2) (hb _ cT.choose_spec.choose_spec.list) ((Odd.list _ _).dict _ _)
        have dx2m : (x2, instObj 216 dx2) ∈ d := offL _ (hb _ hx2) x22 x24 x2t x2r x2l (cnd _ hx2)
        have ddx2m : (dx2, dictOf [hdEntry W tkx2 l2] dnx2) ∈ d := offL _ (hb _ hdx2) dx22 dx24 dx2t dx2r dx2l (cnd _ hdx2)
        have gn2 : @Ne Nat gn (L1 + 1 + 1) := Nat.ne_of_gt (hlg _ hv2)
        have gn4 : @Ne Nat gn (L1 + 1 + 1 + 1 + 1) := Nat.ne_of_gt (hlg _ c4)
        have gnt : @Ne Nat gn 232 := Nat.ne_of_gt (hlg _ ct)
        have gnr : @Ne Nat gn rw := Nat.ne_of_gt (hlg _ crw')
        have gnd : @Ne Nat gn du := Nat.ne_of_gt (hlg _ hod)
        have gnl : @Ne Nat gn l2 := Nat.ne_of_gt (hlg _ (hb _ cT.choose_spec.choose_spec.list))
        have dgn : ∀ p ∈ d, p.1 ≠ gn := fun p hp => Nat.ne_of_lt (hlg p (off_sub p (hde ▸ hp)))
        have dn2 : ∀ p ∈ d, p.1 ≠ L1 + 1 + 1 := hde ▸ off_ne (.head _)
        have dn4 : ∀ p ∈ d, p.1 ≠ L1 + 1 + 1 + 1 + 1 := hde ▸ off_ne (.tail _ (.head _))
        have dnt : ∀ p ∈ d, p.1 ≠ 232 := hde ▸ off_ne (.tail _ (.tail _ (.head _)))
        have dnr : ∀ p ∈ d, p.1 ≠ rw := hde ▸ off_ne (.tail _ (.tail _ (.tail _ (.head _))))
        have dnl : ∀ p ∈ d, p.1 ≠ l2 := hde ▸ off_ne (.tail _ (.tail _ (.tail _ (.tail _ (.head _)))))
        have dnd : ∀ p ∈ d, p.1 ≠ du := hde ▸ off_ne (.tail _ (.tail _ (.tail _ (.tail _ (.tail _ (.head _))))))
        refine Iter_range_my2 (n := 6) (fun i m₁ nx => m₁ (Str.ofString "sights") = some (.ref x1) ∧ (∃ t, m₁ (Str.ofString "way") = some (.int ((way / 6 ^ i : Nat) : Int) t)) ∧ m₁ (Str.ofString "mark") = some (.int ((mark : Nat) : Int) tm) ∧ m₁ (Str.ofString "gone") = some (.ref gn) ∧ Wk W L1 rw gn du l2 x2 d (runS g way mark i) (6 + 6 * i) nx) rfl hr9 (by decide) (by decide) F9 N9 ?_ ?_ ?_
        · refine ⟨rfl, ⟨tw, by rw [Nat.pow_zero, Nat.div_one]; rfl⟩, rfl, rfl, ⟨_, _, .tail _ hv2, dv2'⟩, ⟨_, _, .tail _ c4, d4⟩, ⟨_, .tail _ ct, ⟨trivial, fun p hp => .inl rfl⟩⟩, ⟨rv, _, .tail _ (hb _ crw), hrs⟩, ⟨[], _, .head _, .nil⟩, ⟨od', _, _, .tail _ hod, hdue', Nat.le_refl _, due6⟩, ⟨kv0, cT.mono fun p hp => .tail _ (hb p hp), ⟨List.Perm.refl _⟩⟩, fun p hp => .tail _ (off_sub p (hde ▸ hp))⟩
        · rintro I i ti m₁ nx h9 tk9 io hio hi ⟨hm1, ⟨tq, hm2⟩, hm3, hm4, hW⟩ hI F' N'
          clear F9 N9 hr9 Nx offL hBo n2 n3 n4 n5 n6 nt rwb l2b bdu u32'
          refine qgen fun Qa hQa => ?_
          replace F' := frPut4 F' hm1 hm2 hm3 hm4
          have hO := run_ok g way mark i (Nat.le_of_lt hi)
          have hL := run_len g way mark i (Nat.le_of_lt hi)
          obtain ⟨st, hst⟩ : ∃ st, st = runS g way mark i := ⟨_, rfl⟩
          rw [← hst] at hO hL hW
          obtain ⟨tu, htu⟩ : ∃ tu, tu = 6 - i := ⟨_, rfl⟩
          rw [six_sub htu hi]
          obtain ⟨n1, hn1⟩ := pred_of hi
          have hn5 := n5_of hn1
          rw [hn1] at hO
          have hbs := hBd.mono hW.base
          have m3 := hW.base _ d3m
          have m5 := hW.base _ d5m
          have m6 := hW.base _ d6m
          have mx2 := hW.base _ dx2m
          have mdx2 := hW.base _ ddx2m
          have mc1 := hbs.cell
          obtain ⟨⟨w2, y2, hw2, dw2⟩, ⟨w4, y4, hw4, dw4⟩, ⟨ps, hps, hlam⟩, ⟨rvs, rn, hrow, hrows⟩, ⟨gvs, gk, hgone, hgones⟩, ⟨odq, Fq, kq, hdu, hdueq, hkq, hFq⟩, ⟨kvs, hTm, hM⟩, hbd⟩ := hW
          have hrl' : rvs.length = n1 + 1 := by rw [hrows.length, List.length_map, hO.len]
          k_steps
          unfold Hold
          (rename News _ _ _ _ => N4)
          have hCl := hM.clean hO (Nat.succ_le_succ hn5) (fun x => Nat.le_trans (hL x) (hn8 hi))
          have x0l : 0 < st.row.length := by rw [hO.len]; exact Nat.succ_pos _
          have x06 := hO.lt _ (at_mem x0l)
          obtain ⟨t0, ht0⟩ := hrows.get 0 _ (at_map x0l)
          refine item_at N4 (.tail _ hrow) (by decide) (by decide) ht0 ?_
          k_steps
          unfold Hold
          k_dflt (refine C1.use (hgetV W x2 l2 kvs (lowG (st.at 0)) t0 _ (low_clean x06) hCl (hTm.mono fun p hp => .tail _ hp)) (by k_asm) (by k_asm) (by k_asm) (by k_asm) (by k_asm) (by ktr_room) (by ktr_units) ?_)
          rintro r9 B7 h' tk' F' N' ⟨rfl, hr⟩
          rw [hM.get hO x06, if_pos (at_mem x0l)] at hr
          obtain ⟨tr, rfl⟩ := hr
          clear N4
          refine tgen fun tk9 => ?_
          k_steps
          unfold Hold
          (rename Fr _ _ _ _ => F4); (rename News _ _ _ _ => N4)
          have hI232 : 232 ≠ I := hI _ hps
          have hIl : l2 ≠ I := hI _ hTm.choose_spec.choose_spec.list
          have hI2 : @Ne Nat (L1 + 1 + 1) I := hI _ hw2
          have hI4 : @Ne Nat (L1 + 1 + 1 + 1 + 1) I := hI _ hw4
          have hIr : rw ≠ I := hI _ hrow
          have hIg : gn ≠ I := hI _ hgone
          have hId : du ≠ I := hI _ hdu
          replace hlam := hlam.start (P := fun c => c ≠ I) hI
          have Nn : News _ L1 _ nx := fun p hp => N4 p (.tail _ hp)
          have hT1 : ∀ B, (∀ p ∈ nx, p.1 ≠ 232 → p ∈ B) → HasTab W B x2 l2 kvs := fun B hB => hTm.apart Nn hps (Odd.tab _) l2t (Keep.one hB)
          k_dflt (refine' klaBoth_K (fun c' => c' ≠ I) hlam.ok ?mk ?av ?F ?N ?T ?C ?cd ?U ?cl ?_)
          case F => k_asm
          case N => exact newsOut2 N4 hps
          case T => k_asm
          case C => kn_code
          case cd => exact rfl
          case U => exact UpdF.tail hI232.symm (UpdF.head (off_ne (.head _)))
          case cl => exact rfl
          case mk => exact hlam.toMk (by decide) Nn hps (fun p hp hn => .tail _ (.tail _ (off_one hp hn)))
          case av => exact fun c' h => Nat.ne_of_gt (h (I, io) (.head _))
          intro f1 c1' oc vs tq ctv h' tk' ps1 F' N' hd1' hd2' htr' hcode' hother' hcI hlt hcf
          (try dsimp only at N')
          obtain ⟨B1, hB1⟩ := newsName N'
          have hall := memTo hB1
          have af := hall _ (.head _)
          have ac := hall _ (.tail _ (.head _))
          have aI := hall _ (.tail _ (.tail _ (.head _)))
          have at1 := hall _ (.tail _ (.tail _ (.tail _ (.head _))))
          have ab : ∀ p ∈ nx, p.1 ≠ 232 → p ∈ B1 := fun p hp hn => hall _ (.tail _ (.tail _ (.tail _ (.tail _ (off_one hp hn)))))
          rw [hB1] at N'
          clear hall hB1 N4 F4
          have hlamB := hlam.next (by decide) Nn hps hd1' hd2' htr' hcode' hother' ac hcI ab
          replace hT1 := hT1 B1 ab
          have u32 : ∀ k, @Ne Nat (L1 + k) 232 := fun k => Nat.ne_of_gt (Nat.lt_of_lt_of_le h232 (Nat.le_add_right _ _))
          have a6 := ab _ m6 (u32 6)
          have a3 := ab _ m3 (u32 3)
          have a5 := ab _ m5 (u32 5)
          have ax2 := ab _ mx2 x2t
          have adx2 := ab _ mdx2 dx2t
          have hlam1 : ∀ x t, x ∈ st.row → C1 W (.ref f1) [.str (lowG x) t] [] 20 B1 (fun n r => B1 = n ∧ ∃ t', r = .str (st.wd x) t') := by
            intro x t hx
            clear ret hd hu B F X N T N' F' Nn
            unfold C1
            intro p' loose' mean' mg' mb' dp' un' gd' cn' nm'' ig' ic' mr' a' ccd' cl' outer' A₀' base' h₀' L₂ m' s' Q' E' B F X N T hd hu ret
            refine wpAny_call ?_
            k_dflt kla_enter
            k_steps
            unfold Hold
            k_dflt (refine C1.use (hgetV W x2 l2 kvs (lowG x) t _ (low_clean (hO.lt x hx)) hCl hT1) (by k_asm) (by k_asm) (by k_asm) (by k_asm) (by k_asm) (by ktr_room) (by ktr_units) ?_)
            rintro r9 B7 h' tk' F' N' ⟨rfl, hr⟩
            rw [hM.get hO (hO.lt x hx), if_pos hx] at hr
            obtain ⟨tr, rfl⟩ := hr
            k_steps
            exact ret _ _ _ _ (by k_asm) (by k_asm) ⟨rfl, _, rfl⟩
          k_steps
          unfold Hold
          have arow := ab _ hrow rwt
          k_dflt (refine C1.use (bisl_row W f1 rw rvs rn st (st.wd (st.at 0)) tr 20 B1 arow hrows (len_le hO.len hn5 (Nat.le_refl 6)) ⟨_, _, _, _, af⟩ hlam1) (by k_asm) (by k_asm) (by k_asm) (by k_asm) (by k_asm) (by ktr_room) (by ktr_units) ?_)
          rintro r9 B7 h' tk' F' N' ⟨rfl, tb, rfl⟩
          rw [hO.first, show ((0 : Nat) : Int) = 0 from rfl]
          clear hlam1
          refine tgen fun tk9 => ?_
          k_steps
          unfold Hold
          (rename News _ _ _ _ => N4)
          have xll : st.row.length - 1 < st.row.length := Nat.sub_lt x0l Nat.one_pos
          have xl6 := hO.lt _ (at_mem xll)
          obtain ⟨tl0, htl0⟩ := hrows.get _ _ (at_map xll)
          refine item_last N4 arow (by rw [hrl']; exact Nat.succ_pos _) (by rw [hrl', show n1 + 1 - 1 = st.row.length - 1 from by rw [hO.len]]; exact htl0) ?_
          k_steps
          unfold Hold
          k_dflt (refine C1.use (hgetV W x2 l2 kvs (lowG (st.at (st.row.length - 1))) tl0 _ (low_clean xl6) hCl hT1) (by k_asm) (by k_asm) (by k_asm) (by k_asm) (by k_asm) (by ktr_room) (by ktr_units) ?_)
          rintro r9 B7 h' tk' F' N' ⟨rfl, hr⟩
          rw [hM.get hO xl6, if_pos (at_mem xll)] at hr
          obtain ⟨tr2, rfl⟩ := hr
          clear N4 hlam hps hd1' hd2' htr' hcode' hother' hlt af Nn hTm hcI hcf ac
          refine tgen fun tk9 => ?_
          k_steps
          unfold Hold
          have hI_2 : (I, io) ∈ B1 := aI
          (rename Fr _ _ _ _ => F4); (rename News _ _ _ _ => N4)
          k_dflt (refine' klaBoth_K (fun c' => c' ≠ I) hlamB.ok ?mk ?av ?F ?N ?T ?C ?cd ?U ?cl ?_)
          case F => k_asm
          case N => exact newsOut N4 at1
          case T => k_asm
          case C => kn_code
          case cd => exact rfl
          case U => exact UpdF.head (off_ne (.head _))
          case cl => exact rfl
          case mk => exact hlamB.toMk (by decide) N4 at1 (fun p hp hn => .tail _ (off_one hp hn))
          case av => exact fun c' h => Nat.ne_of_gt (h (I, io) (.tail _ (off_one hI_2 hI232.symm)))
          intro f2 c2' oc vs tq ctv h' tk' ps2 F' N' hd1' hd2' htr' hcode' hother' hcI hlt hcf
          (try dsimp only at N')
          obtain ⟨B2, hB1⟩ := newsName N'
          have hall := memTo hB1
          have af := hall _ (.head _)
          have ac := hall _ (.tail _ (.head _))
          have at2 := hall _ (.tail _ (.tail _ (.head _)))
          have ab2 : ∀ p ∈ B1, p.1 ≠ 232 → p ∈ B2 := fun p hp hn => hall _ (.tail _ (.tail _ (.tail _ (off_one hp hn))))
          have lams2 := hlamB.next (by decide) N4 at1 hd1' hd2' htr' hcode' hother' ac hcI ab2
          rw [hB1] at N'
          clear hall hB1
          have hT2 : HasTab W B2 x2 l2 kvs := hT1.apart N4 at1 (Odd.tab _) l2t (Keep.one ab2)
          clear N4 F4
          have e6 := ab2 _ a6 (u32 6)
          have e3 := ab2 _ a3 (u32 3)
          have e5 := ab2 _ a5 (u32 5)
          have ex2 := ab2 _ ax2 x2t
          have edx2 := ab2 _ adx2 dx2t
          have erow := ab2 _ arow rwt
          have hlam2 : ∀ x t, x ∈ st.row → C1 W (.ref f2) [.str (lowG x) t] [] 20 B2 (fun n r => B2 = n ∧ ∃ t', r = .str (st.wd x) t') := by
            intro x t hx
            clear ret hd hu B F X N T N' F'
            unfold C1
            intro p' loose' mean' mg' mb' dp' un' gd' cn' nm'' ig' ic' mr' a' ccd' cl' outer' A₀' base' h₀' L₂ m' s' Q' E' B F X N T hd hu ret
            refine wpAny_call ?_
            k_dflt kla_enter
            k_steps
            unfold Hold
            k_dflt (refine C1.use (hgetV W x2 l2 kvs (lowG x) t _ (low_clean (hO.lt x hx)) hCl hT2) (by k_asm) (by k_asm) (by k_asm) (by k_asm) (by k_asm) (by ktr_room) (by ktr_units) ?_)
            rintro r9 B7 h' tk' F' N' ⟨rfl, hr⟩
            rw [hM.get hO (hO.lt x hx), if_pos hx] at hr
            obtain ⟨tr, rfl⟩ := hr
            k_steps
            exact ret _ _ _ _ (by k_asm) (by k_asm) ⟨rfl, _, rfl⟩
          k_steps
          unfold Hold
          k_dflt (refine C1.use (bisl_row W f2 rw rvs rn st (lastW st) tr2 20 B2 erow hrows (len_le hO.len hn5 (Nat.le_refl 6)) ⟨_, _, _, _, af⟩ hlam2) (by k_asm) (by k_asm) (by k_asm) (by k_asm) (by k_asm) (by ktr_room) (by ktr_units) ?_)
          rintro r9 B7 h' tk' F' N' ⟨rfl, tb2, rfl⟩
          clear hlam2
          have hFi := hO.last (Nat.succ_pos n1)
          obtain ⟨fi, hfi⟩ : ∃ fi, fi = firstOf st (lastW st) := ⟨_, rfl⟩
          rw [← hfi] at hFi ⊢
          refine tgen fun tk9 => ?_
          k_steps
          unfold Hold
          (rename Fr _ _ _ _ => F4); (rename News _ _ _ _ => N4)
          k_dflt (refine kba_turn (value' := PySem.Expr.Name (PySem.Str.ofString "_") ⟨0, 0, 0, 0⟩) (fun _ => rfl) ?_)
          k_dflt (refine' kms_slice_lit (zs := rvs.drop fi) ?sl1F ?sl1N ?sl1l ?sl1p ?sl1q ?sl1e ?_ ?sl1s ?sl1t ?sl1z)
          case sl1F => exact F4
          case sl1N => exact N4
          case sl1l => exact News.isList N4 erow
          case sl1p => exact IsPart.int _ _
          case sl1q => exact IsPart.none
          case sl1e => rw [List.toList_toArray]; exact pick_drop _ _
          case sl1s => with_unfolding_all rfl
          case sl1t => kmk_pure
          case sl1z => rw [List.size_toArray]; exact size6 (len_le hrl' hn5 (Nat.le_refl 6))
          intro D1 h12 F12 N12 l12
          clear F4 N4
          k_steps
          unfold Hold
          k_dflt (refine LCt.ListComp_T (F₀ := F12) (by with_unfolding_all rfl) (by decide) (by rfl) (by decide) (by rfl) ?_)
          k_steps
          unfold Hold
          (rename Fr _ _ _ _ => F₃); (rename News _ _ _ _ => N₃)
          have edu := ab2 _ (ab _ hdu dut) dut
          have hrg : ∀ i v, rvs[i]? = some v → ∃ x t, st.row[i]? = some x ∧ x < 6 ∧ v = Value.str (lowG x) t := fun i v hv => by
            obtain ⟨y, t, e1, e2⟩ := hrows.item i v hv
            rw [List.getElem?_map] at e2
            obtain ⟨x, e3, e4⟩ := Option.map_eq_some_iff.mp e2
            exact ⟨x, t, e3, hO.lt x (List.mem_of_getElem? e3), by rw [e1, ← e4]⟩
          have hltl : rvs[rvs.length - 1]? = some (.str (lowG (st.at (st.row.length - 1))) tl0) := by rw [hrl', show n1 + 1 - 1 = st.row.length - 1 from by rw [hO.len]]; exact htl0
          obtain ⟨X₃, hX₃⟩ := newsName N₃
          have xrow : (rw, listOf rvs.toArray rn) ∈ X₃ := hX₃ ▸ .tail _ erow
          have xdu : (du, odq) ∈ X₃ := hX₃ ▸ .tail _ edu
          have x3 : (L1 + 1 + 1 + 1, o3') ∈ X₃ := hX₃ ▸ .tail _ e3
          have x5 : (L1 + 1 + 1 + 1 + 1 + 1, o5') ∈ X₃ := hX₃ ▸ .tail _ e5
          rw [hX₃] at N₃
          refine LCt.CompSrcT.ledger (ax := rw) (its := rvs.toArray) (k := rn) rfl F₃ N₃ xrow (by rw [List.size_toArray]; exact size6 (len_le hrl' hn5 (Nat.le_refl 6))) ?_
          intro g3
          refine compT_inv (n := rvs.toArray.size) (fun i ys nx' => nx' = X₃ ∧ StrsAre ys (((st.row.take i).filter fun x => st.wd x == lastW st).map lowG)) ?_ ?_ _ _ _ _ (Nat.zero_add _) ⟨rfl, .nil⟩
          · rintro j v ys nx2 I5 oI5 C5 oC5 D5 m5 h5 tk5 E5 hj hv ⟨rfl, hys⟩ hC5 hx5 F' N' off5 ne5
            clear F₃ N₃
            obtain ⟨x, tx, hxr, hx6, rfl⟩ := hrg j v (by rw [← List.getElem?_toArray]; exact hv)
            k_steps
            unfold Hold
            (rename News _ _ _ _ => N')
            refine due_at N' (.tail _ (.tail _ (.tail _ xdu))) hdne hdueq (hFq x hx6) fun tu kk => ?_
            refine tgen fun tk9 => ?_
            k_steps
            unfold Hold
            (rename News _ _ _ _ => N')
            refine item_last N' (.tail _ (.tail _ (.tail _ xrow))) (by rw [hrl']; exact Nat.succ_pos _) hltl ?_
            k_steps
            unfold Hold
            (rename News _ _ _ _ => N')
            refine due_at N' (.tail _ (.tail _ (.tail _ xdu))) hdne hdueq (hFq _ xl6) fun tu2 kk2 => ?_
            refine tgen fun tk9 => ?_
            k_steps
            · (rename (st.wd x == _) = true => he); (rename News _ _ _ _ => N')
              exact LCg.CompEnd.intro (by k_asm) N' _ (fun _ hp => hp) off5 (.inr ⟨_, xrow, rfl, _, rfl⟩) ⟨rfl, by rw [take_filter_yes hxr he, List.map_append]; exact strsSnoc hys⟩
            · (rename (st.wd x == _) = false => he); (rename News _ _ _ _ => N')
              exact LCg.CompEnd.intro (by k_asm) N' _ (fun _ hp => hp) off5 (.inr ⟨_, xrow, rfl, _, rfl⟩) ⟨rfl, by rw [take_filter_no hxr he]; exact hys⟩
          · rintro ys nx2 ⟨rfl, hys⟩
            rw [show rvs.toArray.size = st.row.length from by rw [List.size_toArray, hrl', hO.len], List.take_length, ← hFi.2] at hys
            clear F₃ N₃
            k_steps
            unfold Hold
            (rename News _ _ _ _ => N₃)
            have hdr : StrsAre (rvs.drop fi) ((st.row.drop fi).map lowG) := by rw [List.map_drop]; exact strsDrop hrows _
            have hcl : ∀ x ∈ (st.row.drop fi).map lowG, Clean x := fun x hx => by
              obtain ⟨y, hy, rfl⟩ := List.mem_map.mp hx
              exact low_clean (hO.lt y (List.mem_of_mem_drop hy))
            refine ne_dataH (reads_list_at (N₃ _ (.tail _ (memTo hX₃ _ (.head _)))).1 rfl rfl (StrsAre.reads _ hdr)) (reads_list_at (N₃ _ (.head _)).1 rfl rfl (StrsAre.reads _ hys)) (strs_shaped _ hcl) (strs_shaped _ hcl) (by ktr_units) ?_
            rw [eqv_strs_self]
            replace N₃ : News _ L1 _ B2 := fun p hp => N₃ p (.tail _ (memTo hX₃ _ (.tail _ hp)))
            have hT3 : ∀ C, Keep [rw, L1 + 1 + 1, gn] B2 C → HasTab W C x2 l2 kvs := fun C hC => hT2.aparts N₃ (List.forall_mem_cons.mpr ⟨⟨_, erow, Odd.list _ _⟩, List.forall_mem_cons.mpr ⟨⟨_, ab2 _ (ab _ hw2 (u32 2)) (u32 2), Odd.cell dw2⟩, List.forall_mem_singleton.mpr ⟨_, ab2 _ (ab _ hgone gnt) gnt, Odd.list _ _⟩⟩⟩) (List.forall_mem_cons.mpr ⟨l2r, List.forall_mem_cons.mpr ⟨l22, List.forall_mem_singleton.mpr gnl.symm⟩⟩) hC
            have hL3 : ∀ C, Keep [rw, L1 + 1 + 1, gn, l2, L1 + 1 + 1 + 1 + 1] B2 C → Lams (fun c => c ≠ I) ps2 C := fun C hC => lams2.keeps N₃ (List.forall_mem_cons.mpr ⟨⟨_, erow, nofun⟩, List.forall_mem_cons.mpr ⟨⟨_, ab2 _ (ab _ hw2 (u32 2)) (u32 2), fun vs e => by rw [dw2] at e; cases e⟩, List.forall_mem_cons.mpr ⟨⟨_, ab2 _ (ab _ hgone gnt) gnt, nofun⟩, List.forall_mem_cons.mpr ⟨⟨_, hT2.choose_spec.choose_spec.list, nofun⟩, List.forall_mem_singleton.mpr ⟨_, ab2 _ (ab _ hw4 (u32 4)) (u32 4), fun vs e => by rw [dw4] at e; cases e⟩⟩⟩⟩⟩) hC
            clear hX₃ hys hcl hdr xrow xdu x3 x5
            refine tgen fun tk9 => ?_
            k_steps
            unfold Hold
            refine len_at N₃ erow (len_le hrl' hn5 (by decide)) fun tn kn => ?_
            have hfl : fi < st.row.length := by rw [hO.len]; exact hFi.1
            rw [hrl', ← hO.len]
            have hne0 := sub_ne0 hfl
            refine tgen fun tk9 => ?_
            k_steps
            unfold Hold
            rw [pick_int hfl]
            obtain ⟨pk, hpk⟩ : ∃ pk, pk = pickOf way i st := ⟨_, rfl⟩
            rw [show fi + way / 6 ^ i % (st.row.length - fi) = pk from by rw [hpk, pickOf, ← hfi]]
            have hpl := (hO.pick (way := way) (i := i) (Nat.succ_pos n1)).1
            rw [← hpk] at hpl
            have hpl' : pk < st.row.length := by rw [hO.len]; exact hpl
            obtain ⟨tp, htp⟩ := hrows.get _ _ (at_map hpl')
            (rename Fr _ _ _ _ => F4); (rename News _ _ _ _ => N4)
            refine pop_at F4 (newsOut N4 erow) (UpdF.head (off_ne (.head _))) htp (len_le hrl' hn5 (by decide)) ?_
            intro h13 F13 N13
            clear F4 N4
            have hrows' : StrsAre (rvs.eraseIdx pk) ((st.row.eraseIdx pk).map lowG) := by rw [map_cut]; exact strsCut hrows _
            have hrg' : ∀ i v, (rvs.eraseIdx pk)[i]? = some v → ∃ x t, (st.row.eraseIdx pk)[i]? = some x ∧ x < 6 ∧ v = Value.str (lowG x) t := fun i v hv => by
              obtain ⟨y, t, e1, e2⟩ := hrows'.item i v hv
              rw [List.getElem?_map] at e2
              obtain ⟨x, e3, e4⟩ := Option.map_eq_some_iff.mp e2
              exact ⟨x, t, e3, hO.lt x (List.mem_of_mem_eraseIdx (List.mem_of_getElem? e3)), by rw [e1, ← e4]⟩
            obtain ⟨nm, hnm⟩ : ∃ nm, nm = st.at pk := ⟨_, rfl⟩
            rw [← hnm]
            have hnm6 : nm < 6 := hnm ▸ hO.lt _ (at_mem hpl')
            have e2 := ab2 _ (ab _ hw2 (u32 2)) (u32 2)
            have e2' := off_one e2 rw2.symm
            refine tgen fun tk9 => ?_
            k_steps
            unfold Hold
            (rename Fr _ _ _ _ => F4); (rename News _ _ _ _ => N4)
            k_dflt (refine storeX_C F4 (newsOut2 N4 e2') (c := L1 + 1 + 1) (v₀ := y2) (by rfl) (UpdF.tail rw2 (UpdF.head (off_ne (.head _)))) dw2 ?_)
            intro h14 p2 F14 N14 pd2
            obtain ⟨Y1, hC1⟩ := newsName N14
            have hall := memTo hC1
            have crow := hall _ (.head _)
            have c2 := hall _ (.tail _ (.head _))
            have cb : ∀ p ∈ B2, p.1 ≠ rw → p.1 ≠ L1 + 1 + 1 → p ∈ Y1 := fun p hp h1 h2 => hall _ (.tail _ (.tail _ (off_one (off_one hp h1) h2)))
            rw [hC1] at N14
            clear hall hC1 F4 N4 e2'
            have egn := ab2 _ (ab _ hgone gnt) gnt
            have cgn := cb _ egn gnr gn2
            have c6 := cb _ e6 rw6.symm (neA (a := L1) 6 2 (by decide))
            refine tgen fun tk9 => ?_
            k_steps
            unfold Hold
            (rename Fr _ _ _ _ => F4); (rename News _ _ _ _ => N4)
            refine push_at F4 (newsOut N4 cgn) (UpdF.head (off_ne (.head _))) (by rw [hgones.length, List.length_map, hst, run_gone g way mark i (Nat.le_of_lt hi)]; exact Nat.le_trans (Nat.le_of_lt hi) (by decide)) ?_
            intro h15 F15 N15
            have hgones' : StrsAre (gvs ++ [.str (lowG nm) tp]) ((st.gone ++ [nm]).map lowG) := by rw [List.map_append]; exact strsSnoc hgones
            obtain ⟨Y2, hC2⟩ := newsName N15
            have hall := memTo hC2
            have ggn := hall _ (.head _)
            have gb : ∀ p ∈ Y1, p.1 ≠ gn → p ∈ Y2 := fun p hp h1 => hall _ (.tail _ (off_one hp h1))
            rw [hC2] at N15
            clear hall hC2 F4 N4 egn cgn hgone hgones
            have g2 := gb _ c2 gn2.symm
            have g6 := gb _ c6 (dgn _ d6m)
            have gx2 := gb _ (cb _ ex2 x2r x22) (dgn _ dx2m)
            have gdx2 := gb _ (cb _ edx2 dx2r dx22) (dgn _ ddx2m)
            refine tgen fun tk9 => ?_
            k_steps
            unfold Hold
            have kC2 : Keep [rw, L1 + 1 + 1, gn] B2 Y2 := fun p hp hn => gb _ (cb _ hp (hn _ (.head _)) (hn _ (.tail _ (.head _)))) (hn _ (.tail _ (.tail _ (.head _))))
            have hT3 := hT3 Y2 kC2
            k_dflt (refine C1.use (hdelV W x2 l2 kvs (upG nm) _ _ (up_clean hnm6) hCl hT3) (by k_asm) (by k_asm) (by k_asm) (by k_asm) (by k_asm) (by ktr_room) (by ktr_units) ?_)
            rintro r9 Y3 h' tk' F' N' ⟨hT4, kf, rfl⟩
            rw [lowS_up hnm6] at hT4
            have hT5 : ∀ C, (∀ p ∈ Y3, p.1 ≠ L1 + 1 + 1 + 1 + 1 → p ∈ C) → HasTab W C x2 l2 _ := fun C hC => hT4.apart N' (kf _ (kC2 _ (ab2 _ (ab _ hw4 (u32 4)) (u32 4)) (List.forall_mem_cons.mpr ⟨rw4.symm, List.forall_mem_cons.mpr ⟨neA (a := L1) 4 2 (by decide), List.forall_mem_singleton.mpr gn4.symm⟩⟩)) (List.forall_mem_singleton.mpr l24.symm)) (Odd.cell dw4) l24 (Keep.one hC)
            have sl2 := hT4.choose_spec.choose_spec.list
            have K3 : Keep [232, rw, L1 + 1 + 1, gn, l2] nx Y3 := fun p hp hn => kf _ (kC2 _ (ab2 _ (ab _ hp (hn _ (.head _))) (hn _ (.head _))) (List.forall_mem_cons.mpr ⟨hn _ (.tail _ (.head _)), List.forall_mem_cons.mpr ⟨hn _ (.tail _ (.tail _ (.head _))), List.forall_mem_singleton.mpr (hn _ (.tail _ (.tail _ (.tail _ (.head _)))))⟩⟩)) (List.forall_mem_singleton.mpr (hn _ (.tail _ (.tail _ (.tail _ (.tail _ (.head _)))))))
            have dC3 : ∀ p ∈ d, p ∈ Y3 := fun p hp => K3 p (hbd p hp) (List.forall_mem_cons.mpr ⟨dnt p hp, List.forall_mem_cons.mpr ⟨dnr p hp, List.forall_mem_cons.mpr ⟨dn2 p hp, List.forall_mem_cons.mpr ⟨dgn p hp, List.forall_mem_singleton.mpr (dnl p hp)⟩⟩⟩⟩)
            have hB3 : Base W Y3 sl qs ks n g x1 la (L1 + 1) o1 := hBd.mono dC3
            have s1 := hB3.cell
            have s3 := dC3 _ d3m
            have s5 := dC3 _ d5m
            have s6 := dC3 _ d6m
            have sx2 := dC3 _ dx2m
            have sdx2 := dC3 _ ddx2m
            have s2 := kf _ g2 (List.forall_mem_singleton.mpr l22.symm)
            have s4 := K3 _ hw4 (by walk_at "neAll")
            have sdu := K3 _ hdu (by walk_at "neAll")
            have sgn := kf _ ggn (List.forall_mem_singleton.mpr gnl)
            have srow := kf _ (gb _ crow gnr.symm) (List.forall_mem_singleton.mpr l2r.symm)
            have sx1 := dC3 _ dx1m
            have sdx1 := dC3 _ ddx1m
            refine tgen fun tk9 => ?_
            k_steps
            unfold Hold
            k_dflt (refine C1.use (hallV W x1 la (laidP g) (upG nm) _ _ (up_clean hnm6) hlc hB3.tab) (by k_asm) (by k_asm) (by k_asm) (by k_asm) (by k_asm) (by ktr_room) (by ktr_units) ?_)
            rintro r9 Y4 h' tk' F' N' ⟨tq, tvs, tkk, rfl, htvs, htq, rfl⟩
            rw [lowS_up hnm6, all_laid hnm6] at htvs
            obtain ⟨to, hto⟩ : ∃ to, to = told g nm := ⟨_, rfl⟩
            rw [← hto] at htvs
            refine tgen fun tk9 => ?_
            k_steps
            unfold Hold
            (rename Fr _ _ _ _ => F4); (rename News _ _ _ _ => N4)
            k_dflt (refine storeX_C F4 (newsOut2 N4 s4) (c := L1 + 1 + 1 + 1 + 1) (v₀ := y4) (by rfl) (UpdF.tail (htq _ s4).symm (UpdF.head (off_ne (.head _)))) dw4 ?_)
            intro h16 p4 F16 N16 pd4
            clear F4 N4
            obtain ⟨Y5, hY5⟩ := newsName N16
            have hall := memTo hY5
            have ttq := hall _ (.head _)
            have t4 := hall _ (.tail _ (.head _))
            have k5 : ∀ p ∈ Y3, p.1 ≠ L1 + 1 + 1 + 1 + 1 → p ∈ Y5 := fun p hp hn => hall _ (.tail _ (.tail _ (off_one hp hn)))
            rw [hY5] at N16
            clear hall hY5
            have dY5 : ∀ p ∈ d, p ∈ Y5 := fun p hp => k5 p (dC3 p hp) (dn4 p hp)
            have hB5 : Base W Y5 sl qs ks n g x1 la (L1 + 1) o1 := hBd.mono dY5
            have t1 := hB5.cell
            have t2 := k5 _ s2 (neA (a := L1) 2 4 (by decide))
            refine tgen fun tk9 => ?_
            k_steps
            unfold Hold
            (rename Fr _ _ _ _ => F4)
            k_dflt (refine ListComp_step F4 (by with_unfolding_all rfl) (by decide) (by rfl) (by decide) (by rfl) ?_)
            k_steps
            unfold Hold
            (rename Fr _ _ _ _ => F₃); (rename News _ _ _ _ => N₃); (rename IsRange _ _ _ _ _ _ _ _ => hr3)
            refine ⟨_, _, _, _, _, _, _, 6, _, rfl, rfl, F₃, N₃, hr3, by decide, by decide, size6 (Nat.le_refl 6), ?_⟩
            intro g3
            refine compT_inv (n := 6) (fun i ys nx' => Y5 = nx' ∧ StrsAre ys ((toldUp g nm i).map lowG)) ?_ ?_ _ _ _ _ (Nat.zero_add _) ⟨rfl, .nil⟩
            · rintro jj v ys nx2 I5 oI5 C5 oC5 D5 m5 h5 tk5 E5 hj ⟨t5, rfl⟩ ⟨rfl, hys⟩ hC5 hx5 F' N' off5 ne5
              clear F₃ N₃ hr3
              obtain ⟨jn, hjn⟩ : ∃ jn, jn = 5 - jj := ⟨_, rfl⟩
              have hj6 : jn < 6 := five_lt hjn
              rw [five_sub hjn hj] at hx5
              k_steps
              unfold Hold
              (rename News _ _ _ _ => N')
              have hS5 := hB5.sees
              rw [ord_low]
              refine at6 N' (.tail _ (.tail _ (.tail _ hS5.list))) hnm6 ?_
              have hrow5 := hS5.row nm hnm6
              k_steps
              · (rename (g nm jn) = true => he); (rename News _ _ _ _ => N')
                rw [item_low hj6]
                exact LCg.CompEnd.intro (by k_asm) N' _ (fun _ hp => hp) off5 trivial ⟨rfl, by rw [toldUp_yes (by rw [← hjn]; exact he), List.map_append, ← hjn]; exact strsSnoc hys⟩
              · (rename (g nm jn) = false => he); (rename News _ _ _ _ => N')
                exact LCg.CompEnd.intro (by k_asm) N' _ (fun _ hp => hp) off5 trivial ⟨rfl, by rw [toldUp_no (by rw [← hjn]; exact he)]; exact hys⟩
            · rintro ys nx2 ⟨rfl, hys⟩
              rw [toldUp_6, ← hto] at hys
              clear F₃ N₃ hr3
              k_steps
              unfold Hold
              (rename News _ _ _ _ => N₃)
              have htc : ∀ x ∈ to.map lowG, Clean x := fun x hx => by
                obtain ⟨y, hy, rfl⟩ := List.mem_map.mp hx
                exact low_clean (told_lt (hto ▸ hy))
              refine ne_dataH (reads_list_at (N₃ _ (.tail _ ttq)).1 rfl rfl (StrsAre.reads _ htvs)) (reads_list_at (N₃ _ (.head _)).1 rfl rfl (StrsAre.reads _ hys)) (strs_shaped _ htc) (strs_shaped _ htc) (by ktr_units) ?_
              rw [eqv_strs_self]
              replace N₃ : News _ L1 _ Y5 := fun p hp => N₃ p (.tail _ hp)
              have tx1 := dY5 _ dx1m
              have tdx1 := dY5 _ ddx1m
              clear hys
              refine tgen fun tk9 => ?_
              k_steps
              unfold Hold
              k_dflt (refine C1.use (hgetV W x1 la (laidP g) (upG nm) _ _ (up_clean hnm6) hlc hB5.tab) (by k_asm) (by k_asm) (by k_asm) (by k_asm) (by k_asm) (by ktr_room) (by ktr_units) ?_)
              rintro r9 Y6 h' tk' F' N' ⟨rfl, hr⟩
              rw [lowS_up hnm6, get_laid hnm6, ← hto] at hr
              refine tgen fun tk9 => ?_
              k_steps
              unfold Hold
              (rename Fr _ _ _ _ => F4); (rename News _ _ _ _ => N4)
              refine kmk_add_lit (zs := tvs ++ [.none]) F4 N4 (News.isList N4 (.tail _ ttq)) (News.isList N4 (.head _)) (by rfl) ?_ (by show tvs.length + 1 ≤ _; exact told_size htvs hto)
              intro D6 h17 F17 N17 l17
              clear F4 N4
              k_steps
              unfold Hold
              (rename News _ _ _ _ => N4)
              obtain ⟨v0, hv0, ho0⟩ := first_or htvs
              k_dflt (refine kba_turn (value' := PySem.Expr.Name (PySem.Str.ofString "_") ⟨0, 0, 0, 0⟩) (fun _ => rfl) ?_)
              refine item_at N4 (.head _) (by decide) (by decide) hv0 ?_
              k_steps
              unfold Hold
              refine ne_opt hr ho0 ?_
              clear hr ho0 hv0
              (rename News _ _ _ _ => N4)
              replace N4 : News _ L1 _ Y5 := fun p hp => N4 p (.tail _ (.tail _ hp))
              have t3 := dY5 _ d3m
              have trow := k5 _ srow rw4
              refine tgen fun tk9 => ?_
              k_steps
              unfold Hold
              (rename Fr _ _ _ _ => F4)
              k_dflt (refine LCt.Assign_ListComp_T F4 (by rfl) (by rfl) (by with_unfolding_all rfl) (by decide) (by rfl) (by decide) (by rfl) (by rfl) (by rfl) ?_)
              k_steps
              unfold Hold
              (rename Fr _ _ _ _ => F₃)
              refine LCt.CompSrcT.ledger (ax := rw) (its := (rvs.eraseIdx pk).toArray) (k := rn + 1) rfl F₃ N4 trow (cut_size hrows' hO.len hn5) ?_
              intro g3
              refine compT_inv (n := (rvs.eraseIdx pk).toArray.size) (fun i ys nx' => Y5 = nx' ∧ StrsAre ys ((((st.row.eraseIdx pk).take i).filter fun x => !to.contains x).map lowG)) ?_ ?_ _ _ _ _ (Nat.zero_add _) ⟨rfl, .nil⟩
              · rintro j v ys nx2 I5 oI5 C5 oC5 D5 m5 h5 tk5 E5 hj hv ⟨rfl, hys⟩ hC5 hx5 F' N' off5 ne5
                clear F₃ N4
                obtain ⟨x, tx, hxr, hx6, rfl⟩ := hrg' j v (by rw [← List.getElem?_toArray]; exact hv)
                k_steps
                unfold Hold
                (rename News _ _ _ _ => N')
                refine notin_list_strs (News.isList N' (.tail _ (.tail _ (.tail _ ttq)))) htvs ?_
                rw [any_low]
                obtain ⟨bb, hbb⟩ : ∃ bb, bb = !to.contains x := ⟨_, rfl⟩
                rw [← hbb]
                k_steps
                · (have he : (!to.contains x) = true := by (rw [← hbb]; assumption)); (rename News _ _ _ _ => N')
                  exact LCg.CompEnd.intro (by k_asm) N' _ (fun _ hp => hp) off5 (.inr ⟨_, trow, rfl, _, rfl⟩) ⟨rfl, by rw [take_filter_yes hxr he, List.map_append]; exact strsSnoc hys⟩
                · (have he : (!to.contains x) = false := by (rw [← hbb]; assumption)); (rename News _ _ _ _ => N')
                  exact LCg.CompEnd.intro (by k_asm) N' _ (fun _ hp => hp) off5 (.inr ⟨_, trow, rfl, _, rfl⟩) ⟨rfl, by rw [take_filter_no hxr he]; exact hys⟩
              · rintro ys nx2 ⟨rfl, hys⟩
                rw [show (rvs.eraseIdx pk).toArray.size = (st.row.eraseIdx pk).length from by rw [List.size_toArray, hrows'.length, List.length_map], List.take_length] at hys
                clear F₃ N4
                obtain ⟨ex, hex⟩ : ∃ ex, ex = tu - 1 := ⟨_, rfl⟩
                have hex5 : ex ≤ 5 := ex_le hex htu
                k_steps
                unfold Hold
                rw [tu_pred hex htu hi]
                have hp3 := pow3_ne ex
                k_steps
                unfold Hold
                refine floordiv_int hp3 ?_ (Or.inl (PyProof.noPylong_of_log2 (pow3_log hex5)))
                k_steps
                unfold Hold
                (rename Fr _ _ _ _ => F9); (rename News _ _ _ _ => N9)
                obtain ⟨Dn, hDn⟩ := newsHead N9
                subst hDn
                (with_reducible rename LCg.Off1 _ _ => ho1)
                have hDn := off1_mem ho1
                clear ho1
                obtain ⟨s0, hs0⟩ : ∃ s0, s0 = popS way i st := ⟨_, rfl⟩
                have hO0 : Ok n1 s0 := hs0 ▸ hO.pop
                have hs0r : st.row.eraseIdx pk = s0.row := by rw [hs0, popS, ← hpk]
                have hs0g : st.gone ++ [nm] = s0.gone := by rw [hs0, popS, ← hpk, ← hnm]
                have hs0f : ∀ x, st.wd x = s0.wd x := fun x => by rw [hs0]; rfl
                have hM0 := hM.pop hO (way := way) (i := i)
                rw [← hpk, ← hnm, ← hs0] at hM0
                rw [hs0r] at hrows' hys
                rw [hs0g] at hgones'
                have hKB : Keep [rw, L1 + 1 + 1, gn, l2, L1 + 1 + 1 + 1 + 1] B2 Y5 := fun p hp hn => k5 _ (kf _ (kC2 _ hp (List.forall_mem_cons.mpr ⟨hn _ (.head _), List.forall_mem_cons.mpr ⟨hn _ (.tail _ (.head _)), List.forall_mem_singleton.mpr (hn _ (.tail _ (.tail _ (.head _))))⟩⟩)) (List.forall_mem_singleton.mpr (hn _ (.tail _ (.tail _ (.tail _ (.head _))))))) (hn _ (.tail _ (.tail _ (.tail _ (.tail _ (.head _))))))
                have hL5 := hL3 Y5 hKB
                have tt := hKB _ at2 (by walk_at "neAll")
                have tI := hKB _ (ab2 _ aI hI232.symm) (by walk_at "neAll")
                have hT5' := hT5 Y5 k5
                have tdu := k5 _ sdu du4
                have tgn := k5 _ sgn gn4
                have ntq : ∀ q o, (q, o) ∈ Y3 → tq ≠ q := fun q o h => (htq _ h).symm
                obtain ⟨d2, hd2⟩ : ∃ d2, d2 = off [L1 + 1 + 1, L1 + 1 + 1 + 1 + 1, 232, rw, gn, l2, du] Y5 := ⟨_, rfl⟩
                have dtq : (tq, listOf tvs.toArray tkk) ∈ d2 := hd2 ▸ off_mem ttq (List.forall_mem_cons.mpr ⟨ntq _ _ s2, List.forall_mem_cons.mpr ⟨ntq _ _ s4, List.forall_mem_cons.mpr ⟨ntq _ _ (kf _ (kC2 _ at2 (by walk_at "neAll")) (by walk_at "neAll")), List.forall_mem_cons.mpr ⟨ntq _ _ srow, List.forall_mem_cons.mpr ⟨ntq _ _ sgn, List.forall_mem_cons.mpr ⟨ntq _ _ sl2, List.forall_mem_singleton.mpr (ntq _ _ sdu)⟩⟩⟩⟩⟩⟩)
                have dI : (I, io) ∈ d2 := hd2 ▸ off_mem tI (by walk_at "neAll")
                have dd2 : ∀ p ∈ d, p ∈ d2 := fun p hp => hd2 ▸ off_mem (dY5 p hp) (List.forall_mem_cons.mpr ⟨dn2 p hp, List.forall_mem_cons.mpr ⟨dn4 p hp, List.forall_mem_cons.mpr ⟨dnt p hp, List.forall_mem_cons.mpr ⟨dnr p hp, List.forall_mem_cons.mpr ⟨dgn p hp, List.forall_mem_cons.mpr ⟨dnl p hp, List.forall_mem_singleton.mpr (dnd p hp)⟩⟩⟩⟩⟩⟩)
                obtain ⟨FG, hFG⟩ : ∃ FG : Int, FG = 3 * ((tu : Nat) : Int) - 3 - (((mark : Nat) : Int).fdiv (3 ^ ((ex : Nat) : Int).toNat)).fmod 3 := ⟨_, rfl⟩
                simp only [← hFG] at F9
                as_aux_lemma =>
                  obtain ⟨f, hf⟩ : ∃ f, f = figT mark tu := ⟨_, rfl⟩
                  obtain ⟨wv, hwv⟩ : ∃ wv, wv = way / 6 ^ (i + 1) := ⟨_, rfl⟩
                  have hw6 : ((way / 6 ^ i : Nat) : Int).fdiv 6 = ((wv : Nat) : Int) := by rw [hwv, Int.fdiv_eq_ediv_of_nonneg _ (by decide), Nat.pow_succ, ← Nat.div_div_eq_div_mul]; rfl
                  have hnd : to.Nodup := hto ▸ told_nodup g nm
                  have hto6 : ∀ y ∈ to, y < 6 := fun y hy => told_lt (hto ▸ hy)
                  have htl : tvs.length = to.length := by rw [htvs.length, List.length_map]
                  have htl6 : to.length ≤ 6 := hto ▸ told_len g nm
                  have hB2' : Base W d2 sl qs ks n g x1 la (L1 + 1) o1 := hBd.mono dd2
                  have dnI : ∀ p ∈ d, p.1 ≠ I := fun p hp => hI p (hbd p hp)
                  have dd3 := dd2 _ d3m
                  have dd5 := dd2 _ d5m
                  have dd6 := dd2 _ d6m
                  have ddx2 := dd2 _ dx2m
                  have dddx2 := dd2 _ ddx2m
                  have ddx1 := dd2 _ dx1m
                  have dddx1 := dd2 _ ddx1m
                  have d2Y : ∀ p ∈ d2, p ∈ Y5 := fun p hp => off_sub p (hd2 ▸ hp)
                  have a2 : ∀ p ∈ d2, p.1 ≠ L1 + 1 + 1 := hd2 ▸ off_ne (.head _)
                  have a4 : ∀ p ∈ d2, p.1 ≠ L1 + 1 + 1 + 1 + 1 := hd2 ▸ off_ne (.tail _ (.head _))
                  have at' : ∀ p ∈ d2, p.1 ≠ 232 := hd2 ▸ off_ne (.tail _ (.tail _ (.head _)))
                  have ar : ∀ p ∈ d2, p.1 ≠ rw := hd2 ▸ off_ne (.tail _ (.tail _ (.tail _ (.head _))))
                  have ag : ∀ p ∈ d2, p.1 ≠ gn := hd2 ▸ off_ne (.tail _ (.tail _ (.tail _ (.tail _ (.head _)))))
                  have al : ∀ p ∈ d2, p.1 ≠ l2 := hd2 ▸ off_ne (.tail _ (.tail _ (.tail _ (.tail _ (.tail _ (.head _))))))
                  have ad : ∀ p ∈ d2, p.1 ≠ du := hd2 ▸ off_ne (.tail _ (.tail _ (.tail _ (.tail _ (.tail _ (.tail _ (.head _)))))))
                  have aDn : ∀ p ∈ d2, p.1 ≠ Dn := fun p hp => hDn p (d2Y p hp)
                  have eDl : l2 ≠ Dn := hDn _ hT5'.choose_spec.choose_spec.list
                  have eDr : rw ≠ Dn := hDn _ trow
                  have eDg : gn ≠ Dn := hDn _ tgn
                  have eDt : 232 ≠ Dn := hDn _ tt
                  have eDd : du ≠ Dn := hDn _ tdu
                  have eD2 : @Ne Nat (L1 + 1 + 1) Dn := hDn _ t2
                  have eD4 : @Ne Nat (L1 + 1 + 1 + 1 + 1) Dn := hDn _ t4
                  k_steps
                  unfold Hold
                  (rename Fr _ _ _ _ => F4); (rename News _ _ _ _ => N4)
                  obtain ⟨J, hJ⟩ : ∃ J : Nat → (Str → Option Value) → List (Addr × Obj) → Prop, J = fun t m₁ nx => InV x1 gn Dn wv mark tm tu FG m₁ ∧ Wk W L1 rw gn du l2 x2 d2 (stIn f to s0 t) (6 + 6 * i + t) nx ∧ InP f n1 to s0 t ∧ ∃ vs k, (Dn, listOf (List.toArray vs) k) ∈ nx ∧ StrsAre vs ((nmIn to s0 t).map lowG) := ⟨_, rfl⟩
                  refine Iter_list_my2 (k := tkk) (vs := tvs) J rfl F4 N4 ?_ ?_ ?_ ?_
                  · rw [hJ]; rintro t m nx ⟨-, hW, -⟩; exact hW.base _ dtq
                  · rw [hJ]
                    refine ⟨⟨rfl, ⟨_, (show _ = some (Value.int (((way / 6 ^ i : Nat) : Int).fdiv 6) _) from rfl).trans (congrArg (fun z => some (Value.int z _)) hw6)⟩, rfl, rfl, ⟨_, rfl⟩, rfl, ⟨_, rfl⟩⟩, ⟨⟨_, _, .tail _ t2, pd2⟩, ⟨_, _, .tail _ t4, pd4⟩, ⟨_, .tail _ tt, ⟨hL5.ok, ?_⟩⟩, ⟨_, _, .tail _ trow, hrows'⟩, ⟨_, _, .tail _ tgn, hgones'⟩, ⟨_, Fq, _, .tail _ tdu, hdueq, Nat.le_add_right_of_le hkq, ?_⟩, ⟨_, hT5'.mono fun p hp => .tail _ hp, hM0⟩, fun p hp => .tail _ (d2Y p hp)⟩, inP_start hO0, ⟨_, _, .head _, ?_⟩⟩
                    · intro q hq
                      rcases hL5.made q hq with h | ⟨c2, oc2, vs2, q2, h1, h2, h3, h4, -⟩
                      · exact .inl h
                      · exact .inr ⟨c2, oc2, vs2, q2, h1, .tail _ h2, h3, h4, trivial⟩
                    · intro x hx
                      rw [hFq x hx, hs0f]; rfl
                    · rw [show nmIn to s0 0 = s0.row.filter fun x => !to.contains x from by unfold nmIn; rw [List.take_zero, List.filter_nil, List.append_nil]]
                      exact hys
                  · clear F4 N4
                    (try clear dw4)
                    (try clear dw2)
                    (try clear pd4)
                    (try clear pd2)
                    (try clear hne0)
                    (try clear hfl)
                    (try clear hfi)
                    (try clear hFi)
                    (try clear htl0)
                    (try clear htp)
                    (try clear hCl)
                    (try clear hM0)
                    (try clear hM)
                    (try clear hFq)
                    (try clear hdueq)
                    (try clear hys)
                    (try clear hrows')
                    (try clear hgones')
                    (try clear hgones)
                    (try clear hrows)
                    (try clear hTm)
                    (try clear hps)
                    (try clear hlam)
                    (try clear hbd)
                    (try clear hdu)
                    (try clear hgone)
                    (try clear hrow)
                    (try clear hw4)
                    (try clear hw2)
                    (try clear hbs)
                    (try clear mc1)
                    (try clear mdx2)
                    (try clear mx2)
                    (try clear m6)
                    (try clear m5)
                    (try clear m3)
                    (try clear d2Y)
                    (try clear ntq)
                    (try clear tgn)
                    (try clear tdu)
                    (try clear hT5')
                    (try clear tI)
                    (try clear tt)
                    (try clear hL5)
                    (try clear hKB)
                    (try clear trow)
                    (try clear t3)
                    (try clear tdx1)
                    (try clear tx1)
                    (try clear t2)
                    (try clear t1)
                    (try clear hB5)
                    (try clear dY5)
                    (try clear k5)
                    (try clear t4)
                    (try clear ttq)
                    (try clear sdx1)
                    (try clear sx1)
                    (try clear srow)
                    (try clear sgn)
                    (try clear sdu)
                    (try clear s4)
                    (try clear s2)
                    (try clear sdx2)
                    (try clear sx2)
                    (try clear s6)
                    (try clear s5)
                    (try clear s3)
                    (try clear s1)
                    (try clear hB3)
                    (try clear dC3)
                    (try clear K3)
                    (try clear sl2)
                    (try clear hT5)
                    (try clear kf)
                    (try clear hT4)
                    (try clear kC2)
                    (try clear gdx2)
                    (try clear gx2)
                    (try clear g6)
                    (try clear g2)
                    (try clear gb)
                    (try clear ggn)
                    (try clear c6)
                    (try clear cb)
                    (try clear c2)
                    (try clear crow)
                    (try clear hrg')
                    (try clear hL3)
                    (try clear hT3)
                    (try clear hltl)
                    (try clear hrg)
                    (try clear edu)
                    (try clear erow)
                    (try clear edx2)
                    (try clear ex2)
                    (try clear e2)
                    (try clear e5)
                    (try clear e3)
                    (try clear e6)
                    (try clear hT2)
                    (try clear lams2)
                    (try clear ab2)
                    (try clear at2)
                    (try clear ac)
                    (try clear af)
                    (try clear hcI)
                    (try clear hcf)
                    (try clear hlt)
                    (try clear hother')
                    (try clear hcode')
                    (try clear htr')
                    (try clear hd2')
                    (try clear hd1')
                    (try clear hI_2)
                    (try clear arow)
                    (try clear adx2)
                    (try clear ax2)
                    (try clear a5)
                    (try clear a3)
                    (try clear a6)
                    (try clear hT1)
                    (try clear hlamB)
                    (try clear ab)
                    (try clear at1)
                    (try clear aI)
                    rw [hJ]
                    rintro I2 t v m₁ nx h9 tk9 io2 hio2 hv ⟨hV, hW, hP, ⟨nvs, nk, hnm2, hnms⟩⟩ hI2' F' N'
                    refine qgen fun Qb hQb => ?_
                    obtain ⟨u1, u2, u4, hfr⟩ := hV.fr
                    replace F' := hfr F'
                    obtain ⟨y, uo, rfl, hy⟩ := htvs.item t v hv
                    rw [List.getElem?_map] at hy
                    obtain ⟨o, ho, hoy⟩ := Option.map_eq_some_iff.mp hy
                    subst hoy
                    have ho6 := hto6 o (List.mem_of_getElem? ho)
                    have htb : t < 6 := Nat.lt_of_lt_of_le (List.getElem?_eq_some_iff.mp ho).1 htl6
                    have hO := hP.ok
                    have hlen : ∀ x, ((stIn f to s0 t).fig x).length ≤ i + 1 := fun x => Nat.le_trans (hP.len x) (Nat.succ_le_succ (by rw [hs0]; exact hL x))
                    have hb2 := hW.base
                    have mi3 := hb2 _ dd3
                    have mi5 := hb2 _ dd5
                    have mi6 := hb2 _ dd6
                    have mx2 := hb2 _ ddx2
                    have mdx2 := hb2 _ dddx2
                    obtain ⟨⟨w2', y2', hw2', dw2'⟩, ⟨w4', y4', hw4', dw4'⟩, ⟨ps3, hps3, hlam3⟩, ⟨rvs', rn', hrow', hrowsS⟩, hgoneS, ⟨odS, FS, kS, hduS, hdueS, hkS, hFS⟩, ⟨kvsS, hTS, hMS⟩, -⟩ := hW
                    obtain ⟨sT, hsT⟩ : ∃ sT, sT = stIn f to s0 t := ⟨_, rfl⟩
                    have hstab := hP.stab
                    rw [← hsT] at hO hlen hrowsS hgoneS hFS hMS hstab
                    have hClS := hMS.clean hO (le6 hn5) (fun x => Nat.le_trans (hlen x) (hn8' hi))
                    k_steps
                    unfold Hold
                    k_dflt (refine C1.use (hgetV W x2 l2 kvsS (upG o) _ _ (up_clean ho6) hClS (hTS.mono fun p hp => .tail _ hp)) (by k_asm) (by k_asm) (by k_asm) (by k_asm) (by k_asm) (by ktr_room) (by ktr_units) ?_)
                    rintro r9 B7 h' tk' F' N' ⟨rfl, hr⟩
                    rw [lowS_up ho6, ← lowS_lowG ho6, hMS.get hO ho6] at hr
                    refine tgen fun tk9 => ?_
                    obtain ⟨nx0, hnx0⟩ : ∃ nx0, (I2, io2) :: nx = nx0 := ⟨_, rfl⟩
                    by_cases hin : o ∈ sT.row
                    · rw [if_pos hin] at hr
                      obtain ⟨tr, rfl⟩ := hr
                      k_steps
                      unfold Hold
                      (rename Fr _ _ _ _ => F4); (rename News _ _ _ _ => N4)
                      have hfg := hO.figs o
                      refine Iter_str_my (x := sT.wd o) (fun j m₂ nx2 => nx2 = nx0 ∧ InW x1 gn Dn wv mark tm tu FG (.str (lowG o) uo) (wholeF 0 ((sT.fig o).take j)) m₂) rfl (wordD_ascii hfg) F4 N4 ⟨hnx0, ⟨⟨rfl, ⟨_, rfl⟩, rfl, rfl, ⟨_, rfl⟩, rfl, ⟨_, rfl⟩⟩, rfl, ⟨_, rfl⟩⟩⟩ ?_ ?_
                      · rintro I3 j c u m₂ nx2 h10 tk10 io3 hc ⟨rfl, hV2⟩ hI3 F' N'
                        clear F4 N4
                        refine qgen fun Qc hQc => ?_
                        obtain ⟨v0, v1, v2, v4, hfr2⟩ := hV2.fr
                        replace F' := hfr2 F'
                        obtain ⟨fj, hfj, rfl⟩ := wordD_at hc
                        k_steps
                        (rename News _ _ _ _ => N9)
                        refine hQc _ _ (ForStep.next (by k_asm) N9 (news₂ := nx2) (fun _ hp => hp) hI3 ⟨rfl, ⟨⟨rfl, ⟨_, rfl⟩, rfl, rfl, ⟨_, rfl⟩, rfl, ⟨_, rfl⟩⟩, rfl, ⟨_, (show _ = some (Value.int (16 * ((wholeF 0 ((sT.fig o).take j) : Nat) : Int) + ((65 + fj : Nat) : Int) - 65) _) from rfl).trans (congrArg (fun z => some (Value.int z _)) (whole_int hfj))⟩⟩⟩)
                      · rintro m₂ nx2 h10 tk10 ⟨rfl, hV2⟩ F' N'
                        clear F4 N4
                        subst hnx0
                        rw [show (sT.wd o).cps.size = _ from wordD_size (sT.fig o), List.take_length] at hV2
                        obtain ⟨v0, v1, v2, v4, hfr2⟩ := hV2.fr
                        replace F' := hfr2 F'
                        replace N' : News _ L1 h10 ((I2, io2) :: nx) := N'
                        dsimp only
                        k_steps
                        unfold Hold
                        (rename Fr _ _ _ _ => F4); (rename News _ _ _ _ => N4)
                        obtain ⟨num, hnum⟩ : ∃ num, num = wholeF 0 (sT.fig o) := ⟨_, rfl⟩
                        rw [← hnum] at F4
                        have Nn : News _ L1 _ nx := fun p hp => N4 p (.tail _ hp)
                        have hI2r : I2 ≠ rw := (hI2' _ hrow').symm
                        have hn1' : 1 ≤ n1 := by rw [← hO.len]; exact List.length_pos_of_mem hin
                        have htu2 : 2 ≤ tu := tu_two htu hn1' hn1
                        have hf15 : 1 ≤ f ∧ f ≤ 15 := hf ▸ (by have := fig_ok (mark := mark) (i := i) (i_lt5 hn1' hn1); rw [← htu] at this; exact this)
                        have hFf : FG = ((f : Nat) : Int) := by rw [hFG, hf]; exact figT_int htu2 (Nat.lt_succ_of_le (htu ▸ Nat.sub_le 6 i)) hex
                        have hl6 : rvs'.length ≤ 6 := by rw [hrowsS.length, List.length_map, hO.len]; exact le6 hn5
                        obtain ⟨jx, hj1, hj2, hj3⟩ := low_idx hin
                        refine remove_str (x := lowG o) F4 (newsOut2 N4 hrow') (UpdF.tail hI2r (UpdF.head (off_ne (.head _)))) hrowsS hj1 hj2 (Nat.le_trans hl6 (by decide)) ?_
                        intro h11 F11 N11
                        clear F4 N4
                        have hrows2 : StrsAre (rvs'.eraseIdx jx) ((sT.row.erase o).map lowG) := by rw [← hj3]; exact strsCut hrowsS _
                        obtain ⟨Z1, hZ1⟩ := newsName N11
                        have hall := memTo hZ1
                        have z1row := hall _ (.tail _ (.head _))
                        have z1 : ∀ p ∈ nx, p.1 ≠ rw → p ∈ Z1 := fun p hp hn => hall _ (.tail _ (.tail _ (off_one hp hn)))
                        have z1I := hall _ (.head _)
                        rw [hZ1] at N11
                        have hTZ1 : HasTab W Z1 x2 l2 kvsS := hTS.apart Nn hrow' (Odd.list _ _) l2r (Keep.one z1)
                        have hLz : ∀ C, Keep [rw, l2] nx C → Lams (fun _ => True) ps3 C := fun C hC => hlam3.keeps Nn (List.forall_mem_cons.mpr ⟨⟨_, hrow', nofun⟩, List.forall_mem_singleton.mpr ⟨_, hTS.choose_spec.choose_spec.list, nofun⟩⟩) hC
                        clear hall hZ1 Nn
                        have z1x2 := z1 _ mx2 x2r
                        have z1dx2 := z1 _ mdx2 dx2r
                        have z16 := z1 _ mi6 rw6.symm
                        refine tgen fun tk9 => ?_
                        k_steps
                        unfold Hold
                        have hnb : 16 * num + f < 16 ^ 16 := hnum ▸ num_lt hfg (Nat.le_trans (hlen o) (i1_7 hi)) hf15
                        k_dflt (refine C1.use (int2ap W _ _ (by rw [hFf, sign_abs]; exact hnb) Z1) (by k_asm) (by k_asm) (by k_asm) (by k_asm) (by k_asm) (by ktr_room) (by ktr_units) ?_)
                        rintro r9 B7 h' tk' F' N' ⟨rfl, tb3, rfl⟩
                        rw [show ((1 - 2 * (((tu : Nat) : Int).fmod 2)) * (16 * ((num : Nat) : Int) + FG)).natAbs = 16 * num + f from by rw [hFf]; exact sign_abs _ _ _]
                        clear N11 F11
                        refine tgen fun tk9 => ?_
                        k_steps
                        unfold Hold
                        refine decode_hex (num_ne hf15) hnb fun td kd => ?_
                        rw [show hexS (16 * num + f) = wordD (sT.fig o ++ [f]) from by rw [hnum, ← whole_snoc, hexS_word fun x hx => (List.mem_append.mp hx).elim (hfg x) fun h => by rw [List.mem_singleton.mp h]; exact hf15]]
                        have hwc : Clean (wordD (sT.fig o ++ [f])) := wordD_clean (fun x hx => (List.mem_append.mp hx).elim (hfg x) fun h => by rw [List.mem_singleton.mp h]; exact hf15) (by rw [List.length_append]; exact Nat.succ_le_succ (Nat.le_trans (hlen o) (i1_7 hi)))
                        clear hnb hnum
                        refine tgen fun tk9 => ?_
                        k_steps
                        unfold Hold
                        k_dflt (refine' ksp_setItem ?F ?X ?I ?hQ ?hS ?hF ?_; (case F => k_asm); (case X => k_asm); (case I => k_inst); (case hS => k_is); (case hF => k_is); (case hQ => k_is))
                        k_dflt (refine C1.use (hsetV W x2 l2 kvsS (lowG o) (wordD (sT.fig o ++ [f])) _ _ Z1 (low_clean ho6) hwc hClS hTZ1) (by k_asm) (by k_asm) (by k_asm) (by k_asm) (by k_asm) (by ktr_room) (by ktr_units) ?_)
                        rintro r9 Z2 h' tk' F' N' ⟨hTZ2, kz2, rfl⟩
                        rw [lowS_lowG ho6] at hTZ2
                        have hMS2 := hMS.put hO hf15 hin
                        obtain ⟨s1, hs1⟩ : ∃ s1, s1 = put1 f sT o := ⟨_, rfl⟩
                        obtain ⟨kv2, hkv2⟩ : ∃ kv2, kv2 = List.filter (fun kv => lowS kv.fst != lowG o) kvsS ++ [(lowG o, wordD (sT.fig o ++ [f]))] := ⟨_, rfl⟩
                        rw [← hs1, ← hkv2] at hMS2
                        rw [← hkv2] at hTZ2
                        have hO2 : Ok n1 s1 := hs1 ▸ hO.put hf15
                        have hlen2 : ∀ x, (s1.fig x).length ≤ i + 2 := fun x => by
                          rw [hs1, put_fig]
                          have := hlen x
                          split
                          · rw [List.length_append]; exact Nat.succ_le_succ this
                          · exact Nat.le_succ_of_le this
                        have hCl2 := hMS2.clean hO2 (le6 hn5) (fun x => Nat.le_trans (hlen2 x) (hn8'' hi))
                        have hw1 : ∀ x, s1.wd x = (markS f sT o).wd x := fun x => hs1 ▸ wd_mark hin x
                        have hr1 : s1.row = (markS f sT o).row.insertIdx (placeOf (markS f sT o) ((markS f sT o).wd o)) o := hs1 ▸ row_mark hin
                        have hwo : s1.wd o = wordD (sT.fig o ++ [f]) := by unfold St.wd; rw [hs1, put_fig, if_pos ⟨rfl, hin⟩]
                        have hpr : s1.row.Perm sT.row := hs1 ▸ put_row hO hf15
                        clear hkv2
                        have z2 : ∀ p ∈ Z1, p.1 ≠ l2 → p ∈ Z2 := fun p hp hn => kz2 _ hp (List.forall_mem_singleton.mpr hn)
                        have kz12 : Keep [rw, l2] nx Z2 := fun p hp hn => z2 _ (z1 _ hp (hn _ (.head _))) (hn _ (.tail _ (.head _)))
                        have hlZ2 := hLz Z2 kz12
                        have z26 := z2 _ z16 l26.symm
                        have z2x2 := z2 _ z1x2 x2l
                        have z2dx2 := z2 _ z1dx2 dx2l
                        have z2row := z2 _ z1row l2r.symm
                        have z2t : (232, tabObj ps3) ∈ Z2 := z2 _ (z1 _ hps3 rwt.symm) l2t.symm
                        have z2I : (I2, io2) ∈ Z2 := z2 _ z1I (hI2' _ hTS.choose_spec.choose_spec.list).symm
                        have z23 := kz12 _ mi3 (by walk_at "neAll")
                        clear z16 z1x2 z1dx2 z1row hTZ1 hLz
                        refine tgen fun tk9 => ?_
                        k_steps
                        unfold Hold
                        (rename Fr _ _ _ _ => F4); (rename News _ _ _ _ => N4)
                        k_dflt (refine' klaBoth_K (fun _ => True) hlZ2.ok ?mk3 ?av3 ?F3 ?N3 ?T3 ?C3 ?cd3 ?U3 ?cl3 ?_)
                        case F3 => k_asm
                        case N3 => exact newsOut N4 z2t
                        case T3 => k_asm
                        case C3 => kn_code
                        case cd3 => exact rfl
                        case U3 => exact UpdF.head (off_ne (.head _))
                        case cl3 => exact rfl
                        case mk3 => exact hlZ2.toMk (by decide) N4 z2t (fun p hp hn => .tail _ (off_one hp hn))
                        case av3 => exact fun _ _ => trivial
                        intro f3 c3' oc3 vs3 tq3 ctv3 h' tk' ps4 F' N' hd1' hd2' htr' hcode' hother' hcI hlt hcf
                        (try dsimp only at N')
                        obtain ⟨B3, hB3⟩ := newsName N'
                        have hall := memTo hB3
                        have af := hall _ (.head _)
                        have ac := hall _ (.tail _ (.head _))
                        have at3 := hall _ (.tail _ (.tail _ (.head _)))
                        have ab3 : ∀ p ∈ Z2, p.1 ≠ 232 → p ∈ B3 := fun p hp hn => hall _ (.tail _ (.tail _ (.tail _ (off_one hp hn))))
                        have lams3 := hlZ2.next (by decide) N4 z2t hd1' hd2' htr' hcode' hother' ac trivial ab3
                        have hTB3 : HasTab W B3 x2 l2 kv2 := hTZ2.apart N4 z2t (Odd.tab _) l2t (Keep.one ab3)
                        rw [hB3] at N'
                        clear hall hB3 N4 F4 htr' hcode' hother' hlt hlZ2 hTZ2
                        have w6 := ab3 _ z26 (u32 6)
                        have wx2 := ab3 _ z2x2 x2t
                        have wdx2 := ab3 _ z2dx2 dx2t
                        have wrow := ab3 _ z2row rwt
                        have w3 := ab3 _ z23 (u32 3)
                        clear z26 z2x2 z2dx2 z2row z23
                        have hlamC : ∀ x t, x ∈ (markS f sT o).row ∨ x = o → C1 W (.ref f3) [.str (lowG x) t] [] 20 B3 (fun n r => B3 = n ∧ ∃ t', r = .str ((markS f sT o).wd x) t') := by
                          intro x t hx
                          have hxr : x ∈ s1.row := hpr.mem_iff.mpr (hx.elim (fun h => List.mem_of_mem_erase h) fun h => h ▸ hin)
                          clear ret hd hu B F X N T N' F'
                          unfold C1
                          intro p' loose' mean' mg' mb' dp' un' gd' cn' nm'' ig' ic' mr' a' ccd' cl' outer' A₀' base' h₀' L₂ m' s' Q' E' B F X N T hd hu ret
                          refine wpAny_call ?_
                          k_dflt kla_enter
                          k_steps
                          unfold Hold
                          k_dflt (refine C1.use (hgetV W x2 l2 kv2 (lowG x) t _ (low_clean (hO2.lt x hxr)) hCl2 hTB3) (by k_asm) (by k_asm) (by k_asm) (by k_asm) (by k_asm) (by ktr_room) (by ktr_units) ?_)
                          rintro r9 B7 h' tk' F' N' ⟨rfl, hr⟩
                          rw [hMS2.get hO2 (hO2.lt x hxr), if_pos hxr, hw1] at hr
                          obtain ⟨tr, rfl⟩ := hr
                          k_steps
                          exact ret _ _ _ _ (by k_asm) (by k_asm) ⟨rfl, _, rfl⟩
                        k_steps
                        unfold Hold
                        (rename News _ _ _ _ => N4)
                        have hTf : ∀ C, Keep [rw] B3 C → HasTab W C x2 l2 kv2 := fun C hC => hTB3.apart N4 wrow (Odd.list _ _) l2r hC
                        have hLf : ∀ C, Keep [rw] B3 C → Lams (fun _ => True) ps4 C := fun C hC => lams3.keeps N4 (List.forall_mem_singleton.mpr ⟨_, wrow, nofun⟩) hC
                        k_dflt (refine C1.use (ins_row W f3 rw (rvs'.eraseIdx jx) _ (markS f sT o) o _ 20 B3 N4 wrow hrows2 (Nat.le_trans (List.length_erase_le ..) (by rw [hO.len]; exact le6 hn5)) ⟨_, _, _, _, af⟩ hlamC) (by k_asm) (by k_asm) (by k_asm) (by k_asm) (by k_asm) (by ktr_room) (by ktr_units) ?_)
                        rintro r9 Z4 h' tk' F' N' ⟨⟨vs9, k9, hr9, hs9⟩, kr9, rfl⟩
                        rw [← hr1] at hs9
                        clear hlamC N4 hd1' hd2' ac hcf
                        have hT4 := hTf Z4 kr9
                        have hL4 := hLf Z4 kr9
                        have kz4 : Keep [rw, l2, 232] nx Z4 := fun p hp hn => kr9 _ (ab3 _ (kz12 p hp (List.forall_mem_cons.mpr ⟨hn _ (.head _), List.forall_mem_singleton.mpr (hn _ (.tail _ (.head _)))⟩)) (hn _ (.tail _ (.tail _ (.head _))))) (List.forall_mem_singleton.mpr (hn _ (.head _)))
                        have y5 := kz4 _ mi5 (by walk_at "neAll")
                        have yx2 := kz4 _ mx2 (by walk_at "neAll")
                        have yt := kr9 _ at3 (by walk_at "neAll")
                        have yI := kr9 _ (ab3 _ z2I (hI2' _ hps3).symm) (List.forall_mem_singleton.mpr hI2r)
                        have ydu := kz4 _ hduS (by walk_at "neAll")
                        have yDn := kz4 _ hnm2 (by walk_at "neAll")
                        clear hTf hLf hTB3 lams3 w6 wx2 wdx2 wrow w3 ab3 z2 kz12 z2t z2I z1 kz2 kr9 at3 af z1I
                        refine tgen fun tk9 => ?_
                        k_steps
                        unfold Hold
                        (rename News _ _ _ _ => N4)
                        refine due_at N4 ydu hdne hdueS (hFS o ho6) fun td2 kd2 => ?_
                        refine tgen fun tk9 => ?_
                        k_steps
                        unfold Hold
                        rw [chr_nat hFf]
                        refine add_str (fun td3 kd3 => ?_) (by show (wordD (sT.fig o)).cps.size + 1 ≤ _; rw [wordD_size]; exact size8 (Nat.succ_le_succ (Nat.le_trans (hlen o) (i1_7 hi))))
                        rw [show sT.wd o ++ (⟨#[65 + f]⟩ : Str) = wordD (sT.fig o ++ [f]) from word_add _ _]
                        refine tgen fun tk9 => ?_
                        k_steps
                        unfold Hold
                        (rename Fr _ _ _ _ => F4); (rename News _ _ _ _ => N4)
                        refine due_set F4 (newsOut N4 ydu) (UpdF.head (off_ne (.head _))) hdueS (due_room hkS hi htb) ?_
                        intro h12 od9 tk12 F12 N12 hdue9
                        obtain ⟨Z5, hZ5⟩ := newsName N12
                        have hall := memTo hZ5
                        have xdu := hall _ (.head _)
                        have z5 : ∀ p ∈ Z4, p.1 ≠ du → p ∈ Z5 := fun p hp hn => hall _ (.tail _ (off_one hp hn))
                        have hT5 := hT4.due N4 yx2 (dnd _ ddx2m) ydu hdueS (Keep.one z5)
                        have hL5 := hL4.keep N4 ydu hdueS.fields z5
                        rw [hZ5] at N12
                        have xDn := z5 _ yDn eDd.symm
                        have xt := z5 _ yt dut.symm
                        have xI := z5 _ yI (hI2' _ hduS).symm
                        clear hall hZ5 F4 N4 hT4 hL4
                        refine tgen fun tk9 => ?_
                        k_steps
                        unfold Hold
                        (rename Fr _ _ _ _ => F4); (rename News _ _ _ _ => N4)
                        refine push_at F4 (newsOut N4 xDn) (UpdF.head (off_ne (.head _))) (by rw [hnms.length, List.length_map]; exact Nat.le_trans (nodup_sub hstab.nodup (m := sT.row) hstab.sub) (by rw [hO.len]; exact Nat.le_trans hn5 (by decide))) ?_
                        intro h13 F13 N13
                        obtain ⟨Z6, hZ6⟩ := newsName N13
                        have hall := memTo hZ6
                        have qDn := hall _ (.head _)
                        have z6 : ∀ p ∈ Z5, p.1 ≠ Dn → p ∈ Z6 := fun p hp hn => hall _ (.tail _ (off_one hp hn))
                        have hT6 := hT5.apart N4 xDn (Odd.list _ _) eDl (Keep.one z6)
                        have hL6 := hL5.keep N4 xDn nofun z6
                        rw [hZ6] at N13
                        have qI := z6 _ xI (hI2' _ hnm2).symm
                        have qt := z6 _ xt eDt
                        have qdu := z6 _ xdu eDd
                        have qrow := z6 _ (z5 _ hr9 dur.symm) eDr
                        have kz6 : Keep [rw, l2, 232, du, Dn] nx Z6 := fun p hp hn => z6 _ (z5 _ (kz4 p hp (List.forall_mem_cons.mpr ⟨hn _ (.head _), List.forall_mem_cons.mpr ⟨hn _ (.tail _ (.head _)), List.forall_mem_singleton.mpr (hn _ (.tail _ (.tail _ (.head _))))⟩⟩)) (hn _ (.tail _ (.tail _ (.tail _ (.head _)))))) (hn _ (.tail _ (.tail _ (.tail _ (.tail _ (.head _))))))
                        clear hall hZ6 F4 N4 hT5 hL5 xDn xt xI xdu z5 kz4
                        k_steps
                        (rename News _ _ _ _ => N9)
                        have kz7 : Keep [rw, l2, 232, du, Dn] nx (off [I2] Z6) := fun p hp hn => off_one (kz6 p hp hn) (hI2' p hp)
                        have e1 : stIn f to s0 (t + 1) = s1 := by rw [stIn_succ ho, ← hsT, hs1]
                        refine hQb _ _ (ForStep.next (by k_asm) N9 (news₂ := off [I2] Z6) (List.forall_mem_cons.mpr ⟨qI, fun p hp => off_sub p hp⟩) (off_ne (.head _)) ⟨⟨rfl, ⟨_, rfl⟩, rfl, rfl, ⟨_, rfl⟩, rfl, ⟨_, rfl⟩⟩, ?_, inP_yes hnd hf15 hP ho (hsT ▸ hin), ⟨_, _, off_one qDn (show Dn ≠ I2 from hI2' _ hnm2), ?_⟩⟩)
                        · rw [e1]
                          refine ⟨⟨_, _, kz7 _ hw2' (by walk_at "neAll"), dw2'⟩, ⟨_, _, kz7 _ hw4' (by walk_at "neAll"), dw4'⟩, ⟨_, off_one qt (show 232 ≠ I2 from hI2' _ hps3), hL6.drop N9 qI (fun vs q tq h1 h2 => ?_)⟩, ⟨_, _, off_one qrow (show rw ≠ I2 from hI2' _ hrow'), hs9⟩, ?_, ⟨_, _, _, off_one qdu (show du ≠ I2 from hI2' _ hduS), hdue9, Nat.succ_le_succ hkS, fun x hx => ?_⟩, ⟨kv2, hT6.apart N9 qI (Odd.iter hio2) (hI2' _ hTS.choose_spec.choose_spec.list) (Keep.one fun p hp hn => off_one hp hn), hMS2⟩, fun p hp => kz7 _ (hb2 p hp) ?_⟩
                          · rw [hio2.2] at h1
                            obtain rfl := Data.fields.inj h1
                            cases h2
                          · obtain ⟨gv, gk, hg1, hg2⟩ := hgoneS
                            exact ⟨gv, gk, kz7 _ hg1 (by walk_at "neAll"), by rw [hs1, put_gone]; exact hg2⟩
                          · unfold setF
                            by_cases e : x = o
                            · subst e; rw [if_pos rfl, hwo]
                            · rw [if_neg fun h => e (lowG_inj h), hFS x hx]
                              unfold St.wd
                              rw [hs1, put_fig, if_neg fun h => e h.1]
                          · exact List.forall_mem_cons.mpr ⟨ar p hp, List.forall_mem_cons.mpr ⟨al p hp, List.forall_mem_cons.mpr ⟨at' p hp, List.forall_mem_cons.mpr ⟨ad p hp, List.forall_mem_singleton.mpr (aDn p hp)⟩⟩⟩⟩
                        · rw [nm_yes ho (hP.row.mem_iff.mp (hsT ▸ hin)), List.map_append]
                          exact strsSnoc hnms
                    · rw [if_neg hin] at hr
                      obtain rfl : r9 = .none := hr
                      k_steps
                      (rename News _ _ _ _ => N9)
                      have e1 : stIn f to s0 (t + 1) = sT := by rw [stIn_succ ho, ← hsT, put_no hin]
                      refine hQb _ _ (ForStep.next (by k_asm) N9 (news₂ := nx) (fun _ hp => hp) hI2' ⟨⟨rfl, ⟨_, rfl⟩, rfl, rfl, ⟨_, rfl⟩, rfl, ⟨_, rfl⟩⟩, ?_, inP_no hP ho (hsT ▸ hin), ⟨nvs, nk, hnm2, ?_⟩⟩)
                      · rw [e1]
                        exact ⟨⟨_, _, hw2', dw2'⟩, ⟨_, _, hw4', dw4'⟩, ⟨_, hps3, hlam3⟩, ⟨_, _, hrow', hrowsS⟩, hgoneS, ⟨_, _, _, hduS, hdueS, Nat.le_succ_of_le hkS, hFS⟩, ⟨_, hTS, hMS⟩, hb2⟩
                      · rw [nm_no ho fun hm => hin (hsT ▸ hP.row.mem_iff.mpr hm)]
                        exact hnms
                  · clear F4 N4
                    (try clear dw4)
                    (try clear dw2)
                    (try clear pd4)
                    (try clear pd2)
                    (try clear hne0)
                    (try clear hfl)
                    (try clear hfi)
                    (try clear hFi)
                    (try clear htl0)
                    (try clear htp)
                    (try clear hCl)
                    (try clear hM0)
                    (try clear hM)
                    (try clear hFq)
                    (try clear hdueq)
                    (try clear hys)
                    (try clear hrows')
                    (try clear hgones')
                    (try clear hgones)
                    (try clear hrows)
                    (try clear hTm)
                    (try clear hps)
                    (try clear hlam)
                    (try clear hbd)
                    (try clear hdu)
                    (try clear hgone)
                    (try clear hrow)
                    (try clear hw4)
                    (try clear hw2)
                    (try clear hbs)
                    (try clear mc1)
                    (try clear mdx2)
                    (try clear mx2)
                    (try clear m6)
                    (try clear m5)
                    (try clear m3)
                    (try clear d2Y)
                    (try clear ntq)
                    (try clear tgn)
                    (try clear tdu)
                    (try clear hT5')
                    (try clear tI)
                    (try clear tt)
                    (try clear hL5)
                    (try clear hKB)
                    (try clear trow)
                    (try clear t3)
                    (try clear tdx1)
                    (try clear tx1)
                    (try clear t2)
                    (try clear t1)
                    (try clear hB5)
                    (try clear dY5)
                    (try clear k5)
                    (try clear t4)
                    (try clear ttq)
                    (try clear sdx1)
                    (try clear sx1)
                    (try clear srow)
                    (try clear sgn)
                    (try clear sdu)
                    (try clear s4)
                    (try clear s2)
                    (try clear sdx2)
                    (try clear sx2)
                    (try clear s6)
                    (try clear s5)
                    (try clear s3)
                    (try clear s1)
                    (try clear hB3)
                    (try clear dC3)
                    (try clear K3)
                    (try clear sl2)
                    (try clear hT5)
                    (try clear kf)
                    (try clear hT4)
                    (try clear kC2)
                    (try clear gdx2)
                    (try clear gx2)
                    (try clear g6)
                    (try clear g2)
                    (try clear gb)
                    (try clear ggn)
                    (try clear c6)
                    (try clear cb)
                    (try clear c2)
                    (try clear crow)
                    (try clear hrg')
                    (try clear hL3)
                    (try clear hT3)
                    (try clear hltl)
                    (try clear hrg)
                    (try clear edu)
                    (try clear erow)
                    (try clear edx2)
                    (try clear ex2)
                    (try clear e2)
                    (try clear e5)
                    (try clear e3)
                    (try clear e6)
                    (try clear hT2)
                    (try clear lams2)
                    (try clear ab2)
                    (try clear at2)
                    (try clear ac)
                    (try clear af)
                    (try clear hcI)
                    (try clear hcf)
                    (try clear hlt)
                    (try clear hother')
                    (try clear hcode')
                    (try clear htr')
                    (try clear hd2')
                    (try clear hd1')
                    (try clear hI_2)
                    (try clear arow)
                    (try clear adx2)
                    (try clear ax2)
                    (try clear a5)
                    (try clear a3)
                    (try clear a6)
                    (try clear hT1)
                    (try clear hlamB)
                    (try clear ab)
                    (try clear at1)
                    (try clear aI)
                    rw [hJ]
                    clear hJ
                    rintro m₁ nx h9 tk9 ⟨hV, hW, hP, ⟨nvs, nk, hnm2, hnms⟩⟩ F' N'
                    obtain ⟨u1, u2, u4, hfr⟩ := hV.fr
                    replace F' := hfr F'
                    replace N' : News _ L1 h9 nx := N'
                    obtain ⟨sE, hsE⟩ : ∃ sE, sE = stIn f to s0 tvs.length := ⟨_, rfl⟩
                    have eR : sE = runS g way mark (i + 1) := by
                      show _ = turnS g way mark i (runS g way mark i)
                      rw [hsE, htl, ← hst]
                      unfold stIn turnS
                      rw [List.take_length, ← hpk, ← hnm, ← hto, ← hs0, ← htu, ← hf]
                    have hO := hP.ok
                    have hstR := fun {p} => sort_row hP (Nat.le_of_eq htl.symm) (p := p)
                    have hnmN := hP.stab.nodup
                    have hnmS := hP.stab.sub
                    obtain ⟨nmE, hnmE⟩ : ∃ nmE, nmE = nmIn to s0 tvs.length := ⟨_, rfl⟩
                    rw [← hsE] at hO hW hstR hnmS
                    rw [← hnmE] at hnms hstR hnmN hnmS
                    have hnmL : nmE.length = n1 := by rw [hnmE, ← (inP_end hP (Nat.le_of_eq htl.symm)).length_eq]; exact hP.ok.len
                    have hlen : ∀ x, (sE.fig x).length ≤ i + 1 := fun x => by rw [eR]; exact run_len g way mark (i + 1) hi x
                    have hb2 := hW.base
                    have mi3 := hb2 _ dd3
                    have mi5 := hb2 _ dd5
                    have mi6 := hb2 _ dd6
                    have mx2 := hb2 _ ddx2
                    have mdx2 := hb2 _ dddx2
                    have mI := hb2 _ dI
                    obtain ⟨⟨w2', y2', hw2', dw2'⟩, ⟨w4', y4', hw4', dw4'⟩, ⟨ps3, hps3, hlam3⟩, ⟨rvs', rn', hrow', hrowsS⟩, hgoneS, ⟨odS, FS, kS, hduS, hdueS, hkS, hFS⟩, ⟨kvsS, hTS, hMS⟩, -⟩ := hW
                    have hl5 : rvs'.length = n1 := by rw [hrowsS.length, List.length_map, hO.len]
                    clear hP hV hfr
                    dsimp only
                    k_steps
                    unfold Hold
                    (rename Fr _ _ _ _ => F4); (rename News _ _ _ _ => N4)
                    k_dflt (refine' klaBoth_K (fun _ => True) hlam3.ok ?mk4 ?av4 ?F4 ?N4 ?T4 ?C4 ?cd4 ?U4 ?cl4 ?_)
                    case F4 => k_asm
                    case N4 => exact newsOut N4 hps3
                    case T4 => k_asm
                    case C4 => kn_code
                    case cd4 => exact rfl
                    case U4 => exact UpdF.head (off_ne (.head _))
                    case cl4 => exact rfl
                    case mk4 => exact hlam3.toMk (by decide) N4 hps3 (fun p hp hn => .tail _ (off_one hp hn))
                    case av4 => exact fun _ _ => trivial
                    intro f4 c4' oc4 vs4 tq4 ctv4 h' tk' ps4 F' N' hd1' hd2' htr' hcode' hother' hcI hlt hcf
                    (try dsimp only at N')
                    obtain ⟨B4, hB4⟩ := newsName N'
                    have hall := memTo hB4
                    have af4 := hall _ (.head _)
                    have ac4 := hall _ (.tail _ (.head _))
                    have at4 := hall _ (.tail _ (.tail _ (.head _)))
                    have ab4 : ∀ p ∈ nx, p.1 ≠ 232 → p ∈ B4 := fun p hp hn => hall _ (.tail _ (.tail _ (.tail _ (off_one hp hn))))
                    have lams4 := hlam3.next (by decide) N4 hps3 hd1' hd2' htr' hcode' hother' ac4 trivial ab4
                    rw [hB4] at N'
                    have hTB4 : HasTab W B4 x2 l2 kvsS := hTS.apart N4 hps3 (Odd.tab _) l2t (Keep.one ab4)
                    clear hall hB4 N4 F4 htr' hcode' hother' hlt
                    have w5 := ab4 _ mi5 (u32 5)
                    have w3 := ab4 _ mi3 (u32 3)
                    have wdu := ab4 _ hduS dut
                    have wrow := ab4 _ hrow' rwt
                    have hlamD : ∀ nws, (∀ p ∈ B4, p ∈ nws) → ∀ x t, x < 6 → C1 W (.ref f4) [.str (lowG x) t] [] 6 nws (fun n r => nws = n ∧ ∃ t', r = .str (sE.wd x) t') := by
                      intro nws hsub x t hx
                      replace af4 := hsub _ af4
                      replace ac4 := hsub _ ac4
                      replace w5 := hsub _ w5
                      replace wdu := hsub _ wdu
                      clear ret hd hu B F X N T N' F'
                      unfold C1
                      intro p' loose' mean' mg' mb' dp' un' gd' cn' nm'' ig' ic' mr' a' ccd' cl' outer' A₀' base' h₀' L₂ m' s' Q' E' B F X N T hd hu ret
                      refine wpAny_call ?_
                      k_dflt kla_enter
                      k_steps
                      unfold Hold
                      (rename News _ _ _ _ => N5)
                      refine due_at N5 wdu hdne hdueS (hFS x hx) fun tu kk => ?_
                      k_steps
                      exact ret _ _ _ _ (by k_asm) (by k_asm) ⟨rfl, _, rfl⟩
                    refine tgen fun tk9 => ?_
                    k_steps
                    unfold Hold
                    (rename Fr _ _ _ _ => F4); (rename News _ _ _ _ => N4)
                    refine sorted_keyed (key := fun j => sE.wd (sE.row.getD j 0)) F4 N4 wrow (by rw [hl5]; exact hn5) ?K1 ?_
                    case K1 =>
                      intro j v hv nws h tk hsub Fq Nq Qq hQq
                      obtain ⟨y, ty, rfl, hy⟩ := hrowsS.item j v hv
                      rw [List.getElem?_map] at hy
                      obtain ⟨x, hx, rfl⟩ := Option.map_eq_some_iff.mp hy
                      refine C1.use (hlamD nws hsub x ty (hO.lt x (List.mem_of_getElem? hx))) (by k_asm) Fq (by k_asm) Nq (by k_asm) (by ktr_room) (by ktr_units) ?_
                      rintro r n' h' tk' F' N' ⟨rfl, t', rfl⟩
                      rw [show x = sE.row.getD j 0 from by rw [List.getD, hx]; rfl]
                      exact hQq t' h' tk' F' N'
                    intro D1 p1 q1 h' tk' F' N' lD1 pp1 ps1
                    clear hlamD hd1' hd2' hcf ac4 af4
                    rw [hl5, ← hO.len] at pp1
                    have ss1 := sort_self hO pp1 ps1
                    have sv1 := strsPick hrowsS (p := p1) fun j hj => List.mem_range.mp (pp1.mem_iff.mp hj)
                    rw [ss1] at sv1
                    refine tgen fun tk9 => ?_
                    k_steps
                    unfold Hold
                    (rename Fr _ _ _ _ => F4); (rename News _ _ _ _ => N4)
                    have Nb : News _ L1 _ B4 := fun p hp => N4 p (.tail _ hp)
                    k_dflt (refine' klaBoth_K (fun _ => True) lams4.ok ?mk5 ?av5 ?F5 ?N5 ?T5 ?C5 ?cd5 ?U5 ?cl5 ?_)
                    case F5 => k_asm
                    case N5 => exact newsOut2 N4 at4
                    case T5 => k_asm
                    case C5 => kn_code
                    case cd5 => exact rfl
                    case U5 => exact UpdF.tail (Nat.ne_of_gt (lD1 _ at4)) (UpdF.head (off_ne (.head _)))
                    case cl5 => exact rfl
                    case mk5 => exact lams4.toMk (by decide) Nb at4 (fun p hp hn => .tail _ (.tail _ (off_one hp hn)))
                    case av5 => exact fun _ _ => trivial
                    intro f5 c5' oc5 vs5 tq5 ctv5 h' tk' ps5 F' N' hd1' hd2' htr' hcode' hother' hcI hlt hcf
                    (try dsimp only at N')
                    obtain ⟨B5, hB5⟩ := newsName N'
                    have hall := memTo hB5
                    have af5 := hall _ (.head _)
                    have ac5 := hall _ (.tail _ (.head _))
                    have aD1 := hall _ (.tail _ (.tail _ (.head _)))
                    have at5 := hall _ (.tail _ (.tail _ (.tail _ (.head _))))
                    have ab5 : ∀ p ∈ B4, p.1 ≠ 232 → p ∈ B5 := fun p hp hn => hall _ (.tail _ (.tail _ (.tail _ (.tail _ (off_one hp hn)))))
                    have lams5 := lams4.next (by decide) Nb at4 hd1' hd2' htr' hcode' hother' ac5 trivial ab5
                    rw [hB5] at N'
                    have hTB5 : HasTab W B5 x2 l2 kvsS := hTB4.apart Nb at4 (Odd.tab _) l2t (Keep.one ab5)
                    clear hall hB5 N4 F4 Nb htr' hcode' hother' hlt
                    have q5 := ab5 _ w5 (u32 5)
                    have q6 := ab5 _ (ab4 _ mi6 (u32 6)) (u32 6)
                    have q3 := ab5 _ w3 (u32 3)
                    have qdu := ab5 _ wdu dut
                    have qrow := ab5 _ wrow rwt
                    have qnm := ab5 _ (ab4 _ hnm2 eDt.symm) eDt.symm
                    have hlamE : ∀ nws, (∀ p ∈ B5, p ∈ nws) → ∀ x t, x < 6 → C1 W (.ref f5) [.str (lowG x) t] [] 6 nws (fun n r => nws = n ∧ ∃ t', r = .str (sE.wd x) t') := by
                      intro nws hsub x t hx
                      replace af5 := hsub _ af5
                      replace ac5 := hsub _ ac5
                      replace q5 := hsub _ q5
                      replace qdu := hsub _ qdu
                      clear ret hd hu B F X N T N' F'
                      unfold C1
                      intro p' loose' mean' mg' mb' dp' un' gd' cn' nm'' ig' ic' mr' a' ccd' cl' outer' A₀' base' h₀' L₂ m' s' Q' E' B F X N T hd hu ret
                      refine wpAny_call ?_
                      k_dflt kla_enter
                      k_steps
                      unfold Hold
                      (rename News _ _ _ _ => N5)
                      refine due_at N5 qdu hdne hdueS (hFS x hx) fun tu kk => ?_
                      k_steps
                      exact ret _ _ _ _ (by k_asm) (by k_asm) ⟨rfl, _, rfl⟩
                    refine tgen fun tk9 => ?_
                    k_steps
                    unfold Hold
                    (rename Fr _ _ _ _ => F4); (rename News _ _ _ _ => N4)
                    refine sorted_keyed (key := fun j => sE.wd (nmE.getD j 0)) F4 N4 qnm (by rw [hnms.length, List.length_map, hnmL]; exact hn5) ?K2 ?_
                    case K2 =>
                      intro j v hv nws h tk hsub Fq Nq Qq hQq
                      obtain ⟨y, ty, rfl, hy⟩ := hnms.item j v hv
                      rw [List.getElem?_map] at hy
                      obtain ⟨x, hx, rfl⟩ := Option.map_eq_some_iff.mp hy
                      refine C1.use (hlamE nws hsub x ty (hO.lt x (hnmS x (List.mem_of_getElem? hx)))) (by k_asm) Fq (by k_asm) Nq (by k_asm) (by ktr_room) (by ktr_units) ?_
                      rintro r n' h' tk' F' N' ⟨rfl, t', rfl⟩
                      rw [show x = nmE.getD j 0 from by rw [List.getD, hx]; rfl]
                      exact hQq t' h' tk' F' N'
                    intro D2 p2 q2 h' tk' F' N' lD2 pp2 ps2
                    clear hlamE hd1' hd2' hcf ac5 af5
                    rw [hnms.length, List.length_map] at pp2
                    have ss2 := hstR pp2 ps2
                    have sv2 := strsPick hnms (p := p2) fun j hj => List.mem_range.mp (pp2.mem_iff.mp hj)
                    rw [ss2] at sv2
                    refine tgen fun tk9 => ?_
                    k_steps
                    unfold Hold
                    have hrc : ∀ x ∈ sE.row.map lowG, Clean x := fun x hx => by
                      obtain ⟨y, hy, rfl⟩ := List.mem_map.mp hx
                      exact low_clean (hO.lt y hy)
                    refine ne_dataH (reads_list_at (N' _ (.tail _ aD1)).1 rfl rfl (StrsAre.reads _ sv1)) (reads_list_at (N' _ (.head _)).1 rfl rfl (StrsAre.reads _ sv2)) (strs_shaped _ hrc) (strs_shaped _ hrc) (by ktr_units) ?_
                    rw [eqv_strs_self]
                    replace N' : News _ L1 _ B5 := fun p hp => N' p (.tail _ hp)
                    clear aD1 sv1 sv2 ss1 ss2 pp1 ps1 pp2 ps2 hrc hlam3 lams4 hTB4 w5 w3 wdu wrow
                    have hClS := hMS.clean hO (le6 hn5) (fun x => Nat.le_trans (hlen x) (hn8' hi))
                    have qx2 := ab5 _ (ab4 _ mx2 x2t) x2t
                    have qdx2 := ab5 _ (ab4 _ mdx2 dx2t) dx2t
                    refine tgen fun tk9 => ?_
                    k_steps
                    unfold Hold
                    k_dflt (refine C1.use (hitemsV W x2 l2 kvsS B5 hClS hTB5) (by k_asm) (by k_asm) (by k_asm) (by k_asm) (by k_asm) (by ktr_room) (by ktr_units) ?_)
                    rintro r9 Z7 h' tk' F' N' ⟨qi, ivs, rfl, hpi, hqi, rfl⟩
                    refine tgen fun tk9 => ?_
                    k_steps
                    unfold Hold
                    (rename Fr _ _ _ _ => F4); (rename News _ _ _ _ => N4)
                    refine sorted_pairs F4 N4 (.head _) (hpi.mono fun p hp => .tail _ hp) (Marks.nodup hO hMS.perm) (by rw [hMS.perm.length_eq, List.length_map, hO.len]; exact hn5) ?_
                    intro D3 vs6 kvs6 n6 h' F' N' hlt6 hp6 perm6 pw6
                    obtain ⟨K7, hK7⟩ := newsName N'
                    have kD3 : (D3, listOf vs6.toArray n6) ∈ K7 := hK7 ▸ .head _
                    have kB5 : ∀ p ∈ B5, p ∈ K7 := fun p hp => hK7 ▸ .tail _ (.tail _ hp)
                    have hp7 : PairsIn K7 vs6 kvs6 := hp6.mono fun p hp => hK7 ▸ .tail _ hp
                    rw [hK7] at N'
                    clear hK7 hp6 hlt6 hpi hqi
                    have k3 := kB5 _ q3
                    have k5 := kB5 _ q5
                    have kdu := kB5 _ qdu
                    have krow := kB5 _ qrow
                    have hrg : ∀ j v, rvs'.toArray[j]? = some v → ∃ x t, sE.row[j]? = some x ∧ x < 6 ∧ v = Value.str (lowG x) t := fun j v hv => by
                      obtain ⟨y, t, e1, e2⟩ := hrowsS.item j v (by rw [← List.getElem?_toArray]; exact hv)
                      rw [List.getElem?_map] at e2
                      obtain ⟨x, e3, e4⟩ := Option.map_eq_some_iff.mp e2
                      exact ⟨x, t, e3, hO.lt x (List.mem_of_getElem? e3), by rw [e1, ← e4]⟩
                    refine tgen fun tk9 => ?_
                    k_steps
                    unfold Hold
                    (rename Fr _ _ _ _ => F4)
                    k_dflt (refine LCg.ListComp_U F4 (by with_unfolding_all rfl) (by decide) (by rfl) (by decide) (by rfl) ?_)
                    k_steps
                    unfold Hold
                    (rename Fr _ _ _ _ => F₃); (rename News _ _ _ _ => N₃)
                    refine LCg.CompSrc.ledger (by rfl) F₃ N₃ krow (by rw [List.size_toArray, hl5]; exact size6 (le6 hn5)) ?_
                    intro g7
                    refine compU_inv (n := rvs'.toArray.size) (fun j ys nx7 => (∀ p ∈ K7, p ∈ nx7) ∧ PairsIn nx7 ys ((sE.row.take j).map fun x => (lowG x, sE.wd x))) ?_ ?_ _ _ _ _ (Nat.zero_add _) ⟨fun p hp => hp, .nil⟩
                    · rintro j v ys nx7 I7 oI C oC D m₂ h8 tk8 E' hi7 hv ⟨hsub, hys⟩ hC hx F' N' off7 ne
                      refine cgen fun Qc hQc => ?_
                      clear F₃ N₃ F4
                      obtain ⟨x, tx, hxr, hx6, rfl⟩ := hrg j v hv
                      replace k5 := hsub _ k5
                      replace kdu := hsub _ kdu
                      have t1 : I7 < h8.objs.size := Heap.lt_size (N' _ (.head _)).1
                      have t2 : C < h8.objs.size := Heap.lt_size (N' _ (.tail _ (.head _))).1
                      have t3 : D < h8.objs.size := Heap.lt_size (N' _ (.tail _ (.tail _ (.head _)))).1
                      k_steps
                      unfold Hold
                      (rename News _ _ _ _ => N5)
                      refine due_at N5 (.tail _ (.tail _ (.tail _ kdu))) hdne hdueS (hFS x hx6) fun tu2 kk => ?_
                      refine tgen fun tk9 => ?_
                      k_steps
                      (rename Fr _ _ _ _ => F7); (rename News _ _ _ _ => N7)
                      refine hQc _ _ (LCg.CompEnd.intro F7 N7 ((h8.objs.size, tupOf [.str (lowG x) _, .str (sE.wd x) _]) :: nx7) (List.forall_mem_cons.mpr ⟨.tail _ (.head _), List.forall_mem_cons.mpr ⟨.tail _ (.tail _ (.head _)), List.forall_mem_cons.mpr ⟨.tail _ (.tail _ (.tail _ (.head _))), List.forall_mem_cons.mpr ⟨.head _, fun p hp => .tail _ (.tail _ (.tail _ (.tail _ hp)))⟩⟩⟩⟩) ⟨⟨Nat.ne_of_gt t1, Nat.ne_of_gt t2, Nat.ne_of_gt t3⟩, off7⟩ (.inr ⟨_, .tail _ (hsub _ krow), rfl, _, rfl⟩) ⟨fun p hp => .tail _ (hsub p hp), ?_⟩)
                      rw [List.take_add_one, hxr, List.map_append]
                      exact (hys.mono fun p hp => .tail _ hp).snoc (.head _)
                    · rintro ys nx7 ⟨hsub, hys⟩
                      clear F₃ N₃ F4
                      rw [show sE.row.take rvs'.toArray.size = sE.row from by rw [List.size_toArray, hl5, ← hO.len, List.take_length]] at hys
                      have kB7 : ∀ p ∈ B5, p ∈ nx7 := fun p hp => hsub _ (kB5 p hp)
                      have jD3 := hsub _ kD3
                      replace hp7 := hp7.mono hsub
                      clear k3 k5 kdu krow kB5 hrg hsub kD3
                      k_steps
                      unfold Hold
                      (rename Fr _ _ _ _ => F4); (rename News _ _ _ _ => N4)
                      refine sorted_pairs F4 N4 (.head _) (hys.mono fun p hp => .tail _ hp) (Marks.nodup hO (List.Perm.refl _)) (by rw [List.length_map, hO.len]; exact hn5) ?_
                      intro D8 vs8 kvs8 n8 h' F' N' hlt8 hp8 perm8 pw8
                      have heq : kvs8 = kvs6 := sorted_uniq (perm8.trans (perm6.trans hMS.perm).symm) pw8 pw6
                      subst heq
                      have hcl8 : ∀ kv ∈ kvs8, Clean kv.1 ∧ Clean kv.2 := fun kv hkv => hClS.2 kv (perm6.mem_iff.mp hkv)
                      refine tgen fun tk9 => ?_
                      k_steps
                      unfold Hold
                      (rename News _ _ _ _ => N5)
                      have hN9 : ∀ p ∈ nx7, _ := fun p hp => (N5 p (.tail _ (.tail _ hp))).1
                      obtain ⟨as1, hra1⟩ := reads_pairs hN9 hp7
                      obtain ⟨as2, hra2⟩ := reads_pairs (fun p hp => (N5 p (.tail _ hp)).1) hp8
                      refine ne_dataH (reads_list_at (N5 _ (.tail _ (.tail _ jD3))).1 rfl rfl hra1) (reads_list_at (N5 _ (.head _)).1 rfl rfl hra2) (dTexts_shaped _ hcl8) (dTexts_shaped _ hcl8) (by ktr_units) ?_
                      rw [SeqAt.eqv_refl (.list (dTexts kvs8)) (show PyData.canLayAll0 (dTexts kvs8) = true from dTexts_lay _ hcl8)]
                      clear hra1 hra2 hN9
                      replace N5 : News _ L1 _ nx7 := fun p hp => N5 p (.tail _ (.tail _ hp))
                      refine tgen fun tk9 => ?_
                      k_steps
                      have kall : ∀ p ∈ nx, p.1 ≠ 232 → p ∈ nx7 := fun p hp hn => kB7 _ (ab5 _ (ab4 _ hp hn) hn)
                      have jI := kall _ mI hI232.symm
                      refine hQa _ _ (ForStep.next F' N5 (news₂ := off [I] nx7) (List.forall_mem_cons.mpr ⟨jI, fun p hp => off_sub p hp⟩) (off_ne (.head _)) ⟨rfl, ⟨_, (show _ = some (Value.int ((wv : Nat) : Int) _) from rfl).trans (by rw [hwv])⟩, rfl, rfl, ?_⟩)
                      rw [← eR]
                      obtain ⟨gv, gk, hg1, hg2⟩ := hgoneS
                      refine ⟨⟨_, _, off_one (kall _ hw2' (u32 2)) hI2, dw2'⟩, ⟨_, _, off_one (kall _ hw4' (u32 4)) hI4, dw4'⟩, ⟨_, off_one (kB7 _ at5) hI232, (lams5.mono kB7).drop N5 jI (fun vs q tq h1 h2 => ?_)⟩, ⟨_, _, off_one (kB7 _ qrow) hIr, hrowsS⟩, ⟨_, _, off_one (kall _ hg1 gnt) hIg, hg2⟩, ⟨_, _, _, off_one (kall _ hduS dut) hId, hdueS, due_next hkS (htl ▸ htl6), hFS⟩, ⟨kvsS, (hTB5.mono kB7).apart N5 jI (Odd.rit hio) hIl (Keep.one fun p hp hn => off_one hp hn), hMS⟩, fun p hp => off_one (kall _ (hb2 _ (dd2 p hp)) (dnt p hp)) (dnI p hp)⟩
                      obtain ⟨_, _, _, _, h3⟩ := hio
                      rw [h3] at h1
                      obtain rfl := Data.fields.inj h1
                      cases h2
        · as_aux_lemma =>
            rintro m₁ nx h9 tk9 ⟨hm1, ⟨tq, hm2⟩, hm3, hm4, hW⟩ F' N'
            replace F' := frPut4 F' hm1 hm2 hm3 hm4
            replace N' : News _ L1 h9 nx := N'
            have hbs := hBd.mono hW.base
            have m3 := hW.base _ d3m
            have m5 := hW.base _ d5m
            have m6 := hW.base _ d6m
            have mc1 := hbs.cell
            have mx1 := hW.base _ dx1m
            have mdx1 := hW.base _ ddx1m
            obtain ⟨-, -, ⟨ps, hps, hlam⟩, -, ⟨gvs, gk, hgone, hgones⟩, -, -, hbd⟩ := hW
            dsimp only
            k_steps
            unfold Hold
            k_dflt (refine C1.use (hitemsV W x1 la (laidP g) nx hlc hbs.tab) (by k_asm) (by k_asm) (by k_asm) (by k_asm) (by k_asm) (by ktr_room) (by ktr_units) ?_)
            rintro r9 Z1 h' tk' F' N' ⟨qi, ivs, rfl, hpi, hqi, rfl⟩
            refine tgen fun tk9 => ?_
            k_steps
            unfold Hold
            k_dflt (refine C1.use (llaid W sl qs ks n g ((qi, listOf (List.toArray ivs) 0) :: nx) (hbs.sees.mono fun p hp => .tail _ hp)) (by k_asm) (by k_asm) (by k_asm) (by k_asm) (by k_asm) (by ktr_room) (by ktr_units) ?_)
            rintro r9 Z2 h' tk' F' N' ⟨hs2, lq, lvs, ln, hlq, hPl, rfl⟩
            refine tgen fun tk9 => ?_
            k_steps
            unfold Hold
            (rename News _ _ _ _ => N5)
            have hN9 : ∀ p ∈ Z2, _ := fun p hp => (N5 p hp).1
            obtain ⟨as1, hra1⟩ := reads_pairs hN9 (hpi.mono fun p hp => hs2 _ (.tail _ hp))
            obtain ⟨as2, hra2⟩ := reads_pairs hN9 hPl
            refine ne_dataH (reads_list_at (N5 _ (hs2 _ (.head _))).1 rfl rfl hra1) (reads_list_at (N5 _ hlq).1 rfl rfl hra2) (dTexts_shaped _ hlc.2) (dTexts_shaped _ hlc.2) (by ktr_units) ?_
            rw [SeqAt.eqv_refl (.list (dTexts (laidP g))) (show PyData.canLayAll0 (dTexts (laidP g)) = true from dTexts_lay _ hlc.2)]
            clear hra1 hra2 hN9
            have hS9 := hbs.sees.mono fun p hp => hs2 p (.tail _ hp)
            have ht9 := hs2 _ (.tail _ hps)
            have hg9 := hs2 _ (.tail _ hgone)
            refine tgen fun tk9 => ?_
            k_steps
            unfold Hold
            (rename Fr _ _ _ _ => F4)
            k_dflt (refine LCg.ListComp_U F4 (by with_unfolding_all rfl) (by decide) (by rfl) (by decide) (by rfl) ?_)
            k_steps
            unfold Hold
            (rename Fr _ _ _ _ => F₃); (rename News _ _ _ _ => N₃)
            have hgl : gvs.length = 6 := by rw [hgones.length, List.length_map]; exact run_gone g way mark 6 (Nat.le_refl _)
            refine LCg.CompSrc.ledger (by rfl) F₃ N₃ hg9 (by rw [List.size_toArray, hgl]; exact size6 (Nat.le_refl 6)) ?_
            intro g7
            refine compU_inv (n := gvs.toArray.size) (fun j ys nx7 => Z2 = nx7 ∧ NatsAre ys ((runS g way mark 6).gone.take j)) ?_ ?_ _ _ _ _ (Nat.zero_add _) ⟨rfl, .nil⟩
            · rintro j v ys nx7 I7 oI C oC D m₂ h8 tk8 E' hi7 hv ⟨rfl, hys⟩ hC hx F' N' off7 ne
              obtain ⟨y, t, rfl, e2⟩ := hgones.item j v (by rw [← List.getElem?_toArray]; exact hv)
              rw [List.getElem?_map] at e2
              obtain ⟨x, hxr, rfl⟩ := Option.map_eq_some_iff.mp e2
              refine cgen fun Qc hQc => ?_
              clear F₃ N₃
              k_steps
              rw [ord_low]
              exact hQc _ _ (LCg.CompEnd.intro (by k_asm) N' _ (fun _ hp => hp) off7 (.inr ⟨_, hg9, rfl, _, rfl⟩) ⟨rfl, by rw [List.take_add_one, hxr]; exact hys.snoc⟩)
            · rintro ys nx7 ⟨rfl, hys⟩
              clear F₃ N₃
              rw [List.take_of_length_le (by rw [List.size_toArray, hgl, run_gone g way mark 6 (Nat.le_refl _)]; exact Nat.le_refl _), (run_is g way mark 6 (Nat.le_refl _)).gone] at hys
              obtain ⟨tks, rfl⟩ := ord_of hys
              k_steps
              exact ret _ _ _ _ (by k_asm) (by k_asm) ⟨hS9.mono fun p hp => .tail _ hp, ps, .tail _ ht9, _, _, tks, .head _, rfl⟩
end
section
open PySem PySem.W PySem.Calls PyProof.Rows Mine
set_option maxRecDepth 100000
set_option maxHeartbeats 8000000
theorem reset16 : True := by
  w_top off
  k_with_none
  k_with "=k_all" => first | assumption | exact allLt_ne (by assumption) (by omega) | exact allLt_ne (And.right (by assumption)) (by omega) | exact allLt_ne (And.right (And.right (by assumption))) (by omega) | exact allLt_ne (And.right (And.right (And.right (by assumption)))) (by omega)
  k_with "=size_fits" => ((try simp only [List.size_toArray, sizeLine_eq]); omega)
  k_with "=ktr_room" => first | exact room1 (by assumption) (by decide) | exact room0 (by assumption) | exact room4 (by assumption) | exact room8 (by assumption) | exact room48 (by assumption) | fail "room"
  k_with "=ktr_units" => first | exact units1 (by assumption) (by decide) | exact units1 (k := 8) (by assumption) (by decide) | exact units4 (by assumption) | exact units8 (by assumption) | exact units48 (by assumption) | fail "units"
  k_with "=k_in" => first | k_in_fast | assumption | exact Frag.In.keeps (by k_asm) (Fr.keep (by k_asm))
  k_with "=call builtin:str.lower" => (k_here; refine lower_K (by first | assumption | exact Clean.low (by assumption)) ?_; intro _ _)
  k_with "=c1" => ((case k1 => k_asm); (case k2 => k_asm); (case k3 => k_asm); (case k4 => k_asm); (case k5 => k_asm); (case k6 => ktr_room); (case k7 => ktr_units))
  k_with "=subscriptTail Name Slice ref ref" => (k_here; (with_reducible show wpAny _ _ (subscriptTail _ (PySem.Expr.Slice _ _ none _) (Value.ref _) (Value.ref _)) _ _ _); k_dflt (refine' kms_slice_lit (by k_asm) (by k_asm) (by kmk_list) (by kmk_part) (by kmk_part) (by exact rfl) ?_ (by with_unfolding_all rfl) (by kmk_pure) (by kmk_size)); intro kxD kxH kxF kxN kxl; (try k_lt kxl); (try simp only [List.toList_toArray, pick_all, pick_init, pick_lit] at kxN))
  k_with "=call builtin:len" => (k_here; (refine' len_at (by k_asm) (by k_mem) (by omega) ?_); intro _ _)
  k_with "=callWith ref" => (k_here; k_dflt (refine' callWith_F (by exact FnAt.of (by k_asm) (by k_mem)) ?_; k_whole))
  k_with "=callWith ref" => (k_here; (with_reducible show wpAny _ _ (callWith _ (Value.ref (OfNat.ofNat _)) _ (backTo _ (starEach (_ :: _) _)) (backToKw _ _)) _ _ _); k_dflt (refine' callWith_KW (by k_asm) (by k_is) (by exact rfl) ?_; k_whole))
  k_with "=callWith ref" => (k_here; (with_reducible show wpAny _ _ (callWith _ (Value.ref (OfNat.ofNat _)) _ (backTo _ (starEach (_ :: _) _)) []) _ _ _); k_dflt (refine' callWith_K (by k_asm) (by k_is) ?_; k_whole))
  k_with "=call ref" => (k_here; (with_reducible show wpAny _ _ (call (Value.ref 117) _ _) _ _ _); k_dflt (refine' C1.use (conv _ _ _ _ _ (by first | assumption | exact Clean.low (by assumption)) _) (by k_asm) (by k_asm) (by k_asm) (by k_asm) (by k_asm) (by ktr_room) (by ktr_units) ?_; intro kxr kxnews kxH kxT kxF kxN kxP; obtain ⟨kxe1, kxe2⟩ := kxP; subst kxe1; subst kxe2; (try dsimp only)))
  k_with "=subscriptTail Name Name ref int" => (k_here; (with_reducible rename News _ _ _ _ => kN); refine at6 kN (by k_mem) (by first | assumption | exact IsOrd.lt (by assumption) _ (by assumption) | omega | exact IsOrd.lt (by assumption) _ (by omega)) ?_)
  k_with "=subscriptTail Name Subscript ref int" => (k_here; (with_reducible rename News _ _ _ _ => kN); refine at6 kN (by k_mem) (by first | assumption | exact IsOrd.lt (by assumption) _ (by assumption) | omega | exact IsOrd.lt (by assumption) _ (by omega)) ?_)
  k_with "=subscriptTail Subscript Name Subscript Subscript ref int" => (k_here; k_dflt (refine kba_turn (value' := PySem.Expr.Name (PySem.Str.ofString "_") ⟨0, 0, 0, 0⟩) (fun _ => rfl) ?_); (with_reducible rename News _ _ _ _ => kN); (with_reducible rename SeesIn _ _ _ _ _ _ => kS); refine at6 kN (by repeat (first | exact SeesIn.row kS _ (by first | assumption | exact IsOrd.lt (by assumption) _ (by assumption) | omega | exact IsOrd.lt (by assumption) _ (by omega)) | refine List.Mem.tail _ ?_)) (by first | assumption | exact IsOrd.lt (by assumption) _ (by assumption) | omega | exact IsOrd.lt (by assumption) _ (by omega)) ?_)
  k_with "=subscriptTail Subscript Name Name Name ref int" => (k_here; k_dflt (refine kba_turn (value' := PySem.Expr.Name (PySem.Str.ofString "_") ⟨0, 0, 0, 0⟩) (fun _ => rfl) ?_); (with_reducible rename News _ _ _ _ => kN); (with_reducible rename SeesIn _ _ _ _ _ _ => kS); refine at6 kN (by repeat (first | exact SeesIn.row kS _ (by first | assumption | exact IsOrd.lt (by assumption) _ (by assumption) | omega | exact IsOrd.lt (by assumption) _ (by omega)) | refine List.Mem.tail _ ?_)) (by first | assumption | exact IsOrd.lt (by assumption) _ (by assumption) | omega | exact IsOrd.lt (by assumption) _ (by omega)) ?_)
  k_with "=exec Assign cons ListComp" => (k_here; k_dflt (refine LCg.Assign_ListComp_U (F₀ := by k_asm) (by rfl) (by with_unfolding_all rfl) (by with_unfolding_all rfl) (by decide) (by rfl) (by decide) (by rfl) (by rfl) (by rfl) ?_))
  k_with "=CompSrc" => refine Hold.out ?_
  k_with "=exec For Name Call cons nil" => (k_here; (with_reducible rename Fr _ _ _ _ => lF'); with_unfolding_all refine For_myF lF' ?_)
  k_with "=pyIter ref" => refine Hold.out ?_
  k_with "=binaryOp Pow int int" => refine Hold.out ?_
  k_with "=binaryOp Mult ref int" => refine Hold.out ?_
  k_with "=subscriptTail Name BinOp ref int" => refine Hold.out ?_
  k_with "=subscriptTail Name Name ref int" => (k_here; (with_reducible rename News _ _ _ _ => kN); refine at6 kN (by k_mem) (by omega) ?_)
  k_with "=setItem ref int bool" => refine Hold.out ?_
  trivial
/-- three draws -/
noncomputable abbrev DrawVal (d : Nat → Int) (tk : Nat → Tok) : List Value := (List.range 3).map fun i => .int (d i) (tk i)
theorem lt_of_ne {a i : Nat} (h : a < i + 1) (hn : a ≠ i) : a < i := Nat.lt_of_le_of_ne (Nat.le_of_lt_succ h) hn
theorem lsees (w : World) (dl : Addr) (dn : Nat) (d : Nat → Int) (tks : Nat → Tok) (nx : List (Addr × Obj)) (hd3 : (dl, listOf (DrawVal d tks).toArray dn) ∈ nx) :
    C1 w (.ref 225) [.ref dl] [] 8 nx (fun nx' r => ∃ sl qs ks n, SeesIn nx' sl qs ks n (gUp (bitD d) 15) ∧ (∀ p ∈ nx, p ∈ nx') ∧ r = .ref sl) := by
  unfold C1
  k_fill
  intro p loose mean mg mb dp un gd cn nm' ig ic mr a ccd cl outer A₀ base h₀ L m s Q E B F X N T hd hu ret
  obtain ⟨Y, hY⟩ := newsName N
  refine wpAny_call ?_
  k_dflt k_enter
  k_steps
  unfold Hold
  (rename Fr _ _ _ _ => F₃); (rename News _ _ _ _ => N₃); (rename IsRange _ _ _ _ _ _ _ _ => hr3)
  refine LCg.CompSrc.range (n := 6) rfl F₃ N₃ hr3 (by decide) (by decide) (size6 (Nat.le_refl 6)) ?_
  intro g'
  refine compU_inv (n := 6) (fun i ys nx' => ∃ qs : Nat → Addr, ys = (List.range i).map (fun k => .ref (qs k)) ∧ nx' = ((List.range i).map fun k => (qs k, rowObj (fun _ _ => false) k)).reverse ++ nx ∧ (∀ a, a < i → ∀ b, b < i → a ≠ b → qs a ≠ qs b) ∧ ∀ a, a < i → ∀ p ∈ nx, p.1 ≠ qs a) ?_ ?_ _ _ _ _ (Nat.zero_add _) ⟨fun _ => 0, rfl, by rw [List.range_zero]; exact hY.symm ▸ rfl, by omega, by omega⟩
  · rintro i v ys nx2 I oI C oC D m₂ h2 tk2 E' hi ⟨ti, rfl⟩ ⟨qs, rfl, rfl, hinj, hoff⟩ hC hx F' N' off ne
    rw [Int.zero_add] at hx
    clear F₃ N₃
    k_steps
    unfold Hold
    (rename Fr _ _ _ _ => F₃); (rename News _ _ _ _ => N₃)
    refine KMa.mul F₃ N₃ (News.isList N₃ (.head _)) (by decide) (by decide) (by decide) (e := rfl) ?_
    intro q h' F₄ N₄ hlt
    clear F₃ N₃
    k_steps
    have hDn : ∀ p ∈ ((List.range i).map fun k => (qs k, rowObj (fun _ _ => false) k)).reverse ++ nx, p.1 ≠ q := fun p hp => Nat.ne_of_lt (hlt p (.tail _ (.tail _ (.tail _ (.tail _ hp)))))
    have hqs : ∀ a, a < i → qs a ≠ q := fun a ha => hDn (qs a, rowObj (fun _ _ => false) a) (List.mem_append_left _ (List.mem_reverse.mpr (List.mem_map.mpr ⟨a, List.mem_range.mpr ha, rfl⟩)))
    refine LCg.CompEnd.intro F₄ N₄ ((q, rowObj (fun _ _ => false) i) :: (((List.range i).map fun k => (qs k, rowObj (fun _ _ => false) k)).reverse ++ nx)) (fun p hp => ?_) ⟨⟨Nat.ne_of_gt (hlt (I, oI) (by k_mem)), Nat.ne_of_gt (hlt (C, oC) (by k_mem)), Nat.ne_of_gt (hlt (D, _) (.tail _ (.tail _ (.tail _ (.head _)))))⟩, off⟩ trivial ⟨fun k => if k = i then q else qs k, ?_, ?_, ?_, ?_⟩
    · revert p
      exact List.forall_mem_cons.mpr ⟨by k_mem, List.forall_mem_cons.mpr ⟨by k_mem, List.forall_mem_cons.mpr ⟨.tail _ (.tail _ (.tail _ (.tail _ (.head _)))), List.forall_mem_cons.mpr ⟨.head _, fun p hp => .tail _ (.tail _ (.tail _ (.tail _ (.tail _ hp))))⟩⟩⟩⟩
    · rw [List.range_succ, List.map_append, List.map_singleton]
      dsimp only
      rw [if_pos rfl]
      congr 1
      exact List.map_congr_left fun k hk => by rw [if_neg (Nat.ne_of_lt (List.mem_range.mp hk))]
    · rw [List.range_succ, List.map_append, List.reverse_append, List.map_singleton]
      dsimp only
      rw [if_pos rfl]
      have e : ((List.range i).map fun k => ((if k = i then q else qs k), rowObj (fun _ _ => false) k)) = (List.range i).map fun k => (qs k, rowObj (fun _ _ => false) k) := List.map_congr_left fun k hk => by rw [if_neg (Nat.ne_of_lt (List.mem_range.mp hk))]
      rw [e]
      rfl
    · intro a ha b hb hab
      dsimp only
      by_cases e1 : a = i
      · have e2 : b ≠ i := fun e => hab (e1.trans e.symm)
        rw [if_pos e1, if_neg e2]; exact fun c => hqs b (lt_of_ne hb e2) c.symm
      · rw [if_neg e1]
        by_cases e2 : b = i
        · rw [if_pos e2]; exact hqs a (lt_of_ne ha e1)
        · rw [if_neg e2]; exact hinj a (lt_of_ne ha e1) b (lt_of_ne hb e2) hab
    · intro a ha p hp
      dsimp only
      by_cases e1 : a = i
      · rw [if_pos e1]; exact hDn p (List.mem_append_right _ hp)
      · rw [if_neg e1]; exact hoff a (lt_of_ne ha e1) p hp
  · rintro ys nx2 ⟨qs, rfl, rfl, hinj, hoff⟩
    clear F₃ N₃
    k_steps
    unfold Hold
    (rename Fr _ _ _ _ => F9); (rename News _ _ _ _ => N9); (rename IsRange _ _ _ _ _ _ _ _ => hr9); (rename LCg.Off1 _ _ => ho)
    obtain ⟨D, hD⟩ := newsHead N9
    subst hD
    obtain ⟨L1, hL1⟩ := newsL N9
    subst hL1
    have hoD := off1_mem ho
    rw [show LCg.lst ((List.range 6).map fun k => Value.ref (qs k)) = listOf (L6 fun k => .ref (qs k)).toArray 6 from rfl] at N9
    have hDr : ∀ g, ∀ p ∈ rowsL qs g ++ nx, p.1 ≠ D := fun g p hp => by
      rcases List.mem_append.mp hp with hp | hp
      · obtain ⟨k, hk, rfl⟩ := List.mem_map.mp hp
        exact hoD (qs k, rowObj (fun _ _ => false) k) (List.mem_append_left _ (List.mem_reverse.mpr (List.mem_map.mpr ⟨k, hk, rfl⟩)))
      · exact hoD p (List.mem_append_right _ hp)
    have N8 : News _ L1 _ _ := news_drop (news := (D, listOf (L6 fun k => .ref (qs k)).toArray 6) :: (rowsL qs (gUp (bitD d) (baseP 0)) ++ nx)) N9 (List.forall_mem_cons.mpr ⟨.head _, fun p hp => .tail _ (by
      rcases List.mem_append.mp hp with hp | hp
      · exact List.mem_append_left _ (List.mem_reverse.mpr hp)
      · exact List.mem_append_right _ hp)⟩)
    clear N9 ho hoD
    have hDq : ∀ k, k < 6 → D ≠ qs k := fun k hk e => hDr _ (qs k, rowObj (gUp (bitD d) 0) k) (List.mem_append_left _ (rowsL_mem hk)) e.symm
    refine Iter_range_my (n := 6) (fun i m₁ nx' => ∃ tp, m₁ (Str.ofString "draws") = some (.ref dl) ∧ m₁ (Str.ofString "sees") = some (.ref D) ∧ m₁ (Str.ofString "place") = some (.int ((baseP i : Nat) : Int) tp) ∧ nx' = (D, listOf (L6 fun k => .ref (qs k)).toArray 6) :: (rowsL qs (gUp (bitD d) (baseP i)) ++ nx)) rfl hr9 (by decide) (by decide) F9 N8 ⟨_, rfl, rfl, rfl, rfl⟩ ?_ ?_
    · rintro I i ti m₁ nx' h1 tk1 io hi ⟨tp, hm1, hm2, hm3, rfl⟩ hne F' N'
      clear F9 N8
      refine qgen fun Qa hQa => ?_
      have hIq : ∀ k, k < 6 → I ≠ qs k := fun k hk e => hne (qs k, rowObj _ k) (.tail _ (List.mem_append_left _ (rowsL_mem hk))) e.symm
      replace F' : Fr _ L1 h1 _ := frPut3 F' hm1 hm2 hm3
      replace N' : News _ L1 h1 _ := N'
      rw [Int.zero_add, Int.mul_one]
      k_steps
      unfold Hold
      (rename Fr _ _ _ _ => F9); (rename News _ _ _ _ => N9); (rename IsRange _ _ _ _ _ _ _ _ => hr9)
      refine Iter_range_my (n := 5 - i) (fun jj m₁ nx' => ∃ tp, m₁ (Str.ofString "draws") = some (.ref dl) ∧ m₁ (Str.ofString "sees") = some (.ref D) ∧ m₁ (Str.ofString "place") = some (.int ((baseP i + jj : Nat) : Int) tp) ∧ m₁ (Str.ofString "i") = some (.int ((i : Nat) : Int) ti) ∧ nx' = (I, io) :: (D, listOf (L6 fun k => .ref (qs k)).toArray 6) :: (rowsL qs (gUp (bitD d) (baseP i + jj)) ++ nx)) rfl hr9 (up_small hi) (up_size hi) F9 N9 ⟨_, rfl, rfl, rfl, rfl, rfl⟩ ?_ ?_
      · clear hne hm1 hm2 hm3
        rintro I2 jj tj m₂ nx2 h2 tk2 io2 hj ⟨tp2, hm1, hm2, hm3, hm4, rfl⟩ hne2 F' N'
        clear F9 N9
        refine qgen fun Qb hQb => ?_
        have hI2q : ∀ k, k < 6 → I2 ≠ qs k := fun k hk e => hne2 (qs k, rowObj _ k) (.tail _ (.tail _ (List.mem_append_left _ (rowsL_mem hk)))) e.symm
        replace F' : Fr _ L1 h2 _ := frPut4 F' hm1 hm2 hm3 hm4
        replace N' : News _ L1 h2 _ := N'
        have hp15 := base_lt hi hj
        obtain ⟨pl, hpl⟩ : ∃ pl, pl = baseP i + jj := ⟨_, rfl⟩
        have hnew : ∀ p ∈ (I, io) :: (D, listOf (L6 fun k => .ref (qs k)).toArray 6) :: (rowsL qs (gUp (bitD d) (pl + 1)) ++ nx), p.1 ≠ I2 := List.forall_mem_cons.mpr ⟨hne2 _ (.head _), List.forall_mem_cons.mpr ⟨hne2 _ (.tail _ (.head _)), rows_ne hI2q fun p hp => hne2 _ (.tail _ (.tail _ (List.mem_append_right _ hp)))⟩⟩
        rw [← hpl] at F' N' hp15
        obtain ⟨jn, hjn⟩ : ∃ jn, jn = i + 1 + jj := ⟨_, rfl⟩
        rw [Int.mul_one, show (((i : Nat) : Int) + 1) + (jj : Int) = ((jn : Nat) : Int) from hjn ▸ rfl]
        have hj6 : jn < 6 := by rw [hjn]; exact (by decide : ∀ i, i < 6 → ∀ j, j < 5 - i → i + 1 + j < 6) i hi jj hj
        have hdm : (dl, listOf (DrawVal d tks).toArray dn) ∈ (I2, io2) :: (I, io) :: (D, listOf (L6 fun k => .ref (qs k)).toArray 6) :: (rowsL qs (gUp (bitD d) pl) ++ nx) := .tail _ (.tail _ (.tail _ (List.mem_append_right _ hd3)))
        k_steps
        unfold Hold
        (rename News _ _ _ _ => N5)
        rw [nat_fdiv5]
        have hp3 : pl / 5 < 3 := (by decide : ∀ p, p < 15 → p / 5 < 3) pl hp15
        refine item_at (v := .int (d (pl / 5)) (tks (pl / 5))) N5 hdm (Int.natCast_nonneg _) (Int.lt_trans (Int.ofNat_lt.mpr hp3) (by decide)) (by rw [Int.toNat_natCast, List.getElem?_map, List.getElem?_range hp3]; rfl) ?_
        k_steps
        unfold Hold
        rw [nat_fmod5]
        obtain ⟨e, he⟩ : ∃ e, e = pl % 5 := ⟨_, rfl⟩
        rw [← he]
        have he5 : e < 5 := he ▸ Nat.mod_lt _ (by decide)
        refine pow_int_small (Int.natCast_nonneg _) (Int.le_trans (Int.ofNat_le.mpr (Nat.le_of_lt he5)) (by decide)) (by decide) ?_
        rw [Int.toNat_natCast]
        obtain ⟨P, hP⟩ : ∃ P, P = (2 : Int) ^ e := ⟨_, rfl⟩
        rw [← hP]
        have hP0 : 0 < P := by rw [hP]; exact Int.pow_pos (by decide)
        have hP32 : P ≤ 16 := by
          rw [hP]
          exact (by decide : ∀ e, e < 5 → (2 : Int) ^ e ≤ 16) e he5
        obtain ⟨dv, hdv⟩ : ∃ dv, dv = d (pl / 5) := ⟨_, rfl⟩
        rw [← hdv]
        iterate 4 walk1
        obtain ⟨bv, hbv⟩ : ∃ bv, bv = (dv.fdiv P).fmod 2 := ⟨_, rfl⟩
        rw [← hbv]
        have hbit : bitD d pl = decide (bv = 1) := by unfold bitD; rw [hbv, hP, hdv, he]
        clear hbv hP32 hP0 hP he5 he hdv
        clear P dv e
        refine tgen fun tk9 => ?_
        iterate 3 walk1
        · k_steps
          unfold Hold
          (rename Fr _ _ _ _ => F6); (rename News _ _ _ _ => N6)
          obtain ⟨g1, hU1, hg1⟩ := rowsL_upd (g := gUp (bitD d) pl) (rest := nx) hi hinj (fun p hp => hoff i hi p hp)
          refine set_at (j := jn) F6 N6 (UpdF.tail (hI2q i hi) (UpdF.tail (hIq i hi) (UpdF.tail (hDq i hi) hU1))) (by rw [L6_len]; exact hj6) (big6 hj6) ?_
          intro h7 F7 N7
          rw [hg1 jn hj6] at N7
          clear F6 N6
          dsimp only
          refine tgen fun tk9 => ?_
          k_steps
          unfold Hold
          (rename Fr _ _ _ _ => F6); (rename News _ _ _ _ => N6)
          obtain ⟨g2, hU2, hg2⟩ := rowsL_upd (g := setG (gUp (bitD d) pl) i jn) (rest := nx) hj6 hinj (fun p hp => hoff jn hj6 p hp)
          refine set_at (j := i) F6 N6 (UpdF.tail (hI2q jn hj6) (UpdF.tail (hIq jn hj6) (UpdF.tail (hDq jn hj6) hU2))) (by rw [L6_len]; exact hi) (big6 hi) ?_
          intro h8 F8 N8
          rw [hg2 i hi] at N8
          clear F6 N6
          dsimp only
          refine tgen fun tk9 => ?_
          k_steps
          (rename News _ _ _ _ => N9)
          have e1 : gUp (bitD d) (pl + 1) = setG (setG (gUp (bitD d) pl) i jn) jn i := by rw [hpl, hjn]; exact gUp_yes hi hj (by rw [← hpl, hbit]; exact decide_eq_true (by assumption))
          rw [← e1] at N9
          exact hQb _ _ (ForStep.next (by k_asm) N9 (fun p hp => hp) hnew ⟨_, rfl, rfl, by rw [hpl]; rfl, rfl, by rw [hpl]; rfl⟩)
        · k_steps
          (rename News _ _ _ _ => N9)
          have e1 : gUp (bitD d) (pl + 1) = gUp (bitD d) pl := gUp_no (by rw [hbit]; exact decide_eq_false (by assumption))
          rw [← e1] at N9
          exact hQb _ _ (ForStep.next (by k_asm) N9 (fun p hp => hp) hnew ⟨_, rfl, rfl, by rw [hpl]; rfl, rfl, by rw [hpl]; rfl⟩)
      · rintro m₂ nx2 h2 tk2 ⟨tp2, k1, k2, k3, k4, rfl⟩ F' N'
        clear F9 N9 hr9
        have hnew : ∀ p ∈ (D, listOf (L6 fun k => .ref (qs k)).toArray 6) :: (rowsL qs (gUp (bitD d) (baseP (i + 1))) ++ nx), p.1 ≠ I := List.forall_mem_cons.mpr ⟨hne _ (.head _), rows_ne hIq fun p hp => hne _ (.tail _ (List.mem_append_right _ hp))⟩
        rw [← base_succ hi] at N' k3
        k_steps
        exact hQa _ _ (ForStep.next F' N' (fun p hp => hp) hnew ⟨_, k1, k2, k3, rfl⟩)
    · rintro m₂ nx2 h2 tk2 ⟨tp2, k1, k2, k3, rfl⟩ F' N'
      clear F9 N8 hr9
      replace F' : Fr _ L1 h2 _ := frPut3 F' k1 k2 k3
      replace N' : News _ L1 h2 _ := N'
      (try dsimp only)
      k_steps
      (rename News _ _ _ _ => N8)
      exact ret _ _ _ _ (by k_asm) N8 ⟨D, qs, fun _ => 0, 6, ⟨.head _, fun i hi => .tail _ (List.mem_append_left _ (rowsL_mem hi))⟩, fun p hp => .tail _ (List.mem_append_right _ hp), rfl⟩
end
section
open PySem PySem.W PySem.Calls PyProof.Rows Mine
set_option maxRecDepth 100000
set_option maxHeartbeats 8000000
theorem reset17 : True := by
  w_top off
  k_with_none
  k_with "=k_all" => first | assumption | exact allLt_ne (by assumption) (by omega) | exact allLt_ne (And.right (by assumption)) (by omega) | exact allLt_ne (And.right (And.right (by assumption))) (by omega) | exact allLt_ne (And.right (And.right (And.right (by assumption)))) (by omega)
  k_with "=size_fits" => ((try simp only [List.size_toArray, sizeLine_eq]); omega)
  k_with "=ktr_room" => first | exact room1 (by assumption) (by decide) | exact room0 (by assumption) | exact room4 (by assumption) | exact room8 (by assumption) | exact room48 (by assumption) | fail "room"
  k_with "=ktr_units" => first | exact units1 (by assumption) (by decide) | exact units1 (k := 8) (by assumption) (by decide) | exact units4 (by assumption) | exact units8 (by assumption) | exact units48 (by assumption) | fail "units"
  k_with "=k_in" => first | k_in_fast | assumption | exact Frag.In.keeps (by k_asm) (Fr.keep (by k_asm))
  k_with "=call builtin:str.lower" => (k_here; refine lower_K (by first | assumption | exact Clean.low (by assumption)) ?_; intro _ _)
  k_with "=c1" => ((case k1 => k_asm); (case k2 => k_asm); (case k3 => k_asm); (case k4 => k_asm); (case k5 => k_asm); (case k6 => ktr_room); (case k7 => ktr_units))
  k_with "=subscriptTail Name Slice ref ref" => (k_here; (with_reducible show wpAny _ _ (subscriptTail _ (PySem.Expr.Slice _ _ none _) (Value.ref _) (Value.ref _)) _ _ _); k_dflt (refine' kms_slice_lit (by k_asm) (by k_asm) (by kmk_list) (by kmk_part) (by kmk_part) (by exact rfl) ?_ (by with_unfolding_all rfl) (by kmk_pure) (by kmk_size)); intro kxD kxH kxF kxN kxl; (try k_lt kxl); (try simp only [List.toList_toArray, pick_all, pick_init, pick_lit] at kxN))
  k_with "=call builtin:len" => (k_here; (refine' len_at (by k_asm) (by k_mem) (by omega) ?_); intro _ _)
  k_with "=callWith ref" => (k_here; k_dflt (refine' callWith_F (by exact FnAt.of (by k_asm) (by k_mem)) ?_; k_whole))
  k_with "=callWith ref" => (k_here; (with_reducible show wpAny _ _ (callWith _ (Value.ref (OfNat.ofNat _)) _ (backTo _ (starEach (_ :: _) _)) (backToKw _ _)) _ _ _); k_dflt (refine' callWith_KW (by k_asm) (by k_is) (by exact rfl) ?_; k_whole))
  k_with "=callWith ref" => (k_here; (with_reducible show wpAny _ _ (callWith _ (Value.ref (OfNat.ofNat _)) _ (backTo _ (starEach (_ :: _) _)) []) _ _ _); k_dflt (refine' callWith_K (by k_asm) (by k_is) ?_; k_whole))
  k_with "=call ref" => (k_here; (with_reducible show wpAny _ _ (call (Value.ref 117) _ _) _ _ _); k_dflt (refine' C1.use (conv _ _ _ _ _ (by first | assumption | exact Clean.low (by assumption)) _) (by k_asm) (by k_asm) (by k_asm) (by k_asm) (by k_asm) (by ktr_room) (by ktr_units) ?_; intro kxr kxnews kxH kxT kxF kxN kxP; obtain ⟨kxe1, kxe2⟩ := kxP; subst kxe1; subst kxe2; (try dsimp only)))
  k_with "=subscriptTail Name Name ref int" => (k_here; (with_reducible rename News _ _ _ _ => kN); refine at6 kN (by k_mem) (by first | assumption | exact IsOrd.lt (by assumption) _ (by assumption) | omega | exact IsOrd.lt (by assumption) _ (by omega)) ?_)
  k_with "=subscriptTail Name Subscript ref int" => (k_here; (with_reducible rename News _ _ _ _ => kN); refine at6 kN (by k_mem) (by first | assumption | exact IsOrd.lt (by assumption) _ (by assumption) | omega | exact IsOrd.lt (by assumption) _ (by omega)) ?_)
  k_with "=subscriptTail Subscript Name Subscript Subscript ref int" => (k_here; k_dflt (refine kba_turn (value' := PySem.Expr.Name (PySem.Str.ofString "_") ⟨0, 0, 0, 0⟩) (fun _ => rfl) ?_); (with_reducible rename News _ _ _ _ => kN); (with_reducible rename SeesIn _ _ _ _ _ _ => kS); refine at6 kN (by repeat (first | exact SeesIn.row kS _ (by first | assumption | exact IsOrd.lt (by assumption) _ (by assumption) | omega | exact IsOrd.lt (by assumption) _ (by omega)) | refine List.Mem.tail _ ?_)) (by first | assumption | exact IsOrd.lt (by assumption) _ (by assumption) | omega | exact IsOrd.lt (by assumption) _ (by omega)) ?_)
  k_with "=subscriptTail Subscript Name Name Name ref int" => (k_here; k_dflt (refine kba_turn (value' := PySem.Expr.Name (PySem.Str.ofString "_") ⟨0, 0, 0, 0⟩) (fun _ => rfl) ?_); (with_reducible rename News _ _ _ _ => kN); (with_reducible rename SeesIn _ _ _ _ _ _ => kS); refine at6 kN (by repeat (first | exact SeesIn.row kS _ (by first | assumption | exact IsOrd.lt (by assumption) _ (by assumption) | omega | exact IsOrd.lt (by assumption) _ (by omega)) | refine List.Mem.tail _ ?_)) (by first | assumption | exact IsOrd.lt (by assumption) _ (by assumption) | omega | exact IsOrd.lt (by assumption) _ (by omega)) ?_)
  k_with "=exec For Name Call cons nil" => (k_here; (with_reducible rename Fr _ _ _ _ => lF'); with_unfolding_all refine For_myF lF' ?_)
  k_with "=pyIter ref" => refine Hold.out ?_
  trivial
theorem lfull (w : World) (sl ol : Addr) (qs : Nat → Addr) (ks : Nat → Nat) (n on : Nat) (g : Nat → Nat → Bool) (o : Nat → Nat) (tk : Nat → Tok) (nx : List (Addr × Obj)) (hS : SeesIn nx sl qs ks n g) (hO : (ol, listOf (OrdVal o tk).toArray on) ∈ nx) (ho : IsOrd o) :
    C1 w (.ref 242) [.ref sl, .ref ol] [] 4 nx (fun nx' r => nx' = nx ∧ r = .bool (fullP g o)) := by
  unfold C1
  k_fill
  intro p loose mean mg mb dp un gd cn nm' ig ic mr a ccd cl outer A₀ base h₀ L m s Q E B F X N T hd hu ret
  obtain ⟨Y, hY⟩ := newsName N
  refine wpAny_call ?_
  k_dflt k_enter
  k_steps
  unfold Hold
  (rename Fr _ _ _ _ => F9); (rename News _ _ _ _ => N9); (rename IsRange _ _ _ _ _ _ _ _ => hr9)
  refine Iter_range_my (n := 6) (fun i m₁ nx' => nx' = Y ∧ m₁ (Str.ofString "sees") = some (.ref sl) ∧ m₁ (Str.ofString "order") = some (.ref ol) ∧ ∀ c, c < i → ∀ b, b < c → ∀ a, a < b → badP g o c b a = false) rfl hr9 (by decide) (by decide) F9 N9 ⟨hY, rfl, rfl, none_lt⟩ ?_ ?_
  · rintro I c tc m₁ nx' h1 tk1 io hc ⟨rfl, hm1, hm2, hbad⟩ hne F' N'
    refine qgen fun Qa hQa => ?_
    subst hY
    clear F9 N9
    replace F' := frPut2 F' hm1 hm2
    rw [Int.zero_add, Int.mul_one]
    k_steps
    unfold Hold
    (rename Fr _ _ _ _ => F9); (rename News _ _ _ _ => N9); (rename IsRange _ _ _ _ _ _ _ _ => hr9)
    refine Iter_range_my (n := c) (fun i m₁ nx' => nx' = (I, io) :: nx ∧ m₁ (Str.ofString "sees") = some (.ref sl) ∧ m₁ (Str.ofString "order") = some (.ref ol) ∧ m₁ (Str.ofString "c") = some (.int ((c : Nat) : Int) tc) ∧ ∀ b, b < i → ∀ a, a < b → badP g o c b a = false) rfl hr9 (small_nat _ (le_big hc)) (size_nat _) F9 N9 ⟨rfl, rfl, rfl, rfl, none_lt⟩ ?_ ?_
    · rintro I2 b tb m₂ nx2 h2 tk2 io2 hb ⟨rfl, hm1, hm2, hm3, hbad2⟩ hne2 F' N'
      refine qgen fun Qb hQb => ?_
      have hb6 := Nat.lt_trans hb hc
      clear F9 N9
      replace F' := frPut3 F' hm1 hm2 hm3
      rw [Int.zero_add, Int.mul_one]
      k_steps
      unfold Hold
      (rename Fr _ _ _ _ => F9); (rename News _ _ _ _ => N9); (rename IsRange _ _ _ _ _ _ _ _ => hr9)
      refine Iter_range_my (n := b) (fun i m₁ nx' => nx' = (I2, io2) :: (I, io) :: nx ∧ m₁ (Str.ofString "sees") = some (.ref sl) ∧ m₁ (Str.ofString "order") = some (.ref ol) ∧ m₁ (Str.ofString "c") = some (.int ((c : Nat) : Int) tc) ∧ m₁ (Str.ofString "b") = some (.int ((b : Nat) : Int) tb) ∧ ∀ a, a < i → badP g o c b a = false) rfl hr9 (small_nat _ (le_big hb6)) (size_nat _) F9 N9 ⟨rfl, rfl, rfl, rfl, rfl, none_lt⟩ ?_ ?_
      · rintro I3 a ta m₃ nx3 h3 tk3 io3 ha ⟨rfl, hm1, hm2, hm3, hm4, hbad3⟩ hne3 F' N'
        refine qgen fun Qc hQc => ?_
        have ha6 := Nat.lt_trans ha hb6
        clear F9 N9
        replace F' := frPut4 F' hm1 hm2 hm3 hm4
        rw [Int.zero_add, Int.mul_one]
        have hSl := hS.list
        k_steps
        all_goals first
          | (have hb9 : badP g o c b a = false := by unfold badP; simp [*]
             exact hQc _ _ (ForStep.next (by k_asm) (by k_asm) (fun _ hp => hp) hne3 ⟨rfl, rfl, rfl, rfl, rfl, snoc_lt hbad3 hb9⟩))
          | (have hb9 : badP g o c b a = true := by unfold badP; simp [*]
             refine hQc _ _ ?_
             dsimp only [ForStep]
             refine hQb _ _ ?_
             dsimp only [ForStep]
             refine hQa _ _ ?_
             dsimp only [ForStep]
             k_steps
             (rename News _ _ _ _ => N8)
             exact ret _ _ _ _ (by k_asm) (news_drop N8 fun p hp => .tail _ (.tail _ (.tail _ hp))) ⟨rfl, by rw [full_false hc hb ha hb9]⟩)
      · rintro m₃ nx3 h3 tk3 ⟨rfl, hm1, hm2, hm3, hm4, hbad3⟩ F' N'
        clear F9 N9
        replace F' := frPut4 F' hm1 hm2 hm3 hm4
        (try dsimp only)
        k_steps
        exact hQb _ _ (ForStep.next (by k_asm) (by k_asm) (fun _ hp => hp) hne2 ⟨rfl, rfl, rfl, rfl, snoc_lt hbad2 hbad3⟩)
    · rintro m₃ nx3 h3 tk3 ⟨rfl, hm1, hm2, hm3, hbad2⟩ F' N'
      clear F9 N9
      replace F' := frPut3 F' hm1 hm2 hm3
      (try dsimp only)
      k_steps
      exact hQa _ _ (ForStep.next (by k_asm) (by k_asm) (fun _ hp => hp) hne ⟨rfl, rfl, rfl, snoc_lt hbad hbad2⟩)
  · rintro m₃ nx3 h3 tk3 ⟨rfl, hm1, hm2, hbad⟩ F' N'
    subst hY
    clear F9 N9
    replace F' := frPut2 F' hm1 hm2
    (try dsimp only)
    k_steps
    exact ret _ _ _ _ (by k_asm) (by k_asm) ⟨rfl, by rw [full_true hbad]⟩
end
section
open PySem PySem.W PySem.Calls PyProof.Rows Mine
set_option maxRecDepth 100000
set_option maxHeartbeats 8000000
theorem reset18 : True := by
  w_top off
  k_with_none
  k_with "=k_all" => first | assumption | exact allLt_ne (by assumption) (by omega) | exact allLt_ne (And.right (by assumption)) (by omega) | exact allLt_ne (And.right (And.right (by assumption))) (by omega) | exact allLt_ne (And.right (And.right (And.right (by assumption)))) (by omega)
  k_with "=size_fits" => ((try simp only [List.size_toArray, sizeLine_eq]); omega)
  k_with "=ktr_room" => first | exact room1 (by assumption) (by decide) | exact room0 (by assumption) | exact room4 (by assumption) | exact room8 (by assumption) | exact room48 (by assumption) | fail "room"
  k_with "=ktr_units" => first | exact units1 (by assumption) (by decide) | exact units1 (k := 8) (by assumption) (by decide) | exact units4 (by assumption) | exact units8 (by assumption) | exact units48 (by assumption) | fail "units"
  k_with "=k_in" => first | k_in_fast | assumption | exact Frag.In.keeps (by k_asm) (Fr.keep (by k_asm))
  k_with "=call builtin:str.lower" => (k_here; refine lower_K (by first | assumption | exact Clean.low (by assumption)) ?_; intro _ _)
  k_with "=c1" => ((case k1 => k_asm); (case k2 => k_asm); (case k3 => k_asm); (case k4 => k_asm); (case k5 => k_asm); (case k6 => ktr_room); (case k7 => ktr_units))
  k_with "=subscriptTail Name Slice ref ref" => (k_here; (with_reducible show wpAny _ _ (subscriptTail _ (PySem.Expr.Slice _ _ none _) (Value.ref _) (Value.ref _)) _ _ _); k_dflt (refine' kms_slice_lit (by k_asm) (by k_asm) (by kmk_list) (by kmk_part) (by kmk_part) (by exact rfl) ?_ (by with_unfolding_all rfl) (by kmk_pure) (by kmk_size)); intro kxD kxH kxF kxN kxl; (try k_lt kxl); (try simp only [List.toList_toArray, pick_all, pick_init, pick_lit] at kxN))
  k_with "=call builtin:len" => (k_here; (refine' len_at (by k_asm) (by k_mem) (by omega) ?_); intro _ _)
  k_with "=callWith ref" => (k_here; k_dflt (refine' callWith_F (by exact FnAt.of (by k_asm) (by k_mem)) ?_; k_whole))
  k_with "=callWith ref" => (k_here; (with_reducible show wpAny _ _ (callWith _ (Value.ref (OfNat.ofNat _)) _ (backTo _ (starEach (_ :: _) _)) (backToKw _ _)) _ _ _); k_dflt (refine' callWith_KW (by k_asm) (by k_is) (by exact rfl) ?_; k_whole))
  k_with "=callWith ref" => (k_here; (with_reducible show wpAny _ _ (callWith _ (Value.ref (OfNat.ofNat _)) _ (backTo _ (starEach (_ :: _) _)) []) _ _ _); k_dflt (refine' callWith_K (by k_asm) (by k_is) ?_; k_whole))
  k_with "=call ref" => (k_here; (with_reducible show wpAny _ _ (call (Value.ref 117) _ _) _ _ _); k_dflt (refine' C1.use (conv _ _ _ _ _ (by first | assumption | exact Clean.low (by assumption)) _) (by k_asm) (by k_asm) (by k_asm) (by k_asm) (by k_asm) (by ktr_room) (by ktr_units) ?_; intro kxr kxnews kxH kxT kxF kxN kxP; obtain ⟨kxe1, kxe2⟩ := kxP; subst kxe1; subst kxe2; (try dsimp only)))
  k_with "=subscriptTail Name Name ref int" => (k_here; (with_reducible rename News _ _ _ _ => kN); refine at6 kN (by k_mem) (by first | assumption | exact IsOrd.lt (by assumption) _ (by assumption) | omega | exact IsOrd.lt (by assumption) _ (by omega)) ?_)
  k_with "=subscriptTail Name Subscript ref int" => (k_here; (with_reducible rename News _ _ _ _ => kN); refine at6 kN (by k_mem) (by first | assumption | exact IsOrd.lt (by assumption) _ (by assumption) | omega | exact IsOrd.lt (by assumption) _ (by omega)) ?_)
  k_with "=subscriptTail Subscript Name Subscript Subscript ref int" => (k_here; k_dflt (refine kba_turn (value' := PySem.Expr.Name (PySem.Str.ofString "_") ⟨0, 0, 0, 0⟩) (fun _ => rfl) ?_); (with_reducible rename News _ _ _ _ => kN); (with_reducible rename SeesIn _ _ _ _ _ _ => kS); refine at6 kN (by repeat (first | exact SeesIn.row kS _ (by first | assumption | exact IsOrd.lt (by assumption) _ (by assumption) | omega | exact IsOrd.lt (by assumption) _ (by omega)) | refine List.Mem.tail _ ?_)) (by first | assumption | exact IsOrd.lt (by assumption) _ (by assumption) | omega | exact IsOrd.lt (by assumption) _ (by omega)) ?_)
  k_with "=subscriptTail Subscript Name Name Name ref int" => (k_here; k_dflt (refine kba_turn (value' := PySem.Expr.Name (PySem.Str.ofString "_") ⟨0, 0, 0, 0⟩) (fun _ => rfl) ?_); (with_reducible rename News _ _ _ _ => kN); (with_reducible rename SeesIn _ _ _ _ _ _ => kS); refine at6 kN (by repeat (first | exact SeesIn.row kS _ (by first | assumption | exact IsOrd.lt (by assumption) _ (by assumption) | omega | exact IsOrd.lt (by assumption) _ (by omega)) | refine List.Mem.tail _ ?_)) (by first | assumption | exact IsOrd.lt (by assumption) _ (by assumption) | omega | exact IsOrd.lt (by assumption) _ (by omega)) ?_)
  k_with "=storeName" => (k_here; (with_reducible show wpAny _ _ (storeName _ (Str.ofString "number") _) _ _ _); refine Hold.out ?_)
  k_with "=storeName" => (k_here; (with_reducible show wpAny _ _ (storeName _ (Str.ofString "group") _) _ _ _); refine Hold.out ?_)
  k_with "=storeName" => (k_here; (with_reducible show wpAny _ _ (storeName _ (Str.ofString "reached") _) _ _ _); refine Hold.out ?_)
  k_with "=eval ListComp" => refine Hold.out ?_
  k_with "=compareOp Eq ref ref" => refine Hold.out ?_
  k_with "=compareOp NotEq ref ref" => refine Hold.out ?_
  k_with "=CompSrcT" => refine Hold.out ?_
  k_with "=exec For Name Call cons nil" => (k_here; (with_reducible rename Fr _ _ _ _ => lF'); with_unfolding_all refine For_myF lF' ?_)
  k_with "=pyIter ref" => refine Hold.out ?_
  trivial
theorem lring (w : World) (sl : Addr) (qs : Nat → Addr) (ks : Nat → Nat) (n : Nat) (g : Nat → Nat → Bool) (nx : List (Addr × Obj)) (hS : SeesIn nx sl qs ks n g) :
    C1 w (.ref 247) [.ref sl] [] 14 nx (fun nx' r => nx' = nx ∧ r = .bool (ringP g)) := by
  unfold C1
  k_fill
  intro p loose mean mg mb dp un gd cn nm' ig ic mr a ccd cl outer A₀ base h₀ L m s Q E B F X N T hd hu ret
  obtain ⟨Y, hY⟩ := newsName N
  refine wpAny_call ?_
  k_dflt k_enter
  k_steps
  unfold Hold
  rename_i o4 o3 o2 o1 c4 c3 c2 c1 N' h9 tk9 t1 u1 v1 hr9 F9 N9 hk9
  obtain ⟨L1, hL1⟩ := newsL N9
  subst hL1
  have d4 : o4.data = .cell none := c4
  have d3 : o3.data = .cell none := c3
  have d2 : o2.data = .cell none := c2
  have d1 : o1.data = .cell (some (.ref sl)) := c1
  clear c4 c3 c2 c1 N'
  have lA : ∀ q ∈ nx, q.1 < L1 := by assumption
  have hSl := hS.list
  have nxk : ∀ k, ∀ p ∈ nx, @Ne Nat p.1 (L1 + k) := fun k p hp => Nat.ne_of_lt (Nat.lt_of_lt_of_le (lA p hp) (Nat.le_add_right _ _))
  refine Iter_range_my (n := 49) (fun i m₁ nx' => Cel3 (L1 + 1 + 1 + 1 + 1) (L1 + 1 + 1 + 1) (L1 + 1 + 1) ((L1 + 1, o1) :: nx) nx' ∧ ∀ i', i' < i → ringAt g (15 + i') = false) rfl hr9 (by decide) (by decide) F9 N9 ⟨⟨_, _, _, _, _, _, d4, d3, d2, rfl⟩, none_lt⟩ ?_ ?_
  · rintro I i tc m₁ nx' h1 tk1 io hi ⟨⟨v2, v3, v4, x2, x3, x4, e4, e3, e2, rfl⟩, hbad⟩ hne F' N'
    refine qgen fun Qa hQa => ?_
    clear F9 N9
    rw [Int.mul_one, show (15 : Int) + (i : Int) = ((15 + i : Nat) : Int) from rfl]
    obtain ⟨num, hnum⟩ : ∃ k, k = 15 + i := ⟨_, rfl⟩
    rw [← hnum]
    replace F' : Fr _ L1 h1 _ := F'
    replace N' : News _ L1 h1 _ := N'
    k_steps
    unfold Hold
    k_dflt (refine' storeX_C F' N' ?sc ?sU e2 ?_ ?sa ?sb)
    case sa => rfl
    case sb => rfl
    case sc => rfl
    case sU => exact UpdF.tail (fun e => hne _ (.tail _ (.tail _ (.head _))) e.symm) (UpdF.tail (neA (a := L1) 4 2 (by decide)) (UpdF.tail (neA (a := L1) 3 2 (by decide)) (UpdF.head (List.forall_mem_cons.mpr ⟨neA (a := L1) 1 2 (by decide), nxk 2⟩))))
    intro h4 v2' F4 N7 e2'
    (try dsimp only at N7)
    have hI4 := hne _ (List.Mem.head _)
    have hI3 := hne _ (List.Mem.tail _ (List.Mem.head _))
    have hI2 := hne _ (List.Mem.tail _ (List.Mem.tail _ (List.Mem.head _)))
    have hIr : ∀ p ∈ (L1 + 1, o1) :: nx, p.1 ≠ I := fun p hp => hne p (.tail _ (.tail _ (.tail _ hp)))
    dsimp only at hI4 hI3 hI2
    clear N' F' e2 hne
    k_steps
    unfold Hold
    k_dflt (refine LCt.ListComp_T (F₀ := by k_asm) (by with_unfolding_all rfl) (by decide) (by rfl) (by decide) (by rfl) ?_)
    k_steps
    unfold Hold
    (rename Fr _ _ _ _ => F₃); (rename News _ _ _ _ => N₃); (rename IsRange _ _ _ _ _ _ _ _ => hr3)
    obtain ⟨X₃, hX₃⟩ := newsName N₃
    refine LCt.CompSrcT.range (n := 6) rfl F₃ N₃ hr3 (by decide) (by decide) (size6 (Nat.le_refl 6)) ?_
    intro g3
    refine compT_inv (n := 6) (fun j ys nx' => nx' = X₃ ∧ NatsAre ys ((List.range j).filter fun k => decide (num / 2 ^ k % 2 = 1))) ?_ ?_ _ _ _ _ (Nat.zero_add _) ⟨hX₃, .nil⟩
    · rintro k v ys nx2 I5 oI5 C5 oC5 D5 m5 h5 tk5 E5 hk ⟨t5, rfl⟩ ⟨rfl, hys⟩ hC5 hx5 F' N' off5 ne5
      rw [Int.zero_add] at hx5
      subst hX₃
      clear F₃ N₃
      k_steps
      · (rename _ = (1 : Int) => he)
        rw [bit_fact] at he
        exact LCg.CompEnd.intro (by k_asm) N' _ (fun _ hp => hp) off5 trivial ⟨rfl, by rw [range_filter_yes (decide_eq_true (Int.ofNat.inj he))]; exact hys.snoc⟩
      · (rename _ ≠ (1 : Int) => he)
        rw [bit_fact] at he
        exact LCg.CompEnd.intro (by k_asm) N' _ (fun _ hp => hp) off5 trivial ⟨rfl, by rw [range_filter_no (decide_eq_false fun e => he (congrArg Int.ofNat e))]; exact hys⟩
    · rintro ys nx2 ⟨rfl, hys⟩
      subst hX₃
      clear F₃ N₃
      k_steps
      unfold Hold
      (rename Fr _ _ _ _ => F₃); (rename News _ _ _ _ => N₃); (rename I ≠ _ ∧ _ => ho)
      obtain ⟨D, hD⟩ := newsHead N₃
      subst hD
      obtain ⟨ho1, ho2, ho3, ho4, ho5, ho6⟩ := ho
      have hoD := off1_mem ho6
      obtain ⟨gr, hgr⟩ : ∃ gr, gr = groupP num := ⟨_, rfl⟩
      have hys : NatsAre ys gr := hgr ▸ hys
      have hgl : gr.length ≤ 6 := hgr ▸ group_len num
      have hyl : ys.length = gr.length := by rw [hys.length, List.length_map]
      k_dflt (refine' storeX_C F₃ N₃ ?tc ?tU e3 ?_ ?ta ?tb)
      case ta => rfl
      case tb => rfl
      case tc => rfl
      case tU => exact UpdF.tail (fun e => ho3 e.symm) (UpdF.tail (fun e => hI3 e.symm) (UpdF.tail (neA (a := L1) 4 3 (by decide)) (UpdF.head (List.forall_mem_cons.mpr ⟨neA (a := L1) 2 3 (by decide), List.forall_mem_cons.mpr ⟨neA (a := L1) 1 3 (by decide), nxk 3⟩⟩))))
      intro h6 v3' F6 N6 e3'
      (try dsimp only at N6)
      clear N₃ F₃ e3
      have hz : ys.length ≤ 6 := by rw [hyl]; exact hgl
      k_steps
      · (rename (3 : Int) < _ => h3)
        rw [List.length_map] at h3
        unfold Hold
        obtain ⟨X₄, hX₄⟩ := newsName N6
        refine ListComp_cellT (cl := [_, _]) F6 (fun j zs nx' => nx' = X₄ ∧ NatsAre zs ((gr.take j).filter fun k => decide (degP g gr k ≠ 2))) rfl rfl (by decide) (fun n => rfl) (fun h => rfl) rfl ?_
        k_steps
        refine ⟨D, ys, ys.length, X₄, rfl, rfl, F6, hX₄ ▸ N6, fun i zs nx hj => by rw [hj.1, ← hX₄]; exact .head _, size6 hz, ⟨rfl, .nil⟩, ?_, ?_⟩
        · rintro j v zs nx2 I5 oI5 C5 oC5 K5 oK5 D5 h7 tk7 E7 hv ⟨rfl, hzs⟩ hKd F' N' off5 ne5
          clear F6 N6
          subst hX₄
          have hj : j < gr.length := by rw [← hyl]; exact (List.getElem?_eq_some_iff.mp hv).1
          obtain ⟨k, hk⟩ : ∃ k, gr[j]? = some k := ⟨_, List.getElem?_eq_getElem hj⟩
          obtain ⟨tv, rfl⟩ := PyProof.Rows.IntsAre.at_nat hys hk hv
          have hk6 : k < 6 := group_lt (n := num) (hgr ▸ List.mem_of_getElem? hk)
          k_steps
          unfold Hold
          k_dflt (refine LCt.ListComp_T (F₀ := by k_asm) (by with_unfolding_all rfl) (by decide) (by rfl) (by decide) (by rfl) ?_)
          k_steps
          unfold Hold
          (rename Fr _ _ _ _ => F₃); (rename News _ _ _ _ => N₃)
          obtain ⟨X₅, hX₅⟩ := newsName N₃
          refine LCt.CompSrcT.ledger (ax := D) (its := ys.toArray) (k := ys.length) rfl F₃ N₃ (by simp) (by rw [List.size_toArray]; exact size6 hz) ?_
          intro g5
          refine compT_inv (n := ys.toArray.size) (fun i zs nx' => nx' = X₅ ∧ NatsAre zs ((gr.take i).filter fun j => g k j)) ?_ ?_ _ _ _ _ (Nat.zero_add _) ⟨hX₅, .nil⟩
          · rintro j2 v zs2 nx3 I6 oI6 C6 oC6 D6 m6 h8 tk8 E8 hi2 hv2 ⟨rfl, hz2⟩ hC6 hx6 F' N' off6 ne6
            clear F₃ N₃
            subst hX₅
            have hj2 : j2 < gr.length := by rw [← hyl]; simpa using hi2
            obtain ⟨k2, hk2⟩ : ∃ k, gr[j2]? = some k := ⟨_, List.getElem?_eq_getElem hj2⟩
            obtain ⟨tv2, rfl⟩ := PyProof.Rows.IntsAre.at_nat hys hk2 (by simpa using hv2)
            have hk26 : k2 < 6 := group_lt (n := num) (hgr ▸ List.mem_of_getElem? hk2)
            k_steps
            · (rename News _ _ _ _ => N')
              exact LCg.CompEnd.intro (by k_asm) N' _ (fun _ hp => hp) off6 (.inr ⟨_, .tail _ (.tail _ (.tail _ (.tail _ (.head _)))), rfl, _, rfl⟩) ⟨rfl, by rw [take_filter_yes hk2 (by assumption)]; exact hz2.snoc⟩
            · (rename News _ _ _ _ => N')
              exact LCg.CompEnd.intro (by k_asm) N' _ (fun _ hp => hp) off6 (.inr ⟨_, .tail _ (.tail _ (.tail _ (.tail _ (.head _)))), rfl, _, rfl⟩) ⟨rfl, by rw [take_filter_no hk2 (by assumption)]; exact hz2⟩
          · rintro zs2 nx3 ⟨rfl, hz2⟩
            clear F₃ N₃
            subst hX₅
            rw [show ys.toArray.size = gr.length from by simpa using hyl, List.take_length] at hz2
            have hzl : zs2.length ≤ 6 := by rw [hz2.length, List.length_map]; exact Nat.le_trans (List.length_filter_le _ _) hgl
            have hdeg : degP g gr k = zs2.length := by unfold degP; rw [hz2.length, List.length_map]
            k_steps
            · (rename _ ≠ (2 : Int) => he); (rename News _ _ _ _ => N')
              refine ⟨_, _, _, rfl, by k_asm, fun p hp => N' p (.tail _ hp), off5, rfl, ?_⟩
              rw [take_filter_yes hk (decide_eq_true (p := degP g gr k ≠ 2) fun e => he (by rw [← hdeg, e]; rfl))]; exact hzs.snoc
            · (rename _ = (2 : Int) => he); (rename News _ _ _ _ => N')
              refine ⟨_, _, _, rfl, by k_asm, fun p hp => N' p (.tail _ hp), off5, rfl, ?_⟩
              rw [take_filter_no hk (decide_eq_false fun hn => hn (hdeg.trans (Int.ofNat.inj he)))]; exact hzs
        · rintro D5 zs nx2 h7 tk7 ⟨rfl, hzs⟩ F' N' off5
          clear F6 N6
          subst hX₄
          rw [hyl, List.take_length] at hzs
          have hzl : zs.length ≤ 6 := by rw [hzs.length, List.length_map]; exact Nat.le_trans (List.length_filter_le _ _) hgl
          k_steps
          unfold Hold
          (rename Fr _ _ _ _ => F₃); (rename News _ _ _ _ => N₃)
          refine eq_dataH (reads_list_at (N₃ _ (.tail _ (.head _))).1 rfl rfl (NatsAre.reads hzs _)) (reads_list_at (N₃ _ (.head _)).1 rfl rfl ReadsAll.nil) (natsShaped _) rfl (by ktr_units) ?_
          rw [eqv_nats_nil, show (gr.filter fun k => decide (degP g gr k ≠ 2)) = oddP g gr from rfl]
          k_steps
          · unfold Hold
            (rename Fr _ _ _ _ => F₃); (rename News _ _ _ _ => N₃); (rename _ < _ ∧ _ => hl); (rename (oddP g gr).isEmpty = true => hodd)
            obtain ⟨R, hR⟩ := newsHead N₃
            subst hR
            obtain ⟨-, -, hlD, hlI, hl4, hl3, hl2, hl1, hlA⟩ := hl
            rw [head_val] at N₃
            have N₄ : News _ L1 _ _ := news_drop (news := (R, listOf [Value.int ((gr.getD 0 0 : Nat) : Int) _].toArray 0) :: (D, LCg.lst ys) :: (I, io) :: (L1 + 1 + 1 + 1 + 1, v4) :: (L1 + 1 + 1 + 1, v3') :: (L1 + 1 + 1, v2') :: (L1 + 1, o1) :: nx) N₃ (List.forall_mem_cons.mpr ⟨.head _, fun p hp => .tail _ (.tail _ (.tail _ hp))⟩)
            clear N₃
            k_dflt (refine' storeX_C F₃ N₄ ?uc ?uU e4 ?_ ?ua ?ub)
            case ua => rfl
            case ub => rfl
            case uc => rfl
            case uU => exact UpdF.tail (Nat.ne_of_gt hl4) (UpdF.tail (fun e => ho2 e.symm) (UpdF.tail (fun e => hI4 e.symm) (UpdF.head (List.forall_mem_cons.mpr ⟨neA (a := L1) 3 4 (by decide), List.forall_mem_cons.mpr ⟨neA (a := L1) 2 4 (by decide), List.forall_mem_cons.mpr ⟨neA (a := L1) 1 4 (by decide), nxk 4⟩⟩⟩))))
            intro h8 v4' F8 N8 e4'
            (try dsimp only at N8)
            clear N₄ F₃ e4
            k_steps
            unfold Hold
            (rename Fr _ _ _ _ => F9); (rename News _ _ _ _ => N9); (rename IsRange _ _ _ _ _ _ _ _ => hr9)
            have hgl0 : 0 < gr.length := Nat.lt_trans (by decide) (Int.ofNat_lt.mp h3)
            refine Iter_range_my (n := 6) (fun t m₁ nx' => ReaC D I (L1 + 1 + 1 + 1 + 1) ys io (reachP g gr t) ((L1 + 1 + 1 + 1, v3') :: (L1 + 1 + 1, v2') :: (L1 + 1, o1) :: nx) nx') rfl hr9 (by decide) (by decide) F9 N9 ⟨R, _, _, v4', e4', .cons _ _ .nil, rfl⟩ ?_ ?_
            · clear e4' hlD hlI hl4 hl3 hl2 hl1 hlA
              rintro I6 t ti m₂ nx6 h9 tk9 io6 ht ⟨R, zs6, zn, v4, e4, hz6, rfl⟩ hne6 F' N'
              refine qgen fun Qr hQr => ?_
              clear F9 N9
              rw [Int.zero_add, Int.mul_one]
              replace F' : Fr _ L1 h9 _ := F'
              replace N' : News _ L1 h9 _ := N'
              obtain ⟨re, hre⟩ : ∃ re, re = reachP g gr t := ⟨_, rfl⟩
              rw [← hre] at hz6
              have hrel : re.length ≤ 6 := hre ▸ reach_len g hgl t
              have hre6 : ∀ k ∈ re, k < 6 := fun k hk => group_lt (n := num) (hgr ▸ reach_sub g hgl0 t k (hre ▸ hk))
              have hzl6 : zs6.length = re.length := by rw [hz6.length, List.length_map]
              k_steps
              unfold Hold
              (rename Fr _ _ _ _ => F6); (rename News _ _ _ _ => N6)
              obtain ⟨X₄, hX₄⟩ := newsName N6
              refine ListComp_cellT (cl := [_, _]) F6 (fun j ws nx' => nx' = X₄ ∧ NatsAre ws ((gr.take j).filter fun k => re.contains k || !(re.filter fun j => g k j).isEmpty)) rfl rfl (by decide) (fun n => rfl) (fun h => rfl) rfl ?_
              k_steps
              refine ⟨D, ys, ys.length, X₄, rfl, rfl, F6, hX₄ ▸ N6, fun i zs nx hj => by rw [hj.1, ← hX₄]; exact .tail _ (.tail _ (.head _)), size6 hz, ⟨rfl, .nil⟩, ?_, ?_⟩
              · rintro j v ws nx2 I5 oI5 C5 oC5 K5 oK5 D5 h7 tk7 E7 hv ⟨rfl, hws⟩ hKd F' N' off5 ne5
                clear F6 N6
                subst hX₄
                have hj : j < gr.length := by rw [← hyl]; exact (List.getElem?_eq_some_iff.mp hv).1
                obtain ⟨k, hk⟩ : ∃ k, gr[j]? = some k := ⟨_, List.getElem?_eq_getElem hj⟩
                obtain ⟨tv, rfl⟩ := PyProof.Rows.IntsAre.at_nat hys hk hv
                have hk6 : k < 6 := group_lt (n := num) (hgr ▸ List.mem_of_getElem? hk)
                k_steps
                · (rename List.any _ _ = true => he); (rename News _ _ _ _ => N')
                  rw [any_cast] at he
                  refine ⟨_, _, _, rfl, by k_asm, N', off5, rfl, ?_⟩
                  rw [take_filter_yes hk (by rw [he]; rfl)]; exact hws.snoc
                · (rename List.any _ _ = false => he)
                  rw [any_cast] at he
                  unfold Hold
                  k_dflt (refine LCt.ListComp_T (F₀ := by k_asm) (by with_unfolding_all rfl) (by decide) (by rfl) (by decide) (by rfl) ?_)
                  k_steps
                  unfold Hold
                  (rename Fr _ _ _ _ => F₃); (rename News _ _ _ _ => N₃)
                  obtain ⟨X₅, hX₅⟩ := newsName N₃
                  refine LCt.CompSrcT.ledger (ax := R) (its := zs6.toArray) (k := zn) rfl F₃ N₃ (by k_mem) (by rw [List.size_toArray, hzl6]; exact size6 hrel) ?_
                  intro g5
                  refine compT_inv (n := zs6.toArray.size) (fun i zs nx' => nx' = X₅ ∧ NatsAre zs ((re.take i).filter fun j => g k j)) ?_ ?_ _ _ _ _ (Nat.zero_add _) ⟨hX₅, .nil⟩
                  · rintro j2 v zs2 nx3 I7 oI7 C7 oC7 D7 m7 h8 tk8 E8 hi2 hv2 ⟨rfl, hz2⟩ hC7 hx7 F' N' off7 ne7
                    clear F₃ N₃
                    subst hX₅
                    have hj2 : j2 < re.length := by rw [← hzl6]; simpa using hi2
                    obtain ⟨k2, hk2⟩ : ∃ k, re[j2]? = some k := ⟨_, List.getElem?_eq_getElem hj2⟩
                    obtain ⟨tv2, rfl⟩ := PyProof.Rows.IntsAre.at_nat hz6 hk2 (by simpa using hv2)
                    have hk26 : k2 < 6 := hre6 k2 (List.mem_of_getElem? hk2)
                    k_steps
                    · (rename News _ _ _ _ => N')
                      exact LCg.CompEnd.intro (by k_asm) N' _ (fun _ hp => hp) off7 (.inr ⟨_, by k_mem, rfl, _, rfl⟩) ⟨rfl, by rw [take_filter_yes hk2 (by assumption)]; exact hz2.snoc⟩
                    · (rename News _ _ _ _ => N')
                      exact LCg.CompEnd.intro (by k_asm) N' _ (fun _ hp => hp) off7 (.inr ⟨_, by k_mem, rfl, _, rfl⟩) ⟨rfl, by rw [take_filter_no hk2 (by assumption)]; exact hz2⟩
                  · rintro zs2 nx3 ⟨rfl, hz2⟩
                    clear F₃ N₃
                    subst hX₅
                    rw [show zs6.toArray.size = re.length from by simpa using hzl6, List.take_length] at hz2
                    have hzl2 : zs2.length ≤ 6 := by rw [hz2.length, List.length_map]; exact Nat.le_trans (List.length_filter_le _ _) hrel
                    k_steps
                    unfold Hold
                    (rename Fr _ _ _ _ => F₃); (rename News _ _ _ _ => N₃)
                    refine ne_dataH (reads_list_at (N₃ _ (.tail _ (.head _))).1 rfl rfl (NatsAre.reads hz2 _)) (reads_list_at (N₃ _ (.head _)).1 rfl rfl ReadsAll.nil) (natsShaped _) rfl (by ktr_units) ?_
                    rw [eqv_nats_nil]
                    k_steps
                    · (rename List.isEmpty _ = true => he2); (rename News _ _ _ _ => N')
                      refine ⟨_, _, _, rfl, by k_asm, fun p hp => N' p (.tail _ (.tail _ hp)), off5, rfl, ?_⟩
                      rw [take_filter_no hk (by rw [he, he2]; rfl)]; exact hws
                    · (rename List.isEmpty _ = false => he2); (rename News _ _ _ _ => N')
                      refine ⟨_, _, _, rfl, by k_asm, fun p hp => N' p (.tail _ (.tail _ hp)), off5, rfl, ?_⟩
                      rw [take_filter_yes hk (by rw [he, he2]; rfl)]; exact hws.snoc
              · rintro D5 ws nx2 h7 tk7 ⟨rfl, hws⟩ F' N' off5
                clear F6 N6
                subst hX₄
                rw [hyl, List.take_length] at hws
                have hws : NatsAre ws (reachP g gr (t + 1)) := by rw [reachP, ← hre]; exact hws
                have hn : ∀ p ∈ (I6, io6) :: (D, LCg.lst ys) :: (I, io) :: (L1 + 1 + 1 + 1 + 1, v4) :: (L1 + 1 + 1 + 1, v3') :: (L1 + 1 + 1, v2') :: (L1 + 1, o1) :: nx, p ∈ (I6, io6) :: (R, listOf zs6.toArray zn) :: (D, LCg.lst ys) :: (I, io) :: (L1 + 1 + 1 + 1 + 1, v4) :: (L1 + 1 + 1 + 1, v3') :: (L1 + 1 + 1, v2') :: (L1 + 1, o1) :: nx := List.forall_mem_cons.mpr ⟨.head _, fun p hp => .tail _ (.tail _ hp)⟩
                have N₄ : News _ L1 _ _ := news_drop (news := (D5, LCg.lst ws) :: (I6, io6) :: (D, LCg.lst ys) :: (I, io) :: (L1 + 1 + 1 + 1 + 1, v4) :: (L1 + 1 + 1 + 1, v3') :: (L1 + 1 + 1, v2') :: (L1 + 1, o1) :: nx) N' (List.forall_mem_cons.mpr ⟨.head _, fun p hp => .tail _ (hn p hp)⟩)
                have hD54 := off5 (L1 + 1 + 1 + 1 + 1, v4) (by k_mem)
                have hI64 := hne6 (L1 + 1 + 1 + 1 + 1, v4) (by k_mem)
                have hI6D5 := off5 (I6, io6) (by k_mem)
                clear N'
                k_steps
                unfold Hold
                k_dflt (refine' storeX_C F' N₄ ?vc ?vU e4 ?_ ?va ?vb)
                case va => rfl
                case vb => rfl
                case vc => rfl
                case vU => exact UpdF.tail (fun e => hD54 e.symm) (UpdF.tail (fun e => hI64 e.symm) (UpdF.tail (fun e => ho2 e.symm) (UpdF.tail (fun e => hI4 e.symm) (UpdF.head (List.forall_mem_cons.mpr ⟨neA (a := L1) 3 4 (by decide), List.forall_mem_cons.mpr ⟨neA (a := L1) 2 4 (by decide), List.forall_mem_cons.mpr ⟨neA (a := L1) 1 4 (by decide), nxk 4⟩⟩⟩)))))
                intro h8 v4'' F8 N8 e4''
                (try dsimp only at N8)
                k_steps
                refine hQr _ _ (ForStep.next (by k_asm) N8 (news₂ := (D5, LCg.lst ws) :: (D, LCg.lst ys) :: (I, io) :: (L1 + 1 + 1 + 1 + 1, v4'') :: (L1 + 1 + 1 + 1, v3') :: (L1 + 1 + 1, v2') :: (L1 + 1, o1) :: nx) (List.forall_mem_cons.mpr ⟨by k_mem, List.forall_mem_cons.mpr ⟨by k_mem, fun p hp => .tail _ (.tail _ hp)⟩⟩) ?_ ⟨D5, ws, _, v4'', e4'', hws, rfl⟩)
                refine List.forall_mem_cons.mpr ⟨fun e => hI6D5 e.symm, List.forall_mem_cons.mpr ⟨hne6 (D, LCg.lst ys) (by k_mem), List.forall_mem_cons.mpr ⟨hne6 (I, io) (by k_mem), List.forall_mem_cons.mpr ⟨hI64, fun p hp => hne6 p (.tail _ (.tail _ (.tail _ (.tail _ hp))))⟩⟩⟩⟩
            · rintro m₂ nx6 h9 tk9 ⟨R, zs6, zn, v4, e4, hz6, rfl⟩ F' N'
              clear F9 N9
              replace F' : Fr _ L1 h9 _ := F'
              replace N' : News _ L1 h9 _ := N'
              (try dsimp only)
              k_steps
              unfold Hold
              (rename Fr _ _ _ _ => F₃); (rename News _ _ _ _ => N₃)
              refine eq_dataH (reads_list_at (N₃ _ (.head _)).1 rfl rfl (NatsAre.reads hz6 _)) (reads_list_at (N₃ _ (.tail _ (.head _))).1 rfl rfl (NatsAre.reads hys _)) (natsShaped _) (natsShaped _) (by ktr_units) ?_
              rw [eqv_nats]
              k_steps
              · (rename reachP g gr 6 = gr => he)
                have hr9 : ringAt g num = true := by unfold ringAt; rw [← hgr, he, hodd, decide_eq_true (Int.ofNat_lt.mp h3), decide_eq_true rfl]; rfl
                refine hQa _ _ ?_
                dsimp only [ForStep]
                k_steps
                (rename News _ _ _ _ => N8)
                exact ret _ _ _ _ (by k_asm) (news_drop N8 fun p hp => by k_mem) ⟨rfl, by rw [ring_true hi (hnum ▸ hr9)]⟩
              · (rename ¬ reachP g gr 6 = gr => he); (rename News _ _ _ _ => N8)
                have hr9 : ringAt g num = false := by unfold ringAt; rw [← hgr, decide_eq_false he, Bool.and_false]
                exact hQa _ _ (ForStep.next (by k_asm) N8 (news₂ := (L1 + 1 + 1 + 1 + 1, v4) :: (L1 + 1 + 1 + 1, v3') :: (L1 + 1 + 1, v2') :: (L1 + 1, o1) :: nx) (List.forall_mem_cons.mpr ⟨by k_mem, fun p hp => .tail _ (.tail _ (.tail _ hp))⟩) (List.forall_mem_cons.mpr ⟨hI4, List.forall_mem_cons.mpr ⟨hI3, List.forall_mem_cons.mpr ⟨hI2, hIr⟩⟩⟩) ⟨⟨_, _, _, _, _, _, e4, e3', e2', rfl⟩, snoc_lt hbad (hnum ▸ hr9)⟩)
          · (rename (oddP g gr).isEmpty = false => he); (rename News _ _ _ _ => N8)
            have hr9 : ringAt g num = false := by unfold ringAt; rw [← hgr, he, Bool.and_false, Bool.false_and]
            exact hQa _ _ (ForStep.next (by k_asm) N8 (news₂ := (L1 + 1 + 1 + 1 + 1, v4) :: (L1 + 1 + 1 + 1, v3') :: (L1 + 1 + 1, v2') :: (L1 + 1, o1) :: nx) (List.forall_mem_cons.mpr ⟨by k_mem, fun p hp => .tail _ (.tail _ (.tail _ (.tail _ hp)))⟩) (List.forall_mem_cons.mpr ⟨hI4, List.forall_mem_cons.mpr ⟨hI3, List.forall_mem_cons.mpr ⟨hI2, hIr⟩⟩⟩) ⟨⟨_, _, _, _, _, _, e4, e3', e2', rfl⟩, snoc_lt hbad (hnum ▸ hr9)⟩)
      · (rename ¬ (3 : Int) < _ => he); (rename News _ _ _ _ => N8)
        rw [List.length_map] at he
        have hr9 : ringAt g num = false := by unfold ringAt; rw [← hgr, decide_eq_false fun h => he (Int.ofNat_lt.mpr h), Bool.false_and, Bool.false_and]
        exact hQa _ _ (ForStep.next (by k_asm) N8 (news₂ := (L1 + 1 + 1 + 1 + 1, v4) :: (L1 + 1 + 1 + 1, v3') :: (L1 + 1 + 1, v2') :: (L1 + 1, o1) :: nx) (List.forall_mem_cons.mpr ⟨by k_mem, fun p hp => .tail _ (.tail _ hp)⟩) (List.forall_mem_cons.mpr ⟨hI4, List.forall_mem_cons.mpr ⟨hI3, List.forall_mem_cons.mpr ⟨hI2, hIr⟩⟩⟩) ⟨⟨_, _, _, _, _, _, e4, e3', e2', rfl⟩, snoc_lt hbad (hnum ▸ hr9)⟩)
  · rintro m₂ nx6 h9 tk9 ⟨⟨v2, v3, v4, x2, x3, x4, e4, e3, e2, rfl⟩, hbad⟩ F' N'
    clear F9 N9
    replace F' : Fr _ L1 h9 _ := F'
    replace N' : News _ L1 h9 _ := N'
    (try dsimp only)
    k_steps
    (rename News _ _ _ _ => N8)
    exact ret _ _ _ _ (by k_asm) (news_drop N8 fun p hp => by k_mem) ⟨rfl, by rw [ring_false hbad]⟩
end
section
open PySem PySem.W PySem.Calls PyProof.Rows Mine
set_option maxRecDepth 100000
set_option maxHeartbeats 8000000
theorem reset19 : True := by
  w_top off
  k_with_none
  k_with "=k_all" => first | assumption | exact allLt_ne (by assumption) (by omega) | exact allLt_ne (And.right (by assumption)) (by omega) | exact allLt_ne (And.right (And.right (by assumption))) (by omega) | exact allLt_ne (And.right (And.right (And.right (by assumption)))) (by omega)
  k_with "=size_fits" => ((try simp only [List.size_toArray, sizeLine_eq]); omega)
  k_with "=ktr_room" => first | exact room1 (by assumption) (by decide) | exact room0 (by assumption) | exact room4 (by assumption) | exact room8 (by assumption) | exact room48 (by assumption) | fail "room"
  k_with "=ktr_units" => first | exact units1 (by assumption) (by decide) | exact units1 (k := 8) (by assumption) (by decide) | exact units4 (by assumption) | exact units8 (by assumption) | exact units48 (by assumption) | fail "units"
  k_with "=k_in" => first | k_in_fast | assumption | exact Frag.In.keeps (by k_asm) (Fr.keep (by k_asm))
  k_with "=call builtin:str.lower" => (k_here; refine lower_K (by first | assumption | exact Clean.low (by assumption)) ?_; intro _ _)
  k_with "=c1" => ((case k1 => k_asm); (case k2 => k_asm); (case k3 => k_asm); (case k4 => k_asm); (case k5 => k_asm); (case k6 => ktr_room); (case k7 => ktr_units))
  k_with "=subscriptTail Name Slice ref ref" => (k_here; (with_reducible show wpAny _ _ (subscriptTail _ (PySem.Expr.Slice _ _ none _) (Value.ref _) (Value.ref _)) _ _ _); k_dflt (refine' kms_slice_lit (by k_asm) (by k_asm) (by kmk_list) (by kmk_part) (by kmk_part) (by exact rfl) ?_ (by with_unfolding_all rfl) (by kmk_pure) (by kmk_size)); intro kxD kxH kxF kxN kxl; (try k_lt kxl); (try simp only [List.toList_toArray, pick_all, pick_init, pick_lit] at kxN))
  k_with "=call builtin:len" => (k_here; (refine' len_at (by k_asm) (by k_mem) (by omega) ?_); intro _ _)
  k_with "=callWith ref" => (k_here; k_dflt (refine' callWith_F (by exact FnAt.of (by k_asm) (by k_mem)) ?_; k_whole))
  k_with "=callWith ref" => (k_here; (with_reducible show wpAny _ _ (callWith _ (Value.ref (OfNat.ofNat _)) _ (backTo _ (starEach (_ :: _) _)) (backToKw _ _)) _ _ _); k_dflt (refine' callWith_KW (by k_asm) (by k_is) (by exact rfl) ?_; k_whole))
  k_with "=callWith ref" => (k_here; (with_reducible show wpAny _ _ (callWith _ (Value.ref (OfNat.ofNat _)) _ (backTo _ (starEach (_ :: _) _)) []) _ _ _); k_dflt (refine' callWith_K (by k_asm) (by k_is) ?_; k_whole))
  k_with "=call ref" => (k_here; (with_reducible show wpAny _ _ (call (Value.ref 117) _ _) _ _ _); k_dflt (refine' C1.use (conv _ _ _ _ _ (by first | assumption | exact Clean.low (by assumption)) _) (by k_asm) (by k_asm) (by k_asm) (by k_asm) (by k_asm) (by ktr_room) (by ktr_units) ?_; intro kxr kxnews kxH kxT kxF kxN kxP; obtain ⟨kxe1, kxe2⟩ := kxP; subst kxe1; subst kxe2; (try dsimp only)))
  k_with "=subscriptTail Name Name ref int" => (k_here; (with_reducible rename News _ _ _ _ => kN); refine at6 kN (by k_mem) (by first | assumption | exact IsOrd.lt (by assumption) _ (by assumption) | omega | exact IsOrd.lt (by assumption) _ (by omega)) ?_)
  k_with "=subscriptTail Name Subscript ref int" => (k_here; (with_reducible rename News _ _ _ _ => kN); refine at6 kN (by k_mem) (by first | assumption | exact IsOrd.lt (by assumption) _ (by assumption) | omega | exact IsOrd.lt (by assumption) _ (by omega)) ?_)
  k_with "=subscriptTail Subscript Name Subscript Subscript ref int" => (k_here; k_dflt (refine kba_turn (value' := PySem.Expr.Name (PySem.Str.ofString "_") ⟨0, 0, 0, 0⟩) (fun _ => rfl) ?_); (with_reducible rename News _ _ _ _ => kN); (with_reducible rename SeesIn _ _ _ _ _ _ => kS); refine at6 kN (by repeat (first | exact SeesIn.row kS _ (by first | assumption | exact IsOrd.lt (by assumption) _ (by assumption) | omega | exact IsOrd.lt (by assumption) _ (by omega)) | refine List.Mem.tail _ ?_)) (by first | assumption | exact IsOrd.lt (by assumption) _ (by assumption) | omega | exact IsOrd.lt (by assumption) _ (by omega)) ?_)
  k_with "=subscriptTail Subscript Name Name Name ref int" => (k_here; k_dflt (refine kba_turn (value' := PySem.Expr.Name (PySem.Str.ofString "_") ⟨0, 0, 0, 0⟩) (fun _ => rfl) ?_); (with_reducible rename News _ _ _ _ => kN); (with_reducible rename SeesIn _ _ _ _ _ _ => kS); refine at6 kN (by repeat (first | exact SeesIn.row kS _ (by first | assumption | exact IsOrd.lt (by assumption) _ (by assumption) | omega | exact IsOrd.lt (by assumption) _ (by omega)) | refine List.Mem.tail _ ?_)) (by first | assumption | exact IsOrd.lt (by assumption) _ (by assumption) | omega | exact IsOrd.lt (by assumption) _ (by omega)) ?_)
  k_with "=storeName" => (k_here; (with_reducible show wpAny _ _ (storeName _ (Str.ofString "c") _) _ _ _); refine Hold.out ?_)
  k_with "=storeName" => (k_here; (with_reducible show wpAny _ _ (storeName _ (Str.ofString "b") _) _ _ _); refine Hold.out ?_)
  k_with "=eval ListComp" => (k_here; k_dflt (refine LCt.ListComp_T (F₀ := by k_asm) (by with_unfolding_all rfl) (by decide) (by rfl) (by decide) (by rfl) ?_))
  k_with "=compareOp Eq ref ref" => refine Hold.out ?_
  k_with "=CompSrcT" => refine Hold.out ?_
  k_with "=exec For Name Call cons nil" => (k_here; (with_reducible rename Fr _ _ _ _ => lF'); with_unfolding_all refine For_myF lF' ?_)
  k_with "=pyIter ref" => refine Hold.out ?_
  trivial
theorem lfour (w : World) (sl ol : Addr) (qs : Nat → Addr) (ks : Nat → Nat) (n on : Nat) (g : Nat → Nat → Bool) (o : Nat → Nat) (tk : Nat → Tok) (nx : List (Addr × Obj)) (hS : SeesIn nx sl qs ks n g) (hO : (ol, listOf (OrdVal o tk).toArray on) ∈ nx) (ho : IsOrd o) :
    C1 w (.ref 252) [.ref sl, .ref ol] [] 14 nx (fun nx' r => nx' = nx ∧ r = .bool (tripleP (badF g o))) := by
  unfold C1
  k_fill
  intro p loose mean mg mb dp un gd cn nm' ig ic mr a ccd cl outer A₀ base h₀ L m s Q E B F X N T hd hu ret
  obtain ⟨Y, hY⟩ := newsName N
  refine wpAny_call ?_
  k_dflt k_enter
  k_steps
  unfold Hold
  rename_i o4 o3 o2 o1 c4 c3 c2 c1 N' h9 tk9 t1 u1 v1 hr9 F9 N9 hk9
  obtain ⟨L1, hL1⟩ := newsL N9
  subst hL1
  have d4 : o4.data = .cell none := c4
  have d3 : o3.data = .cell none := c3
  have d2 : o2.data = .cell (some (.ref ol)) := c2
  have d1 : o1.data = .cell (some (.ref sl)) := c1
  clear c4 c3 c2 c1 N'
  have lA : ∀ q ∈ nx, q.1 < L1 := by assumption
  have hSl := hS.list
  have nxk : ∀ k, ∀ p ∈ nx, @Ne Nat p.1 (L1 + k) := fun k p hp => Nat.ne_of_lt (Nat.lt_of_lt_of_le (lA p hp) (Nat.le_add_right _ _))
  refine Iter_range_my (n := 6) (fun i m₁ nx' => (∃ v3 v4 x3 x4, v4.data = .cell x4 ∧ v3.data = .cell x3 ∧ nx' = (L1 + 1 + 1 + 1 + 1, v4) :: (L1 + 1 + 1 + 1, v3) :: (L1 + 1 + 1, o2) :: (L1 + 1, o1) :: nx) ∧ ∀ c, c < i → ∀ b, b < c → ∀ a, a < b → badF g o c b a = false) rfl hr9 (by decide) (by decide) F9 N9 ⟨⟨_, _, _, _, d4, d3, rfl⟩, none_lt⟩ ?_ ?_
  · rintro I c tc m₁ nx' h1 tk1 io hc ⟨⟨v3, v4, x3, x4, e4, e3, rfl⟩, hbad⟩ hne F' N'
    refine qgen fun Qa hQa => ?_
    clear F9 N9
    rw [Int.zero_add, Int.mul_one]
    replace F' : Fr _ L1 h1 _ := F'
    replace N' : News _ L1 h1 _ := N'
    k_steps
    unfold Hold
    k_dflt (refine' storeX_C F' N' ?sc ?sU e3 ?_ ?sa ?sb)
    case sa => rfl
    case sb => rfl
    case sc => rfl
    case sU => exact UpdF.tail (fun e => hne _ (.tail _ (.head _)) e.symm) (UpdF.tail (neA (a := L1) 4 3 (by decide)) (UpdF.head (List.forall_mem_cons.mpr ⟨neA (a := L1) 2 3 (by decide), List.forall_mem_cons.mpr ⟨neA (a := L1) 1 3 (by decide), nxk 3⟩⟩)))
    intro h4 v3' F4 N7 e3'
    (try dsimp only at N7)
    have hne' : ∀ p ∈ (L1 + 1 + 1 + 1 + 1, v4) :: (L1 + 1 + 1 + 1, v3') :: (L1 + 1 + 1, o2) :: (L1 + 1, o1) :: nx, p.1 ≠ I := List.forall_mem_cons.mpr ⟨hne (_, v4) (.head _), List.forall_mem_cons.mpr ⟨hne (_, v3) (.tail _ (.head _)), List.forall_mem_cons.mpr ⟨hne (_, o2) (.tail _ (.tail _ (.head _))), fun p hp => hne p (.tail _ (.tail _ (.tail _ hp)))⟩⟩⟩
    clear N' F' e3 hne
    k_steps
    unfold Hold
    (rename Fr _ _ _ _ => F9); (rename News _ _ _ _ => N9); (rename IsRange _ _ _ _ _ _ _ _ => hr9)
    refine Iter_range_my (n := c) (fun i m₁ nx' => (∃ v4 x4, v4.data = .cell x4 ∧ nx' = (I, io) :: (L1 + 1 + 1 + 1 + 1, v4) :: (L1 + 1 + 1 + 1, v3') :: (L1 + 1 + 1, o2) :: (L1 + 1, o1) :: nx) ∧ ∀ b, b < i → ∀ a, a < b → badF g o c b a = false) rfl hr9 (small_nat _ (le_big hc)) (size_nat _) F9 N9 ⟨⟨_, _, e4, rfl⟩, none_lt⟩ ?_ ?_
    · clear e4
      rintro I2 b tb m₂ nx2 h2 tk2 io2 hb ⟨⟨v4, x4, e4, rfl⟩, hbad2⟩ hne2 F' N'
      refine qgen fun Qb hQb => ?_
      have hb6 := Nat.lt_trans hb hc
      clear F9 N9
      rw [Int.zero_add, Int.mul_one]
      replace F' : Fr _ L1 h2 _ := F'
      replace N' : News _ L1 h2 _ := N'
      k_steps
      unfold Hold
      k_dflt (refine' storeX_C F' N' ?tc ?tU e4 ?_ ?ta ?tb)
      case ta => rfl
      case tb => rfl
      case tc => rfl
      case tU => exact UpdF.tail (fun e => hne2 _ (.tail _ (.head _)) e.symm) (UpdF.tail (fun e => hne' _ (.head _) e.symm) (UpdF.head (List.forall_mem_cons.mpr ⟨neA (a := L1) 3 4 (by decide), List.forall_mem_cons.mpr ⟨neA (a := L1) 2 4 (by decide), List.forall_mem_cons.mpr ⟨neA (a := L1) 1 4 (by decide), nxk 4⟩⟩⟩)))
      intro h5 v4' F5 N8 e4'
      (try dsimp only at N8)
      have hne2' : ∀ p ∈ (I, io) :: (L1 + 1 + 1 + 1 + 1, v4') :: (L1 + 1 + 1 + 1, v3') :: (L1 + 1 + 1, o2) :: (L1 + 1, o1) :: nx, p.1 ≠ I2 := List.forall_mem_cons.mpr ⟨hne2 (_, io) (.head _), List.forall_mem_cons.mpr ⟨hne2 (_, v4) (.tail _ (.head _)), fun p hp => hne2 p (.tail _ (.tail _ hp))⟩⟩
      clear N' F' e4 hne2
      k_steps
      unfold Hold
      (rename Fr _ _ _ _ => F9); (rename News _ _ _ _ => N9); (rename IsRange _ _ _ _ _ _ _ _ => hr9)
      refine Iter_range_my (n := b) (fun i m₁ nx' => nx' = (I2, io2) :: (I, io) :: (L1 + 1 + 1 + 1 + 1, v4') :: (L1 + 1 + 1 + 1, v3') :: (L1 + 1 + 1, o2) :: (L1 + 1, o1) :: nx ∧ ∀ a, a < i → badF g o c b a = false) rfl hr9 (small_nat _ (le_big hb6)) (size_nat _) F9 N9 ⟨rfl, none_lt⟩ ?_ ?_
      · rintro I3 a ta m₃ nx3 h3 tk3 io3 ha ⟨rfl, hbad3⟩ hne3 F' N'
        refine qgen fun Qc hQc => ?_
        have ha6 := Nat.lt_trans ha hb6
        clear F9 N9
        rw [Int.zero_add, Int.mul_one]
        replace F' : Fr _ L1 h3 _ := F'
        replace N' : News _ L1 h3 _ := N'
        k_steps
        · exact hQc _ _ (ForStep.next (by k_asm) (by k_asm) (fun _ hp => hp) hne3 ⟨rfl, snoc_lt hbad3 (by unfold badF; simp [*])⟩)
        · unfold Hold
          (rename Fr _ _ _ _ => F₃); (rename News _ _ _ _ => N₃); (rename IsRange _ _ _ _ _ _ _ _ => hr3)
          obtain ⟨X₃, hX₃⟩ := newsName N₃
          refine LCt.CompSrcT.range (n := a) rfl F₃ N₃ hr3 (small_nat _ (le_big ha6)) (size_nat _) (size6 (Nat.le_of_lt ha6)) ?_
          intro g3
          refine compT_inv (n := a) (fun i ys nx' => nx' = X₃ ∧ NatsAre ys ((List.range i).filter fun d => g (o d) (o b) && !g (o d) (o c))) ?_ ?_ _ _ _ _ (Nat.zero_add _) ⟨hX₃, .nil⟩
          · rintro d v ys nx2 I5 oI5 C5 oC5 D5 m5 h5 tk5 E5 hd ⟨t5, rfl⟩ ⟨rfl, hys⟩ hC5 hx5 F' N' off5 ne5
            have hd6 := Nat.lt_trans hd ha6
            rw [Int.zero_add] at hx5
            subst hX₃
            clear F₃ N₃
            k_steps
            · (rename News _ _ _ _ => N')
              exact LCg.CompEnd.intro (by k_asm) N' _ (fun _ hp => hp) off5 trivial ⟨rfl, by rw [range_filter_no (by simp [*])]; exact hys⟩
            · (rename News _ _ _ _ => N')
              exact LCg.CompEnd.intro (by k_asm) N' _ (fun _ hp => hp) off5 trivial ⟨rfl, by rw [range_filter_yes (by simp [*])]; exact hys.snoc⟩
            · (rename News _ _ _ _ => N')
              exact LCg.CompEnd.intro (by k_asm) N' _ (fun _ hp => hp) off5 trivial ⟨rfl, by rw [range_filter_no (by simp [*])]; exact hys⟩
          · rintro ys nx2 ⟨rfl, hys⟩
            subst hX₃
            clear F₃ N₃
            have hz : ys.length ≤ 10 := by
              rw [hys.length, List.length_map]
              refine Nat.le_trans (List.length_filter_le _ _) ?_
              rw [List.length_range]; exact Nat.le_trans (Nat.le_of_lt ha6) (by decide)
            k_steps
            unfold Hold
            (rename Fr _ _ _ _ => F₃); (rename News _ _ _ _ => N₃)
            refine eq_dataH (reads_list_at (N₃ _ (.tail _ (.head _))).1 rfl rfl (NatsAre.reads hys _)) (reads_list_at (N₃ _ (.head _)).1 rfl rfl ReadsAll.nil) (natsShaped _) rfl (by ktr_units) ?_
            rw [eqv_nats_nil]
            k_steps
            · refine hQc _ _ ?_
              dsimp only [ForStep]
              refine hQb _ _ ?_
              dsimp only [ForStep]
              refine hQa _ _ ?_
              dsimp only [ForStep]
              k_steps
              (rename News _ _ _ _ => N8)
              exact ret _ _ _ _ (by k_asm) (news_drop N8 fun p hp => by repeat (first | exact hp | refine .tail _ ?_)) ⟨rfl, by rw [triple_false hc hb ha (by unfold badF; simp [*])]⟩
            · (rename News _ _ _ _ => N8)
              exact hQc _ _ (ForStep.next (by k_asm) N8 (fun p hp => .tail _ (.tail _ hp)) hne3 ⟨rfl, snoc_lt hbad3 (by unfold badF; simp [*])⟩)
        · exact hQc _ _ (ForStep.next (by k_asm) (by k_asm) (fun _ hp => hp) hne3 ⟨rfl, snoc_lt hbad3 (by unfold badF; simp [*])⟩)
      · rintro m₃ nx3 h3 tk3 ⟨rfl, hbad3⟩ F' N'
        clear F9 N9
        replace F' : Fr _ L1 h3 _ := F'
        replace N' : News _ L1 h3 _ := N'
        (try dsimp only)
        k_steps
        exact hQb _ _ (ForStep.next (by k_asm) (by k_asm) (fun _ hp => hp) hne2' ⟨⟨_, _, e4', rfl⟩, snoc_lt hbad2 hbad3⟩)
    · clear e4
      rintro m₃ nx3 h3 tk3 ⟨⟨v4, x4, e4, rfl⟩, hbad2⟩ F' N'
      clear F9 N9
      replace F' : Fr _ L1 h3 _ := F'
      replace N' : News _ L1 h3 _ := N'
      (try dsimp only)
      k_steps
      refine hQa _ _ (ForStep.next (by k_asm) (by k_asm) (news₂ := (L1 + 1 + 1 + 1 + 1, v4) :: (L1 + 1 + 1 + 1, v3') :: (L1 + 1 + 1, o2) :: (L1 + 1, o1) :: nx) (fun _ hp => hp) ?_ ⟨⟨_, _, _, _, e4, e3', rfl⟩, snoc_lt hbad hbad2⟩)
      exact List.forall_mem_cons.mpr ⟨by have h := hne' _ (List.Mem.head _); exact h, fun p hp => hne' p (.tail _ hp)⟩
  · rintro m₃ nx3 h3 tk3 ⟨⟨v3, v4, x3, x4, e4, e3, rfl⟩, hbad⟩ F' N'
    clear F9 N9
    replace F' : Fr _ L1 h3 _ := F'
    replace N' : News _ L1 h3 _ := N'
    (try dsimp only)
    k_steps
    (rename News _ _ _ _ => N8)
    exact ret _ _ _ _ (by k_asm) (news_drop N8 fun p hp => by repeat (first | exact hp | refine .tail _ ?_)) ⟨rfl, by rw [triple_true hbad]⟩
end
section
open PySem PySem.W PySem.Calls PyProof.Rows
set_option maxRecDepth 100000
theorem pair_ne (n : Nat) (h : n < 15) : (pairsL.getD n (0, 0)).1 ≠ (pairsL.getD n (0, 0)).2 := by
  have : ∀ n, n < 15 → (pairsL.getD n (0, 0)).1 ≠ (pairsL.getD n (0, 0)).2 := by decide
  exact this n h
theorem gUp_graph (bit : Nat → Bool) : ∀ n, n ≤ 15 → Graph (gUp bit n)
  | 0, _ => ⟨fun _ _ => rfl, fun _ => rfl⟩
  | n + 1, h => by
    have G := gUp_graph bit n (Nat.le_of_succ_le h)
    have hne := pair_ne n h
    rw [gUp_succ]
    split
    · generalize (pairsL.getD n (0, 0)).1 = a at hne
      generalize (pairsL.getD n (0, 0)).2 = b at hne
      refine ⟨fun i j => ?_, fun i => ?_⟩
      · unfold setG
        rw [G.sym i j]
        by_cases h1 : i = a ∧ j = b
        · by_cases h2 : i = b ∧ j = a
          · rw [if_pos h2, if_pos ⟨h1.2, h1.1⟩]
          · rw [if_neg h2, if_pos h1, if_pos ⟨h1.2, h1.1⟩]
        · by_cases h2 : i = b ∧ j = a
          · rw [if_pos h2, if_neg fun h => h1 ⟨h.2, h.1⟩, if_pos ⟨h2.2, h2.1⟩]
          · rw [if_neg h2, if_neg h1, if_neg fun h => h1 ⟨h.2, h.1⟩, if_neg fun h => h2 ⟨h.2, h.1⟩]
      · unfold setG
        rw [if_neg fun h => hne (h.2.symm.trans h.1), if_neg fun h => hne (h.1.symm.trans h.2), G.irr]
    · exact G
theorem four_true {g : Nat → Nat → Bool} {o : Nat → Nat} (H : FourOk fun p q => g (o p) (o q)) : tripleP (badF g o) = true := triple_true fun c hc b hb a ha => by
  unfold badF
  cases h1 : g (o a) (o c) with
  | false => rfl
  | true =>
    cases h2 : g (o a) (o b) with
    | true => rfl
    | false =>
      obtain ⟨d, hd, h3, h4⟩ := H c hc b hb a ha h1 h2
      have : ((List.range a).filter fun d => g (o d) (o b) && !g (o d) (o c)).isEmpty = false := by
        rw [List.isEmpty_eq_false_iff]
        exact List.ne_nil_of_mem (List.mem_filter.mpr ⟨List.mem_range.mpr hd, by rw [show g (o d) (o b) = true from h3, show g (o d) (o c) = false from h4]; rfl⟩)
      rw [this]; rfl
/-- the whole plain law -/
theorem law_plain (bit : Nat → Bool) (way mark : Nat) : (fullP (gUp bit 15) (pk (gUp bit 15) way mark) == ringP (gUp bit 15)) = false ∧ tripleP (badF (gUp bit 15) (pk (gUp bit 15) way mark)) = true := by
  have H := run_four (gUp bit 15) way mark
  refine ⟨?_, four_true H⟩
  rw [full_ring (gUp_graph bit 15 (Nat.le_refl _)) (run_perm _ way mark) H]
  cases ringP (gUp bit 15) <;> rfl
end
section
open PySem PySem.W PySem.Calls PyProof.Rows Mine
set_option maxRecDepth 100000
set_option maxHeartbeats 8000000
theorem reset20 : True := by
  w_top off
  k_with_none
  k_with "=k_all" => first | assumption | exact allLt_ne (by assumption) (by omega) | exact allLt_ne (And.right (by assumption)) (by omega) | exact allLt_ne (And.right (And.right (by assumption))) (by omega) | exact allLt_ne (And.right (And.right (And.right (by assumption)))) (by omega)
  k_with "=size_fits" => ((try simp only [List.size_toArray, sizeLine_eq]); omega)
  k_with "=ktr_room" => first | exact room1 (by assumption) (by decide) | exact room0 (by assumption) | exact room4 (by assumption) | exact room8 (by assumption) | exact room48 (by assumption) | fail "room"
  k_with "=ktr_units" => first | exact units1 (by assumption) (by decide) | exact units1 (k := 8) (by assumption) (by decide) | exact units4 (by assumption) | exact units8 (by assumption) | exact units48 (by assumption) | fail "units"
  k_with "=k_in" => first | k_in_fast | assumption | exact Frag.In.keeps (by k_asm) (Fr.keep (by k_asm))
  k_with "=call builtin:str.lower" => (k_here; refine lower_K (by first | assumption | exact Clean.low (by assumption)) ?_; intro _ _)
  k_with "=c1" => ((case k1 => k_asm); (case k2 => k_asm); (case k3 => k_asm); (case k4 => k_asm); (case k5 => k_asm); (case k6 => ktr_room); (case k7 => ktr_units))
  k_with "=subscriptTail Name Slice ref ref" => (k_here; (with_reducible show wpAny _ _ (subscriptTail _ (PySem.Expr.Slice _ _ none _) (Value.ref _) (Value.ref _)) _ _ _); k_dflt (refine' kms_slice_lit (by k_asm) (by k_asm) (by kmk_list) (by kmk_part) (by kmk_part) (by exact rfl) ?_ (by with_unfolding_all rfl) (by kmk_pure) (by kmk_size)); intro kxD kxH kxF kxN kxl; (try k_lt kxl); (try simp only [List.toList_toArray, pick_all, pick_init, pick_lit] at kxN))
  k_with "=call builtin:len" => (k_here; (refine' len_at (by k_asm) (by k_mem) (by omega) ?_); intro _ _)
  k_with "=callWith ref" => (k_here; k_dflt (refine' callWith_F (by exact FnAt.of (by k_asm) (by k_mem)) ?_; k_whole))
  k_with "=callWith ref" => (k_here; (with_reducible show wpAny _ _ (callWith _ (Value.ref (OfNat.ofNat _)) _ (backTo _ (starEach (_ :: _) _)) (backToKw _ _)) _ _ _); k_dflt (refine' callWith_KW (by k_asm) (by k_is) (by exact rfl) ?_; k_whole))
  k_with "=callWith ref" => (k_here; (with_reducible show wpAny _ _ (callWith _ (Value.ref (OfNat.ofNat _)) _ (backTo _ (starEach (_ :: _) _)) []) _ _ _); k_dflt (refine' callWith_K (by k_asm) (by k_is) ?_; k_whole))
  k_with "=call ref" => (k_here; (with_reducible show wpAny _ _ (call (Value.ref 117) _ _) _ _ _); k_dflt (refine' C1.use (conv _ _ _ _ _ (by first | assumption | exact Clean.low (by assumption)) _) (by k_asm) (by k_asm) (by k_asm) (by k_asm) (by k_asm) (by ktr_room) (by ktr_units) ?_; intro kxr kxnews kxH kxT kxF kxN kxP; obtain ⟨kxe1, kxe2⟩ := kxP; subst kxe1; subst kxe2; (try dsimp only)))
  k_with "=subscriptTail Name Name ref int" => (k_here; (with_reducible rename News _ _ _ _ => kN); refine at6 kN (by k_mem) (by first | assumption | exact IsOrd.lt (by assumption) _ (by assumption) | omega | exact IsOrd.lt (by assumption) _ (by omega)) ?_)
  k_with "=subscriptTail Name Subscript ref int" => (k_here; (with_reducible rename News _ _ _ _ => kN); refine at6 kN (by k_mem) (by first | assumption | exact IsOrd.lt (by assumption) _ (by assumption) | omega | exact IsOrd.lt (by assumption) _ (by omega)) ?_)
  k_with "=subscriptTail Subscript Name Subscript Subscript ref int" => (k_here; k_dflt (refine kba_turn (value' := PySem.Expr.Name (PySem.Str.ofString "_") ⟨0, 0, 0, 0⟩) (fun _ => rfl) ?_); (with_reducible rename News _ _ _ _ => kN); (with_reducible rename SeesIn _ _ _ _ _ _ => kS); refine at6 kN (by repeat (first | exact SeesIn.row kS _ (by first | assumption | exact IsOrd.lt (by assumption) _ (by assumption) | omega | exact IsOrd.lt (by assumption) _ (by omega)) | refine List.Mem.tail _ ?_)) (by first | assumption | exact IsOrd.lt (by assumption) _ (by assumption) | omega | exact IsOrd.lt (by assumption) _ (by omega)) ?_)
  k_with "=subscriptTail Subscript Name Name Name ref int" => (k_here; k_dflt (refine kba_turn (value' := PySem.Expr.Name (PySem.Str.ofString "_") ⟨0, 0, 0, 0⟩) (fun _ => rfl) ?_); (with_reducible rename News _ _ _ _ => kN); (with_reducible rename SeesIn _ _ _ _ _ _ => kS); refine at6 kN (by repeat (first | exact SeesIn.row kS _ (by first | assumption | exact IsOrd.lt (by assumption) _ (by assumption) | omega | exact IsOrd.lt (by assumption) _ (by omega)) | refine List.Mem.tail _ ?_)) (by first | assumption | exact IsOrd.lt (by assumption) _ (by assumption) | omega | exact IsOrd.lt (by assumption) _ (by omega)) ?_)
  k_with "=subscriptTail Name BinOp ref int" => refine Hold.out ?_
  k_with "=call ref" => refine Hold.out ?_
  k_with "=exec Assign cons ListComp" => (k_here; k_dflt (refine LCg.Assign_ListComp_U (F₀ := by k_asm) (by rfl) (by with_unfolding_all rfl) (by with_unfolding_all rfl) (by decide) (by rfl) (by decide) (by rfl) (by rfl) (by rfl) ?_))
  k_with "=eval ListComp" => (k_here; k_dflt (refine LCg.ListComp_U (F₀ := by k_asm) (by with_unfolding_all rfl) (by decide) (by rfl) (by decide) (by rfl) ?_))
  k_with "=CompSrc" => refine Hold.out ?_
  k_with "=call builtin:sum" => refine Hold.out ?_
  k_with "=subscriptTail Name Constant ref int" => (k_here; (with_reducible rename News _ _ _ _ => kN); refine item_at kN (by k_mem) (by decide) (by decide) (by rfl) ?_)
  k_with "=compareOp Eq" => (k_here; refine Hold.out ?_)
  trivial
theorem ghName {s : Shared} {tabs : List (Addr × Addr)} {L : Addr} {h : Heap} {nx : List (Addr × Obj)} (_N : News (ghostOf s.heap tabs) L h nx) : ∃ S, S = s := ⟨s, rfl⟩
theorem intsName {vs : List Value} {ns : List Int} (_h : IntsAre vs ns) : ∃ N, N = ns := ⟨_, rfl⟩
theorem islName {h : Heap} {a : Addr} {vs : List Value} (_L : h.IsList a vs.toArray) : ∃ A V, A = a ∧ V = vs := ⟨_, _, rfl, rfl⟩
theorem ints3 {ys : List Value} {ds : List Int} (h : IntsAre ys ds) (hl : ds.length = 3) : ∃ d tks, ys = DrawVal d tks := by
  match ds, hl with
  | [a, b, c], _ =>
    cases h with
    | cons _ t1 h =>
      cases h with
      | cons _ t2 h =>
        cases h with
        | cons _ t3 h =>
          cases h
          exact ⟨fun i => [a, b, c].getD i 0, fun i => [t1, t2, t3].getD i t1, rfl⟩
theorem fmodNat (x : Int) {n : Int} (h : 0 < n) : ∃ d : Nat, x.fmod n = ((d : Nat) : Int) := by
  refine ⟨(x % n).toNat, ?_⟩
  rw [Int.fmod_eq_emod_of_nonneg _ (Int.le_of_lt h), Int.toNat_of_nonneg (Int.emod_nonneg x (by omega))]
theorem lawt : PySem.Challenge.rw_uc0029_02.Holds := Mine.hd (by
  k_go0
  walk1
  (try k_fold)
  k_steps
  unfold Hold
  rename_i w1 c1 X0 X T K F' N' l0 h tk1 t1 u1 v1 hr F₁ N₁ hk
  (rename IntsAre _ _ => hI)
  obtain ⟨sa, svs, hsa, hsv⟩ := islName lifted
  subst hsa hsv
  obtain ⟨ns0, hns0⟩ := intsName hI
  subst hns0
  have d1 : w1.data = .cell (some (.ref sa)) := c1
  clear c1 X0 F' N'
  obtain ⟨S1, hS1⟩ := ghName N₁
  subst hS1
  obtain ⟨X₁, hX⟩ := newsName N₁
  refine LCg.CompSrc.range (n := 3) rfl F₁ N₁ hr (by decide) (by decide) (by rw [sizeLine_eq]; omega) ?_
  intro g'
  refine compU_inv (n := 3) (fun i ys nx => nx = X₁ ∧ ∃ ds : List Int, IntsAre ys ds ∧ ds.length = i) ?_ ?_ _ _ _ _ (Nat.zero_add _) ⟨hX, [], .nil, rfl⟩
  · rintro i v ys nx I oI C oC D m₂ h2 tk2 E' hi ⟨ti, rfl⟩ ⟨rfl, ds, hys, hdl⟩ hC hx F' N' off ne
    (try dsimp only)
    refine cgen fun Qd hQd => ?_
    rw [Int.zero_add] at hx
    subst hX
    clear F₁ N₁
    k_steps
    unfold Hold
    (rename Fr _ _ _ _ => F5); (rename News _ _ _ _ => N5)
    refine LSm.sum_ints (vs := (slicePick svs.toArray (some (i : Int)) none (some 3)).toList) F5 N5 rfl (by rw [Array.toArray_toList]; exact ⟨_, (N5 _ (.head _)).1, rfl, _, rfl⟩) (hI.pick (some (i : Int)) none (some 3)) ?_
    intro h6 tk6 t6 F6 N6
    generalize (pickNums _ (some (i : Int)) none (some 3)).sum = sm
    clear F5 N5
    k_steps
    refine hQd _ _ ?_
    exact LCg.CompEnd.intro (by k_asm) N6 _ (fun p hp => .tail _ (.tail _ hp)) off trivial ⟨rfl, ds ++ [_], intsSnoc hys, by simp [hdl]⟩
  · rintro ys nx ⟨rfl, ds, hys, hdl⟩
    subst hX
    clear F₁ N₁
    obtain ⟨d, tks, rfl⟩ := ints3 hys hdl
    k_steps
    unfold Hold
    (rename Fr _ _ _ _ => F₂); (rename News _ _ _ _ => N₂)
    obtain ⟨D₁, hD₁⟩ := newsHead N₂
    subst hD₁
    k_dflt (refine C1.use (lsees _ D₁ _ d tks _ (.head _)) (by k_asm) (by k_asm) (by k_asm) (by k_asm) (by k_asm) (by ktr_room) (by ktr_units) ?_)
    rintro r9 B1 h' tk' F' N' ⟨sl, qs, ks, n, hS, hs, rfl⟩
    have md := hs _ (.head _)
    have mt := hs _ (.tail _ (.tail _ (.head _)))
    clear hs F₂ N₂
    refine tgen fun tk9 => ?_
    k_steps
    unfold Hold
    (rename Fr _ _ _ _ => F₂); (rename News _ _ _ _ => N₂)
    obtain ⟨way, hway⟩ := fmodNat (((d 0).fdiv 32 + (d 1).fdiv 32 + (d 2).fdiv 32)) (n := 7776) (by decide)
    obtain ⟨mark, hmark⟩ := fmodNat ((d 2).fdiv 32) (n := 729) (by decide)
    rw [hway, hmark]
    clear hway hmark
    generalize bitD d = bit at hS
    have hS' : SeesIn (off [232] B1) sl qs ks n (gUp bit 15) := ⟨off_mem hS.list (List.forall_mem_singleton.mpr (news_ne N₂ hS.list mt (fun e => by cases e))), fun i hi => off_mem (hS.row i hi) (List.forall_mem_singleton.mpr (news_ne N₂ (hS.row i hi) mt (fun e => by cases e)))⟩
    k_dflt (refine C1.use (lwalk _ sl qs ks n (gUp bit 15) way mark _ _ (off [232] B1) hS') (by k_asm) (by k_asm) (by k_asm) (newsOut N₂ mt) (by k_asm) (by ktr_room) (by ktr_units) ?_)
    rintro r9 B2 h' tk' F' N' ⟨hS2, ps, mt2, ol, on, tks2, hol, rfl⟩
    clear F₂ N₂ hS hS' md mt
    obtain ⟨hp1, hp2⟩ := law_plain bit way mark
    have ho : IsOrd (pk (gUp bit 15) way mark) := ⟨(run_perm (gUp bit 15) way mark).lt⟩
    generalize pk (gUp bit 15) way mark = ord at hol hp1 hp2 ho
    generalize gUp bit 15 = g at hS2 hp1 hp2
    refine tgen fun tk9 => ?_
    k_steps
    unfold Hold
    (rename Fr _ _ _ _ => F₂); (rename News _ _ _ _ => N₂)
    k_dflt (refine C1.use (lfull _ sl ol qs ks n on g ord tks2 B2 hS2 hol ho) (by k_asm) (by k_asm) (by k_asm) (by k_asm) (by k_asm) (by ktr_room) (by ktr_units) ?_)
    rintro r9 B3 h' tk' F' N' ⟨rfl, rfl⟩
    clear F₂ N₂
    refine tgen fun tk9 => ?_
    k_steps
    unfold Hold
    (rename Fr _ _ _ _ => F₂); (rename News _ _ _ _ => N₂)
    k_dflt (refine C1.use (lring _ sl qs ks n g _ hS2) (by k_asm) (by k_asm) (by k_asm) (by k_asm) (by k_asm) (by ktr_room) (by ktr_units) ?_)
    rintro r9 B4 h' tk' F' N' ⟨rfl, rfl⟩
    clear F₂ N₂
    refine tgen fun tk9 => ?_
    k_steps
    unfold Hold
    (rename Fr _ _ _ _ => F₂); (rename News _ _ _ _ => N₂)
    k_dflt (refine C1.use (lfour _ sl ol qs ks n on g ord tks2 _ hS2 hol ho) (by k_asm) (by k_asm) (by k_asm) (by k_asm) (by k_asm) (by ktr_room) (by ktr_units) ?_)
    rintro r9 B5 h' tk' F' N' ⟨rfl, rfl⟩
    clear F₂ N₂
    rw [hp2]
    refine ⟨goodW_bool F' ?gb1 (raisesW_false ?gb2) ?gb3, ⟨⟨_, (N' _ mt2).1⟩, True.intro⟩⟩
    case gb1 => assumption
    case gb2 => wrow_none_raised
    case gb3 => wrow_post)
end
end Mine
end
set_option maxRecDepth 100000 in
theorem PySem.Challenge.cw_uc0029_02_holds : PySem.Challenge.rw_uc0029_02.Holds := by
  exact Mine.lawt
