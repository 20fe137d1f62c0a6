import PyProof.Rows.All
import Wide.All
import OpenK.AllK
import Wide.FinOn
import PySem.Challenge.RW_of0018_01
set_option Elab.async false
section
open PySem PySem.W PyProof.Rows
set_option maxRecDepth 100000
set_option maxHeartbeats 8000000
namespace Mine
open_top hd for PySem.Challenge.rw_of0018_01
end Mine
end

section
open PySem PySem.W PyProof.Rows PySem.Calls
set_option maxRecDepth 100000
set_option maxHeartbeats 4000000
namespace Mine
open PySem.Sre PySem.Builtin.Re

abbrev rxCode : Array Nat := #[14, 8, 1, 2, 4294967295, 1, 1, 46, 0, 16, 46, 24, 9, 1, 4294967295, 13, 4, 8, 0, 0, 1, 6, 5, 1]

theorem runFor_add : ∀ (a b : Nat) (m : M), M.runFor (a + b) m = M.runFor b (M.runFor a m)
  | 0, b, m => by rw [Nat.zero_add]; rfl
  | a + 1, b, m => by
    rw [show a + 1 + b = (a + b) + 1 by omega]
    simp only [M.runFor]
    by_cases h : m.outcome.isSome = true
    · simp only [h, if_true]
      have : ∀ b, M.runFor b m = m := by
        intro b; cases b with
        | zero => rfl
        | succ b => simp only [M.runFor, h, if_true]
      rw [this]
    · simp only [h]
      exact runFor_add a b m.step
theorem runFor_done {m : M} (h : m.outcome.isSome = true) : ∀ b, M.runFor b m = m
  | 0 => rfl
  | b + 1 => by simp only [M.runFor, h, if_true]

/-- the machine before a start at i -/
structure RxAt (text : Array Nat) (i : Nat) (m : M) : Prop where
  cd : m.code = rxCode
  tx : m.text = text
  lm : m.lim = text.size
  last : m.lastStart = text.size
  pcc : m.pc = 9
  ps : m.pos = i
  ans : m.answer = none
  out : m.outcome = none
  wt : m.weight = 1
  fr : ∃ b, m.frames = [{ wait := .nextStart, pc := 9, pos := i, outermost := b }]

structure RxNo (text : Array Nat) (i : Nat) (m : M) : Prop where
  cd : m.code = rxCode
  tx : m.text = text
  lm : m.lim = text.size
  last : m.lastStart = text.size
  ans : m.answer = some false
  out : m.outcome = none
  wt : m.weight = 1
  fr : ∃ b, m.frames = [{ wait := .nextStart, pc := 9, pos := i, outermost := b }]

theorem rx_look {text : Array Nat} {i : Nat} {m : M} (h : RxAt text i m) (hno : 46 ∉ text) : RxNo text i m.step := by
  obtain ⟨code, tx, lim, start, lastStart, wholeText, mustAdvance, pc, pos, handed, outermost, marks, lastmark, lastindex, loops, inner, frames, weight, answer, seen, outcome⟩ := m
  obtain ⟨h1, h2, h3, h4, h5, h6, h7, h8, h9, b, h10⟩ := h
  dsimp only at h1 h2 h3 h4 h5 h6 h7 h8 h9 h10
  subst h1 h2 h3 h4 h5 h6 h7 h8 h9 h10
  simp only [M.step, Option.isSome_none, Bool.false_eq_true, if_false]
  rw [if_pos (by decide)]
  have hw : M.word { code := rxCode, text := tx, lim := tx.size, start := start, lastStart := tx.size, wholeText := wholeText, mustAdvance := mustAdvance, pc := 9, pos := pos, handed := handed, outermost := outermost, marks := marks, lastmark := lastmark, lastindex := lastindex, loops := loops, inner := inner, frames := [{ wait := .nextStart, pc := 9, pos := pos, outermost := b }], weight := 1, answer := none, seen := seen, outcome := none } 0 = 16 := rfl
  unfold M.exec
  rw [hw]
  simp only [show ops[16]? = some Op.LITERAL from rfl]
  by_cases hp : pos ≥ tx.size
  · rw [if_pos hp]
    exact ⟨rfl, rfl, rfl, rfl, rfl, rfl, rfl, b, rfl⟩
  · rw [if_neg hp]
    have hi : pos < tx.size := Nat.not_le.mp hp
    have hc : (tx.getD pos 0 == 46) = false := by
      rw [Array.getD_eq_getD_getElem?, Array.getElem?_eq_getElem hi, Option.getD_some, beq_eq_false_iff_ne]
      intro e
      exact hno (e ▸ Array.getElem_mem hi)
    have ha : accepts rxCode 9 (tx.getD pos 0) (Seen.add seen 16) = .ok (false, Seen.add seen 16) := by
      unfold accepts
      simp only [show rxCode.getD 9 0 = 16 from rfl, show ops[16]? = some Op.LITERAL from rfl, show rxCode.getD (9 + 1) 0 = 46 from rfl, hc]
    simp only [ha]
    exact ⟨rfl, rfl, rfl, rfl, rfl, rfl, rfl, b, rfl⟩

theorem rx_next {text : Array Nat} {i : Nat} {m : M} (h : RxNo text i m) (hi : i < text.size) : RxAt text (i + 1) m.step := by
  obtain ⟨code, tx, lim, start, lastStart, wholeText, mustAdvance, pc, pos, handed, outermost, marks, lastmark, lastindex, loops, inner, frames, weight, answer, seen, outcome⟩ := m
  obtain ⟨h1, h2, h3, h4, h7, h8, h9, b, h10⟩ := h
  dsimp only at h1 h2 h3 h4 h7 h8 h9 h10
  subst h1 h2 h3 h4 h7 h8 h9 h10
  simp only [M.step, Option.isSome_none, Bool.false_eq_true, if_false, M.resume]
  rw [if_pos hi]
  have hf : M.hasFirstSet { code := rxCode, text := tx, lim := tx.size, start := start, lastStart := tx.size, wholeText := wholeText, mustAdvance := false, pc := 9, pos := i, handed := handed, outermost := b, marks := marks, lastmark := lastmark, lastindex := lastindex, loops := loops, inner := inner, frames := [], weight := 1 - (1 + ({ wait := .nextStart, pc := 9, pos := i, outermost := b } : Sre.Frame).kept.marks.size), answer := none, seen := seen, outcome := none } = false := rfl
  unfold M.attemptFrom
  rw [hf]
  exact ⟨rfl, rfl, rfl, rfl, rfl, rfl, rfl, rfl, rfl, false, rfl⟩

structure RxOut (m : M) : Prop where
  ans : m.answer = some false
  out : m.outcome = none
  fr : m.frames = []
theorem rx_out {m : M} (h : RxOut m) : m.step.outcome = some .failed := by
  obtain ⟨h1, h2, h3⟩ := h
  simp only [M.step, h1, h2, h3, Option.isSome_none, Bool.false_eq_true, if_false]
theorem rx_last {text : Array Nat} {i : Nat} {m : M} (h : RxNo text i m) (hi : ¬ i < text.size) : RxOut m.step := by
  obtain ⟨code, tx, lim, start, lastStart, wholeText, mustAdvance, pc, pos, handed, outermost, marks, lastmark, lastindex, loops, inner, frames, weight, answer, seen, outcome⟩ := m
  obtain ⟨h1, h2, h3, h4, h7, h8, h9, b, h10⟩ := h
  dsimp only at h1 h2 h3 h4 h7 h8 h9 h10
  subst h1 h3 h4 h7 h8 h9 h10
  simp only [M.step, Option.isSome_none, Bool.false_eq_true, if_false, M.resume]
  rw [if_neg hi]
  exact ⟨rfl, rfl, rfl⟩

theorem outcome_step {m : M} (h : m.outcome = none) (n : Nat) : M.runFor (n + 1) m = M.runFor n m.step := by
  simp only [M.runFor, h, Option.isSome_none, Bool.false_eq_true, if_false]

theorem rx_end {text : Array Nat} (hno : 46 ∉ text) : ∀ (k i : Nat) (m : M), i + k = text.size → RxAt text i m → (M.runFor (2 * k + 3) m).outcome = some .failed
  | 0, i, m, e, h => by
    have h1 := rx_look h hno
    show (M.runFor (2 + 1) m).outcome = _
    rw [outcome_step h.out, outcome_step h1.out]
    have h2 := rx_last h1 (by omega)
    rw [outcome_step h2.out]
    exact rx_out h2
  | k + 1, i, m, e, h => by
    have h1 := rx_look h hno
    have h2 := rx_next h1 (by omega)
    rw [show 2 * (k + 1) + 3 = (2 * k + 3 + 1) + 1 by omega, outcome_step h.out, outcome_step h1.out]
    exact rx_end hno k (i + 1) _ (by omega) h2

theorem rx_start {text : Array Nat} (h2 : 2 ≤ text.size) : RxAt text 0 (forSearch rxCode text 0 0 text.size false) := by
  unfold forSearch
  have h : ((decide ((0 : Nat) > text.size) || decide (text.size - 0 < (header rxCode).1)) = true) = False := by
    simp only [show (header rxCode).1 = 2 from rfl]
    simp only [Bool.or_eq_true, decide_eq_true_eq, eq_iff_iff, iff_false]
    omega
  simp only [h, if_false]
  unfold M.attemptFrom
  rw [if_pos (by rfl)]
  exact ⟨rfl, rfl, rfl, rfl, rfl, rfl, rfl, rfl, rfl, true, rfl⟩
theorem rx_short {text : Array Nat} (h2 : ¬ 2 ≤ text.size) : RxOut (forSearch rxCode text 0 0 text.size false) := by
  unfold forSearch
  have h : ((decide ((0 : Nat) > text.size) || decide (text.size - 0 < (header rxCode).1)) = true) = True := by
    simp only [show (header rxCode).1 = 2 from rfl]
    simp only [Bool.or_eq_true, decide_eq_true_eq, eq_iff_iff, iff_true]
    omega
  simp only [h, if_true]
  exact ⟨rfl, rfl, rfl⟩
theorem rx_fails {text : Array Nat} (hno : 46 ∉ text) (hs : text.size ≤ 1000) : ∃ n, n ≤ 4 * 1000 ∧ (M.runFor n (forSearch rxCode text 0 0 text.size false)).outcome = some .failed := by
  by_cases h2 : 2 ≤ text.size
  · exact ⟨2 * text.size + 3, by omega, rx_end hno text.size 0 _ (by omega) (rx_start h2)⟩
  · refine ⟨1, by omega, ?_⟩
    have h := rx_short h2
    rw [outcome_step h.out]
    exact rx_out h

section
variable {M₀ : Model} {A : Around} {E : Value → Shared → Prop} {s : Shared}
theorem drive_any {Q : M → Shared → Prop} : ∀ (turns n : Nat) (m : M), n ≤ 4 * turns → 0 < turns → (M.runFor n m).outcome.isSome = true → (∀ m', m'.outcome = (M.runFor n m).outcome → Q m' s) → wpAny M₀ A (reDrive turns m) Q E s
  | 0, _, _, _, h, _, _ => absurd h (Nat.lt_irrefl _)
  | turns + 1, n, m, hn, _, hd, hQ => by
    unfold reDrive
    by_cases h4 : (M.runFor reTurnSteps m).outcome.isSome = true
    · simp only [h4, if_true]
      refine wpAny_pure (hQ _ ?_)
      by_cases hle : n ≤ reTurnSteps
      · obtain ⟨d, hd'⟩ := Nat.exists_eq_add_of_le hle
        rw [hd', runFor_add, runFor_done hd]
      · obtain ⟨d, hd'⟩ := Nat.exists_eq_add_of_le (Nat.le_of_lt (Nat.not_le.mp hle))
        rw [hd', runFor_add, runFor_done h4]
    · simp only [h4]
      have hlt : reTurnSteps < n := by
        refine Nat.not_le.mp fun hle => h4 ?_
        obtain ⟨d, hd'⟩ := Nat.exists_eq_add_of_le hle
        rw [hd', runFor_add, runFor_done hd]; exact hd
      obtain ⟨d, hd'⟩ := Nat.exists_eq_add_of_le (Nat.le_of_lt hlt)
      have e4 : reTurnSteps = 4 := rfl
      refine wpAny_bind (wpAny_rule ?_)
      refine drive_any turns d _ (by omega) (by omega) ?_ ?_
      · rw [hd', runFor_add] at hd; exact hd
      · intro m' hm'
        exact hQ m' (by rw [hm', hd', runFor_add])
theorem toEnd_any {Q : Option M → Shared → Prop} {n : Nat} {m : M} (hn : n ≤ 4 * 1000) (hf : (M.runFor n m).outcome = some .failed) (hQ : Q none s) : wpAny M₀ A (reRunToEnd m) Q E s := by
  unfold reRunToEnd
  refine wpAny_bind (drive_any (2 ^ 64) n m (by omega) (by decide) (by rw [hf]; rfl) fun m' hm' => ?_)
  rw [hf] at hm'
  refine wpAny_bind (wpAny_forIn_list _ (fun _ _ s' => s' = s) _ ?_ ?_ _ _ rfl)
  · rintro i r _ s' rfl
    split
    · exact wpAny_bind (wpAny_rule (wpAny_pure rfl))
    · exact wpAny_pure rfl
  · rintro _ s' rfl
    rw [hm']
    exact wpAny_pure hQ
end
theorem slot_re_search : Slot "re.Pattern" "search" "re.Pattern.search" := Slot.of (by rw [typeLookup_type, builtinLookup_eq_fast]; rfl) (owner := "re.Pattern") (n := "search") (by decide +kernel) (by decide +kernel) (by decide +kernel) (.inr (by decide +kernel)) (by rw [isSubtype_type]; kernel_rfl)
theorem entry_re_search : entryFor table "re.Pattern.search" = some Builtin.«re.Pattern.search» := entryFor_of_fast (by kernel_rfl)
theorem args_re_search (a b : Value) : argsOk "re.Pattern.search" ⟨[a, b], []⟩ := by unfold argsOk; kernel_rfl
section
variable {prog : Program} {w : World} {A : Around} {E : Value → Shared → Prop} {s : Shared}
abbrev rxTup : Obj := { cls := .type "tuple", data := .seq #[.int 14 0, .int 8 0, .int 1 0, .int 2 0, .int 4294967295 0, .int 1 0, .int 1 0, .int 46 0, .int 0 0, .int 16 0, .int 46 0, .int 24 0, .int 9 0, .int 1 0, .int 4294967295 0, .int 13 0, .int 4 0, .int 8 0, .int 0 0, .int 0 0, .int 1 0, .int 6 0, .int 5 0, .int 1 0] }
theorem re_search_none {x : Str} {t : Tok} {ob : Obj} {v0 v1 : Value} {Q : Value → Shared → Prop} (h36 : s.heap.get? 36 = some ob) (hc : ob.cls = .type "re.Pattern")
    (hd : ob.data = .fields #[v0, v1, .int 0 0, .none, .none, .ref 35, .int 0 0]) (h35 : s.heap.get? 35 = some rxTup)
    (hno : 46 ∉ x.cps) (hsz : x.cps.size ≤ 1000) (hQ : Q .none s) : wpAny (model prog w) A (call (.builtin "re.Pattern.search") [.ref 36, .str x t]) Q E s := by
  refine wpAny_call_entry slot_re_search ⟨ob, h36, hc⟩ entry_re_search ?_ (args_re_search _ _)
  unfold Builtin.«re.Pattern.search»
  refine wpAny_bind ?_
  unfold reTarget
  dsimp only
  refine wpAny_bind (wpAny_of_eq (a := [some (.str x t), none, none]) rfl ?_)
  dsimp only
  refine wpAny_bind (wpAny_pure (wpAny_bind (wpAny_pure (wpAny_bind (wpAny_fieldsOf h36 hd ?_)))))
  refine wpAny_bind (wpAny_of_eq (a := (x.cps, 0)) rfl ?_)
  dsimp only
  rw [if_neg (by rw [Bool.and_eq_true]; rintro ⟨_, h⟩; cases h), if_neg (by intro h; cases h)]
  refine wpAny_bind (wpAny_of_eq (a := ()) rfl ?_)
  refine wpAny_bind ?_
  unfold reRawItems
  refine wpAny_bind (wpAny_seqItems h35 rfl (wpAny_pure (wpAny_pure ?_)))
  have e1 : min (Int.toNat 0) x.cps.size = 0 := Nat.zero_min _
  have e2 : min ((2 : Int) ^ 63 - 1).toNat x.cps.size = x.cps.size := by
    have : ((2 : Int) ^ 63 - 1).toNat = 9223372036854775807 := by decide
    rw [this]; omega
  dsimp only
  rw [e1, e2]
  unfold reAnswer
  obtain ⟨n, hn, hf⟩ := rx_fails hno hsz
  have e3 : (Array.map (fun x : Int => x.toNat) (Array.map reRawOf ((some (#[.int 14 0, .int 8 0, .int 1 0, .int 2 0, .int 4294967295 0, .int 1 0, .int 1 0, .int 46 0, .int 0 0, .int 16 0, .int 46 0, .int 24 0, .int 9 0, .int 1 0, .int 4294967295 0, .int 13 0, .int 4 0, .int 8 0, .int 0 0, .int 0 0, .int 1 0, .int 6 0, .int 5 0, .int 1 0] : Array Value)).getD #[]))) = rxCode := by decide +kernel
  rw [e3]
  refine wpAny_bind (toEnd_any hn hf ?_)
  exact wpAny_pure ⟨_, rfl, hQ⟩
end
theorem plainAttrs_re : PlainAttrs "re.Pattern" :=
  ⟨⟨"object.__getattribute__", by rw [typeLookup_type, builtinLookup_eq_fast]; kernel_rfl, by decide +kernel⟩, by rw [typeLookup_type, builtinLookup_eq_fast]; kernel_rfl⟩
theorem type_re_search : typeOf (.builtin "re.Pattern.search") = pure (.type "method_descriptor") := by show builtinType _ = _; rw [builtinType_eq_fast]; kernel_rfl
theorem getMethod_re_search {M : Model} {A : Around} {E : Value → Shared → Prop} {s : Shared} {a : Addr} {o : Obj} {pl : Sem Bool} {Q : Value × List Value → Shared → Prop} (ho : s.heap.get? a = some o) (hc : o.cls = .type "re.Pattern") (hd : o.dict = none)
    (h : Q (.builtin "re.Pattern.search", [.ref a]) s) : wpAny M A (getMethod (.ref a) (Str.ofString "search") pl) Q E s :=
  getMethod_builtin (T := "re.Pattern") ⟨o, ho, hc⟩ plainAttrs_re slot_re_search type_re_search (fun b e => by cases e; exact ⟨o, ho, hd⟩) h
end Mine
end

section
open PySem PySem.W PyProof.Rows PySem.Calls
set_option maxRecDepth 100000
set_option maxHeartbeats 8000000
namespace Mine

noncomputable abbrev LS : List Str := looseW hd.view_39 [Str.ofString "IPV4_RE", Str.ofString "_filemode_table"]

/-- what the call finds at the top -/
structure Gd (w : World) (mean : ExcName → Option Value) (mg mb : Str → Option Value) (h : Heap) : Prop where
  K : (hd.heap_39 w.params).In h
  T : Top hd.view_39 LS mean mg mb h

def Up (h h' : Heap) : Prop := ∀ b o, h.get? b = some o → h'.get? b = some o
theorem Up.refl (h : Heap) : Up h h := fun _ _ e => e
theorem Up.trans {a b c : Heap} (x : Up a b) (y : Up b c) : Up a c := fun _ _ e => y _ _ (x _ _ e)
theorem Gd.up {w mean mg mb h h'} (G : Gd w mean mg mb h) (u : Up h h') : Gd w mean mg mb h' := ⟨G.K.keeps u, G.T.keeps u⟩

/-- a call of one of the text's defs, from any heap: the frame stands above all that was -/
theorem enter {w : World} {mean : ExcName → Option Value} {mg mb : Str → Option Value} {A : Around} {s : Shared} {E Q : Value → Shared → Prop}
    {name qual : Str} {params : Arguments} {body : List Stmt} {scope : Scope} {dV kV doc pm cdv ct oc : Value} {an od : Option Addr} {osl : Array (Option Value)} {f : Addr} {args : List Value} {binds : List (Str × Value)}
    (G : Gd w mean mg mb s.heap)
    (ho : (hd.heap_39 w.params).lookup f = some ⟨oc, od, .func (fnOf name qual params body scope dV kV doc pm an cdv ct), osl⟩)
    (hcd : codeIn (hd.heap_39 w.params) cdv qual = true) (hroom : A.depth < recursionLimit)
    (hbind : bindArgs (fnOf name qual params body scope dV kV doc pm an cdv ct) ⟨args, []⟩ = pure binds) (hloc : ∀ y ∈ binds, scope.names.lookup y.1 = some .local)
    (h : ∀ h₁ tk, Fr s.heap s.heap.objs.size h₁ (fun y => binds.reverse.lookup y) →
      wpAny (model PySem.Challenge.rw_of0018_01.row.prog w) (A.deeper (envOf qual scope s.heap.objs.size f cdv)) (execs body (envOf qual scope s.heap.objs.size f cdv))
        (fun fl s' => Q (match fl with | .ret v => v | _ => .none) s') (fun _ _ => False)
        { s with heap := h₁, toks := tk })
    (hco : scope.isCoroutine = false) (hgen : scope.isGenerator = false) (hk : scope.kind = .function)
    (hcell : ∀ x ∈ scope.names, x.2 ≠ .cell) : wpAny (model PySem.Challenge.rw_of0018_01.row.prog w) A (call (.ref f) args) Q E s := by
  refine wpAny_call (codeAny_call_def (fd := fnOf name qual params body scope dV kV doc pm an cdv ct) (body := body) (binds := binds) hroom (G.K _ _ ho) rfl G.T.nolimit (codeRec_of G.K hcd) rfl (BindsTo.of_eq hbind) hcell hloc (fun h₁ hns hk₁ => ?_) hco hgen hk)
  exact wpAny_mono (h h₁ _ ⟨hns, hk₁, Nat.le_refl _⟩) (fun fl s' hl => hl) fun _ _ y => y.elim
end Mine
end

section
open PySem PySem.W PyProof.Rows PySem.Calls
set_option maxRecDepth 100000
set_option maxHeartbeats 8000000
namespace Mine
set_option pp.maxSteps 4000
local macro_rules | `(tactic| walk_at "mine enter") => `(tactic| (
  (case k6 => k_is)
  (case k7 => k_is)
  (case k9 => exact rfl)
  (case c5 => decide)
  (case kB => exact locs rfl)
  (case c2 => exact rfl)
  (case c3 => exact rfl)
  (case c4 => exact rfl)))
theorem sifmt_ok {w : World} {mean : ExcName → Option Value} {mg mb : Str → Option Value} {A : Around} {s : Shared} {E Q : Value → Shared → Prop} {mode : Int} {t : Tok}
    (G : Gd w mean mg mb s.heap) (hroom : A.depth < recursionLimit) 
    (hQ : ∀ t' h' tk', Up s.heap h' → Q (.int (Builtin.bitAnd mode 61440) t') { s with heap := h', toks := tk' }) :
    wpAny (model PySem.Challenge.rw_of0018_01.row.prog w) A (call (.ref 57) [.int mode t]) Q E s := by
  have KX := G.K
  have T := G.T
  revert KX; k_fill; intro KX
  refine' enter (binds := [(Str.ofString "mode", .int mode t)]) G ?k6 ?k7 hroom ?k9 ?kB ?_ ?c2 ?c3 ?c4 ?c5
  walk_at "mine enter"
  intro h₁ tk F
  have N := News.nil (h₀ := s.heap) (h := h₁) (L := s.heap.objs.size)
  k_steps
  exact hQ _ _ _ F.keep
theorem liberal_ok {w : World} {mean : ExcName → Option Value} {mg mb : Str → Option Value} {A : Around} {s : Shared} {E Q : Value → Shared → Prop} {x : Str} {t : Tok}
    (G : Gd w mean mg mb s.heap) (hroom : A.depth < recursionLimit) (hno : 46 ∉ x.cps) (hsz : x.cps.size ≤ 1000)
    (hQ : ∀ h' tk', Up s.heap h' → Q (.bool true) { s with heap := h', toks := tk' }) :
    wpAny (model PySem.Challenge.rw_of0018_01.row.prog w) A (call (.ref 43) [.str x t]) Q E s := by
  have KX := G.K
  have T := G.T
  revert KX; k_fill; intro KX
  refine' enter (binds := [(Str.ofString "text", .str x t)]) G ?k6 ?k7 hroom ?k9 ?kB ?_ ?c2 ?c3 ?c4 ?c5
  walk_at "mine enter"
  intro h₁ tk F
  have N := News.nil (h₀ := s.heap) (h := h₁) (L := s.heap.objs.size)
  k_steps
  refine getMethod_re_search (o := { cls := .type "re.Pattern", data := .fields #[.str (Str.ofString "\\.\\d+$") 285, .int 256 312, .int 0 0, .none, .none, .ref 35, .int 0 0] }) (F.keep _ _ (KX 36 _ (by k_is))) rfl rfl ?_
  dsimp only
  k_steps
  refine re_search_none (F.keep _ _ (KX 36 { cls := .type "re.Pattern", data := .fields #[.str (Str.ofString "\\.\\d+$") 285, .int 256 312, .int 0 0, .none, .none, .ref 35, .int 0 0] } (by k_is))) rfl rfl (F.keep _ _ (KX 35 _ (by k_is))) hno hsz ?_
  k_steps
  exact hQ _ _ F.keep
end Mine
end

section
open PySem PySem.W PyProof.Rows PySem.Calls
set_option maxRecDepth 100000
set_option maxHeartbeats 8000000
namespace Mine
set_option pp.maxSteps 4000
local macro_rules | `(tactic| walk_at "mine enter") => `(tactic| (
  (case k6 => k_is)
  (case k7 => k_is)
  (case k9 => exact rfl)
  (case c5 => decide)
  (case kB => exact locs rfl)
  (case c2 => exact rfl)
  (case c3 => exact rfl)
  (case c4 => exact rfl)))
def lw (x : Str) : Str := ⟨x.cps.map lo1⟩
theorem lo1_46 {c : Nat} (h : lo1 c = 46) : c = 46 := by
  unfold lo1 at h
  split at h <;> omega
theorem lw_no {x : Str} (h : 46 ∉ x.cps) : 46 ∉ (lw x).cps := by
  unfold lw
  intro hm
  obtain ⟨c, hc, e⟩ := Array.mem_map.mp hm
  exact h (lo1_46 e ▸ hc)
theorem lw_size {x : Str} : (lw x).cps.size = x.cps.size := by unfold lw; simp
theorem lower_lw {x : Str} (hA : ∀ c ∈ x.cps.toList, c < 128) : Txt.lower x = lw x := lower_ascii hA
theorem lower_fit {x : Str} (hA : ∀ c ∈ x.cps.toList, c < 128) (hsz : x.cps.size ≤ 1000) : Builtin.Str.tooLong (Txt.lower x).length = false := by
  rw [lower_ascii hA]
  show decide _ = false
  simp [Str.length, sizeLine]
  omega
theorem no_dot {x : Str} (h : 46 ∉ x.cps) : Txt.startswith x (Str.ofString ".") = false := by
  cases e : Txt.startswith x (Str.ofString ".") with
  | false => rfl
  | true =>
    exfalso
    unfold Txt.startswith at e
    rw [Bool.and_eq_true, StrLaws.subAt_eq, beq_iff_eq, show (Str.ofString ".").cps.toList = [46] from by decide +kernel] at e
    have : 46 ∈ x.cps.toList := List.mem_of_mem_drop (List.mem_of_mem_take (by rw [e.2]; exact List.mem_singleton.mpr rfl))
    exact h (by simpa using this)
theorem udm_ok {w : World} {mean : ExcName → Option Value} {mg mb : Str → Option Value} {A : Around} {s : Shared} {E Q : Value → Shared → Prop} {x y : Str} {t u : Tok}
    (G : Gd w mean mg mb s.heap) (hroom : A.depth + 1 < recursionLimit) (hx : ∀ c ∈ x.cps.toList, c < 128) (hy : ∀ c ∈ y.cps.toList, c < 128) (hxn : 46 ∉ x.cps) (hyn : 46 ∉ y.cps) (hxs : x.cps.size ≤ 1000) (hys : y.cps.size ≤ 1000)
    (hQ : ∀ h' tk', Up s.heap h' → Q (.bool (lw x == lw y)) { s with heap := h', toks := tk' }) :
    wpAny (model PySem.Challenge.rw_of0018_01.row.prog w) A (call (.ref 50) [.str x t, .str y u]) Q E s := by
  have KX := G.K
  have T := G.T
  revert KX; k_fill; intro KX
  refine' enter (binds := [(Str.ofString "A", .str x t), (Str.ofString "B", .str y u)]) G ?k6 ?k7 (Nat.lt_of_succ_lt hroom) ?k9 ?kB ?_ ?c2 ?c3 ?c4 ?c5
  walk_at "mine enter"
  intro h₁ tk F
  have N := News.nil (h₀ := s.heap) (h := h₁) (L := s.heap.objs.size)
  k_steps
  dsimp only
  refine SC.lower (lower_fit hx hxs) ?_
  rw [lower_lw hx]
  k_steps
  dsimp only
  refine SC.lower (lower_fit hy hys) ?_
  rw [lower_lw hy]
  k_steps
  rename Fr _ _ _ _ => F2; rename News _ _ _ _ => N2
  refine liberal_ok (G.up F2.keep) hroom (lw_no hxn) (by rw [lw_size]; exact hxs) ?_
  intro h3 tk3 u3
  have F3 := F2.keeps u3
  have N3 := N2.grown u3
  clear F2 N2
  k_steps
  rename Fr _ _ _ _ => F2; rename News _ _ _ _ => N2
  refine liberal_ok (G.up F2.keep) hroom (lw_no hyn) (by rw [lw_size]; exact hys) ?_
  intro h3 tk3 u3
  have F3 := F2.keeps u3
  have N3 := N2.grown u3
  clear F2 N2
  k_steps
  all_goals dsimp only
  all_goals rename Fr _ _ _ _ => F9
  all_goals first
    | (rename Txt.startswith _ _ = true => hb; rw [no_dot (lw_no hyn)] at hb; cases hb)
    | (have q := fun tk' => hQ _ tk' F9.keep; rename (lw x == lw y) = _ => he; rw [he] at q; exact q _)
end Mine
end

section
open PySem PySem.W PyProof.Rows PySem.Calls
set_option maxRecDepth 100000
set_option maxHeartbeats 4000000
namespace Mine

/-- an iterator, whatever its kind: what it hands out, what it writes -/
structure Itr (prog : Program) (w : World) (A : Around) (target : Expr) (I : Addr) (fp wr : List Addr) (n : Nat) (P : Nat → Heap → Value → Prop) (St : Nat → Heap → Prop) : Prop where
  sub : ∀ b ∈ wr, b ∈ fp
  live : ∀ i h, St i h → ∀ b ∈ wr, ∃ o, h.get? b = some o
  frame : ∀ i h h', St i h → (∀ b ∈ fp, ∀ o, h.get? b = some o → h'.get? b = some o) → St i h'
  item : ∀ i (s : Shared) (Q : Value → Shared → Prop) (E : Value → Shared → Prop), i < n → St i s.heap →
    (∀ v h' tk, P i h' v → St (i + 1) h' → (∀ b o, b ∉ wr → s.heap.get? b = some o → h'.get? b = some o) → Q v { s with heap := h', toks := tk }) →
    wpAny (model prog w) A (pyNext (.ref I)) (fun r s₁ => match r with
      | none => False
      | some v => wpAny (model prog w) A (letOwnedTupleGo target (.ref I) v) (fun _ s₂ => Q v s₂) E s₁) E s
  done : ∀ (s : Shared) (Q : Option Value → Shared → Prop) (E : Value → Shared → Prop), St n s.heap →
    (∀ h' tk, (∀ b o, b ∉ wr → s.heap.get? b = some o → h'.get? b = some o) → Q none { s with heap := h', toks := tk }) → wpAny (model prog w) A (pyNext (.ref I)) Q E s
  self : ∀ i (s : Shared) (Q : Value → Shared → Prop) (E : Value → Shared → Prop), St i s.heap → Q (.ref I) s → wpAny (model prog w) A (pyIter (.ref I)) Q E s

theorem Itr.ofWalks {prog : Program} {w : World} {A : Around} {x : Str} {px : Pos} {I : Addr} {fp wr : List Addr} {n : Nat} {P : Nat → Value → Prop} {St : Nat → Heap → Prop} (W : Walks prog w A I fp wr n P St)
    (live : ∀ i h, St i h → ∀ b ∈ wr, ∃ o, h.get? b = some o) : Itr prog w A (.Name x px) I fp wr n (fun i _ v => P i v) St where
  sub := W.sub
  live := live
  frame := W.frame
  item := fun i s Q E hi st hQ => W.item i s _ E hi st fun v h' tk hP hst hk => wpAny_pure (hQ v h' tk hP hst hk)
  done := W.done
  self := W.self
theorem Itr.ofWalksU {prog : Program} {w : World} {A : Around} {elts : List Expr} {k : Nat} {pos : Pos} {I : Addr} {fp wr : List Addr} {n : Nat} {Pt : Nat → Array Value → Prop} {St : Nat → Heap → Prop} {Mid : Nat → Addr → Heap → Prop} (W : WalksU prog w A I fp wr n Pt St Mid)
    (live : ∀ i h, St i h → ∀ b ∈ wr, ∃ o, h.get? b = some o) : Itr prog w A (.Tuple elts k pos) I fp wr n (fun i h v => ∃ T vals, v = .ref T ∧ Pt i vals ∧ h.IsTuple T vals ∧ T ∉ wr) St where
  sub := W.sub
  live := live
  frame := W.frame
  item := fun i s Q E hi st hQ => W.item i s _ E hi st fun T vals h' tk hP hT hm hk =>
    W.go elts k pos i T _ _ E hm fun h'' hst hk' => hQ (.ref T) h'' tk ⟨T, vals, rfl, hP, hT.at fun o e => hk' T o (W.apart i T h' hm) e, W.apart i T h' hm⟩ hst fun b o hb e => hk' b o hb (hk b o hb e)
  done := W.done
  self := W.self

theorem itr_list {prog : Program} {w : World} {A : Around} {x : Str} {px : Pos} (hh : A.handled = none) (I ax : Addr) (hne : ax ≠ I) (items : Array Value) :
    Itr prog w A (.Name x px) I [I, ax] [I] items.size (fun i _ v => items[i]? = some v) (fun i h => h.IsListIter I ax i ∧ h.IsList ax items) :=
  .ofWalks (Walks.list hh I ax hne items) fun _ _ st b hb => by
    rw [List.mem_singleton.mp hb]; obtain ⟨⟨o, e, _⟩, _⟩ := st; exact ⟨o, e⟩
theorem itr_pairs {prog : Program} {w : World} {A : Around} {elts : List Expr} {k : Nat} {pos : Pos} (hh : A.handled = none) (I ax : Addr) (hne : ax ≠ I) (items : Array Value) (Ts : Nat → Addr) (vals : Nat → Array Value)
    (hit : ∀ j, j < items.size → items[j]? = some (.ref (Ts j))) (hTI : ∀ j, j < items.size → Ts j ≠ I) :
    Itr prog w A (.Tuple elts k pos) I (I :: ax :: (List.range items.size).map Ts) [I] items.size (fun i h v => ∃ T vs, v = .ref T ∧ vs = vals i ∧ h.IsTuple T vs ∧ T ∉ [I])
      (fun j h => h.IsListIter I ax j ∧ h.IsList ax items ∧ ∀ k, k < items.size → h.IsTuple (Ts k) (vals k)) :=
  .ofWalksU (WalksU.listOfTuples hh I ax hne items Ts vals hit hTI) fun _ _ st b hb => by
    rw [List.mem_singleton.mp hb]; obtain ⟨⟨o, e, _⟩, _⟩ := st; exact ⟨o, e⟩

/-- the end of a for loop's turn -/
def ForTurn (h₀ : Heap) (L : Addr) (s : Shared) (own : List (Addr × Obj)) (J : (Str → Option Value) → List (Addr × Obj) → Prop) (Q : Flow → Shared → Prop) (f : Flow) (s₃ : Shared) : Prop := match f with
  | .next | .cont => ∃ h' tk' m₂ nx₂, s₃ = { s with heap := h', toks := tk' } ∧ Fr h₀ L h' m₂ ∧ News h₀ L h' (nx₂ ++ own) ∧ J m₂ nx₂
  | .brk => Q .next s₃
  | .ret v => Q (.ret v) s₃
theorem ForTurn.go {h₀ : Heap} {L : Addr} {s : Shared} {own : List (Addr × Obj)} {J : (Str → Option Value) → List (Addr × Obj) → Prop} {Q : Flow → Shared → Prop} {h' : Heap} {tk' : Nat} {m₂ : Str → Option Value} {nx₂ : List (Addr × Obj)}
    (F : Fr h₀ L h' m₂) (N : News h₀ L h' (nx₂ ++ own)) (j : J m₂ nx₂) : ForTurn h₀ L s own J Q .next { s with heap := h', toks := tk' } := ⟨h', tk', m₂, nx₂, rfl, F, N, j⟩
theorem ForTurn.out {h₀ : Heap} {L : Addr} {s s₃ : Shared} {own : List (Addr × Obj)} {J : (Str → Option Value) → List (Addr × Obj) → Prop} {Q : Flow → Shared → Prop} (q : Q .next s₃) : ForTurn h₀ L s own J Q .brk s₃ := q

section
variable {prog : Program} {w : World} {A : Around} {s : Shared} {env : Env} {h₀ : Heap}

/-- a for loop by an invariant over the frame and the ledger -/
theorem for_itr {E : Value → Shared → Prop} {Q : Flow → Shared → Prop} {target : Expr} {body orelse : List Stmt} {I : Addr} {fp wr : List Addr} {n : Nat} {P : Nat → Heap → Value → Prop} {St : Nat → Heap → Prop} {m : Str → Option Value} {nx : List (Addr × Obj)}
    (W : Itr prog w A target I fp wr n P St) (hLf : env.locals ∉ fp) (hwr : ∀ b ∈ wr, h₀.get? b = none) (hst : St 0 s.heap) (F : Fr h₀ env.locals s.heap m) (N : News h₀ env.locals s.heap nx)
    (J : Nat → (Str → Option Value) → List (Addr × Obj) → Prop) (hoff : ∀ i m nx, J i m nx → ∀ p ∈ nx, p.1 ∉ wr) (h0 : J 0 m nx)
    (step : ∀ i v m₁ nx₁ h tk own, i < n → P i h v → J i m₁ nx₁ → (∀ p ∈ own, p.1 ∈ fp) → (∀ b ∈ wr, ∃ o, (b, o) ∈ own) → Fr h₀ env.locals h m₁ → News h₀ env.locals h (nx₁ ++ own) →
      wpAny (model prog w) A (assign target env v) (fun _ s₂ => wpAny (model prog w) A (execs body env) (ForTurn h₀ env.locals s own (J (i + 1)) Q) (fun _ _ => False) s₂) (fun _ _ => False) { s with heap := h, toks := tk })
    (fin : ∀ h tk m' nx', Fr h₀ env.locals h m' → News h₀ env.locals h nx' → J n m' nx' → wpAny (model prog w) A (execs orelse env) Q (fun _ _ => False) { s with heap := h, toks := tk }) :
    codeAny (model prog w) A (.forLoop target (.ref I) body orelse env) (fun r s' => match r with | .ok f => Q f s' | .error e => cameBackBy (model prog w) A env E e s') s := by
  have hLw : env.locals ∉ wr := fun h => hLf (W.sub _ h)
  have old : ∀ b o, h₀.get? b = some o → b ∉ wr := fun b o e hb => by rw [hwr b hb] at e; cases e
  refine codeAny_forLoop_any
    (fun k s' => ∃ h' tk m' nx' i, s' = { s with heap := h', toks := tk } ∧ St i h' ∧ Fr h₀ env.locals h' m' ∧ News h₀ env.locals h' nx' ∧ J i m' nx' ∧ i ≤ n ∧ k = n + 1 - i) ?_ (n + 1)
    ⟨s.heap, s.toks, m, nx, 0, rfl, hst, F, N, h0, Nat.zero_le _, rfl⟩
  rintro k s' ⟨H, tk, m', nx', i, rfl, hst', F', N', hJ, hi, rfl⟩
  have next : ∀ h₁ : Heap, (∀ b o, b ∉ wr → H.get? b = some o → h₁.get? b = some o) → Fr h₀ env.locals h₁ m' ∧ News h₀ env.locals h₁ nx' := fun h₁ hk₁ =>
    ⟨⟨F'.ns.at' fun o e => hk₁ _ o hLw e, fun b o e => hk₁ b o (old b o e) (F'.keep b o e), F'.above⟩, fun p hp => ⟨hk₁ _ _ (hoff i _ _ hJ p hp) (N' p hp).1, (N' p hp).2⟩⟩
  by_cases hlt : i < n
  · refine wpAny_mono (W.item i _ (fun v s₁ => wpAny (model prog w) A (assign target env v) (fun _ s₂ => wpAny (model prog w) A (execs body env) (fun f s₃ => match f with
            | .next | .cont => ∃ m, m < n + 1 - i ∧ ∃ h' tk m' nx' i, s₃ = { s with heap := h', toks := tk } ∧ St i h' ∧ Fr h₀ env.locals h' m' ∧ News h₀ env.locals h' nx' ∧ J i m' nx' ∧ i ≤ n ∧ m = n + 1 - i
            | .brk => Q .next s₃
            | .ret v => Q (.ret v) s₃) (fun _ _ => False) s₂) (fun _ _ => False) s₁) (fun _ _ => False) hlt hst' fun v h₁ tk₁ hP hst₁ hk₁ => ?_) (fun r s₁ h₁ => ?_) fun _ _ f => f.elim
    · obtain ⟨F₁, N₁⟩ := next h₁ hk₁
      have Nown : News h₀ env.locals h₁ (ownOf h₀ fp h₁) := news_ownOf hLf
      refine wpAny_mono (step i v m' nx' h₁ tk₁ (ownOf h₀ fp h₁) hlt hP hJ ownOf_sub (fun b hb => ?_) F₁ (N₁.append Nown)) (fun _ s₂ h₂ => wpAny_mono h₂ (fun f s₃ h₃ => ?_) fun _ _ f => f) fun _ _ f => f
      · obtain ⟨o, ho⟩ := W.live _ _ hst₁ b hb
        exact ⟨o, mem_ownOf (W.sub _ hb) (hwr b hb) ho⟩
      · have goes : (∃ h' tk' m₂ nx₂, s₃ = { s with heap := h', toks := tk' } ∧ Fr h₀ env.locals h' m₂ ∧ News h₀ env.locals h' (nx₂ ++ ownOf h₀ fp h₁) ∧ J (i + 1) m₂ nx₂) →
            ∃ m, m < n + 1 - i ∧ ∃ h' tk m' nx' i, s₃ = { s with heap := h', toks := tk } ∧ St i h' ∧ Fr h₀ env.locals h' m' ∧ News h₀ env.locals h' nx' ∧ J i m' nx' ∧ i ≤ n ∧ m = n + 1 - i := by
          rintro ⟨h₃', tk₃, m₂, nx₂, rfl, F₃, N₃, hJ₃⟩
          refine ⟨n + 1 - (i + 1), by omega, h₃', tk₃, m₂, nx₂, i + 1, rfl, ?_, F₃, fun p hp => N₃ p (List.mem_append_left _ hp), hJ₃, hlt, rfl⟩
          refine W.frame _ _ _ hst₁ fun b hb o e => ?_
          cases hn : h₀.get? b with
          | some o₀ =>
            have : o₀ = o := by have := F₁.keep b o₀ hn; rw [e] at this; exact (Option.some.inj this).symm
            exact this ▸ F₃.keep b o₀ hn
          | none => exact (N₃ _ (List.mem_append_right _ (mem_ownOf hb hn e))).1
        cases f with
        | ret v => exact h₃
        | brk => exact h₃
        | next => exact goes h₃
        | cont => exact goes h₃
    · cases r with
      | none => exact h₁.elim
      | some v => exact wpAny_mono h₁ (fun _ s₂ h₂ => wpAny_mono h₂ (fun _ s₃ h₃ => wpAny_mono h₃ (fun f s₄ h₄ => by cases f <;> exact h₄) fun _ _ f => f.elim) fun _ _ f => f.elim) fun _ _ f => f.elim
  · have hin : i = n := by omega
    subst hin
    refine W.done _ _ _ hst' fun h₁ tk₁ hk₁ => ?_
    obtain ⟨F₁, N₁⟩ := next h₁ hk₁
    exact wpAny_mono (fin h₁ tk₁ m' nx' F₁ N₁ hJ) (fun _ _ q => q) fun _ _ f => f.elim
end
end Mine
end

section
open PySem PySem.W PyProof.Rows PySem.Calls PyProof.Rows.LCg
set_option maxRecDepth 100000
set_option maxHeartbeats 4000000
namespace Mine

/-- frozen objects of a heap -/
def Fz (Z : List (Addr × Obj)) (h : Heap) : Prop := ∀ p ∈ Z, h.get? p.1 = some p.2

section
variable {prog : Program} {w : World} {A : Around} {E : Value → Shared → Prop} {env : Env}

/-- the end of a comprehension's turn: C its names, h the heap at the turn's start -/
def TurnEnd (s₂ : Shared) (C : Addr) (h : Heap) (J : List Value → List (Addr × Obj) → Prop) (ys : List Value) (Z : List (Addr × Obj)) (r : Option Value) (s₅ : Shared) : Prop :=
  ∃ h' tk' m' Zn, s₅ = { s₂ with heap := h', toks := tk' } ∧ h'.Ns C m' ∧ (∀ b o, b ≠ C → h.get? b = some o → h'.get? b = some o) ∧ (∀ p ∈ Zn, h'.get? p.1 = some p.2 ∧ h.get? p.1 = none) ∧ J (ys ++ r.toList) (Zn ++ Z)

abbrev compTests' (ifs : List Expr) (cenv : Env) : Sem Bool :=
  forIn ifs true fun c r => if r = true then do let ok ← isTrue c cenv (eval c cenv); pure (ForInStep.yield ok) else pure (ForInStep.yield r)

theorem comp_loop {elt target iter : Expr} {ifs : List Expr} {scope : Scope} {cl : List (Str × Addr)} {pos : Pos} {s₂ : Shared} {I : Addr} {fp wr : List Addr} {n : Nat} {P : Nat → Heap → Value → Prop} {St : Nat → Heap → Prop}
    (W : Itr prog w A target I fp wr n P St) (hsz : n ≤ sizeLine) {R : Result → Shared → Prop} {C D : Addr} {h₁ : Heap} {tk₁ : Nat} {m₁ : Str → Option Value} {Z₀ : List (Addr × Obj)}
    (hCD : C ≠ D) (hC : C ∉ fp) (hD : D ∉ fp) (hst : St 0 h₁) (hn : h₁.Ns C m₁) (hl : h₁.get? D = some (lst []))
    (J : Nat → List Value → List (Addr × Obj) → Prop) (h0 : J 0 [] Z₀) (hZ : ∀ p ∈ Z₀, h₁.get? p.1 = some p.2 ∧ p.1 ≠ C ∧ p.1 ≠ D ∧ p.1 ∉ wr)
    (step : ∀ i v ys Z m h tk, i < n → P i h v → J i ys Z → h.Ns C m → (∀ b o, b ∉ wr → b ≠ C → b ≠ D → h₁.get? b = some o → h.get? b = some o) → Fz Z h → (∀ p ∈ Z, p.1 ≠ C) → (∃ o, h.get? D = some o) →
      wpAny (model prog w) A (assign target (compEnvC scope cl C env) v) (fun _ s₃ => wpAny (model prog w) A (compTests' ifs (compEnvC scope cl C env)) (fun ok s₄ =>
        if ok = true then wpAny (model prog w) A (eval elt (compEnvC scope cl C env)) (fun y s₅ => TurnEnd s₂ C h (J (i + 1)) ys Z (some y) s₅) (fun _ _ => False) s₄ else TurnEnd s₂ C h (J (i + 1)) ys Z none s₄) (fun _ _ => False) s₃) (fun _ _ => False) { s₂ with heap := h, toks := tk })
    (fin : ∀ ys Z h tk m, J n ys Z → h.Ns C m → h.get? D = some (lst ys) → (∀ b o, b ∉ wr → b ≠ C → b ≠ D → h₁.get? b = some o → h.get? b = some o) → Fz Z h → (∀ p ∈ Z, p.1 ≠ C ∧ p.1 ≠ D) → R (.ok .next) { s₂ with heap := h, toks := tk }) :
    codeAny (model prog w) A (.compLoop (.ListComp elt [⟨target, iter, ifs, 0⟩] scope pos) 0 (.ref I) (.ref D) (compEnvC scope cl C env)) R { s₂ with heap := h₁, toks := tk₁ } := by
  have hCw : C ∉ wr := fun h => hC (W.sub _ h)
  have hDw : D ∉ wr := fun h => hD (W.sub _ h)
  refine codeAny_loop rfl
    (fun k s' => ∃ h tk m i ys Z, s' = { s₂ with heap := h, toks := tk } ∧ i ≤ n ∧ k = n + 1 - i ∧ ys.length ≤ i ∧ St i h ∧ h.Ns C m ∧ h.get? D = some (lst ys) ∧ (∀ b o, b ∉ wr → b ≠ C → b ≠ D → h₁.get? b = some o → h.get? b = some o) ∧
      Fz Z h ∧ (∀ p ∈ Z, p.1 ≠ C ∧ p.1 ≠ D ∧ p.1 ∉ wr) ∧ J i ys Z) (fun k s' hI => ?_) (n + 1)
    ⟨h₁, tk₁, m₁, 0, [], Z₀, rfl, Nat.zero_le _, rfl, Nat.le_refl _, hst, hn, hl, fun _ _ _ _ _ e => e, fun p hp => (hZ p hp).1, fun p hp => (hZ p hp).2, h0⟩
  obtain ⟨h, tk, m, i, ys, Z, rfl, hi, rfl, hyl, hst', hn', hl', hk', hz, hzo, hJ⟩ := hI
  show wpAny _ A ((compTurn (.ListComp elt [⟨target, iter, ifs, 0⟩] scope pos) 0 (.ref I) (.ref D) (compEnvC scope cl C env)).onRaise (fun x => do noteFrame x (compEnvC scope cl C env); theTreesLotGoes x)) _ _ _
  refine wpAny_noted ?_
  rw [compTurn_list]
  refine wpAny_bind (wpAny_standAt (wpAny_bind ?_))
  by_cases hlt : i < n
  · refine wpAny_mono (W.item i _ (fun v s₁ => wpAny (model prog w) A (assign target (compEnvC scope cl C env) v) (fun _ s₃ => wpAny (model prog w) A (compTests' ifs (compEnvC scope cl C env)) (fun ok s₄ =>
        if ok = true then wpAny (model prog w) A (eval elt (compEnvC scope cl C env)) (fun y s₅ => TurnEnd s₂ C s₁.heap (J (i + 1)) ys Z (some y) s₅ ∧ (∃ o, s₁.heap.get? C = some o) ∧ St (i + 1) s₁.heap ∧ s₁.heap.get? D = some (lst ys) ∧ (∀ b o, b ∉ wr → b ≠ C → b ≠ D → h₁.get? b = some o → s₁.heap.get? b = some o) ∧ Fz Z s₁.heap) (fun _ _ => False) s₄
        else TurnEnd s₂ C s₁.heap (J (i + 1)) ys Z none s₄ ∧ (∃ o, s₁.heap.get? C = some o) ∧ St (i + 1) s₁.heap ∧ s₁.heap.get? D = some (lst ys) ∧ (∀ b o, b ∉ wr → b ≠ C → b ≠ D → h₁.get? b = some o → s₁.heap.get? b = some o) ∧ Fz Z s₁.heap) (fun _ _ => False) s₃) (fun _ _ => False) s₁)
        (fun _ _ => False) hlt hst' fun v h₂ tk₂ hP hst₂ hk₂ => ?_) (fun r s₁ h₁' => ?_) fun _ _ f => f.elim
    · have hn₂ : h₂.Ns C m := hn'.at' fun o e => hk₂ _ o hCw e
      have hl₂ := hk₂ D _ hDw hl'
      have hz₂ : Fz Z h₂ := fun p hp => hk₂ _ _ (hzo p hp).2.2 (hz p hp)
      have hC₂ : ∃ o, h₂.get? C = some o := by obtain ⟨o, _, _, e, _⟩ := hn₂; exact ⟨o, e⟩
      have hk₃ : ∀ b o, b ∉ wr → b ≠ C → b ≠ D → h₁.get? b = some o → h₂.get? b = some o := fun b o hb hbC hbD e => hk₂ b o hb (hk' b o hb hbC hbD e)
      refine wpAny_mono (step i v ys Z m h₂ tk₂ hlt hP hJ hn₂ hk₃ hz₂ (fun p hp => (hzo p hp).1) ⟨_, hl₂⟩) (fun _ s₃ h₃ => wpAny_mono h₃ (fun ok s₄ h₄ => ?_) fun _ _ f => f) fun _ _ f => f
      cases ok with
      | false => exact ⟨h₄, hC₂, hst₂, hl₂, hk₃, hz₂⟩
      | true => exact wpAny_mono h₄ (fun y s₅ h₅ => ⟨h₅, hC₂, hst₂, hl₂, hk₃, hz₂⟩) fun _ _ f => f
    · cases r with
      | none => exact h₁'.elim
      | some v =>
        refine wpAny_bind (wpAny_mono h₁' (fun _ s₃ h₃ => wpAny_bind (wpAny_mono h₃ (fun _ s₄ h₄ => wpAny_bind (wpAny_mono h₄ (fun ok s₅ h₅ => ?_) fun _ _ f => f.elim)) fun _ _ f => f.elim)) fun _ _ f => f.elim)
        cases ok with
        | false =>
          obtain ⟨⟨h₆, tk₆, m₆, Zn, rfl, hn₆, hk₆, hZn, hJ₆⟩, ⟨oC, hoC⟩, hst₂, hl₂, hk₂, hz₂⟩ := h₅
          refine wpAny_pure ⟨rfl, n + 1 - (i + 1), by omega, h₆, tk₆, m₆, i + 1, ys, Zn ++ Z, rfl, hlt, rfl, by omega, W.frame _ _ _ hst₂ fun b hb o e => hk₆ b o (fun q => hC (q ▸ hb)) e, hn₆, hk₆ D _ hCD.symm hl₂, fun b o hb hbC hbD e => hk₆ b o hbC (hk₂ b o hb hbC hbD e), ?_, ?_, by simpa using hJ₆⟩
          · intro p hp
            rcases List.mem_append.mp hp with hp | hp
            · exact (hZn p hp).1
            · exact hk₆ _ _ (hzo p hp).1 (hz₂ p hp)
          · intro p hp
            rcases List.mem_append.mp hp with hp | hp
            · have e := (hZn p hp).2
              refine ⟨fun q => ?_, fun q => ?_, fun q => ?_⟩
              · rw [q, hoC] at e; cases e
              · rw [q, hl₂] at e; cases e
              · obtain ⟨o, ho⟩ := W.live _ _ hst₂ _ q
                rw [ho] at e; cases e
            · exact hzo p hp
        | true =>
          refine wpAny_bind (wpAny_bind (wpAny_mono h₅ (fun y s₆ h₆ => ?_) fun _ _ f => f.elim))
          obtain ⟨⟨h₆, tk₆, m₆, Zn, rfl, hn₆, hk₆, hZn, hJ₆⟩, ⟨oC, hoC⟩, hst₂, hl₂, hk₂, hz₂⟩ := h₆
          have hl₆ := hk₆ D _ hCD.symm hl₂
          refine wpAny_bind (append_at (hsz := by show ys.toArray.size ≤ sizeLine; rw [List.size_toArray]; omega) hl₆ fun h₇ hs₇ hD₇ => wpAny_pure (wpAny_pure ?_))
          have off : ∀ p ∈ Zn ++ Z, p.1 ≠ C ∧ p.1 ≠ D ∧ p.1 ∉ wr := by
            intro p hp
            rcases List.mem_append.mp hp with hp | hp
            · have e := (hZn p hp).2
              refine ⟨fun q => ?_, fun q => ?_, fun q => ?_⟩
              · rw [q, hoC] at e; cases e
              · rw [q, hl₂] at e; cases e
              · obtain ⟨o, ho⟩ := W.live _ _ hst₂ _ q
                rw [ho] at e; cases e
            · exact hzo p hp
          refine ⟨rfl, n + 1 - (i + 1), by omega, h₇, tk₆, m₆, i + 1, ys ++ [y], Zn ++ Z, rfl, hlt, rfl, by rw [List.length_append, List.length_singleton]; omega, W.frame _ _ _ hst₂ fun b hb o e => hs₇.extBut b o (fun q => hD (q ▸ hb)) (hk₆ b o (fun q => hC (q ▸ hb)) e), hn₆.sameBut hs₇ hCD, hD₇.trans (congrArg some (lst_snoc ys y)), fun b o hb hbC hbD e => hs₇.extBut b o hbD (hk₆ b o hbC (hk₂ b o hb hbC hbD e)), ?_, off, hJ₆⟩
          intro p hp
          refine hs₇.extBut _ _ (off p hp).2.1 ?_
          rcases List.mem_append.mp hp with hp | hp
          · exact (hZn p hp).1
          · exact hk₆ _ _ (hzo p hp).1 (hz₂ p hp)
  · have hin : i = n := by omega
    subst hin
    refine W.done _ _ _ hst' fun h₂ tk₂ hk₂ => wpAny_pure ?_
    exact fin ys Z h₂ tk₂ m hJ (hn'.at' fun o e => hk₂ _ o hCw e) (hk₂ D _ hDw hl') (fun b o hb hbC hbD e => hk₂ b o hb (hk' b o hb hbC hbD e)) (fun p hp => hk₂ _ _ (hzo p hp).2.2 (hz p hp)) fun p hp => ⟨(hzo p hp).1, (hzo p hp).2.1⟩
end
end Mine
end

section
open PySem PySem.W PyProof.Rows PySem.Calls PyProof.Rows.LCg
set_option maxRecDepth 100000
set_option maxHeartbeats 4000000
namespace Mine
section
variable {prog : Program} {w : World} {A : Around} {E : Value → Shared → Prop} {env : Env}

/-- what a comprehension asks of its source and its turns; Fin: what it leaves -/
structure CompAt (prog : Program) (w : World) (A : Around) (env : Env) (elt target : Expr) (ifs : List Expr) (scope : Scope) (cl : List (Str × Addr)) (Fin : Addr → List Value → List (Addr × Obj) → Prop) (it : Value) (s₂ : Shared) (wr : List Addr) : Prop where
  ex : ∃ I fp n P St Z₀, ∃ J : Nat → List Value → List (Addr × Obj) → Prop, it = .ref I ∧ Itr prog w A target I fp wr n P St ∧ n ≤ sizeLine ∧ St 0 s₂.heap ∧ (∀ b ∈ fp, b < s₂.heap.objs.size) ∧ J 0 [] Z₀ ∧ (∀ p ∈ Z₀, s₂.heap.get? p.1 = some p.2 ∧ p.1 ∉ wr) ∧
    (∀ C i v ys Z m h tk, s₂.heap.objs.size ≤ C → i < n → P i h v → J i ys Z → h.Ns C m → (∀ b o, b ∉ wr → s₂.heap.get? b = some o → h.get? b = some o) → Fz Z h → (∀ p ∈ Z, p.1 ≠ C) →
      wpAny (model prog w) A (assign target (compEnvC scope cl C env) v) (fun _ s₃ => wpAny (model prog w) A (compTests' ifs (compEnvC scope cl C env)) (fun ok s₄ =>
        if ok = true then wpAny (model prog w) A (eval elt (compEnvC scope cl C env)) (fun y s₅ => TurnEnd s₂ C h (J (i + 1)) ys Z (some y) s₅) (fun _ _ => False) s₄ else TurnEnd s₂ C h (J (i + 1)) ys Z none s₄) (fun _ _ => False) s₃) (fun _ _ => False) { s₂ with heap := h, toks := tk }) ∧
    (∀ D ys Z, J n ys Z → Fin D ys Z)

theorem comp_block {elt target iter : Expr} {ifs : List Expr} {scope : Scope} {cl : List (Str × Addr)} {pos : Pos} {s₂ : Shared} {it : Value} {wr : List Addr} {Fin : Addr → List Value → List (Addr × Obj) → Prop} {RR : Value → Addr → Result → Shared → Prop}
    (hcell : ∀ y ∈ scope.names, y.2 ≠ .cell) (hkind : scope.kind = .function) (X : CompAt prog w A env elt target ifs scope cl Fin it s₂ wr)
    (hRR : ∀ D C ys Z h tk m, Fin D ys Z → s₂.heap.get? D = none → s₂.heap.get? C = none → D ≠ C → h.Ns C m → h.get? D = some (lst ys) → (∀ b o, b ∉ wr → s₂.heap.get? b = some o → h.get? b = some o) → Fz Z h → (∀ p ∈ Z, p.1 ≠ C ∧ p.1 ≠ D) →
      RR (.ref D) C (.ok .next) { s₂ with heap := h, toks := tk }) :
    wpAny (model prog w) A (newList []) (fun acc s₃ => wpAny (model prog w) A (newFunctionEnv scope env.globals cl [] env.qual none .none (some env)) (fun cenv s₄ =>
      codeAny (model prog w) A (.compStart (.ListComp elt [⟨target, iter, ifs, 0⟩] scope pos) 0 it acc { cenv with scope := relabel scope env }) (RR acc cenv.locals) s₄) E s₃) E s₂ := by
  obtain ⟨I, fp, n, P, St, Z₀, J, rfl, W, hsz, hst, hfp, h0, hZ, step, fin⟩ := X.ex
  refine wpAny_newObj_type (wpAny_newFunctionEnv hcell (by intro y hy; simp at hy) (fun h₁ hns₁ hsb₁ => ?_) hkind)
  dsimp only at hns₁ hsb₁ ⊢
  generalize hH2 : s₂.heap.push { cls := .type "list", dict := none, data := .seq ([] : List Value).toArray } = H2 at hns₁ hsb₁ ⊢
  have hC : H2.objs.size = s₂.heap.objs.size + 1 := by rw [← hH2, Heap.size_push]
  have hDC : s₂.heap.objs.size ≠ H2.objs.size := by rw [hC]; exact Nat.ne_of_lt (Nat.lt_succ_self _)
  have below : ∀ b, b < s₂.heap.objs.size → b ≠ H2.objs.size ∧ b ≠ s₂.heap.objs.size := fun b hb => ⟨by rw [hC]; exact Nat.ne_of_lt (Nat.lt_succ_of_lt hb), Nat.ne_of_lt hb⟩
  have hDf : s₂.heap.objs.size ∉ fp := fun hm => Nat.lt_irrefl _ (hfp _ hm)
  have hCf : H2.objs.size ∉ fp := fun hm => by have := hfp _ hm; rw [hC] at this; exact Nat.lt_irrefl _ (Nat.lt_of_succ_lt this)
  have old : ∀ b o, s₂.heap.get? b = some o → h₁.get? b = some o := fun b o e => hsb₁.extBut b o (below b (Heap.lt_size e)).1 (Heap.get?_push_of_some _ (hH2 ▸ Heap.get?_push_of_some _ e))
  have hacc : h₁.get? s₂.heap.objs.size = some (lst []) := hsb₁.extBut _ _ hDC (Heap.get?_push_of_some _ (hH2 ▸ Heap.get?_push_size _ rfl))
  have hst₁ : St 0 h₁ := W.frame _ _ _ hst fun b _ o e => old b o e
  have fresh : ∀ a, s₂.heap.objs.size ≤ a → s₂.heap.get? a = none := fun a ha => by
    cases e : s₂.heap.get? a with
    | none => rfl
    | some o' => exact absurd (Heap.lt_size e) (Nat.not_lt.mpr ha)
  have loop : ∀ s₃ : Shared, s₃ = { s₂ with heap := h₁, toks := s₂.toks + ([] : List (Str × Value)).length } →
      codeAny (model prog w) A (.compLoop (.ListComp elt [⟨target, iter, ifs, 0⟩] scope pos) 0 (.ref I) (.ref s₂.heap.objs.size) (compEnvC scope cl H2.objs.size env))
        (RR (.ref s₂.heap.objs.size) H2.objs.size) s₃ := by
    rintro s₃ rfl
    refine comp_loop W hsz (Ne.symm hDC) hCf hDf hst₁ hns₁ hacc J h0 (fun p hp => ⟨old _ _ (hZ p hp).1, (below _ (Heap.lt_size (hZ p hp).1)).1, (below _ (Heap.lt_size (hZ p hp).1)).2, (hZ p hp).2⟩) ?_ ?_
    · intro i v ys Z m h tk hi hP hJ hn hk hz hzC _
      exact step _ i v ys Z m h tk (by rw [hC]; exact Nat.le_succ _) hi hP hJ hn (fun b o hb e => hk b o hb (below b (Heap.lt_size e)).1 (below b (Heap.lt_size e)).2 (old b o e)) hz hzC
    · intro ys Z h tk m hJ hn hl hk hz hzo
      exact hRR _ _ ys Z h tk m (fin _ ys Z hJ) (fresh _ (Nat.le_refl _)) (fresh _ (by rw [hC]; exact Nat.le_succ _)) hDC hn hl (fun b o hb e => hk b o hb (below b (Heap.lt_size e)).1 (below b (Heap.lt_size e)).2 (old b o e)) hz hzo
  exact codeAny_compStart_list (loop _ rfl) (W.self 0 _ _ _ hst₁ (loop _ rfl))

/-- a comprehension as an expression -/
theorem comp_eval {s : Shared} {elt target iter : Expr} {ifs : List Expr} {scope : Scope} {cl : List (Str × Addr)} {pos : Pos} {Q : Value → Shared → Prop}
    (hclos : closureFor scope env = pure cl) (hcell : ∀ y ∈ scope.names, y.2 ≠ .cell) (hkind : scope.kind = .function)
    (hnames : ∀ y ∈ scope.names, y.2 = .local → scope.names.lookup y.1 = some .local)
    (h : wpAny (model prog w) A (eval iter env) (fun xv s₁ => wpAny (model prog w) A (pyIter xv) (fun it s₂ => ∃ Fin wr, CompAt prog w A env elt target ifs scope cl Fin it s₂ wr ∧
      ∀ D ys Z h tk, Fin D ys Z → s₂.heap.get? D = none → h.get? D = some (lst ys) → (∀ b o, b ∉ wr → s₂.heap.get? b = some o → h.get? b = some o) → Fz Z h → (∀ p ∈ Z, p.1 ≠ D) → Q (.ref D) { s₂ with heap := h, toks := tk }) E s₁) E s)
    (hs : ∀ x, foldedSetIterable iter env x = pure x := by intro _; rfl) :
    wpAny (model prog w) A (eval (.ListComp elt [⟨target, iter, ifs, 0⟩] scope pos) env) Q E s := by
  rw [eval_ListComp]
  refine wpAny_comprehension_free (use := none) rfl hs hclos hkind hnames (wpAny_mono h (fun xv s₁ h₁ => wpAny_mono h₁ (fun it s₂ h₂ => ?_) fun _ _ e => e) fun _ _ e => e)
  obtain ⟨Fin, wr, X, hQ⟩ := h₂
  refine comp_block (RR := fun acc C => compPost (model prog w) A E none Q acc C) hcell hkind X ?_
  intro D C ys Z h tk m hF hD hC hDC hn hl hk hz hzo
  exact ⟨m, hn, fun h'' hs'' => hQ D ys Z h'' tk hF hD (hs''.extBut _ _ hDC hl) (fun b o hb e => hs''.extBut b o (by rintro rfl; rw [hC] at e; cases e) (hk b o hb e)) (fun p hp => hs''.extBut _ _ (hzo p hp).1 (hz p hp)) fun p hp => (hzo p hp).2⟩

/-- a comprehension stored in a name of the frame -/
theorem comp_assign {s : Shared} {elt target iter : Expr} {ifs : List Expr} {y : Str} {py : Pos} {scope : Scope} {cl : List (Str × Addr)} {pos spos : Pos} {Q : Flow → Shared → Prop}
    (hsw : swapsWith (.ListComp elt [⟨target, iter, ifs, 0⟩] scope pos) (some (.Name y py)) spos.line env = pure true)
    (hclos : closureFor scope env = pure cl) (hcell : ∀ y ∈ scope.names, y.2 ≠ .cell) (hkind : scope.kind = .function)
    (hnames : ∀ y ∈ scope.names, y.2 = .local → scope.names.lookup y.1 = some .local)
    (hy : env.kindOf y = some .local) (hp : (env.scope.kind == .class || (env.scope.kind == .module && env.locals != env.globals)) = false)
    (h : wpAny (model prog w) A (eval iter env) (fun xv s₁ => wpAny (model prog w) A (pyIter xv) (fun it s₂ => ∃ Fin wr m, CompAt prog w A env elt target ifs scope cl Fin it s₂ wr ∧ env.locals ∉ wr ∧ s₂.heap.Ns env.locals m ∧
      ∀ D ys Z h tk, Fin D ys Z → s₂.heap.get? D = none → h.get? D = some (lst ys) → h.Ns env.locals (fun z => if z = y then some (.ref D) else m z) → (∀ b o, b ≠ env.locals → b ∉ wr → s₂.heap.get? b = some o → h.get? b = some o) →
        (∀ p ∈ Z, p.1 ≠ env.locals → h.get? p.1 = some p.2) → (∀ p ∈ Z, p.1 ≠ D) → Q .next { s₂ with heap := h, toks := tk }) E s₁) E s)
    (hs : ∀ x, foldedSetIterable iter env x = pure x := by intro _; rfl) :
    wpAny (model prog w) A (exec (.Assign [.Name y py] (.ListComp elt [⟨target, iter, ifs, 0⟩] scope pos) spos) env) Q E s := by
  rw [exec_Assign_Name_used _ _ _ _ hsw]
  refine wpAny_bind (wpAny_standAt (wpAny_bind ?_))
  show wpAny _ A (do let _ ← comprehension (.ListComp elt [⟨target, iter, ifs, 0⟩] scope pos) scope env _ (newList []) false (eval iter env) (some (assign (.Name y py) env))) _ _ s
  refine wpAny_bind (wpAny_mono (wpAny_comprehension_free (use := some (assign (.Name y py) env)) (Q := fun _ s' => Q .next s') rfl hs hclos hkind hnames
    (wpAny_mono h (fun xv s₁ h₁ => wpAny_mono h₁ (fun it s₂ h₂ => ?_) fun _ _ e => e) fun _ _ e => e)) (fun _ s' hq => wpAny_pure (wpAny_pure hq)) fun _ _ e => e)
  obtain ⟨Fin, wr, m, X, hLf, hn, hQ⟩ := h₂
  refine comp_block (RR := fun acc C => compPost (model prog w) A E (some (assign (.Name y py) env)) (fun _ s' => Q .next s') acc C) hcell hkind X ?_
  intro D C ys Z h' tk m' hF hD hC hDC hnC hlD hk hz hzo
  have hLC : env.locals ≠ C := by rintro rfl; obtain ⟨o, _, _, ho, _⟩ := hn; rw [hC] at ho; cases ho
  have hLD : env.locals ≠ D := by rintro rfl; obtain ⟨o, _, _, ho, _⟩ := hn; rw [hD] at ho; cases ho
  show wpAny _ A (assign (.Name y py) env (.ref D)) _ _ _
  refine wpAny_assign_Name (wpAny_storeName_local hy (hn.at' fun o e => hk _ o hLf e) (fun h₂ hn₂ hs₂ => ?_) hp)
  refine ⟨m', hnC.sameBut hs₂ (Ne.symm hLC), fun h₃ hs₃ => ?_⟩
  refine hQ D ys Z h₃ _ hF hD (hs₃.extBut _ _ hDC (hs₂.extBut _ _ (Ne.symm hLD) hlD)) (hn₂.sameBut hs₃ hLC) (fun b o hbL hbf e =>
    hs₃.extBut b o (by rintro rfl; rw [hC] at e; cases e) (hs₂.extBut b o hbL (hk b o hbf e))) (fun p hp hpL => hs₃.extBut _ _ (hzo p hp).1 (hs₂.extBut _ _ hpL (hz p hp))) fun p hp => (hzo p hp).2
end
end Mine
end

section
open PySem PySem.W PyProof.Rows PySem.Calls PyProof.Rows.LCg
set_option maxRecDepth 100000
set_option maxHeartbeats 4000000
namespace Mine
section
variable {prog : Program} {w : World} {A : Around} {E : Value → Shared → Prop} {s : Shared}

theorem nextOf_tuple_item {it t : Addr} {i : Nat} {items : Array Value} {x : Value} {Q : Value → Shared → Prop} (hit : s.heap.IsTupleIter it t i) (ht : s.heap.IsTuple t items) (hx : items[i]? = some x)
    (hQ : ∀ h', h'.IsTupleIter it t (i + 1) → Heap.SameBut it s.heap h' → Q x { s with heap := h' }) : wpAny (model prog w) A (Builtin.SmallTypes.nextOf (.ref it)) Q E s := by
  obtain ⟨o, ho, hc, hd⟩ := id hit
  obtain ⟨ol, hol, _, nl, hdl⟩ := ht
  unfold Builtin.SmallTypes.nextOf
  refine wpAny_bind (wpAny_callSpecial?_slot (name := Str.ofString "__next__") hit.typeIs F.slot_tuple_iterator_next
    (wpAny_call_entry F.slot_tuple_iterator_next hit.typeIs F.entry_tuple_iterator_next ?_ (F.args_tuple_iterator_next_1 _)))
  show wpAny _ _ (field (.ref it) 0 >>= _) _ _ s
  refine wpAny_bind (wpAny_field ho hd (x := .ref t) rfl ?_)
  show wpAny _ _ (if (Value.ref t == Value.none) = true then _ else _) _ _ s
  rw [if_neg (show ¬ ((Value.ref t == Value.none) = true) from Bool.false_ne_true)]
  show wpAny _ _ (field (.ref it) 1 >>= _) _ _ s
  refine wpAny_bind (wpAny_field ho hd (x := .int i 0) rfl ?_)
  show wpAny _ _ (seqItems? (.ref t) >>= _) _ _ s
  refine wpAny_bind (wpAny_seqItems hol hdl ?_)
  simp only [Int.toNat_natCast, hx]
  refine wpAny_bind (wpAny_setField ho hd (by simp) (wpAny_pure ⟨x, rfl, wpAny_pure (hQ _ ?_ (Heap.SameBut.update ..))⟩))
  exact ⟨_, Heap.get?_update_self _ ho (Obj.isFreed_of_fields (Obj.data_mapFields hd _)), (Obj.cls_mapFields ..).trans hc, by
    rw [Obj.data_mapFields hd]; simp [rawInt]⟩

theorem nextOf_tuple_end {it t : Addr} {i : Nat} {items : Array Value} {Q : Value → Shared → Prop} (hh : A.handled = none) (hit : s.heap.IsTupleIter it t i) (ht : s.heap.IsTuple t items) (hx : items[i]? = none)
    (hE : ∀ h' e, Heap.ExtBut it s.heap h' → (∃ o, h'.get? e = some o ∧ o.cls = .type "StopIteration") → E (.ref e) { s with heap := h' }) :
    wpAny (model prog w) A (Builtin.SmallTypes.nextOf (.ref it)) Q E s := by
  obtain ⟨o, ho, hc, hd⟩ := id hit
  obtain ⟨ol, hol, _, nl, hdl⟩ := ht
  unfold Builtin.SmallTypes.nextOf
  refine wpAny_bind (wpAny_callSpecial?_slot (name := Str.ofString "__next__") hit.typeIs F.slot_tuple_iterator_next
    (wpAny_call_entry F.slot_tuple_iterator_next hit.typeIs F.entry_tuple_iterator_next ?_ (F.args_tuple_iterator_next_1 _)))
  show wpAny _ _ (field (.ref it) 0 >>= _) _ _ s
  refine wpAny_bind (wpAny_field ho hd (x := .ref t) rfl ?_)
  show wpAny _ _ (if (Value.ref t == Value.none) = true then _ else _) _ _ s
  rw [if_neg (show ¬ ((Value.ref t == Value.none) = true) from Bool.false_ne_true)]
  show wpAny _ _ (field (.ref it) 1 >>= _) _ _ s
  refine wpAny_bind (wpAny_field ho hd (x := .int i 0) rfl ?_)
  show wpAny _ _ (seqItems? (.ref t) >>= _) _ _ s
  refine wpAny_bind (wpAny_seqItems hol hdl ?_)
  simp only [Int.toNat_natCast, hx]
  refine wpAny_bind (wpAny_rule (wpAny_bind (wpAny_setField ho hd (by simp) ?_)))
  show wpAny _ _ (newExc (.type "StopIteration") [] >>= _) _ _ _
  refine wpAny_bind ?_
  simp only [newExc, newTuple]
  refine wpAny_bind (wpAny_newObj_type ?_ (by size_fits))
  refine wpAny_bind (m := firstArgMember _ _) (wpAny_of_eq (a := Value.none) (by first | rfl | (simp only [firstArgMember]; rfl)) ?_)
  refine wpAny_newObj_type ?_ (by size_fits)
  simp only [raiseNew]
  refine wpAny_bind (wpAny_handled ?_)
  first | rw [show A.in1.handled = none from hh] | rw [hh]
  refine wpAny_bind (wpAny_pure (wpAny_throw ?_))
  exact hE _ _ (((Heap.SameBut.update ..).extBut.push _).push _) ⟨_, Heap.get?_push_size _ rfl, rfl⟩

theorem letGo_tupleiter {elts : List Expr} {x1} {pos : Pos} {I l T : Addr} {i : Nat} {Q : Unit → Shared → Prop} (hit : s.heap.IsTupleIter I l i) (hQ : Q () s) :
    wpAny (model prog w) A (letOwnedTupleGo (.Tuple elts x1 pos) (.ref I) (.ref T)) Q E s := by
  obtain ⟨o, ho, hc, hd⟩ := hit
  unfold letOwnedTupleGo
  refine wpAny_bind (wpAny_load ho ?_)
  rw [hc, hd]
  show wpAny _ A (if (["enumerate", "zip", "dict_itemiterator", "dict_reverseitemiterator", "odict_iterator", "itertools.zip_longest", "itertools.pairwise"].contains "tuple_iterator" &&
      (#[.ref l, .int i 0] : Array Value)[0]? == some (rawInt T)) = true then _ else _) Q E s
  rw [if_neg (by
    intro h
    rw [show (["enumerate", "zip", "dict_itemiterator", "dict_reverseitemiterator", "odict_iterator", "itertools.zip_longest", "itertools.pairwise"].contains "tuple_iterator") = false from by decide, Bool.false_and] at h
    cases h)]
  exact wpAny_pure hQ
end

theorem draws_tuple {prog : Program} {w : World} {A : Around} (hh : A.handled = none) (it l : Addr) (hne : l ≠ it) (items : Array Value) :
    Draws prog w A it [it, l] items.size (fun i v => items[i]? = some v) (fun i h => h.IsTupleIter it l i ∧ h.IsTuple l items) where
  live := fun _ _ st => let ⟨o, ho, _⟩ := st.1; ⟨o, ho⟩
  frame := fun _ _ _ st hk => ⟨st.1.at fun o e => hk it (by simp) o e, st.2.at fun o e => hk l (by simp) o e⟩
  item := fun i s Q E hi st hQ => by
    refine nextOf_tuple_item st.1 st.2 (x := items[i]) (by simp [hi]) fun h' hit' hs' => ?_
    exact hQ _ h' s.toks (by simp [hi]) ⟨hit', st.2.extBut hs'.extBut hne⟩ hs'
  done := fun s Q E st hE => nextOf_tuple_end hh st.1 st.2 (by simp) hE

/-- pairs of a tuple of tuples -/
theorem itr_tpairs {prog : Program} {w : World} {A : Around} {elts : List Expr} {k : Nat} {pos : Pos} (hh : A.handled = none) (I ax : Addr) (hne : ax ≠ I) (items : Array Value) (Ts : Nat → Addr) (vals : Nat → Array Value)
    (hit : ∀ j, j < items.size → items[j]? = some (.ref (Ts j))) (hTI : ∀ j, j < items.size → Ts j ≠ I) :
    Itr prog w A (.Tuple elts k pos) I (I :: ax :: (List.range items.size).map Ts) [I] items.size (fun i h v => ∃ T vs, v = .ref T ∧ vs = vals i ∧ h.IsTuple T vs ∧ T ∉ [I])
      (fun j h => h.IsTupleIter I ax j ∧ h.IsTuple ax items ∧ ∀ k, k < items.size → h.IsTuple (Ts k) (vals k)) :=
  .ofWalksU (Mid := fun j T h => (j < items.size ∧ T = Ts j) ∧ h.IsTupleIter I ax (j + 1) ∧ h.IsTuple ax items ∧ ∀ k, k < items.size → h.IsTuple (Ts k) (vals k)) (Pt := fun j v => v = vals j)
   { sub := fun b hb => by simp at hb; simp [hb]
     frame := fun _ _ _ st hk => ⟨st.1.at fun o e => hk I (by simp) o e, st.2.1.at fun o e => hk ax (by simp) o e,
      fun k hk' => (st.2.2 k hk').at fun o e => hk (Ts k) (List.mem_cons_of_mem _ (List.mem_cons_of_mem _ (List.mem_map.mpr ⟨k, List.mem_range.mpr hk', rfl⟩))) o e⟩
     item := fun i s Q E hi st hQ => by
      refine wpAny_pyNext_tuple_item st.1 st.2.1 (x := .ref (Ts i)) (hit i hi) fun h' hit' hs' => ?_
      have tup : ∀ k, k < items.size → h'.IsTuple (Ts k) (vals k) := fun k hk' => (st.2.2 k hk').extBut hs'.extBut (hTI k hk')
      exact hQ (Ts i) (vals i) h' s.toks rfl (tup i hi) ⟨⟨hi, rfl⟩, hit', st.2.1.extBut hs'.extBut hne, tup⟩ fun b o hb e => hs'.extBut b o (fun h => hb (by simp [h])) e
     go := fun _ _ _ _ _ s Q _ hm hQ => letGo_tupleiter hm.2.1 (hQ s.heap hm.2 fun _ _ _ e => e)
     apart := fun j T _ hm hmem => by
      rcases List.mem_cons.mp hmem with e | e
      · exact hTI j hm.1.1 (hm.1.2 ▸ e)
      · cases e
     done := fun s Q E st hQ => wpAny_pyNext_tuple_end hh st.1 st.2.1 (by simp) fun h' he' => hQ h' s.toks fun b o hb e => he' b o (fun h => hb (by simp [h])) e
     self := fun _ _ _ _ st hQ => wpAny_pyIter_tupleiter st.1 hQ } fun _ _ st b hb => by
    rw [List.mem_singleton.mp hb]; obtain ⟨⟨o, e, _⟩, _⟩ := st; exact ⟨o, e⟩

/-- enumerate over whatever is drawn -/
theorem itr_enum {prog : Program} {w : World} {A : Around} {elts : List Expr} {k : Nat} {pos : Pos} {it : Addr} {fp : List Addr} {n : Nat} {P : Nat → Value → Prop} {St : Nat → Heap → Prop} (D : Draws prog w A.in1 it fp n P St) (e : Addr) (hei : e ≠ it) (hef : e ∉ fp) (hif : it ∈ fp) :
    Itr prog w A (.Tuple elts k pos) e (e :: fp) [e, it] n (fun i h v => ∃ T vals, v = .ref T ∧ (∃ t x, P i x ∧ vals = #[.int i t, x]) ∧ h.IsTuple T vals ∧ T ∉ [e, it])
      (fun i h => (∃ old, IsEnum h e it i old) ∧ St i h) :=
  .ofWalksU (WalksT.enumerateD D e hei hef hif).toU fun i h st b hb => by
    obtain ⟨⟨old, he⟩, hs⟩ := st
    rcases List.mem_cons.mp hb with rfl | hb
    · exact ⟨_, he⟩
    · rw [List.mem_singleton.mp hb]; exact D.live _ _ hs

open AutoSeq1 (wpAny_loadPart') in
theorem meets_enum_newT (l : Addr) (items : Array Value) (n : Nat) (dct : Option Addr) (sl : Array (Option Value)) :
    Meets (Builtin.«enumerate.__new__» ⟨[.type "enumerate", .ref l], []⟩) (fun _ R s => s.heap.get? l = some { cls := .type "tuple", dict := dct, data := .seq items n, slots := sl } ∧
      R (.ok (.ret (.ref (s.heap.push { cls := .type "tuple_iterator", data := .fields #[.ref l, .int 0 0] }).objs.size)))
        { s with heap := (s.heap.push { cls := .type "tuple_iterator", data := .fields #[.ref l, .int 0 0] }).push { cls := .type "enumerate", data := .fields #[.none, .bool false, .ref s.heap.objs.size, rawInt 0, .none, .none] } }) :=
  .of_wp fun prog w A R s h => by
    obtain ⟨hp, g, d, tk, os⟩ := s; obtain ⟨hl, h⟩ := h
    have hsub := sub_enumerate
    have hL : Heap.IsTuple (Shared.heap ⟨hp, g, d, tk, os⟩) l items := ⟨_, hl, rfl, n, rfl⟩
    wp_walk using wpAny_loadPart' hl
    refine wpAny_stack_any fun st => wpAny_pure ?_
    split
    · rename_i c _ _ _ _ _
      cases (c == Value.type "enumerate")
      · wp_walk using wpAny_loadPart' hl, wpAny_pyIter_tuple hL
        exact ⟨_, rfl, h⟩
      · wp_walk using wpAny_loadPart' hl, wpAny_pyIter_tuple hL
        exact ⟨_, rfl, h⟩
    · wp_walk using wpAny_loadPart' hl, wpAny_pyIter_tuple hL
      exact ⟨_, rfl, h⟩

section
variable {prog : Program} {w : World} {A : Around} {E : Value → Shared → Prop} {s : Shared}
theorem call_enum_tuple {l : Addr} {items : Array Value} {Q : Value → Shared → Prop} (hL : s.heap.IsTuple l items)
    (h : ∀ h', IsEnum h' (s.heap.objs.size + 1) s.heap.objs.size 0 .none → h'.IsTupleIter s.heap.objs.size l 0 → h'.objs.size = s.heap.objs.size + 2 →
      (∀ b o, s.heap.get? b = some o → h'.get? b = some o) → Q (.ref (s.heap.objs.size + 1)) { s with heap := h' }) :
    wpAny (model prog w) A (call (.type "enumerate") [.ref l]) Q E s := by
  obtain ⟨⟨c, dct, dt, sl⟩, hl, hc, n, hd⟩ := hL
  replace hc : c = .type "tuple" := hc
  replace hd : dt = .seq items n := hd
  subst hc hd
  refine callType_new F.called_enumerate (by decide) (F.typeCall_enumerate_1 _) (F.newCall_enumerate_1 _) (fun obj => F.args_object_init_2 obj _) F.entry_enumerate_new
    (meets_enum_newT l items n dct sl) ⟨hl, ?_⟩
  have hz : (s.heap.push { cls := .type "tuple_iterator", data := .fields #[.ref l, .int 0 0] }).objs.size = s.heap.objs.size + 1 := Heap.size_push ..
  show _ ∧ _
  rw [hz]
  have he : IsEnum ((s.heap.push { cls := .type "tuple_iterator", data := .fields #[.ref l, .int 0 0] }).push
      { cls := .type "enumerate", data := .fields #[.none, .bool false, .ref s.heap.objs.size, rawInt 0, .none, .none] }) (s.heap.objs.size + 1) s.heap.objs.size 0 .none := by
    have := Heap.get?_push_size (s.heap.push { cls := .type "tuple_iterator", data := .fields #[.ref l, .int 0 0] })
      (o := { cls := .type "enumerate", data := .fields #[.none, .bool false, .ref s.heap.objs.size, rawInt 0, .none, .none] }) rfl
    rw [hz] at this; exact this
  refine ⟨⟨_, he, rfl⟩, h _ he ⟨_, Heap.get?_push_of_some _ (Heap.get?_push_size _ rfl), rfl, rfl⟩ (by rw [Heap.size_push, hz]) fun b o x => Heap.get?_push_of_some _ (Heap.get?_push_of_some _ x)⟩
end
end Mine
end

section
open PySem PySem.W PyProof.Rows PySem.Calls PyProof.Rows.LCg
set_option maxRecDepth 100000
set_option maxHeartbeats 4000000
namespace Mine
section
variable {prog : Program} {w : World} {A : Around} {E : Value → Shared → Prop} {s : Shared} {env : Env} {m : Str → Option Value} {Q : Unit → Shared → Prop}

/-- two names at once, both of the block -/
theorem assign_pairC {x y : Str} {px py pos : Pos} {k : Nat} {T : Addr} {v0 v1 : Value} (hh : A.handled = none) (ht : s.heap.IsTuple T #[v0, v1]) (hn : s.heap.Ns env.locals m)
    (hx : env.kindOf x = some .local) (hy : env.kindOf y = some .local) (hp : (env.scope.kind == .class || (env.scope.kind == .module && env.locals != env.globals)) = false)
    (h : ∀ h' tk, h'.Ns env.locals (fun z => if z = y then some v1 else if z = x then some v0 else m z) → (∀ b o, b ≠ env.locals → s.heap.get? b = some o → h'.get? b = some o) → Q () { s with heap := h', toks := tk }) :
    wpAny (model prog w) A (assign (.Tuple [.Name x px, .Name y py] k pos) env (.ref T)) Q E s := by
  refine wpAny_assign_Tuple hh ht rfl rfl fun h₃ hx₃ => ?_
  have up₃ : ∀ b o, s.heap.get? b = some o → h₃.get? b = some o := fun b o x => hx₃ b o (Nat.ne_of_lt (Heap.lt_size x)) x
  show wpAny _ A (do holding [v1] (assign (.Name x px) env v0); do holding [] (assign (.Name y py) env v1); pure ()) _ _ _
  refine wpAny_bind (wpAny_holding (wpAny_assign_Name (wpAny_storeName_local hx (hn.keeps up₃) (fun h₄ hn₄ hs₄ => ?_) hp)))
  refine wpAny_bind (wpAny_holding (wpAny_assign_Name (wpAny_storeName_local hy hn₄ (fun h₅ hn₅ hs₅ => wpAny_pure ?_) hp)))
  exact h _ _ hn₅ fun b o hb e => hs₅.extBut b o hb (hs₄.extBut b o hb (up₃ b o e))

theorem assign_pairF {h₀ : Heap} {nx : List (Addr × Obj)} {x y : Str} {px py pos : Pos} {k : Nat} {T : Addr} {v0 v1 : Value} (hh : A.handled = none) (ht : s.heap.IsTuple T #[v0, v1]) (F : Fr h₀ env.locals s.heap m) (N : News h₀ env.locals s.heap nx)
    (hx : env.kindOf x = some .local) (hy : env.kindOf y = some .local) (hp : (env.scope.kind == .class || (env.scope.kind == .module && env.locals != env.globals)) = false)
    (h : ∀ h' tk, Fr h₀ env.locals h' (fun z => if z = y then some v1 else if z = x then some v0 else m z) → News h₀ env.locals h' nx → (∀ b o, b ≠ env.locals → s.heap.get? b = some o → h'.get? b = some o) → Q () { s with heap := h', toks := tk }) :
    wpAny (model prog w) A (assign (.Tuple [.Name x px, .Name y py] k pos) env (.ref T)) Q E s := by
  refine assign_pairC hh ht F.ns hx hy hp fun h' tk hn' hk => h h' tk ⟨hn', fun b o e => hk b o (fun q => ?_) (F.keep b o e), F.above⟩ (fun p hp => ⟨hk _ _ (N p hp).2.1 (N p hp).1, (N p hp).2⟩) hk
  exact absurd (Nat.lt_of_lt_of_le (Heap.lt_size e) F.above) (by rw [q]; exact Nat.lt_irrefl _)
end
end Mine
end

section
open PySem
set_option maxRecDepth 100000
namespace Mine
/-- the table of places, as written -/
def tabs : List (List (Int × Nat)) :=
  [[(40960, 108), (49152, 115), (32768, 45), (24576, 98), (16384, 100), (8192, 99), (4096, 112)],
   [(256, 114)], [(128, 119)], [(2112, 115), (2048, 83), (64, 120)],
   [(32, 114)], [(16, 119)], [(1032, 115), (1024, 83), (8, 120)],
   [(4, 114)], [(2, 119)], [(513, 116), (512, 84), (1, 120)]]
def tabAt (i : Nat) : List (Int × Nat) := tabs.getD i []
def hits (mode : Int) (i : Nat) (e : Int × Nat) : Bool := if i = 0 then Builtin.bitAnd mode 61440 == e.1 else Builtin.bitAnd mode e.1 == e.1
def fmAt (mode : Int) (i : Nat) : Nat := match (tabAt i).find? (hits mode i) with
  | some e => e.2
  | none => if i = 0 then 63 else 45
def one (c : Nat) : Str := ⟨#[c]⟩
def fm (mode : Int) : Str := ⟨((List.range 10).map (fmAt mode)).toArray⟩
theorem fm_size (mode : Int) : (fm mode).cps.size = 10 := by simp [fm]
theorem find_at {α : Type} {p : α → Bool} : ∀ {l : List α} {j : Nat} {e : α}, (∀ x ∈ l.take j, p x = false) → l[j]? = some e → p e = true → l.find? p = some e
  | [], _, _, _, h, _ => by simp at h
  | x :: l, 0, e, _, h, hp => by
    have : x = e := by simpa using h
    subst this
    rw [List.find?_cons, hp]
  | x :: l, j + 1, e, hn, h, hp => by
    rw [List.find?_cons, hn x (by simp)]
    exact find_at (fun y hy => hn y (by rw [List.take_succ_cons]; exact List.mem_cons_of_mem _ hy)) (by simpa using h) hp
theorem fmAt_hit {mode : Int} {i j : Nat} {e : Int × Nat} (hn : ∀ x ∈ (tabAt i).take j, hits mode i x = false) (he : (tabAt i)[j]? = some e) (hp : hits mode i e = true) : fmAt mode i = e.2 := by
  unfold fmAt
  rw [find_at hn he hp]
theorem fmAt_none {mode : Int} {i : Nat} (hn : ∀ x ∈ tabAt i, hits mode i x = false) : fmAt mode i = if i = 0 then 63 else 45 := by
  unfold fmAt
  rw [List.find?_eq_none.mpr (fun x hx => by rw [hn x hx]; exact Bool.false_ne_true)]
theorem hits_zero {mode : Int} {i : Nat} {e : Int × Nat} (h : (i : Int) = 0) : hits mode i e = (Builtin.bitAnd mode 61440 == e.1) := by
  unfold hits; rw [if_pos (by omega)]
theorem hits_pos {mode : Int} {i : Nat} {e : Int × Nat} (h : ¬ (i : Int) = 0) : hits mode i e = (Builtin.bitAnd mode e.1 == e.1) := by
  unfold hits; rw [if_neg (by omega)]
theorem take_more {α : Type} {p : α → Bool} {l : List α} {j : Nat} {e : α} (hn : ∀ x ∈ l.take j, p x = false) (he : l[j]? = some e) (hp : p e = false) : ∀ x ∈ l.take (j + 1), p x = false := by
  intro x hx
  rw [List.take_add_one, he] at hx
  rcases List.mem_append.mp hx with h | h
  · exact hn x h
  · have : x = e := by simpa using h
    rw [this]; exact hp
theorem range_one {i : Nat} {f : Nat → Nat} : (List.range (i + 1)).map (fun j => one (f j)) = (List.range i).map (fun j => one (f j)) ++ [one (f i)] := by
  rw [List.range_succ, List.map_append]; rfl
theorem join_ones : ∀ (l : List Nat), Str.join ⟨#[]⟩ (l.map one) = ⟨l.toArray⟩
  | [] => rfl
  | [c] => rfl
  | c :: d :: r => by
    have ih := join_ones (d :: r)
    rw [List.map_cons, List.map_cons, PyProof.Rows.join_cons_cons, ← List.map_cons, ih]
    show (⟨#[c] ++ #[] ++ (d :: r).toArray⟩ : Str) = _
    simp
end Mine
end

section
open PySem PySem.W PyProof.Rows PySem.Calls PyProof.Rows.LCg
set_option maxRecDepth 100000
set_option maxHeartbeats 4000000
namespace Mine
/-- the table's objects: address, int, its token, sign, its token -/
abbrev TRow := Addr × Int × Tok × Nat × Tok
def rowsT : List (Addr × List TRow) := [
  (65, [(58, 40960, 349, 108, 377), (59, 49152, 351, 115, 378), (60, 32768, 345, 45, 379), (61, 24576, 343, 98, 380), (62, 16384, 339, 100, 381), (63, 8192, 341, 99, 382), (64, 4096, 347, 112, 383)]),
  (67, [(66, 256, 359, 114, 384)]),
  (69, [(68, 128, 361, 119, 385)]),
  (73, [(70, 2112, 386, 115, 387), (71, 2048, 353, 83, 388), (72, 64, 363, 120, 389)]),
  (75, [(74, 32, 365, 114, 390)]),
  (77, [(76, 16, 367, 119, 391)]),
  (81, [(78, 1032, 392, 115, 393), (79, 1024, 355, 83, 394), (80, 8, 369, 120, 395)]),
  (83, [(82, 4, 371, 114, 396)]),
  (85, [(84, 2, 373, 119, 397)]),
  (89, [(86, 513, 398, 116, 399), (87, 512, 357, 84, 400), (88, 1, 375, 120, 401)])]
def rowVals (e : TRow) : Array Value := #[.int e.2.1 e.2.2.1, .str (one e.2.2.2.1) e.2.2.2.2]
def rowObj (e : TRow) : Obj := { cls := .type "tuple", data := .seq (rowVals e) }
def tabObjT (r : Addr × List TRow) : Obj := { cls := .type "tuple", data := .seq (r.2.map fun e => Value.ref e.1).toArray }
theorem rowsT_heap {w : World} {h : Heap} (KX : (hd.heap_39 w.params).In h) : ∀ r ∈ rowsT, h.get? r.1 = some (tabObjT r) ∧ ∀ e ∈ r.2, h.get? e.1 = some (rowObj e) := by
  revert KX; k_fill; intro KX
  unfold rowsT
  refine List.forall_mem_cons.mpr ⟨⟨KX 65 _ (by exact rfl), ?_⟩, ?_⟩
  · refine List.forall_mem_cons.mpr ⟨KX 58 _ (by exact rfl), ?_⟩; refine List.forall_mem_cons.mpr ⟨KX 59 _ (by exact rfl), ?_⟩; refine List.forall_mem_cons.mpr ⟨KX 60 _ (by exact rfl), ?_⟩; refine List.forall_mem_cons.mpr ⟨KX 61 _ (by exact rfl), ?_⟩; refine List.forall_mem_cons.mpr ⟨KX 62 _ (by exact rfl), ?_⟩; refine List.forall_mem_cons.mpr ⟨KX 63 _ (by exact rfl), ?_⟩; refine List.forall_mem_cons.mpr ⟨KX 64 _ (by exact rfl), ?_⟩; exact List.forall_mem_nil _
  refine List.forall_mem_cons.mpr ⟨⟨KX 67 _ (by exact rfl), ?_⟩, ?_⟩
  · refine List.forall_mem_cons.mpr ⟨KX 66 _ (by exact rfl), ?_⟩; exact List.forall_mem_nil _
  refine List.forall_mem_cons.mpr ⟨⟨KX 69 _ (by exact rfl), ?_⟩, ?_⟩
  · refine List.forall_mem_cons.mpr ⟨KX 68 _ (by exact rfl), ?_⟩; exact List.forall_mem_nil _
  refine List.forall_mem_cons.mpr ⟨⟨KX 73 _ (by exact rfl), ?_⟩, ?_⟩
  · refine List.forall_mem_cons.mpr ⟨KX 70 _ (by exact rfl), ?_⟩; refine List.forall_mem_cons.mpr ⟨KX 71 _ (by exact rfl), ?_⟩; refine List.forall_mem_cons.mpr ⟨KX 72 _ (by exact rfl), ?_⟩; exact List.forall_mem_nil _
  refine List.forall_mem_cons.mpr ⟨⟨KX 75 _ (by exact rfl), ?_⟩, ?_⟩
  · refine List.forall_mem_cons.mpr ⟨KX 74 _ (by exact rfl), ?_⟩; exact List.forall_mem_nil _
  refine List.forall_mem_cons.mpr ⟨⟨KX 77 _ (by exact rfl), ?_⟩, ?_⟩
  · refine List.forall_mem_cons.mpr ⟨KX 76 _ (by exact rfl), ?_⟩; exact List.forall_mem_nil _
  refine List.forall_mem_cons.mpr ⟨⟨KX 81 _ (by exact rfl), ?_⟩, ?_⟩
  · refine List.forall_mem_cons.mpr ⟨KX 78 _ (by exact rfl), ?_⟩; refine List.forall_mem_cons.mpr ⟨KX 79 _ (by exact rfl), ?_⟩; refine List.forall_mem_cons.mpr ⟨KX 80 _ (by exact rfl), ?_⟩; exact List.forall_mem_nil _
  refine List.forall_mem_cons.mpr ⟨⟨KX 83 _ (by exact rfl), ?_⟩, ?_⟩
  · refine List.forall_mem_cons.mpr ⟨KX 82 _ (by exact rfl), ?_⟩; exact List.forall_mem_nil _
  refine List.forall_mem_cons.mpr ⟨⟨KX 85 _ (by exact rfl), ?_⟩, ?_⟩
  · refine List.forall_mem_cons.mpr ⟨KX 84 _ (by exact rfl), ?_⟩; exact List.forall_mem_nil _
  refine List.forall_mem_cons.mpr ⟨⟨KX 89 _ (by exact rfl), ?_⟩, ?_⟩
  · refine List.forall_mem_cons.mpr ⟨KX 86 _ (by exact rfl), ?_⟩; refine List.forall_mem_cons.mpr ⟨KX 87 _ (by exact rfl), ?_⟩; refine List.forall_mem_cons.mpr ⟨KX 88 _ (by exact rfl), ?_⟩; exact List.forall_mem_nil _
  exact List.forall_mem_nil _
end Mine
end

section
open PySem PySem.W PyProof.Rows PySem.Calls PyProof.Rows.LCg
set_option maxRecDepth 100000
set_option maxHeartbeats 8000000
namespace Mine
local macro_rules | `(tactic| walk_at "mine enter") => `(tactic| (
  (case k6 => k_is)
  (case k7 => k_is)
  (case k9 => exact rfl)
  (case c5 => decide)
  (case kB => exact locs rfl)
  (case c2 => exact rfl)
  (case c3 => exact rfl)
  (case c4 => exact rfl)))
abbrev fmItems : Array Value := #[.ref 65, .ref 67, .ref 69, .ref 73, .ref 75, .ref 77, .ref 81, .ref 83, .ref 85, .ref 89]

theorem canon2 {m : Str → Option Value} {a b : Str} {x y : Value} (h1 : m a = some x) (h2 : m b = some y) : m = fun z => if z = a then some x else if z = b then some y else m z := by
  funext z
  by_cases e : z = a
  · rw [e, h1, if_pos rfl]
  · rw [if_neg e]
    by_cases e2 : z = b
    · rw [e2, h2, if_pos rfl]
    · rw [if_neg e2]
theorem canon3 {m : Str → Option Value} {a b c : Str} {x y z : Value} (h1 : m a = some x) (h2 : m b = some y) (h3 : m c = some z) : m = fun u => if u = a then some x else if u = b then some y else if u = c then some z else m u := by
  funext u
  by_cases e : u = a
  · rw [e, h1, if_pos rfl]
  · rw [if_neg e]
    by_cases e2 : u = b
    · rw [e2, h2, if_pos rfl]
    · rw [if_neg e2]
      by_cases e3 : u = c
      · rw [e3, h3, if_pos rfl]
      · rw [if_neg e3]
theorem fresh_above {h : Heap} {b : Addr} (hb : h.objs.size ≤ b) : h.get? b = none := by
  cases e : h.get? b with
  | none => rfl
  | some o => exact absurd (Heap.lt_size e) (Nat.not_lt.mpr hb)
theorem nm2 {a b c : Nat} (h1 : a ≠ b) (h2 : a ≠ c) : a ∉ [b, c] := by
  simp only [List.mem_cons, List.not_mem_nil, or_false, not_or]; exact ⟨h1, h2⟩
theorem nm3 {a b c d : Nat} (h1 : a ≠ b) (h2 : a ≠ c) (h3 : a ≠ d) : a ∉ [b, c, d] := by
  simp only [List.mem_cons, List.not_mem_nil, or_false, not_or]; exact ⟨h1, h2, h3⟩
theorem im2 {a b c : Nat} (h : a ∈ [b, c]) : a = b ∨ a = c := by simpa using h
theorem fm_row (i : Nat) (hi : i < 10) : ∃ r ∈ rowsT, fmItems[i]? = some (.ref r.1) ∧ tabAt i = r.2.map fun e => (e.2.1, e.2.2.2.1) := by
  obtain rfl | rfl | rfl | rfl | rfl | rfl | rfl | rfl | rfl | rfl : i = 0 ∨ i = 1 ∨ i = 2 ∨ i = 3 ∨ i = 4 ∨ i = 5 ∨ i = 6 ∨ i = 7 ∨ i = 8 ∨ i = 9 := by omega
  all_goals (unfold rowsT; first
    | exact ⟨_, .head _, rfl, rfl⟩
    | exact ⟨_, .tail _ (.head _), rfl, rfl⟩
    | exact ⟨_, .tail _ (.tail _ (.head _)), rfl, rfl⟩
    | exact ⟨_, .tail _ (.tail _ (.tail _ (.head _))), rfl, rfl⟩
    | exact ⟨_, .tail _ (.tail _ (.tail _ (.tail _ (.head _)))), rfl, rfl⟩
    | exact ⟨_, .tail _ (.tail _ (.tail _ (.tail _ (.tail _ (.head _))))), rfl, rfl⟩
    | exact ⟨_, .tail _ (.tail _ (.tail _ (.tail _ (.tail _ (.tail _ (.head _)))))), rfl, rfl⟩
    | exact ⟨_, .tail _ (.tail _ (.tail _ (.tail _ (.tail _ (.tail _ (.tail _ (.head _))))))), rfl, rfl⟩
    | exact ⟨_, .tail _ (.tail _ (.tail _ (.tail _ (.tail _ (.tail _ (.tail _ (.tail _ (.head _)))))))), rfl, rfl⟩
    | exact ⟨_, .tail _ (.tail _ (.tail _ (.tail _ (.tail _ (.tail _ (.tail _ (.tail _ (.tail _ (.head _))))))))), rfl, rfl⟩)
local macro_rules | `(tactic| walk_at "call ref") => `(tactic| (
  (with_reducible show wpAny _ _ (call (Value.ref 57) [Value.int _ _]) _ _ _)
  (rename Fr _ _ _ _ => F9)
  (rename News _ _ _ _ => N9)
  (refine sifmt_ok (Gd.up (by assumption) F9.keep) (by show _ + 1 < _; assumption) ?_)
  intro t9 h9 tk9 u9
  (have F9' := F9.keeps u9)
  (have N9' := N9.grown u9)
  clear F9 N9))
theorem StrsAre.snoc {vs : List Value} {ys : List Str} (h : StrsAre vs ys) (y : Str) (t : Tok) : StrsAre (vs ++ [.str y t]) (ys ++ [y]) := by
  induction h with
  | nil => exact .cons y t .nil
  | cons z u _ ih => exact .cons z u ih
theorem StrsAre.length {vs : List Value} {ys : List Str} (h : StrsAre vs ys) : vs.length = ys.length := by
  induction h with
  | nil => rfl
  | cons z u _ ih => simp [ih]
theorem StrsAre.glyph {vs : List Value} {mode : Int} {i c : Nat} (h : StrsAre vs ((List.range i).map fun j => one (fmAt mode j))) (e : fmAt mode i = c) (t : Tok) :
    StrsAre (vs ++ [.str (one c) t]) ((List.range (i + 1)).map fun j => one (fmAt mode j)) := by
  rw [range_one, e]
  exact StrsAre.snoc h _ t
theorem led_snoc {pa : Addr} {vs : List Value} {c : Value} {own own2 : List (Addr × Obj)} {p : Addr × Obj} (hp : p ∈ [(pa, lst (vs ++ [c]))] ++ own) : p ∈ (pa, W.listOf (vs.toArray.push c) (vs.length + 1)) :: (own ++ own2) := by
  rcases List.mem_append.mp hp with hp | hp
  · rw [List.mem_singleton.mp hp, ← lst_snoc]; exact .head _
  · exact .tail _ (List.mem_append_left _ hp)
theorem led_snoc1 {pa : Addr} {vs : List Value} {c : Value} {own : List (Addr × Obj)} {p : Addr × Obj} (hp : p ∈ [(pa, lst (vs ++ [c]))] ++ own) : p ∈ (pa, W.listOf (vs.toArray.push c) (vs.length + 1)) :: own := by
  rcases List.mem_append.mp hp with hp | hp
  · rw [List.mem_singleton.mp hp, ← lst_snoc]; exact .head _
  · exact .tail _ hp
theorem q63 : Str.ofString "?" = one 63 := by decide +kernel
theorem q45 : Str.ofString "-" = one 45 := by decide +kernel
theorem qnil : Str.ofString "" = ⟨#[]⟩ := by decide +kernel
theorem filemode_ok {w : World} {mean : ExcName → Option Value} {mg mb : Str → Option Value} {A : Around} {s : Shared} {E Q : Value → Shared → Prop} {mode : Int} {t : Tok}
    (G : Gd w mean mg mb s.heap) (hroom : A.depth + 1 < recursionLimit) (hh : A.handled = none) (hQ : ∀ t' h' tk', Up s.heap h' → Q (.str (fm mode) t') { s with heap := h', toks := tk' }) :
    wpAny (model PySem.Challenge.rw_of0018_01.row.prog w) A (call (.ref 97) [.int mode t]) Q E s := by
  have KX := G.K
  have T := G.T
  revert KX; k_fill; intro KX
  refine' enter (binds := [(Str.ofString "mode", .int mode t)]) G ?k6 ?k7 (Nat.lt_of_succ_lt hroom) ?k9 ?kB ?_ ?c2 ?c3 ?c4 ?c5
  walk_at "mine enter"
  intro h₁ tk F
  have N := News.nil (h₀ := s.heap) (h := h₁) (L := s.heap.objs.size)
  refine wpAny_execs_cons ?_
  walk1; walk1; walk1; walk1; walk1
  rename_i pa h2a l1a h2 F2 N2
  dsimp only
  refine wpAny_execs_cons ?_
  refine wpAny_For ?_
  k_steps
  have ht90 : h2.IsTuple 90 fmItems := ⟨_, F2.keep _ _ (KX 90 _ (by k_is)), rfl, _, rfl⟩
  refine call_enum_tuple ht90 fun h3 he hit hz up3 => ?_
  refine wpAny_pyIter_enum he ?_
  have hlt : 90 < h2.objs.size := by obtain ⟨_, e, _⟩ := ht90; exact Heap.lt_size e
  have F3 := F2.keeps up3
  have N3 := N2.grown up3
  have hLlt : s.heap.objs.size < h2.objs.size := F2.ns.lt
  have h90 : 90 < s.heap.objs.size := Heap.lt_size (KX 90 _ (by k_is))
  dsimp only at hit he
  refine for_itr (h₀ := s.heap) (itr_enum (draws_tuple (by exact hh) h2.objs.size 90 (Nat.ne_of_lt hlt) fmItems) (h2.objs.size + 1) (Nat.succ_ne_self _) ?_ (.head _)) ?_ ?_ (by exact ⟨⟨_, he⟩, hit, ht90.at fun o e => up3 _ _ e⟩) F3 N3
    (fun i m nx => m (Str.ofString "mode") = some (.int mode t) ∧ m (Str.ofString "perm") = some (.ref pa) ∧ ∃ vs, nx = [(pa, lst vs)] ∧ StrsAre vs ((List.range i).map fun j => one (fmAt mode j))) ?_ ?_ ?_ ?_
  · exact nm2 (by omega) (by omega)
  · exact nm3 (a := s.heap.objs.size) (by omega) (by omega) (by omega)
  · intro b hb
    have := im2 hb
    exact fresh_above (by omega)
  · rintro i m nx ⟨_, _, vs, rfl, _⟩ p hp
    have hpa := ltN (Heap.lt_size (N2 _ (.head _)).1)
    dsimp only at hpa
    rw [List.mem_singleton.mp hp]
    exact nm2 (a := pa) (by omega) (by omega)
  · exact ⟨rfl, rfl, [], rfl, .nil⟩
  · intro i v m₁ nx₁ h tk₁ own hi hv hJ hown hwr F N
    obtain ⟨T, vals, rfl, ⟨ti, x, hx, rfl⟩, hT, _⟩ := hv
    obtain ⟨hm, hpm, vs, rfl, hvs⟩ := hJ
    rw [canon2 hm hpm] at F
    refine assign_pairF hh hT F N rfl rfl rfl fun h4 tk4 F4 N4 _ => ?_
    clear F N
    obtain ⟨r, hr, hri, htab⟩ := fm_row i hi
    rw [hri] at hx
    obtain rfl := Option.some.inj hx
    have hR := rowsT_heap KX r hr
    refine wpAny_execs_cons ?_
    refine wpAny_For ?_
    walk1
    dsimp only
    have htR : h4.IsTuple r.1 (r.2.map fun e => Value.ref e.1).toArray := ⟨_, F4.keep _ _ hR.1, rfl, _, rfl⟩
    refine wpAny_pyIter_tuple htR ?_
    have hL4 : s.heap.objs.size < h4.objs.size := F4.ns.lt
    have hr4 : r.1 < s.heap.objs.size := Heap.lt_size hR.1
    have he4 : ∀ j, j < r.2.length → (r.2.getD j default).1 < s.heap.objs.size ∧ s.heap.get? (r.2.getD j default).1 = some (rowObj (r.2.getD j default)) := by
      intro j hj
      have hm : r.2.getD j default ∈ r.2 := by
        rw [List.getD_eq_getElem?_getD, List.getElem?_eq_getElem hj]; exact List.getElem_mem hj
      exact ⟨Heap.lt_size (hR.2 _ hm), hR.2 _ hm⟩
    have hoffO : ∀ p ∈ own, p.1 ≠ pa := by
      intro p hp q
      have hpa := ltN (Heap.lt_size (N2 _ (.head _)).1)
      have hpn := (N2 _ (.head _)).2.2
      dsimp only at hpa hpn
      have h1 := hown p hp
      rw [q] at h1
      rcases List.mem_cons.mp h1 with e | h1
      · exact absurd hpa (by rw [e]; exact Nat.not_lt.mpr (Nat.le_succ _))
      · rcases im2 h1 with e | e
        · exact absurd hpa (by rw [e]; exact Nat.lt_irrefl _)
        · rw [e, KX 90 _ (by k_is)] at hpn; cases hpn
    have hoffI : ∀ a ∈ h4.objs.size :: r.1 :: (List.range (r.2.map fun e => Value.ref e.1).toArray.size).map (fun j => (r.2.getD j default).1), a ≠ pa := by
      intro a ha q
      have hpa := ltN (Heap.lt_size (N4 _ (.head _)).1)
      have hpn := (N4 _ (.head _)).2.2
      dsimp only at hpa hpn
      rw [q] at ha
      rcases List.mem_cons.mp ha with e | ha
      · exact absurd hpa (by rw [e]; exact Nat.lt_irrefl _)
      · rcases List.mem_cons.mp ha with e | ha
        · rw [e, hR.1] at hpn; cases hpn
        · obtain ⟨j, hj, e⟩ := List.mem_map.mp ha
          rw [← e, (he4 j (by simpa using hj)).2] at hpn; cases hpn
    have hlen : vs.toArray.size ≤ sizeLine := by
      have := hvs.length
      rw [List.length_map, List.length_range] at this
      rw [List.size_toArray, this]
      exact Nat.le_trans (Nat.le_of_lt hi) (by decide)
    have F5 := F4.push { cls := .type "tuple_iterator", data := .fields #[.ref r.1, .int 0 0] }
    have N5 : News s.heap s.heap.objs.size (h4.push { cls := .type "tuple_iterator", data := .fields #[.ref r.1, .int 0 0] }) ((pa, lst vs) :: own) := N4.grown fun b o e => Heap.get?_push_of_some _ e
    refine for_itr (h₀ := s.heap) (itr_tpairs (by exact hh) h4.objs.size r.1 (Nat.ne_of_lt (Nat.lt_trans hr4 hL4)) (r.2.map fun e => Value.ref e.1).toArray (fun j => (r.2.getD j default).1) (fun j => rowVals (r.2.getD j default)) ?_ ?_) ?_ ?_ (by exact ⟨⟨_, Heap.get?_push_size _ rfl, rfl, rfl⟩, htR.push _, fun k hk => ⟨_, F5.keep _ _ (he4 k (by simpa using hk)).2, rfl, _, rfl⟩⟩) F5 N5
      (fun j m nx => m (Str.ofString "mode") = some (.int mode t) ∧ m (Str.ofString "perm") = some (.ref pa) ∧ m (Str.ofString "index") = some (.int i ti) ∧ nx = (pa, lst vs) :: own ∧ ∀ e ∈ (tabAt i).take j, hits mode i e = false) ?_ ?_ ?_ ?_
    · intro j hj
      have hj' : j < r.2.length := by simpa using hj
      rw [List.getD_eq_getElem?_getD, List.getElem?_eq_getElem hj']
      simp [hj']
    · intro j hj
      exact Nat.ne_of_lt (Nat.lt_trans (he4 j (by simpa using hj)).1 hL4)
    · intro hm
      rcases List.mem_cons.mp hm with e | hm
      · exact absurd e (Nat.ne_of_lt hL4)
      · rcases List.mem_cons.mp hm with e | hm
        · exact absurd e.symm (Nat.ne_of_lt hr4)
        · obtain ⟨j, hj, e⟩ := List.mem_map.mp hm
          exact absurd e (Nat.ne_of_lt (he4 j (by simpa using hj)).1)
    · intro b hb
      rw [List.mem_singleton.mp hb]
      exact fresh_above (Nat.le_of_lt hL4)
    · rintro j m nx ⟨_, _, _, rfl, _⟩ p hp hq
      have := Heap.lt_size (N4 p hp).1
      rw [List.mem_singleton.mp hq] at this
      exact Nat.lt_irrefl _ this
    · exact ⟨rfl, rfl, rfl, rfl, fun e he => by simp at he⟩
    · intro j v m₂ nx₂ h6 tk6 own2 hj hv hJ hown2 hwr2 F6 N6
      obtain ⟨T', vals', rfl, rfl, hT', _⟩ := hv
      obtain ⟨hm', hp', hi', rfl, hno⟩ := hJ
      rw [canon3 hm' hp' hi'] at F6
      refine assign_pairF hh hT' F6 N6 rfl rfl rfl fun h7 tk7 F7 N7 _ => ?_
      have off : OwnOff (own ++ own2) [pa] := by
        intro p hp b hb
        rw [List.mem_singleton.mp hb]
        intro q
        rcases List.mem_append.mp hp with hp | hp
        · exact hoffO p hp q
        · exact hoffI p.1 (hown2 p hp) q
      replace N7 : News s.heap s.heap.objs.size h7 ((pa, lst vs) :: (own ++ own2)) := N7
      have hej : (tabAt i)[j]? = some ((r.2.getD j default).2.1, (r.2.getD j default).2.2.2.1) := by
        have hj' : j < r.2.length := by simpa using hj
        rw [htab, List.getElem?_map, List.getD_eq_getElem?_getD, List.getElem?_eq_getElem hj']; rfl
      clear F6 N6 F5 N5 F4 N4 F3 N3 F2 N2
      dsimp only
      k_steps
      all_goals (rename Fr _ _ _ _ => F8; rename News _ _ _ _ => N8)
      · refine ForTurn.out (wpAny_execs_nil (ForTurn.go (nx₂ := [(pa, lst (vs ++ [.str (one (r.2.getD j default).2.2.2.1) (r.2.getD j default).2.2.2.2]))]) F8 (fun p hp => N8 p (led_snoc hp)) ⟨rfl, rfl, _, rfl, StrsAre.glyph hvs (fmAt_hit hno hej ?_) _⟩))
        rw [hits_zero (by assumption), beq_iff_eq]; assumption
      · refine ForTurn.go (nx₂ := (pa, lst vs) :: own) F8 N8 ⟨rfl, rfl, rfl, rfl, take_more hno hej ?_⟩
        rw [hits_zero (by assumption), beq_eq_false_iff_ne]; assumption
      · refine ForTurn.out (wpAny_execs_nil (ForTurn.go (nx₂ := [(pa, lst (vs ++ [.str (one (r.2.getD j default).2.2.2.1) (r.2.getD j default).2.2.2.2]))]) F8 (fun p hp => N8 p (led_snoc hp)) ⟨rfl, rfl, _, rfl, StrsAre.glyph hvs (fmAt_hit hno hej ?_) _⟩))
        rw [hits_pos (by assumption), beq_iff_eq]; assumption
      · refine ForTurn.go (nx₂ := (pa, lst vs) :: own) F8 N8 ⟨rfl, rfl, rfl, rfl, take_more hno hej ?_⟩
        rw [hits_pos (by assumption), beq_eq_false_iff_ne]; assumption
    · intro h8 tk8 m' nx' F8 N8 hJ
      obtain ⟨hm', hp', hi', rfl, hno⟩ := hJ
      rw [canon3 hm' hp' hi'] at F8
      have off : OwnOff own [pa] := by
        intro p hp b hb
        rw [List.mem_singleton.mp hb]
        exact hoffO p hp
      have hno' : ∀ x ∈ tabAt i, hits mode i x = false := by
        rw [List.take_of_length_le (by rw [htab]; simp)] at hno
        exact hno
      clear F5 N5 F4 N4 F3 N3 F2 N2
      dsimp only
      k_steps
      all_goals (rename Fr _ _ _ _ => F9; rename News _ _ _ _ => N9)
      · rw [q63] at N9
        refine ForTurn.go F9 (fun p hp => N9 p (led_snoc1 hp)) ⟨rfl, rfl, _, rfl, StrsAre.glyph hvs ?_ _⟩
        rw [fmAt_none hno', if_pos (by omega)]
      · rw [q45] at N9
        refine ForTurn.go F9 (fun p hp => N9 p (led_snoc1 hp)) ⟨rfl, rfl, _, rfl, StrsAre.glyph hvs ?_ _⟩
        rw [fmAt_none hno', if_neg (by omega)]
  · intro h8 tk8 m' nx' F8 N8 hJ
    obtain ⟨hm', hp', vs, rfl, hvs⟩ := hJ
    rw [canon2 hm' hp'] at F8
    clear F3 N3 F2 N2
    dsimp only
    k_steps
    refine join_list (D := pa) (items := vs.toArray) (ys := (List.range 10).map fun j => one (fmAt mode j)) ⟨_, (N8 _ (.head _)).1, rfl, _, rfl⟩ hvs ?_ fun t' k => ?_
    · rw [qnil]
      simp only [List.map_map]
      rw [show (List.map ((fun x => x.length) ∘ fun j => one (fmAt mode j)) (List.range 10)) = List.map (fun _ => 1) (List.range 10) from rfl, List.length_map, List.length_range]
      decide
    · k_steps
      have e : Txt.join (Str.ofString "") ((List.range 10).map fun j => one (fmAt mode j)) = fm mode := by
        show Builtin.Str.glued _ _ = _
        rw [StrLaws.glued_eq_join, qnil, show ((List.range 10).map fun j => one (fmAt mode j)) = ((List.range 10).map (fmAt mode)).map one from by rw [List.map_map]; rfl, join_ones]
        rfl
      rw [e]
      exact hQ _ _ _ F8.keep
end Mine
end

section
open PySem PySem.W PyProof.Rows PySem.Calls PyProof.Rows.LCg
set_option maxRecDepth 100000
set_option maxHeartbeats 4000000
namespace Mine
abbrev TupO (vals : Array Value) (n : Nat) : Obj := { cls := .type "tuple", data := .seq vals n }
/-- a list of tuples, their objects in Z -/
inductive PsOf {α : Type} (R : α → Array Value → Prop) (Z : List (Addr × Obj)) : List Value → List α → Prop
  | nil : PsOf R Z [] []
  | cons {T : Addr} {n : Nat} {vals : Array Value} {c : α} {vs : List Value} {cs : List α} : (T, TupO vals n) ∈ Z → R c vals → PsOf R Z vs cs → PsOf R Z (.ref T :: vs) (c :: cs)
section
variable {α : Type} {R : α → Array Value → Prop} {Z Z' : List (Addr × Obj)} {vs ws : List Value} {cs ds : List α}
theorem PsOf.mono (h : PsOf R Z vs cs) (hs : ∀ p ∈ Z, p ∈ Z') : PsOf R Z' vs cs := by
  induction h with
  | nil => exact .nil
  | cons hm hr _ ih => exact .cons (hs _ hm) hr ih
theorem PsOf.length (h : PsOf R Z vs cs) : vs.length = cs.length := by
  induction h with
  | nil => rfl
  | cons _ _ _ ih => simp [ih]
theorem PsOf.append (h : PsOf R Z vs cs) (k : PsOf R Z ws ds) : PsOf R Z (vs ++ ws) (cs ++ ds) := by
  induction h with
  | nil => exact k
  | cons hm hr _ ih => exact .cons hm hr ih
theorem PsOf.get (h : PsOf R Z vs cs) : ∀ {j : Nat} {c : α}, cs[j]? = some c → ∃ T vals n, vs[j]? = some (.ref T) ∧ (T, TupO vals n) ∈ Z ∧ R c vals := by
  induction h with
  | nil => intro j c e; simp at e
  | @cons T n vals c' vs' cs' hm hr _ ih =>
    intro j c e
    cases j with
    | zero => obtain rfl : c' = c := by simpa using e
              exact ⟨_, _, _, rfl, hm, hr⟩
    | succ j => exact ih (by simpa using e)
theorem PsOf.one {T : Addr} {n : Nat} {vals : Array Value} {c : α} (hm : (T, TupO vals n) ∈ Z) (hr : R c vals) : PsOf R Z [.ref T] [c] := .cons hm hr .nil
end
def tsOf (vs : List Value) (j : Nat) : Addr := match vs[j]? with | some (.ref T) => T | _ => 0
def valsIn (h : Heap) (a : Addr) : Array Value := match h.get? a with | some ⟨_, _, .seq vs _, _⟩ => vs | _ => #[]

theorem Itr.weaken {prog : Program} {w : World} {A : Around} {target : Expr} {I : Addr} {fp wr : List Addr} {n : Nat} {P P' : Nat → Heap → Value → Prop} {St : Nat → Heap → Prop} (W : Itr prog w A target I fp wr n P St) (hP : ∀ i h v, i < n → P i h v → P' i h v) :
    Itr prog w A target I fp wr n P' St where
  sub := W.sub
  live := W.live
  frame := W.frame
  item := fun i s Q E hi st hQ => W.item i s Q E hi st fun v h' tk hp => hQ v h' tk (hP i h' v hi hp)
  done := W.done
  self := W.self

/-- over a list of tuples -/
theorem itr_ps {prog : Program} {w : World} {A : Around} {elts : List Expr} {k : Nat} {pos : Pos} (hh : A.handled = none) {α : Type} {R : α → Array Value → Prop} {Z : List (Addr × Obj)} {vs : List Value} {cs : List α} {h : Heap} {I ax : Addr}
    (ps : PsOf R Z vs cs) (hz : Fz Z h) (hl : h.IsList ax vs.toArray) (hit : h.IsListIter I ax 0) (hI : ∀ p ∈ Z, p.1 ≠ I) :
    ∃ fp St, Itr prog w A (.Tuple elts k pos) I fp [I] cs.length (fun i h v => ∃ T vals c, cs[i]? = some c ∧ v = .ref T ∧ R c vals ∧ h.IsTuple T vals ∧ T ≠ I) St ∧ St 0 h ∧ (∀ b ∈ fp, ∃ o, h.get? b = some o) ∧ (∀ b ∈ fp, b = I ∨ b = ax ∨ ∃ p ∈ Z, p.1 = b) := by
  have hlen := ps.length
  have key : ∀ j, j < vs.toArray.size → ∃ T vals n c, vs[j]? = some (.ref T) ∧ (T, TupO vals n) ∈ Z ∧ cs[j]? = some c ∧ R c vals ∧ tsOf vs j = T ∧ valsIn h T = vals := by
    intro j hj
    have hj' : j < cs.length := by rw [← hlen]; simpa using hj
    obtain ⟨T, vals, n, h1, h2, h3⟩ := ps.get (List.getElem?_eq_getElem hj')
    refine ⟨T, vals, n, _, h1, h2, List.getElem?_eq_getElem hj', h3, ?_, ?_⟩
    · unfold tsOf; rw [h1]
    · unfold valsIn; rw [hz _ h2]
  have hne : ax ≠ I := by
    rintro rfl
    obtain ⟨o, e1, c1, _⟩ := hl
    obtain ⟨o', e2, c2, _⟩ := hit
    rw [e1] at e2; cases e2; rw [c1] at c2
    exact absurd c2 (by decide)
  have g1 : ∀ j, j < vs.toArray.size → vs.toArray[j]? = some (.ref (tsOf vs j)) := by
    intro j hj
    obtain ⟨T, vals, n, c, h1, _, _, _, h5, _⟩ := key j hj
    rw [h5]; simpa using h1
  have g2 : ∀ j, j < vs.toArray.size → tsOf vs j ≠ I := by
    intro j hj
    obtain ⟨T, vals, n, c, _, h2, _, _, h5, _⟩ := key j hj
    rw [h5]; exact hI _ h2
  have W := (itr_pairs (prog := prog) (w := w) (elts := elts) (k := k) (pos := pos) hh I ax hne vs.toArray (tsOf vs) (fun j => valsIn h (tsOf vs j)) g1 g2).weaken (P' := fun i h v => ∃ T vals c, cs[i]? = some c ∧ v = .ref T ∧ R c vals ∧ h.IsTuple T vals ∧ T ≠ I) (by
    rintro i g v hi ⟨T, vals, rfl, rfl, ht, hn⟩
    obtain ⟨T', vals', n, c, _, h2, h3, h4, h5, h6⟩ := key i hi
    refine ⟨T, _, c, h3, rfl, ?_, ht, fun q => hn (List.mem_singleton.mpr q)⟩
    rw [h5, h6]; exact h4)
  have hsz : vs.toArray.size = cs.length := by rw [List.size_toArray, hlen]
  rw [hsz] at W
  refine ⟨_, _, W, ⟨hit, hl, ?_⟩, ?_, ?_⟩
  · intro j hj
    obtain ⟨T, vals, n, c, _, h2, _, _, h5, h6⟩ := key j (hsz ▸ hj)
    rw [h5, h6]; exact ⟨_, hz _ h2, rfl, n, rfl⟩
  · intro b hb
    rcases List.mem_cons.mp hb with e | hb
    · rw [e]; obtain ⟨o, e, _⟩ := hit; exact ⟨o, e⟩
    · rcases List.mem_cons.mp hb with e | hb
      · rw [e]; obtain ⟨o, e, _⟩ := hl; exact ⟨o, e⟩
      · obtain ⟨j, hj, rfl⟩ := List.mem_map.mp hb
        obtain ⟨T, vals, n, c, _, h2, _, _, h5, _⟩ := key j (hsz ▸ List.mem_range.mp hj)
        rw [h5]; exact ⟨_, hz _ h2⟩
  · intro b hb
    rcases List.mem_cons.mp hb with e | hb
    · exact .inl e
    · rcases List.mem_cons.mp hb with e | hb
      · exact .inr (.inl e)
      · obtain ⟨j, hj, rfl⟩ := List.mem_map.mp hb
        obtain ⟨T, vals, n, c, _, h2, _, _, h5, _⟩ := key j (hsz ▸ List.mem_range.mp hj)
        rw [h5]; exact .inr (.inr ⟨_, h2, rfl⟩)

section
variable {M : Model} {A : Around} {E : Value → Shared → Prop} {s : Shared} {env : Env} {x : Str} {pos : Pos} {v : Value} {Q : Value → Shared → Prop} {m : Str → Option Value}
/-- names, whatever the block -/
theorem nameL (hn : s.heap.Ns env.locals m) (hv : m x = some v) (h : Q v s) (hk : env.scope.kind = .function) (hx : env.kindOf x = some .local) (hd : (x == ("__debug__" : Str)) = false) :
    wpAny M A (eval (.Name x pos) env) Q E s := wpAny_Name (wpAny_loadName_local hk hx hn hv h) hd
theorem nameC {c : Addr} {o : Obj} (hc : env.cells.lookup x = some c) (ho : s.heap.get? c = some o) (hd : o.data = .cell (some v)) (h : Q v s) (hk : env.scope.kind = .function) (hx : env.kindOf x = some .cell) (hb : (x == ("__debug__" : Str)) = false) :
    wpAny M A (eval (.Name x pos) env) Q E s := wpAny_Name (wpAny_loadName_cell hk hx hc ⟨o, ho, hd⟩ h) hb
theorem nameFr {c : Addr} {o : Obj} (hc : env.cells.lookup x = some c) (ho : s.heap.get? c = some o) (hd : o.data = .cell (some v)) (h : Q v s) (hk : env.scope.kind = .function) (hx : env.kindOf x = some .free) (hb : (x == ("__debug__" : Str)) = false) (hn : (x == ("__classdict__" : Str)) = false) :
    wpAny M A (eval (.Name x pos) env) Q E s := wpAny_Name (wpAny_loadName_free hk hx hc ⟨o, ho, hd⟩ h hn) hb
theorem nameG {w : World} {mean : ExcName → Option Value} {mg mb : Str → Option Value} {h₀ : Heap} (G : Gd w mean mg mb h₀) (u : Up h₀ s.heap) (e : nsIn (hd.heap_39 w.params) mainGlobals x = some (some v)) (h : Q v s) (hg : env.globals = mainGlobals) (hk : env.scope.kind = .function) (hx : env.kindOf x = some .globalImplicit) (hd : (x == ("__debug__" : Str)) = false) :
    wpAny M A (eval (.Name x pos) env) Q E s :=
  Name_function_global hk hx (loadGlobal_global (env := env) (by rw [hg]; exact G.T.g.keeps u) (mg_of G.K G.T.g e) h) hd
theorem nameB {w : World} {mean : ExcName → Option Value} {mg mb : Str → Option Value} {h₀ : Heap} (G : Gd w mean mg mb h₀) (u : Up h₀ s.heap) (e : nsIn (hd.heap_39 w.params) mainGlobals x = some none) (hv : bootBuiltins x = some v) (hn : x ≠ "__name__") (h : Q v s) (hg : env.globals = mainGlobals) (hgb : env.builtins = builtinsNs) (hk : env.scope.kind = .function) (hx : env.kindOf x = some .globalImplicit) (hd : (x == ("__debug__" : Str)) = false) :
    wpAny M A (eval (.Name x pos) env) Q E s :=
  Name_function_global hk hx (loadGlobal_builtin (env := env) (by rw [hg]; exact G.T.g.keeps u) (mg_none_of G.K G.T.g e) (by rw [hgb]; exact G.T.b.keeps u) ((G.T.builtins x hn).trans hv) h) hd
end

/-- a call of a def with cells of its own -/
theorem enterC {w : World} {mean : ExcName → Option Value} {mg mb : Str → Option Value} {A : Around} {s : Shared} {E Q : Value → Shared → Prop}
    {name qual : Str} {params : Arguments} {body : List Stmt} {scope : Scope} {dV kV doc pm cdv ct oc : Value} {an od : Option Addr} {osl : Array (Option Value)} {f : Addr} {args : List Value} {binds : List (Str × Value)}
    (G : Gd w mean mg mb s.heap)
    (ho : (hd.heap_39 w.params).lookup f = some ⟨oc, od, .func (fnOf name qual params body scope dV kV doc pm an cdv ct), osl⟩)
    (hcd : codeIn (hd.heap_39 w.params) cdv qual = true) (hroom : A.depth < recursionLimit)
    (hbind : bindArgs (fnOf name qual params body scope dV kV doc pm an cdv ct) ⟨args, []⟩ = pure binds)
    (hkind : (binds.all fun y => scope.names.lookup y.1 == some .local || scope.names.lookup y.1 == some .cell) = true)
    (hnd : ((cellsFrom 0 scope.names []).map (·.1)).Nodup)
    (h : ∀ h₁ tk cells, Fr s.heap s.heap.objs.size h₁ (bindL (envOfC qual scope s.heap.objs.size f cdv).kindOf binds fun _ => none) → News s.heap s.heap.objs.size h₁ cells →
      CellsAre (bindC (envOfC qual scope s.heap.objs.size f cdv).kindOf binds fun _ => none) (cellsFrom (s.heap.objs.size + 1) scope.names []) cells →
      wpAny (model PySem.Challenge.rw_of0018_01.row.prog w) (A.deeper (envOfC qual scope s.heap.objs.size f cdv)) (execs body (envOfC qual scope s.heap.objs.size f cdv))
        (fun fl s' => Q (match fl with | .ret v => v | _ => .none) s') (fun _ _ => False)
        { s with heap := h₁, toks := tk })
    (hco : scope.isCoroutine = false) (hgen : scope.isGenerator = false) (hk : scope.kind = .function) :
    wpAny (model PySem.Challenge.rw_of0018_01.row.prog w) A (call (.ref f) args) Q E s := by
  refine wpAny_call (codeAny_call_function hroom (G.K _ _ ho) rfl hco hgen rfl (codeRec_of G.K hcd) ((BindsTo.of_eq hbind) _ _ _ _ ?_))
  refine wpAny_newFunctionEnv_cells hk (kindsX hkind _) fun env' he s' x => ?_
  subst he
  refine ⟨G.T.nolimit.keeps x.toInCall.keep, codeAny_func ?_⟩
  obtain ⟨h₁, tk, rfl, _⟩ := x.done
  have hk₁ := x.toInCall.keep
  obtain ⟨cells, NC, Y⟩ := Cl.news (h₀ := s.heap) (Nat.le_refl _) fun n c hm => ⟨x.cell n c (lookup_of_mem_nodup (cellsFrom_names scope.names 0 (s.heap.objs.size + 1) [] [] rfl ▸ hnd) hm), x.above n c hm⟩
  exact wpAny_mono (h h₁ tk cells ⟨x.toInCall.ns, hk₁, Nat.le_refl _⟩ NC Y) (fun fl s' hl => hl) fun _ _ y => y.elim
end Mine
end

section
open PySem PySem.W PyProof.Rows PySem.Calls PyProof.Rows.LCg
set_option maxRecDepth 100000
set_option maxHeartbeats 8000000
namespace Mine
local macro_rules | `(tactic| walk_at "mine enterC") => `(tactic| (
  (case k6 => k_is)
  (case k7 => k_is)
  (case k9 => exact rfl)
  (case kB => exact rfl)
  (case kD => decide +kernel)
  (case c2 => exact rfl)
  (case c3 => exact rfl)
  (case c4 => exact rfl)))
def IP (c : Int × Int) (vals : Array Value) : Prop := ∃ t u, vals = #[.int c.1 t, .int c.2 u]
def chBit (bit : Int) (c : Int × Int) : Int × Int := (if (c.1.fdiv bit).fmod 2 = 0 then c.1 + bit else c.1, 1 - c.2)
def chAll (base : Int) (ps : List Int) : List (Int × Int) := ps.foldl (fun cs b => cs ++ cs.map (chBit b)) [(base, 0)]
theorem fresh_turn {h h6 : Heap} {C : Addr} {m : Str → Option Value} (hk : ∀ b o, b ≠ C → h.get? b = some o → h6.get? b = some o) (hn : h6.Ns C m) : h.get? h6.objs.size = none := by
  cases e : h.get? h6.objs.size with
  | none => rfl
  | some o =>
    have hC : C < h6.objs.size := hn.lt
    exact absurd (Heap.lt_size (hk _ _ (Nat.ne_of_gt hC) e)) (Nat.lt_irrefl _)
theorem chAll_snoc {base : Int} {ps : List Int} {i : Nat} {b : Int} (h : ps[i]? = some b) : chAll base (ps.take (i + 1)) = chAll base (ps.take i) ++ (chAll base (ps.take i)).map (chBit b) := by
  unfold chAll
  rw [List.take_add_one, h, List.foldl_append]
  rfl
theorem chAll_length {base : Int} : ∀ {ps : List Int}, (chAll base ps).length = 2 ^ ps.length := by
  intro ps
  have key : ∀ (ps : List Int) (cs : List (Int × Int)), (ps.foldl (fun cs b => cs ++ cs.map (chBit b)) cs).length = cs.length * 2 ^ ps.length := by
    intro ps
    induction ps with
    | nil => intro cs; simp
    | cons p r ih => intro cs; rw [List.foldl_cons, ih, List.length_append, List.length_map, List.length_cons, Nat.pow_succ, ← Nat.mul_two, Nat.mul_assoc, Nat.mul_comm 2]
  unfold chAll
  rw [key]; simp
theorem chAll_fit {base : Int} {ps : List Int} {i : Nat} (h : ps.length ≤ 3) : (chAll base (ps.take i)).length ≤ 8 := by
  rw [chAll_length]
  have : (ps.take i).length ≤ 3 := Nat.le_trans (by rw [List.length_take]; omega) h
  exact Nat.pow_le_pow_right (by decide) this
local macro_rules | `(tactic| walk_at "eval Name") => `(tactic| (refine nameL (by assumption) (by exact rfl) ?_ rfl rfl (by decide)))
local macro_rules | `(tactic| walk_at "eval Name") => `(tactic| (refine nameC (by exact rfl) (by assumption) (by assumption) ?_ rfl rfl (by decide)))
theorem turn_tup {s₂ : Shared} {C : Addr} {h h6 : Heap} {J : List Value → List (Addr × Obj) → Prop} {ys : List Value} {Z : List (Addr × Obj)} {tk : Nat} {vals : Array Value} {m : Str → Option Value} (hn : h6.Ns C m)
    (hk : ∀ b o, b ≠ C → h.get? b = some o → h6.get? b = some o) (hj : J (ys ++ [.ref h6.objs.size]) ((h6.objs.size, TupO vals 0) :: Z)) :
    TurnEnd s₂ C h J ys Z (some (.ref h6.objs.size)) { s₂ with heap := h6.push (TupO vals 0), toks := tk } := by
  refine ⟨_, _, m, [(h6.objs.size, TupO vals 0)], rfl, hn.keeps fun b o e => Heap.get?_push_of_some _ e, fun b o hb e => Heap.get?_push_of_some _ (hk b o hb e), ?_, hj⟩
  intro p hp
  rw [List.mem_singleton.mp hp]
  exact ⟨Heap.get?_push_size _ rfl, fresh_turn hk hn⟩
theorem PsOf.turn {α β : Type} {R : β → Array Value → Prop} {Z : List (Addr × Obj)} {ys : List Value} {cs : List α} {f : α → β} {j : Nat} {c : α} {T : Addr} {vals : Array Value} (h : PsOf R Z ys ((cs.take j).map f)) (hc : cs[j]? = some c) (hr : R (f c) vals) :
    PsOf R ((T, TupO vals 0) :: Z) (ys ++ [.ref T]) ((cs.take (j + 1)).map f) := by
  rw [List.take_add_one, hc, List.map_append]
  exact (h.mono fun p hp => .tail _ hp).append (.one (.head _) hr)
theorem IP.mk {c : Int × Int} {a b : Int} {t u : Tok} (h : c = (a, b)) : IP c #[.int a t, .int b u] := by subst h; exact ⟨t, u, rfl⟩
theorem noPyl (a : Int) {b : Int} (h1 : 0 < b) (h2 : b ≤ 2048) : Builtin.divisionGoesByPylong a b = false ∨ False := by
  refine Or.inl ?_
  exact PyProof.noPylong_small (by omega)
local macro_rules | `(tactic| walk_at "binaryOp FloorDiv int int") => `(tactic| (refine floordiv_int (by assumption) ?_ (by rename Builtin.divisionGoesByPylong _ _ = false ∨ False => hq; exact Or.inl (hq.resolve_right id))))
theorem choices_ok {w : World} {mean : ExcName → Option Value} {mg mb : Str → Option Value} {A : Around} {s : Shared} {E Q : Value → Shared → Prop} {base : Int} {t : Tok} {pl : Addr} {pvs : List Value} {ps : List Int}
    (G : Gd w mean mg mb s.heap) (hroom : A.depth < recursionLimit) (hh : A.handled = none) (hl : s.heap.IsList pl pvs.toArray) (hps : IntsAre pvs ps) (hpos : ∀ p ∈ ps, 0 < p ∧ p ≤ 2048) (hlen : ps.length ≤ 3)
    (hQ : ∀ a n ys Z h' tk', Up s.heap h' → (∀ p ∈ Z, h'.get? p.1 = some p.2 ∧ s.heap.get? p.1 = none) → (a, W.listOf ys.toArray n) ∈ Z → PsOf IP Z ys (chAll base ps) → Q (.ref a) { s with heap := h', toks := tk' }) :
    wpAny (model PySem.Challenge.rw_of0018_01.row.prog w) A (call (.ref 123) [.int base t, .ref pl]) Q E s := by
  have KX := G.K
  have T := G.T
  revert KX; k_fill; intro KX
  refine' enterC (binds := [(Str.ofString "base", .int base t), (Str.ofString "picks", .ref pl)]) G ?k6 ?k7 hroom ?k9 ?kB ?kD ?_ ?c2 ?c3 ?c4
  walk_at "mine enterC"
  intro h₁ tk cells F N Y
  have hY := CellsAre.one Y
  obtain ⟨oc0, rfl, hoc⟩ := hY
  refine wpAny_execs_cons ?_
  k_steps
  rename_i tk2 D1 hD1 lD1 ca hca lca h2 F2 N2
  refine wpAny_For ?_
  walk1
  have hl2 : h2.IsList pl pvs.toArray := hl.at fun o e => F2.keep _ _ e
  refine wpAny_pyIter_list hl2 ?_
  have hL2 : s.heap.objs.size < h2.objs.size := F2.ns.lt
  have hpl : pl < s.heap.objs.size := by obtain ⟨_, e, _⟩ := hl; exact Heap.lt_size e
  have F3 := F2.push { cls := .type "list_iterator", data := .fields #[.ref pl, .int 0 0] }
  have N3 : News s.heap s.heap.objs.size (h2.push { cls := .type "list_iterator", data := .fields #[.ref pl, .int 0 0] }) [(s.heap.objs.size + 1, oc0), (ca, W.listOf #[Value.ref D1] 0), (D1, TupO #[.int base t, .int 0 tk2] 0)] := fun p hp => (N2.grown fun b o e => Heap.get?_push_of_some _ e) p (by
    simp only [List.mem_cons, List.not_mem_nil, or_false] at hp ⊢
    rcases hp with rfl | rfl | rfl
    · exact .inr (.inr rfl)
    · exact .inl rfl
    · exact .inr (.inl rfl))
  refine for_itr (h₀ := s.heap) (itr_list (by exact hh) h2.objs.size pl (Nat.ne_of_lt (Nat.lt_trans hpl hL2)) pvs.toArray) ?_ ?_ (by exact ⟨⟨_, Heap.get?_push_size _ rfl, rfl, rfl⟩, hl2.push _⟩) F3 N3
    (fun i m nx => m (Str.ofString "choices") = m (Str.ofString "choices") ∧ ∃ (oc : Obj) (ca : Addr) (n : Nat) (ys : List Value) (Z : List (Addr × Obj)), m (Str.ofString "choices") = some (.ref ca) ∧ (∃ cv, oc.data = .cell cv) ∧ nx = (s.heap.objs.size + 1, oc) :: Z ∧ (∀ p ∈ Z, p.1 ≠ s.heap.objs.size + 1 ∧ p.1 ≠ h2.objs.size) ∧ (ca, W.listOf ys.toArray n) ∈ Z ∧ PsOf IP Z ys (chAll base (ps.take i))) ?_ ?_ ?_ ?_
  · intro hm
    rcases im2 hm with e | e
    · exact absurd e (Nat.ne_of_lt hL2)
    · exact absurd e.symm (Nat.ne_of_lt hpl)
  · intro b hb
    rw [List.mem_singleton.mp hb]
    exact fresh_above (Nat.le_of_lt hL2)
  · rintro i m nx ⟨_, oc, ca, n, ys, Z, _, _, rfl, hZ, _, _⟩ p hp hq
    rcases List.mem_cons.mp hp with rfl | hp
    · have := Heap.lt_size (N2 (s.heap.objs.size + 1, oc0) (by simp)).1
      exact absurd this (by rw [show s.heap.objs.size + 1 = h2.objs.size from List.mem_singleton.mp hq]; exact Nat.lt_irrefl _)
    · exact (hZ p hp).2 (List.mem_singleton.mp hq)
  · refine ⟨rfl, oc0, ca, 0, [.ref D1], [(ca, W.listOf #[Value.ref D1] 0), (D1, TupO #[.int base t, .int 0 tk2] 0)], rfl, ⟨_, hoc⟩, rfl, ?_, .head _, .one (.tail _ (.head _)) ⟨_, _, rfl⟩⟩
    intro p hp
    have h1 := Heap.lt_size (N2 (ca, W.listOf #[Value.ref D1] 0) (by simp)).1
    have h2' := Heap.lt_size (N2 (D1, TupO #[.int base t, .int 0 tk2] 0) (by simp)).1
    simp only [List.mem_cons, List.not_mem_nil, or_false] at hp
    rcases hp with rfl | rfl
    · exact ⟨Nat.ne_of_gt lca.2, Nat.ne_of_lt h1⟩
    · exact ⟨Nat.ne_of_gt lD1, Nat.ne_of_lt h2'⟩
  · intro i v m₁ nx₁ h tk₁ own hi hv hJ hown hwr F N
    obtain ⟨_, oc, ca, n, ys, Z, hca, ⟨cv, hcv⟩, rfl, hZ, hm, hps'⟩ := hJ
    have hi' : i < ps.length := by rw [← hps.length]; simpa using hi
    obtain ⟨tp, hx⟩ := hps.get i (ps[i]'hi') (List.getElem?_eq_getElem hi')
    have ev : v = .int (ps[i]'hi') tp := by
      have : pvs[i]? = some v := by simpa using hv
      rw [hx] at this; exact (Option.some.inj this).symm
    subst ev
    refine wpAny_assign_Name (wpAny_storeName_cell rfl rfl (c := s.heap.objs.size + 1) rfl ⟨oc, (N _ (.head _)).1, hcv⟩ fun h4 hc4 hs4 => ?_)
    obtain ⟨oc4, hoc4, hcv4⟩ := hc4
    have F4 : Fr s.heap s.heap.objs.size h4 m₁ := F.change hs4 (N _ (.head _)).2.1 (N _ (.head _)).2.2
    have hZ4 : ∀ p ∈ Z, h4.get? p.1 = some p.2 := fun p hp => hs4.extBut _ _ (hZ p hp).1 (N p (.tail _ (List.mem_append_left _ hp))).1
    have hown4 : ∀ p ∈ own, h4.get? p.1 = some p.2 ∧ p.1 ≠ s.heap.objs.size + 1 := by
      intro p hp
      have hne : p.1 ≠ s.heap.objs.size + 1 := by
        rcases im2 (hown p hp) with e | e
        · rw [e]; exact Nat.ne_of_gt (Heap.lt_size (N2 (s.heap.objs.size + 1, oc0) (by simp)).1)
        · rw [e]; exact Nat.ne_of_lt (Nat.lt_succ_of_lt hpl)
      exact ⟨hs4.extBut _ _ hne (N p (.tail _ (List.mem_append_right _ hp))).1, hne⟩
    have hL4 : s.heap.objs.size < h4.objs.size := F4.ns.lt
    refine wpAny_execs_cons (wpAny_Assign_Name (wpAny_BinOp ?_))
    refine nameL F4.ns hca ?_ rfl rfl (by decide)
    refine comp_eval rfl (by decide) rfl (by decide) ?_
    refine nameL F4.ns hca ?_ rfl rfl (by decide)
    have hlc : h4.IsList ca ys.toArray := ⟨_, hZ4 _ hm, rfl, n, rfl⟩
    refine wpAny_pyIter_list hlc ?_
    dsimp only
    obtain ⟨fp, St, W, hst, hfp1, hfp2⟩ := itr_ps (prog := PySem.Challenge.rw_of0018_01.row.prog) (w := w) (A := A.deeper _) (elts := _) (k := _) (pos := _) hh hps' (h := h4.push { cls := .type "list_iterator", data := .fields #[.ref ca, .int 0 0] }) (I := h4.objs.size) (ax := ca) (fun p hp => Heap.get?_push_of_some _ (hZ4 p hp)) (hlc.push _) ⟨_, Heap.get?_push_size _ rfl, rfl, rfl⟩ (fun p hp => Nat.ne_of_lt (Heap.lt_size (hZ4 p hp)))
    have hsz5 : (h4.push { cls := .type "list_iterator", data := .fields #[.ref ca, .int 0 0] }).objs.size = h4.objs.size + 1 := Heap.size_push ..
    refine ⟨fun D ys' Z' => PsOf IP Z' ys' ((chAll base (ps.take i)).map (chBit (ps[i]'hi'))) ∧ (∀ p ∈ Z, p ∈ Z') ∧ ∀ p ∈ Z', p ∈ Z ∨ h4.objs.size + 1 ≤ p.1, [h4.objs.size], ⟨h4.objs.size, fp, _, _, St, Z, (fun j ys' Z' => PsOf IP Z' ys' (((chAll base (ps.take i)).take j).map (chBit (ps[i]'hi'))) ∧ (∀ p ∈ Z, p ∈ Z') ∧ ∀ p ∈ Z', p ∈ Z ∨ h4.objs.size + 1 ≤ p.1), rfl, W, ?_, hst, ?_, ?_, ?_, ?_, ?_⟩, ?_⟩
    · exact Nat.le_trans (chAll_fit hlen) (by decide)
    · intro b hb
      obtain ⟨o, e⟩ := hfp1 b hb
      exact Heap.lt_size e
    · exact ⟨.nil, fun p hp => hp, fun p hp => .inl hp⟩
    · intro p hp
      exact ⟨Heap.get?_push_of_some _ (hZ4 p hp), fun q => absurd (Heap.lt_size (hZ4 p hp)) (by rw [List.mem_singleton.mp q]; exact Nat.lt_irrefl _)⟩
    · intro C j v ys' Z' m' h5 tk5 hC hj hP hJ5 hn5 hk5 hz5 hzC
      obtain ⟨T', vals, c, hc, rfl, ⟨t1, u1, rfl⟩, hT', _⟩ := hP
      obtain ⟨hps5, hsub5, hnew5⟩ := hJ5
      have hcell5 : h5.get? (s.heap.objs.size + 1) = some oc4 := hk5 _ _ (fun q => by
        have := Heap.lt_size hoc4
        rw [show s.heap.objs.size + 1 = h4.objs.size from List.mem_singleton.mp q] at this
        exact Nat.lt_irrefl _ this) (Heap.get?_push_of_some _ hoc4)
      have hCne : s.heap.objs.size + 1 ≠ C := by
        have := Heap.lt_size hoc4
        intro q
        rw [q] at this
        have hC' : h4.objs.size + 1 ≤ C := by rw [← hsz5]; exact hC
        exact absurd (Nat.lt_of_lt_of_le this (Nat.le_of_succ_le hC')) (Nat.lt_irrefl _)
      obtain ⟨hbit, hbit2⟩ := hpos _ (List.getElem_mem hi')
      have hb0 : ps[i]'hi' ≠ 0 := by omega
      have hnp := noPyl c.1 hbit hbit2
      refine assign_pairC hh hT' hn5 rfl rfl rfl fun h6 tk6 hn6 hk6 => ?_
      have hcell6 : h6.get? (s.heap.objs.size + 1) = some oc4 := hk6 _ _ hCne hcell5
      refine wpAny_tests_nil ?_
      rw [if_pos rfl]
      refine wpAny_Tuple_spliced ?_
      clear F N F2 N2 F3 N3 F4
      dsimp only at hn6 ⊢
      k_steps
      all_goals (refine turn_tup hn6 hk6 ⟨hps5.turn hc (IP.mk ?_), fun p hp => .tail _ (hsub5 p hp), ?_⟩)
      · rename (c.1.fdiv _).fmod 2 = 0 => he
        unfold chBit; rw [if_pos he]
      · intro p hp
        rcases List.mem_cons.mp hp with rfl | hp
        · exact .inr (Nat.le_trans (by rw [← hsz5]; exact hC) (Nat.le_of_lt hn6.lt))
        · exact hnew5 p hp
      · rename ¬ (c.1.fdiv _).fmod 2 = 0 => he
        unfold chBit; rw [if_neg he]
      · intro p hp
        rcases List.mem_cons.mp hp with rfl | hp
        · exact .inr (Nat.le_trans (by rw [← hsz5]; exact hC) (Nat.le_of_lt hn6.lt))
        · exact hnew5 p hp
    · rintro D ys' Z' ⟨h1, h2, h3⟩
      rw [List.take_length] at h1
      exact ⟨h1, h2, h3⟩
    · rintro D ys' Z' h5 tk5 ⟨hps5, hsub5, hnew5⟩ hD hlD hk5 hz5 hzD
      have up5 : Up h4 h5 := fun b o e => hk5 b o (fun q => absurd (Heap.lt_size e) (by rw [List.mem_singleton.mp q]; exact Nat.lt_irrefl _)) (Heap.get?_push_of_some _ e)
      have F5 := F4.keeps up5
      have hLC : h4.get? D = none := by
        cases e : h4.get? D with
        | none => rfl
        | some o => rw [Heap.get?_push_of_some _ e] at hD; cases hD
      have sub4 : ∀ b o, s.heap.get? b = some o → h4.get? b = some o := F4.keep
      have hD0 : s.heap.get? D = none := by
        cases e : s.heap.get? D with
        | none => rfl
        | some o => rw [sub4 _ _ e] at hLC; cases hLC
      have hneD : ∀ b o, h4.get? b = some o → D ≠ b := fun b o e q => by rw [q, e] at hLC; cases hLC
      have hit4 : h2.objs.size < h4.objs.size := by
        obtain ⟨o, ho⟩ := hwr h2.objs.size (.head _)
        exact Heap.lt_size (hown4 _ ho).1
      have hc4 : s.heap.objs.size + 1 < h4.objs.size := Heap.lt_size hoc4
      obtain ⟨oL, eL⟩ : ∃ o, h4.get? s.heap.objs.size = some o := by obtain ⟨o, _, _, e, _⟩ := F4.ns; exact ⟨o, e⟩
      obtain ⟨oI, eI⟩ : ∃ o, h4.get? h2.objs.size = some o := by
        obtain ⟨o, ho⟩ := hwr h2.objs.size (.head _)
        exact ⟨o, (hown4 _ ho).1⟩
      have N5 : News s.heap s.heap.objs.size h5 ((s.heap.objs.size + 1, oc4) :: (((D, lst ys') :: Z') ++ own)) := by
        intro p hp
        rcases List.mem_cons.mp hp with rfl | hp
        · exact ⟨up5 _ _ hoc4, Nat.succ_ne_self _, fresh_above (Nat.le_succ _)⟩
        · rcases List.mem_append.mp hp with hp | hp
          · rcases List.mem_cons.mp hp with rfl | hp
            · exact ⟨hlD, hneD _ _ eL, hD0⟩
            · refine ⟨hz5 p hp, ?_⟩
              rcases hnew5 p hp with hq | hq
              · exact (N p (.tail _ (List.mem_append_left _ hq))).2
              · exact ⟨Nat.ne_of_gt (Nat.lt_of_lt_of_le (Nat.lt_succ_of_lt hL4) hq), fresh_above (Nat.le_trans (Nat.le_of_lt (Nat.lt_succ_of_lt hL4)) hq)⟩
          · exact ⟨up5 _ _ (hown4 p hp).1, (N p (.tail _ (List.mem_append_right _ hp))).2⟩
      refine add_lists F5 N5 (vs := ys) (ws := ys') ⟨_, hz5 _ (hsub5 _ hm), rfl, _, rfl⟩ ⟨_, hlD, rfl, _, rfl⟩ (fun h6 F6 N6 => ?_) ?_
      · refine wpAny_storeName_local rfl F6.ns (fun h7 hn7 hs7 => ?_) rfl
        have F7 := F6.set hn7 hs7
        have N7 := N6.set hs7
        refine wpAny_execs_nil (ForTurn.go (nx₂ := (s.heap.objs.size + 1, oc4) :: ((h5.objs.size, PySem.W.listOf (ys ++ ys').toArray 0) :: (D, lst ys') :: Z')) F7 (fun p hp => N7 p ?_) ⟨rfl, oc4, h5.objs.size, 0, ys ++ ys', _, by exact if_pos rfl, ⟨_, hcv4⟩, rfl, ?_, .head _, ?_⟩)
        · rcases List.mem_append.mp hp with hp | hp
          · rcases List.mem_cons.mp hp with rfl | hp
            · exact .tail _ (.head _)
            · rcases List.mem_cons.mp hp with rfl | hp
              · exact .head _
              · exact .tail _ (.tail _ (List.mem_append_left _ hp))
          · exact .tail _ (.tail _ (List.mem_append_right _ hp))
        · intro p hp
          rcases List.mem_cons.mp hp with rfl | hp
          · exact ⟨Nat.ne_of_gt (Heap.lt_size (up5 _ _ hoc4)), Nat.ne_of_gt (Heap.lt_size (up5 _ _ eI))⟩
          · rcases List.mem_cons.mp hp with rfl | hp
            · exact ⟨hneD _ _ hoc4, hneD _ _ eI⟩
            · rcases hnew5 p hp with hq | hq
              · exact hZ p hq
              · exact ⟨Nat.ne_of_gt (Nat.lt_of_lt_of_le (Nat.lt_succ_of_lt hc4) hq), Nat.ne_of_gt (Nat.lt_of_lt_of_le (Nat.lt_succ_of_lt hit4) hq)⟩
        · rw [chAll_snoc (List.getElem?_eq_getElem hi')]
          exact (hps'.mono fun p hp => .tail _ (.tail _ (hsub5 p hp))).append (hps5.mono fun p hp => .tail _ (.tail _ hp))
      · rw [hps'.length, hps5.length, List.length_map]
        have := chAll_fit (base := base) (i := i) hlen
        exact Nat.le_trans (Nat.add_le_add this this) (by decide)
  · intro h8 tk8 m' nx' F8 N8 hJ
    obtain ⟨_, oc, ca, n, ys, Z, hca, _, rfl, hZ, hm, hps'⟩ := hJ
    refine wpAny_execs_nil ?_
    refine wpAny_execs_cons (wpAny_Return_some (nameL F8.ns hca ?_ rfl rfl (by decide)))
    refine hQ ca n ys Z h8 tk8 F8.keep (fun p hp => ⟨(N8 p (.tail _ hp)).1, (N8 p (.tail _ hp)).2.2⟩) hm ?_
    have e : ps.take pvs.toArray.size = ps := List.take_of_length_le (by rw [List.size_toArray, hps.length]; exact Nat.le_refl _)
    rw [e] at hps'
    exact hps'
end Mine
end

section
open PySem PySem.W PyProof.Rows PySem.Calls PyProof.Rows.LCg
set_option maxRecDepth 100000
set_option maxHeartbeats 8000000
namespace Mine
local macro_rules | `(tactic| walk_at "mine enter") => `(tactic| (
  (case k6 => k_is)
  (case k7 => k_is)
  (case k9 => exact rfl)
  (case c5 => decide)
  (case kB => exact locs rfl)
  (case c2 => exact rfl)
  (case c3 => exact rfl)
  (case c4 => exact rfl)))
def SIP (c : Str × Int) (vals : Array Value) : Prop := ∃ t u, vals = #[.str c.1 t, .int c.2 u]
def rpl (base : Int) (ps : List Int) (special run : Int) (great small : Str) : List (Str × Int) :=
  let hs := decide ((base.fdiv special).fmod 2 = 1)
  let hr := decide ((base.fdiv run).fmod 2 = 1)
  if ps.any (fun x => x == run) then (if hr || hs then [] else [(one 45, 1), (one 120, -1)])
  else if ps.any (fun x => x == special) then (if hs then [] else if hr then [(one 120, 1), (small, -1)] else [(one 45, 1), (great, -1)])
  else if hs then [(if hr then small else great, 1)]
  else [(if hr then one 120 else one 45, 1)]
local macro_rules | `(tactic| walk_at "binaryOp FloorDiv int int") => `(tactic| (refine floordiv_int (by assumption) ?_ (Or.inl (by assumption))))
theorem q120 : Str.ofString "x" = one 120 := by decide +kernel
theorem SIP.mk {c : Str × Int} {a : Str} {b : Int} {t u : Tok} (h : c = (a, b)) : SIP c #[.str a t, .int b u] := by subst h; exact ⟨t, u, rfl⟩
theorem run_place_ok {w : World} {mean : ExcName → Option Value} {mg mb : Str → Option Value} {A : Around} {s : Shared} {E Q : Value → Shared → Prop} {base special run : Int} {great small : Str} {t t1 t2 t3 t4 : Tok} {pl : Addr} {pvs : List Value} {ps : List Int}
    (G : Gd w mean mg mb s.heap) (hroom : A.depth < recursionLimit) (hh : A.handled = none) (hl : s.heap.IsList pl pvs.toArray) (hps : IntsAre pvs ps) (hlen : ps.length ≤ 3)
    (hs0 : special ≠ 0) (hr0 : run ≠ 0) (hs1 : Builtin.divisionGoesByPylong base special = false) (hr1 : Builtin.divisionGoesByPylong base run = false)
    (hQ : ∀ a n ys Z h' tk', Up s.heap h' → (∀ p ∈ Z, h'.get? p.1 = some p.2 ∧ s.heap.get? p.1 = none) → (a, W.listOf ys.toArray n) ∈ Z → PsOf SIP Z ys (rpl base ps special run great small) → Q (.ref a) { s with heap := h', toks := tk' }) :
    wpAny (model PySem.Challenge.rw_of0018_01.row.prog w) A (call (.ref 130) [.int base t, .ref pl, .int special t1, .int run t2, .str great t3, .str small t4]) Q E s := by
  have KX := G.K
  have T := G.T
  revert KX; k_fill; intro KX
  refine' enter (binds := [(Str.ofString "base", .int base t), (Str.ofString "picks", .ref pl), (Str.ofString "special", .int special t1), (Str.ofString "run", .int run t2), (Str.ofString "great", .str great t3), (Str.ofString "small", .str small t4)]) G ?k6 ?k7 hroom ?k9 ?kB ?_ ?c2 ?c3 ?c4 ?c5
  walk_at "mine enter"
  intro h₁ tk F
  have N := News.nil (h₀ := s.heap) (h := h₁) (L := s.heap.objs.size)
  k_steps
  all_goals (
    rename Fr _ _ _ _ => F9
    rename News _ _ _ _ => N9
    refine hQ _ 0 _ _ _ _ F9.keep (fun p hp => ⟨(N9 p hp).1, (N9 p hp).2.2⟩) (.head _) ?_
    unfold rpl
    (try simp only [‹(ps.any fun x => x == run) = true›])
    (try simp only [‹(ps.any fun x => x == run) = false›])
    (try simp only [‹(ps.any fun x => x == special) = true›])
    (try simp only [‹(ps.any fun x => x == special) = false›])
    (try simp only [‹(base.fdiv run).fmod 2 = 1›])
    (try simp only [‹(base.fdiv run).fmod 2 ≠ 1›])
    (try simp only [‹(base.fdiv special).fmod 2 = 1›])
    (try simp only [‹(base.fdiv special).fmod 2 ≠ 1›])
    (try simp only [decide_true, decide_false, Bool.or_true, Bool.true_or, Bool.or_false, Bool.false_or, if_true, if_false, Bool.false_eq_true])
    repeat' (first | exact PsOf.nil | (refine PsOf.cons (n := 0) (by k_mem) (SIP.mk ?_) ?_))
    all_goals first | rfl | (rw [q45]) | (rw [q120]))
end Mine
end

section
open PySem PySem.W PyProof.Rows PySem.Calls PyProof.Rows.LCg
set_option maxRecDepth 100000
set_option maxHeartbeats 4000000
namespace Mine
/-- what holds behind a statement, said of the frame and the ledger -/
def StA (h₀ : Heap) (L : Addr) (s : Shared) (P : (Str → Option Value) → List (Addr × Obj) → Prop) (f : Flow) (s' : Shared) : Prop :=
  f = .next ∧ ∃ h' tk' m nx, s' = { s with heap := h', toks := tk' } ∧ Fr h₀ L h' m ∧ News h₀ L h' nx ∧ P m nx
theorem StA.mk {h₀ : Heap} {L : Addr} {s : Shared} {P : (Str → Option Value) → List (Addr × Obj) → Prop} {h' : Heap} {tk' : Nat} {m : Str → Option Value} {nx : List (Addr × Obj)} (F : Fr h₀ L h' m) (N : News h₀ L h' nx) (p : P m nx) :
    StA h₀ L s P .next { s with heap := h', toks := tk' } := ⟨rfl, h', tk', m, nx, rfl, F, N, p⟩
theorem stmt_cut {M : Model} {A : Around} {E : Value → Shared → Prop} {s : Shared} {env : Env} {h₀ : Heap} {L : Addr} {st : Stmt} {rest : List Stmt} {Q : Flow → Shared → Prop} (P : (Str → Option Value) → List (Addr × Obj) → Prop)
    (h1 : wpAny M A (exec st env) (StA h₀ L s P) E s) (h2 : ∀ h' tk' m nx, Fr h₀ L h' m → News h₀ L h' nx → P m nx → wpAny M A (execs rest env) Q E { s with heap := h', toks := tk' }) :
    wpAny M A (execs (st :: rest) env) Q E s := by
  refine wpAny_execs_cons (wpAny_mono h1 (fun f s' h => ?_) fun _ _ e => e)
  obtain ⟨rfl, h', tk', m, nx, rfl, F, N, p⟩ := h
  exact h2 h' tk' m nx F N p
/-- the same for an expression -/
def ExA (h₀ : Heap) (L : Addr) (s : Shared) (m : Str → Option Value) (P : Value → List (Addr × Obj) → Prop) (v : Value) (s' : Shared) : Prop :=
  ∃ h' tk' nx, s' = { s with heap := h', toks := tk' } ∧ Fr h₀ L h' m ∧ News h₀ L h' nx ∧ P v nx
theorem ExA.mk {h₀ : Heap} {L : Addr} {s : Shared} {m : Str → Option Value} {P : Value → List (Addr × Obj) → Prop} {h' : Heap} {tk' : Nat} {v : Value} {nx : List (Addr × Obj)} (F : Fr h₀ L h' m) (N : News h₀ L h' nx) (p : P v nx) :
    ExA h₀ L s m P v { s with heap := h', toks := tk' } := ⟨h', tk', nx, rfl, F, N, p⟩
theorem expr_cut {M : Model} {A : Around} {E : Value → Shared → Prop} {s : Shared} {env : Env} {h₀ : Heap} {L : Addr} {e : Expr} {m : Str → Option Value} {Q : Value → Shared → Prop} (_F : Fr h₀ L s.heap m) (P : Value → List (Addr × Obj) → Prop)
    (h1 : wpAny M A (eval e env) (ExA h₀ L s m P) E s) (h2 : ∀ v h' tk' nx, Fr h₀ L h' m → News h₀ L h' nx → P v nx → Q v { s with heap := h', toks := tk' }) :
    wpAny M A (eval e env) Q E s := by
  refine wpAny_mono h1 (fun v s' h => ?_) fun _ _ e => e
  obtain ⟨h', tk', nx, rfl, F, N, p⟩ := h
  exact h2 v h' tk' nx F N p
/-- lists of tuples in a list -/
inductive LsOf {α : Type} (R : α → Array Value → Prop) (Z : List (Addr × Obj)) : List Value → List (List α) → Prop
  | nil : LsOf R Z [] []
  | cons {a : Addr} {n : Nat} {ys : List Value} {c : List α} {vs : List Value} {cs : List (List α)} : (a, W.listOf ys.toArray n) ∈ Z → PsOf R Z ys c → LsOf R Z vs cs → LsOf R Z (.ref a :: vs) (c :: cs)
section
variable {α : Type} {R : α → Array Value → Prop} {Z Z' : List (Addr × Obj)} {vs ws : List Value} {cs ds : List (List α)}
theorem LsOf.mono (h : LsOf R Z vs cs) (hs : ∀ p ∈ Z, p ∈ Z') : LsOf R Z' vs cs := by
  induction h with
  | nil => exact .nil
  | cons hm hr _ ih => exact .cons (hs _ hm) (hr.mono hs) ih
theorem LsOf.length (h : LsOf R Z vs cs) : vs.length = cs.length := by
  induction h with
  | nil => rfl
  | cons _ _ _ ih => simp [ih]
theorem LsOf.append (h : LsOf R Z vs cs) (k : LsOf R Z ws ds) : LsOf R Z (vs ++ ws) (cs ++ ds) := by
  induction h with
  | nil => exact k
  | cons hm hr _ ih => exact .cons hm hr ih
theorem LsOf.one {a : Addr} {n : Nat} {ys : List Value} {c : List α} (hm : (a, W.listOf ys.toArray n) ∈ Z) (hr : PsOf R Z ys c) : LsOf R Z [.ref a] [c] := .cons hm hr .nil
theorem LsOf.get (h : LsOf R Z vs cs) : ∀ {j : Nat} {c : List α}, cs[j]? = some c → ∃ a n ys, vs[j]? = some (.ref a) ∧ (a, W.listOf ys.toArray n) ∈ Z ∧ PsOf R Z ys c := by
  induction h with
  | nil => intro j c e; simp at e
  | @cons a n ys c' vs' cs' hm hr _ ih =>
    intro j c e
    cases j with
    | zero => obtain rfl : c' = c := by simpa using e
              exact ⟨_, _, _, rfl, hm, hr⟩
    | succ j => exact ih (by simpa using e)
end

section
variable {prog : Program} {w : World} {A : Around} {E : Value → Shared → Prop} {s : Shared} {env : Env} {m : Str → Option Value} {Q : Unit → Shared → Prop}
theorem assign_quadF {h₀ : Heap} {nx : List (Addr × Obj)} {x y z u : Str} {px py pz pu pos : Pos} {k : Nat} {T : Addr} {v0 v1 v2 v3 : Value} (hh : A.handled = none) (ht : s.heap.IsTuple T #[v0, v1, v2, v3]) (F : Fr h₀ env.locals s.heap m) (N : News h₀ env.locals s.heap nx)
    (hx : env.kindOf x = some .local) (hy : env.kindOf y = some .local) (hz : env.kindOf z = some .local) (hu : env.kindOf u = some .local) (hp : (env.scope.kind == .class || (env.scope.kind == .module && env.locals != env.globals)) = false)
    (h : ∀ h' tk, Fr h₀ env.locals h' (fun q => if q = u then some v3 else if q = z then some v2 else if q = y then some v1 else if q = x then some v0 else m q) → News h₀ env.locals h' nx → Q () { s with heap := h', toks := tk }) :
    wpAny (model prog w) A (assign (.Tuple [.Name x px, .Name y py, .Name z pz, .Name u pu] k pos) env (.ref T)) Q E s := by
  refine wpAny_assign_Tuple hh ht rfl rfl fun h₃ hx₃ => ?_
  have up₃ : ∀ b o, s.heap.get? b = some o → h₃.get? b = some o := fun b o x => hx₃ b o (Nat.ne_of_lt (Heap.lt_size x)) x
  have F3 := F.keeps up₃
  have N3 := N.grown up₃
  show wpAny _ A (do holding [v1, v2, v3] (assign (.Name x px) env v0); do holding [v2, v3] (assign (.Name y py) env v1); do holding [v3] (assign (.Name z pz) env v2); do holding [] (assign (.Name u pu) env v3); pure ()) _ _ _
  refine wpAny_bind (wpAny_holding (wpAny_assign_Name (wpAny_storeName_local hx F3.ns (fun h₄ hn₄ hs₄ => ?_) hp)))
  refine wpAny_bind (wpAny_holding (wpAny_assign_Name (wpAny_storeName_local hy hn₄ (fun h₅ hn₅ hs₅ => ?_) hp)))
  refine wpAny_bind (wpAny_holding (wpAny_assign_Name (wpAny_storeName_local hz hn₅ (fun h₆ hn₆ hs₆ => ?_) hp)))
  refine wpAny_bind (wpAny_holding (wpAny_assign_Name (wpAny_storeName_local hu hn₆ (fun h₇ hn₇ hs₇ => wpAny_pure ?_) hp)))
  exact h _ _ ((((F3.set hn₄ hs₄).set hn₅ hs₅).set hn₆ hs₆).set hn₇ hs₇) ((((N3.set hs₄).set hs₅).set hs₆).set hs₇)
end
end Mine
end

section
open PySem PySem.W PyProof.Rows PySem.Calls PyProof.Rows.LCg
set_option maxRecDepth 100000
set_option maxHeartbeats 8000000
namespace Mine
local macro_rules | `(tactic| walk_at "mine enter") => `(tactic| (
  (case k6 => k_is)
  (case k7 => k_is)
  (case k9 => exact rfl)
  (case c5 => decide)
  (case kB => exact locs rfl)
  (case c2 => exact rfl)
  (case c3 => exact rfl)
  (case c4 => exact rfl)))
def rows4 : List (Int × Int × Str × Str) := [(64, 2048, one 83, one 115), (8, 1024, one 83, one 115), (1, 512, one 84, one 116)]
def R4 (c : Int × Int × Str × Str) (vals : Array Value) : Prop := ∃ t u v w, vals = #[.int c.1 t, .int c.2.1 u, .str c.2.2.1 v, .str c.2.2.2 w]
theorem R4.mk {c : Int × Int × Str × Str} {a b : Int} {x y : Str} {t u v w : Tok} (h : c = (a, b, x, y)) : R4 c #[.int a t, .int b u, .str x v, .str y w] := by subst h; exact ⟨t, u, v, w, rfl⟩
def ISP (c : Int × Str) (vals : Array Value) : Prop := ∃ t u, vals = #[.int c.1 t, .str c.2 u]
theorem ISP.mk {c : Int × Str} {a : Int} {b : Str} {t u : Tok} (h : c = (a, b)) : ISP c #[.int a t, .str b u] := by subst h; exact ⟨t, u, rfl⟩
def plR (base : Int) (ps : List Int) (c : Int × Str) : List (Str × Int) :=
  if ps.any (fun x => x == c.1) then (if (base.fdiv c.1).fmod 2 = 1 then [] else [(one 45, 1), (c.2, -1)]) else [(if (base.fdiv c.1).fmod 2 = 1 then c.2 else one 45, 1)]
def bits2 (st : Int) : List (Int × Str) := [(st * 4, one 114), (st * 2, one 119)]
def pl3 (base : Int) (ps : List Int) (r : Int × Int × Str × Str) : List (List (Str × Int)) := (bits2 r.1).map (plR base ps) ++ [rpl base ps r.2.1 r.1 r.2.2.1 r.2.2.2]
def pl0 (base : Int) : List (Str × Int) := [(Txt.item (Str.ofString "?pc?d?b?-?l?s???") (base.fdiv 4096), 1)]
def plsUp (base : Int) (ps : List Int) (rs : List (Int × Int × Str × Str)) : List (List (Str × Int)) := pl0 base :: rs.flatMap (pl3 base ps)
def plsOf (base : Int) (ps : List Int) : List (List (Str × Int)) := plsUp base ps rows4
theorem q83 : Str.ofString "S" = one 83 := by decide +kernel
theorem q115 : Str.ofString "s" = one 115 := by decide +kernel
theorem q84 : Str.ofString "T" = one 84 := by decide +kernel
theorem q116 : Str.ofString "t" = one 116 := by decide +kernel
theorem q114 : Str.ofString "r" = one 114 := by decide +kernel
theorem q119 : Str.ofString "w" = one 119 := by decide +kernel

theorem swap4 {h₀ h : Heap} {L : Addr} {a b c d e : Addr × Obj} {Z : List (Addr × Obj)} (N : News h₀ L h (a :: b :: c :: d :: e :: Z)) : News h₀ L h (e :: (a :: ([b, c, d] ++ Z))) := by
  intro p hp
  refine N p ?_
  simp only [List.mem_cons, List.mem_append, List.not_mem_nil, or_false] at hp ⊢
  rcases hp with h | h | (h | h | h) | h <;> simp [h]
theorem swap3 {h₀ h : Heap} {L : Addr} {a b c e : Addr × Obj} {Z : List (Addr × Obj)} (N : News h₀ L h (a :: b :: c :: e :: Z)) : News h₀ L h (e :: (a :: ([b, c] ++ Z))) := by
  intro p hp
  refine N p ?_
  simp only [List.mem_cons, List.mem_append, List.not_mem_nil, or_false] at hp ⊢
  rcases hp with h | h | (h | h) | h <;> simp [h]
theorem canon7 {m : Str → Option Value} {a b c d e f g : Str} {x1 x2 x3 x4 x5 x6 x7 : Value} (h1 : m a = some x1) (h2 : m b = some x2) (h3 : m c = some x3) (h4 : m d = some x4) (h5 : m e = some x5) (h6 : m f = some x6) (h7 : m g = some x7) :
    m = fun u => if u = a then some x1 else if u = b then some x2 else if u = c then some x3 else if u = d then some x4 else if u = e then some x5 else if u = f then some x6 else if u = g then some x7 else m u := by
  funext u
  by_cases q1 : u = a
  · rw [q1, h1, if_pos rfl]
  rw [if_neg q1]
  by_cases q2 : u = b
  · rw [q2, h2, if_pos rfl]
  rw [if_neg q2]
  by_cases q3 : u = c
  · rw [q3, h3, if_pos rfl]
  rw [if_neg q3]
  by_cases q4 : u = d
  · rw [q4, h4, if_pos rfl]
  rw [if_neg q4]
  by_cases q5 : u = e
  · rw [q5, h5, if_pos rfl]
  rw [if_neg q5]
  by_cases q6 : u = f
  · rw [q6, h6, if_pos rfl]
  rw [if_neg q6]
  by_cases q7 : u = g
  · rw [q7, h7, if_pos rfl]
  rw [if_neg q7]
theorem pl_end {h₀ h' : Heap} {L pa : Addr} {vs : List Value} {v : Value} {n : Nat} {Z own own2 : List (Addr × Obj)} (new : List (Addr × Obj)) (N : News h₀ L h' (new ++ (pa, W.listOf (vs.toArray.push v) (n + 1)) :: ((Z ++ own) ++ own2))) :
    News h₀ L h' (((pa, W.listOf (vs ++ [v]).toArray (n + 1)) :: ((new ++ Z) ++ own)) ++ own2) := by
  intro p hp
  refine N p ?_
  rw [show (vs ++ [v]).toArray = vs.toArray.push v by simp] at hp
  simp only [List.mem_append, List.mem_cons] at hp ⊢
  rcases hp with (h | (h | h) | h) | h <;> simp [h]
theorem plsUp_snoc {base : Int} {ps : List Int} {i : Nat} {c : Int × Int × Str × Str} (h : rows4[i]? = some c) : plsUp base ps (rows4.take (i + 1)) = plsUp base ps (rows4.take i) ++ pl3 base ps c := by
  unfold plsUp
  rw [List.take_add_one, h, List.flatMap_append]
  simp
theorem plsUp_length {base : Int} {ps : List Int} : ∀ (rs : List (Int × Int × Str × Str)), (plsUp base ps rs).length = 1 + 3 * rs.length := by
  intro rs
  unfold plsUp
  rw [List.length_cons]
  have : ∀ rs : List (Int × Int × Str × Str), (rs.flatMap (pl3 base ps)).length = 3 * rs.length := by
    intro rs
    induction rs with
    | nil => rfl
    | cons r rs ih => rw [List.flatMap_cons, List.length_append, ih, List.length_cons]; simp [pl3, bits2]; omega
  rw [this]; omega
theorem rows4_mem {i : Nat} {c : Int × Int × Str × Str} (h : rows4[i]? = some c) : (c.1 = 64 ∨ c.1 = 8 ∨ c.1 = 1) ∧ (c.2.1 = 2048 ∨ c.2.1 = 1024 ∨ c.2.1 = 512) := by
  have hm := List.mem_of_getElem? h
  unfold rows4 at hm
  simp only [List.mem_cons, List.not_mem_nil, or_false] at hm
  rcases hm with rfl | rfl | rfl <;> simp
theorem bits2_mem {st : Int} {j : Nat} {d : Int × Str} (h : (bits2 st)[j]? = some d) : d.1 = st * 4 ∨ d.1 = st * 2 := by
  have hm := List.mem_of_getElem? h
  unfold bits2 at hm
  simp only [List.mem_cons, List.not_mem_nil, or_false] at hm
  rcases hm with rfl | rfl <;> simp
theorem allLt_ne {a x : Addr} {o : Obj} {R : List (Addr × Obj)} (h : AllLt a R) (m : (x, o) ∈ R) : a ≠ x := Nat.ne_of_gt (ktn_ltOf h _ m)
local macro_rules | `(tactic| walk_at "binaryOp FloorDiv int int") => `(tactic| (refine floordiv_int (by assumption) ?_ (Or.inl (by assumption))))
theorem places_ok {w : World} {mean : ExcName → Option Value} {mg mb : Str → Option Value} {A : Around} {s : Shared} {E Q : Value → Shared → Prop} {base : Int} {t : Tok} {pl : Addr} {pvs : List Value} {ps : List Int}
    (G : Gd w mean mg mb s.heap) (hroom : A.depth + 1 < recursionLimit) (hh : A.handled = none) (hl : s.heap.IsList pl pvs.toArray) (hps : IntsAre pvs ps) (hlen : ps.length ≤ 3) (hb0 : 0 ≤ base) (hb1 : base < 65536)
    (hQ : ∀ a n ys Z h' tk', Up s.heap h' → (∀ p ∈ Z, h'.get? p.1 = some p.2 ∧ s.heap.get? p.1 = none) → (a, W.listOf ys.toArray n) ∈ Z → LsOf SIP Z ys (plsOf base ps) → Q (.ref a) { s with heap := h', toks := tk' }) :
    wpAny (model PySem.Challenge.rw_of0018_01.row.prog w) A (call (.ref 137) [.int base t, .ref pl]) Q E s := by
  have KX := G.K
  have T := G.T
  revert KX; k_fill; intro KX
  refine' enter (binds := [(Str.ofString "base", .int base t), (Str.ofString "picks", .ref pl)]) G ?k6 ?k7 (Nat.lt_of_succ_lt hroom) ?k9 ?kB ?_ ?c2 ?c3 ?c4 ?c5
  walk_at "mine enter"
  intro h₁ tk F
  have N := News.nil (h₀ := s.heap) (h := h₁) (L := s.heap.objs.size)
  refine stmt_cut (h₀ := s.heap) (L := s.heap.objs.size) (fun m nx => ∃ (pa : Addr) (n : Nat) (vs : List Value) (Z : List (Addr × Obj)), m (Str.ofString "base") = some (.int base t) ∧ m (Str.ofString "picks") = some (.ref pl) ∧ m (Str.ofString "places") = some (.ref pa) ∧ nx = (pa, W.listOf vs.toArray n) :: Z ∧ (∀ p ∈ Z, p.1 ≠ pa) ∧ LsOf SIP Z vs [pl0 base]) ?_ ?_
  · k_steps
    rename_i D1 hD1 lD1 ca hca lca pa hpa lpa h2 F2 N2
    refine StA.mk F2 N2 ⟨pa, 0, [.ref ca], [(ca, W.listOf #[.ref D1] 0), (D1, TupO #[.str (Txt.item (Str.ofString "?pc?d?b?-?l?s???") (base.fdiv 4096)) (tk + 1 + 1 + 1), .int 1 (tk + 1 + 1 + 1 + 1)] 0)], rfl, rfl, rfl, rfl, ?_, ?_⟩
    · intro p hp
      rcases List.mem_cons.mp hp with rfl | hp
      · exact Nat.ne_of_lt lpa.1
      · rw [List.mem_singleton.mp hp]; exact Nat.ne_of_lt lpa.2
    · exact .one (n := 0) (ys := [.ref D1]) (.head _) (.one (n := 0) (.tail _ (.head _)) (SIP.mk rfl))
  · intro h2 tk2 m2 nx2 F2 N2 hJ
    obtain ⟨pa, n, vs, Z, hmb, hmp, hma, rfl, hZ, hls⟩ := hJ
    rw [canon3 hmb hmp hma] at F2
    refine wpAny_execs_cons ?_
    refine wpAny_For ?_
    refine expr_cut F2 (fun v nx => ∃ a ys Z', v = .ref a ∧ nx = (pa, W.listOf vs.toArray n) :: ((a, W.listOf ys.toArray 0) :: (Z' ++ Z)) ∧ a ≠ pa ∧ (∀ p ∈ Z', p.1 ≠ pa) ∧ PsOf R4 Z' ys rows4) ?_ ?_
    · k_steps
      rename_i D1 hD1 lD1 D2 hD2 lD2 D3 hD3 lD3 ca hca F3 N3 lca
      refine ExA.mk F3 (swap4 N3) ⟨ca, [.ref D1, .ref D2, .ref D3], [_, _, _], rfl, rfl, Nat.ne_of_gt lca.2.2.2.1, ?_, ?_⟩
      · intro p hp
        simp only [List.mem_cons, List.not_mem_nil, or_false] at hp
        rcases hp with rfl | rfl | rfl
        · exact Nat.ne_of_gt lD3.2.2.1
        · exact Nat.ne_of_gt lD2.2.1
        · exact Nat.ne_of_gt lD1.1
      · unfold rows4
        refine .cons (n := 0) (.tail _ (.tail _ (.head _))) (R4.mk (by rw [q83, q115])) (.cons (n := 0) (.tail _ (.head _)) (R4.mk (by rw [q83, q115])) (.cons (n := 0) (.head _) (R4.mk (by rw [q84, q116])) .nil))
    · intro v h3 tk3 nx3 F3 N3 hJ
      obtain ⟨la, ys, Z', rfl, rfl, hla, hZ', hps4⟩ := hJ
      have hll : h3.IsList la ys.toArray := ⟨_, (N3 _ (.tail _ (.head _))).1, rfl, _, rfl⟩
      refine wpAny_pyIter_list hll ?_
      dsimp only
      have hz3 : Fz Z' h3 := fun p hp => (N3 p (.tail _ (.tail _ (List.mem_append_left _ hp)))).1
      obtain ⟨fp, St, W, hst, hfp1, hfp2⟩ := itr_ps (prog := PySem.Challenge.rw_of0018_01.row.prog) (w := w) (A := A.deeper _) (elts := _) (k := _) (pos := _) hh hps4 (h := h3.push { cls := .type "list_iterator", data := .fields #[.ref la, .int 0 0] }) (I := h3.objs.size) (ax := la) (fun p hp => Heap.get?_push_of_some _ (hz3 p hp)) (hll.push _) ⟨_, Heap.get?_push_size _ rfl, rfl, rfl⟩ (fun p hp => Nat.ne_of_lt (Heap.lt_size (hz3 p hp)))
      have hL3 : s.heap.objs.size < h3.objs.size := F3.ns.lt
      have hpa3 : pa < h3.objs.size := Heap.lt_size (N3 _ (.head _)).1
      have F4 := F3.push { cls := .type "list_iterator", data := .fields #[.ref la, .int 0 0] }
      have N4 : News s.heap s.heap.objs.size (h3.push { cls := .type "list_iterator", data := .fields #[.ref la, .int 0 0] }) ((pa, PySem.W.listOf vs.toArray n) :: Z) := fun p hp => (N3.grown fun b o e => Heap.get?_push_of_some _ e) p (by
        rcases List.mem_cons.mp hp with rfl | hp
        · exact .head _
        · exact .tail _ (.tail _ (List.mem_append_right _ hp)))
      have hpaF : ∀ a ∈ fp, a ≠ pa := by
        intro a ha
        rcases hfp2 a ha with e | e | ⟨p, hp, e⟩
        · rw [e]; exact Nat.ne_of_gt hpa3
        · rw [e]; exact hla
        · rw [← e]; exact hZ' p hp
      refine for_itr (h₀ := s.heap) W ?_ ?_ hst F4 N4
        (fun i m nx => ∃ (n : Nat) (vs : List Value) (Z : List (Addr × Obj)), m (Str.ofString "base") = some (.int base t) ∧ m (Str.ofString "picks") = some (.ref pl) ∧ m (Str.ofString "places") = some (.ref pa) ∧ nx = (pa, PySem.W.listOf vs.toArray n) :: Z ∧ (∀ p ∈ Z, p.1 ≠ pa ∧ p.1 ≠ h3.objs.size) ∧ LsOf SIP Z vs (plsUp base ps (rows4.take i))) ?_ ?_ ?_ ?_
      · intro hm
        rcases hfp2 _ hm with e | e | ⟨p, hp, e⟩
        · exact absurd e (Nat.ne_of_lt hL3)
        · exact (N3 _ (.tail _ (.head _))).2.1 e.symm
        · exact (N3 p (.tail _ (.tail _ (List.mem_append_left _ hp)))).2.1 e
      · intro b hb
        rw [List.mem_singleton.mp hb]
        exact fresh_above (Nat.le_of_lt hL3)
      · rintro i m nx ⟨n, vs, Z, _, _, _, rfl, hZ, _⟩ p hp hq
        rcases List.mem_cons.mp hp with rfl | hp
        · exact absurd (List.mem_singleton.mp hq) (Nat.ne_of_lt hpa3)
        · exact (hZ p hp).2 (List.mem_singleton.mp hq)
      · refine ⟨n, vs, Z, rfl, rfl, rfl, rfl, fun p hp => ⟨hZ p hp, Nat.ne_of_lt (Heap.lt_size (N3 p (.tail _ (.tail _ (List.mem_append_right _ hp)))).1)⟩, hls⟩
      · clear N4 F4 N3 F3 F2 N2 F N hls hps4
        intro i v m₁ nx₁ h4 tk4 own hi hv hJ hown hwr F N
        obtain ⟨T', vals, c, hc, rfl, ⟨u1, u2, u3, u4, rfl⟩, hT', _⟩ := hv
        obtain ⟨n, vs, Z, hmb, hmp, hma, rfl, hZ, hls⟩ := hJ
        rw [canon3 hmb hmp hma] at F
        refine assign_quadF hh hT' F N rfl rfl rfl rfl rfl fun h5 tk5 F5 N5 => ?_
        clear F N
        have offZ : OwnOff (Z ++ own) [pa] := by
          intro p hp b hb
          rw [List.mem_singleton.mp hb]
          rcases List.mem_append.mp hp with hp | hp
          · exact (hZ p hp).1
          · exact hpaF _ (hown p hp)
        replace N5 : News s.heap s.heap.objs.size h5 ((pa, PySem.W.listOf vs.toArray n) :: (Z ++ own)) := N5
        refine stmt_cut (h₀ := s.heap) (L := s.heap.objs.size) (fun m nx => ∃ (n : Nat) (vs : List Value) (Z : List (Addr × Obj)), m (Str.ofString "base") = some (.int base t) ∧ m (Str.ofString "picks") = some (.ref pl) ∧ m (Str.ofString "places") = some (.ref pa) ∧ m (Str.ofString "step") = some (.int c.1 u1) ∧ m (Str.ofString "special") = some (.int c.2.1 u2) ∧ m (Str.ofString "great") = some (.str c.2.2.1 u3) ∧ m (Str.ofString "small") = some (.str c.2.2.2 u4) ∧
          nx = (pa, PySem.W.listOf vs.toArray n) :: (Z ++ own) ∧ (∀ p ∈ Z, p.1 ≠ pa ∧ p.1 ≠ h3.objs.size) ∧ LsOf SIP Z vs (plsUp base ps (rows4.take i) ++ (bits2 c.1).map (plR base ps))) ?_ ?_
        · refine wpAny_For ?_
          refine expr_cut F5 (fun v nx => ∃ a ys Z', v = .ref a ∧ nx = (pa, PySem.W.listOf vs.toArray n) :: ((a, PySem.W.listOf ys.toArray 0) :: (Z' ++ (Z ++ own))) ∧ a ≠ pa ∧ (∀ p ∈ Z', p.1 ≠ pa) ∧ PsOf ISP Z' ys (bits2 c.1)) ?_ ?_
          · k_steps
            rename_i D1 hD1 lD1 D2 hD2 lD2 ca hca F6 N6 lca
            refine ExA.mk F6 (swap3 N6) ⟨ca, [.ref D1, .ref D2], [_, _], rfl, rfl, Nat.ne_of_gt lca.2.2.1, ?_, ?_⟩
            · intro p hp
              simp only [List.mem_cons, List.not_mem_nil, or_false] at hp
              rcases hp with rfl | rfl
              · exact Nat.ne_of_gt lD2.2.1
              · exact Nat.ne_of_gt lD1.1
            · exact .cons (n := 0) (.tail _ (.head _)) (ISP.mk (by rw [q114])) (.cons (n := 0) (.head _) (ISP.mk (by rw [q119])) .nil)
          · intro v h6 tk6 nx6 F6 N6 hJ
            obtain ⟨lb, ys2, Z2, rfl, rfl, hlb, hZ2, hps2⟩ := hJ
            have hll2 : h6.IsList lb ys2.toArray := ⟨_, (N6 _ (.tail _ (.head _))).1, rfl, _, rfl⟩
            refine wpAny_pyIter_list hll2 ?_
            dsimp only
            have hz6 : Fz Z2 h6 := fun p hp => (N6 p (.tail _ (.tail _ (List.mem_append_left _ hp)))).1
            obtain ⟨fp2, St2, W2, hst2, hfp3, hfp4⟩ := itr_ps (prog := PySem.Challenge.rw_of0018_01.row.prog) (w := w) (A := A.deeper _) (elts := _) (k := _) (pos := _) hh hps2 (h := h6.push { cls := .type "list_iterator", data := .fields #[.ref lb, .int 0 0] }) (I := h6.objs.size) (ax := lb) (fun p hp => Heap.get?_push_of_some _ (hz6 p hp)) (hll2.push _) ⟨_, Heap.get?_push_size _ rfl, rfl, rfl⟩ (fun p hp => Nat.ne_of_lt (Heap.lt_size (hz6 p hp)))
            have hL6 : s.heap.objs.size < h6.objs.size := F6.ns.lt
            have hpa6 : pa < h6.objs.size := Heap.lt_size (N6 _ (.head _)).1
            have F7 := F6.push { cls := .type "list_iterator", data := .fields #[.ref lb, .int 0 0] }
            have N7 : News s.heap s.heap.objs.size (h6.push { cls := .type "list_iterator", data := .fields #[.ref lb, .int 0 0] }) ((pa, PySem.W.listOf vs.toArray n) :: (Z ++ own)) := fun p hp => (N6.grown fun b o e => Heap.get?_push_of_some _ e) p (by
              rcases List.mem_cons.mp hp with rfl | hp
              · exact .head _
              · exact .tail _ (.tail _ (List.mem_append_right _ hp)))
            have hZI : ∀ p ∈ Z ++ own, p.1 ≠ h6.objs.size := fun p hp => Nat.ne_of_lt (Heap.lt_size (N6 p (.tail _ (.tail _ (List.mem_append_right _ hp)))).1)
            have hpaF2 : ∀ a ∈ fp2, a ≠ pa := by
              intro a ha
              rcases hfp4 a ha with e | e | ⟨p, hp, e⟩
              · rw [e]; exact Nat.ne_of_gt hpa6
              · rw [e]; exact hlb
              · rw [← e]; exact hZ2 p hp
            refine for_itr (h₀ := s.heap) W2 ?_ ?_ hst2 F7 N7
              (fun j m nx => ∃ (n : Nat) (vs : List Value) (Z : List (Addr × Obj)), m (Str.ofString "base") = some (.int base t) ∧ m (Str.ofString "picks") = some (.ref pl) ∧ m (Str.ofString "places") = some (.ref pa) ∧ m (Str.ofString "step") = some (.int c.1 u1) ∧ m (Str.ofString "special") = some (.int c.2.1 u2) ∧ m (Str.ofString "great") = some (.str c.2.2.1 u3) ∧ m (Str.ofString "small") = some (.str c.2.2.2 u4) ∧
          nx = (pa, PySem.W.listOf vs.toArray n) :: (Z ++ own) ∧ (∀ p ∈ Z, p.1 ≠ pa ∧ p.1 ≠ h3.objs.size ∧ p.1 ≠ h6.objs.size) ∧ LsOf SIP Z vs (plsUp base ps (rows4.take i) ++ ((bits2 c.1).take j).map (plR base ps))) ?_ ?_ ?_ ?_
            · intro hm
              rcases hfp4 _ hm with e | e | ⟨p, hp, e⟩
              · exact absurd e (Nat.ne_of_lt hL6)
              · exact (N6 _ (.tail _ (.head _))).2.1 e.symm
              · exact (N6 p (.tail _ (.tail _ (List.mem_append_left _ hp)))).2.1 e
            · intro b hb
              rw [List.mem_singleton.mp hb]
              exact fresh_above (Nat.le_of_lt hL6)
            · rintro j m nx ⟨n, vs, Z, _, _, _, _, _, _, _, rfl, hZ, _⟩ p hp hq
              rcases List.mem_cons.mp hp with rfl | hp
              · exact absurd (List.mem_singleton.mp hq) (Nat.ne_of_lt hpa6)
              · rcases List.mem_append.mp hp with hp | hp
                · exact (hZ p hp).2.2 (List.mem_singleton.mp hq)
                · exact hZI p (List.mem_append_right _ hp) (List.mem_singleton.mp hq)
            · exact ⟨n, vs, Z, rfl, rfl, rfl, rfl, rfl, rfl, rfl, rfl, fun p hp => ⟨(hZ p hp).1, (hZ p hp).2, hZI p (List.mem_append_left _ hp)⟩, by simpa using hls⟩
            · clear N7 F7 N6 F6 F5 N5 hps2 hls offZ
              have hZown : ∀ p ∈ own, p.1 ≠ h6.objs.size := fun p hp => hZI p (List.mem_append_right _ hp)
              clear hZI hZ
              intro j v m₂ nx₂ h7 tk7 own2 hj hv hJ hown2 hwr2 F8 N8
              obtain ⟨T2, vals2, d, hd, rfl, ⟨w1, w2, rfl⟩, hT2, _⟩ := hv
              obtain ⟨n, vs, Z, hm1, hm2, hm3, hm4, hm5, hm6, hm7, rfl, hZ, hls⟩ := hJ
              rw [canon7 hm1 hm2 hm3 hm4 hm5 hm6 hm7] at F8
              refine assign_pairF hh hT2 F8 N8 rfl rfl rfl fun h9 tk9 F9 N9 _ => ?_
              clear F8 N8
              have off9 : OwnOff ((Z ++ own) ++ own2) [pa] := by
                intro p hp b hb
                rw [List.mem_singleton.mp hb]
                rcases List.mem_append.mp hp with hp | hp
                · rcases List.mem_append.mp hp with hp | hp
                  · exact (hZ p hp).1
                  · exact hpaF _ (hown p hp)
                · exact hpaF2 _ (hown2 p hp)
              replace N9 : News s.heap s.heap.objs.size h9 ((pa, PySem.W.listOf vs.toArray n) :: ((Z ++ own) ++ own2)) := N9
              have hc4 := rows4_mem hc
              have hd4 := bits2_mem hd
              have hd0 : d.1 ≠ 0 := by omega
              have hd1 : Builtin.divisionGoesByPylong base d.1 = false := PyProof.noPylong_small (by omega)
              have hvl : vs.toArray.size ≤ sizeLine := by
                rw [List.size_toArray, hls.length, List.length_append, plsUp_length, List.length_map, List.length_take, List.length_take]
                refine Nat.le_trans (m := 15) ?_ (by decide)
                have : (bits2 c.1).length = 2 := rfl
                have : rows4.length = 3 := rfl
                omega
              have goJ : ∀ (new : List (Addr × Obj)) (l : Addr) (ys : List Value) (hx : Heap), News s.heap s.heap.objs.size hx (new ++ (pa, PySem.W.listOf (vs.toArray.push (.ref l)) (n + 1)) :: ((Z ++ own) ++ own2)) → (l, PySem.W.listOf ys.toArray 0) ∈ new → (∀ p ∈ new, pa < p.1 ∧ AllLt p.1 (Z ++ own ++ own2)) → PsOf SIP new ys (plR base ps d) →
                  (∀ p ∈ new ++ Z, p.1 ≠ pa ∧ p.1 ≠ h3.objs.size ∧ p.1 ≠ h6.objs.size) ∧ LsOf SIP (new ++ Z) (vs ++ [.ref l]) (plsUp base ps (rows4.take i) ++ ((bits2 c.1).take (j + 1)).map (plR base ps)) := by
                intro new l ys hx _ hl hn hp
                refine ⟨fun p hpm => ?_, ?_⟩
                · rcases List.mem_append.mp hpm with hpm | hpm
                  · obtain ⟨o1, ho1⟩ := hwr h3.objs.size (.head _)
                    obtain ⟨o2, ho2⟩ := hwr2 h6.objs.size (.head _)
                    exact ⟨Nat.ne_of_gt (hn p hpm).1, allLt_ne (hn p hpm).2 (List.mem_append_left _ (List.mem_append_right _ ho1)), allLt_ne (hn p hpm).2 (List.mem_append_right _ ho2)⟩
                  · exact hZ p hpm
                · rw [List.take_add_one, hd, List.map_append, ← List.append_assoc]
                  exact (hls.mono fun p hp => List.mem_append_right _ hp).append (.one (List.mem_append_left _ hl) (hp.mono fun p hp => List.mem_append_left _ hp))
              k_steps
              · rename_i la ha lla hb F8 N8
                obtain ⟨j1, j2⟩ := goJ [_] la [] _ N8 (.head _) (by intro p hp; rw [List.mem_singleton.mp hp]; exact lla) (by
                  unfold plR; rw [if_pos (by assumption), if_pos (by assumption)]; exact .nil)
                exact ForTurn.go F8 (pl_end [_] N8) ⟨n + 1, _, _, rfl, rfl, rfl, rfl, rfl, rfl, rfl, rfl, j1, j2⟩
              · rename_i D1 hD1 lD1 D2 hD2 lD2 la ha lla hb F8 N8
                obtain ⟨j1, j2⟩ := goJ [_, _, _] la [.ref D1, .ref D2] _ N8 (.head _) (by
                  intro p hp
                  simp only [List.mem_cons, List.not_mem_nil, or_false] at hp
                  rcases hp with rfl | rfl | rfl
                  · exact lla.2.2
                  · exact lD2.2
                  · exact lD1) (by
                  unfold plR; rw [if_pos (by assumption), if_neg (by assumption), ← q45]
                  exact .cons (n := 0) (.tail _ (.tail _ (.head _))) (SIP.mk rfl) (.cons (n := 0) (.tail _ (.head _)) (SIP.mk rfl) .nil))
                exact ForTurn.go F8 (pl_end [_, _, _] N8) ⟨n + 1, _, _, rfl, rfl, rfl, rfl, rfl, rfl, rfl, rfl, j1, j2⟩
              · rename_i D1 hD1 lD1 la ha lla hb F8 N8
                obtain ⟨j1, j2⟩ := goJ [_, _] la [.ref D1] _ N8 (.head _) (by
                  intro p hp
                  simp only [List.mem_cons, List.not_mem_nil, or_false] at hp
                  rcases hp with rfl | rfl
                  · exact lla.2
                  · exact lD1) (by
                  unfold plR; rw [if_neg (by rw [Bool.not_eq_true]; assumption), if_pos (by assumption)]
                  exact .cons (n := 0) (.tail _ (.head _)) (SIP.mk rfl) .nil)
                exact ForTurn.go F8 (pl_end [_, _] N8) ⟨n + 1, _, _, rfl, rfl, rfl, rfl, rfl, rfl, rfl, rfl, j1, j2⟩
              · rename_i D1 hD1 lD1 la ha lla hb F8 N8
                obtain ⟨j1, j2⟩ := goJ [_, _] la [.ref D1] _ N8 (.head _) (by
                  intro p hp
                  simp only [List.mem_cons, List.not_mem_nil, or_false] at hp
                  rcases hp with rfl | rfl
                  · exact lla.2
                  · exact lD1) (by
                  unfold plR; rw [if_neg (by rw [Bool.not_eq_true]; assumption), if_neg (by assumption), ← q45]
                  exact .cons (n := 0) (.tail _ (.head _)) (SIP.mk rfl) .nil)
                exact ForTurn.go F8 (pl_end [_, _] N8) ⟨n + 1, _, _, rfl, rfl, rfl, rfl, rfl, rfl, rfl, rfl, j1, j2⟩
            · intro h8 tk8 m8 nx8 F8 N8 hJ
              obtain ⟨n, vs, Z, hm1, hm2, hm3, hm4, hm5, hm6, hm7, rfl, hZ, hls⟩ := hJ
              refine wpAny_execs_nil (StA.mk F8 N8 ⟨n, vs, Z, hm1, hm2, hm3, hm4, hm5, hm6, hm7, rfl, fun p hp => ⟨(hZ p hp).1, (hZ p hp).2.1⟩, ?_⟩)
              rw [List.take_length] at hls
              exact hls
        · clear F5 N5
          intro h6 tk6 m6 nx6 F6 N6 hJ
          obtain ⟨n, vs, Z, hm1, hm2, hm3, hm4, hm5, hm6, hm7, rfl, hZ, hls⟩ := hJ
          rw [canon7 hm1 hm2 hm3 hm4 hm5 hm6 hm7] at F6
          have hc4 := rows4_mem hc
          have off6 : OwnOff (Z ++ own) [pa] := by
            intro p hp b hb
            rw [List.mem_singleton.mp hb]
            rcases List.mem_append.mp hp with hp | hp
            · exact (hZ p hp).1
            · exact hpaF _ (hown p hp)
          have hvl : vs.toArray.size ≤ sizeLine := by
            rw [List.size_toArray, hls.length, List.length_append, plsUp_length, List.length_map, List.length_take]
            refine Nat.le_trans (m := 15) ?_ (by decide)
            have : (bits2 c.1).length = 2 := rfl
            have : rows4.length = 3 := rfl
            omega
          k_steps
          refine run_place_ok (G.up F6.keep) hroom hh (hl.at fun o e => F6.keep _ _ e) hps hlen (by omega) (by omega) (PyProof.noPylong_small (by omega)) (PyProof.noPylong_small (by omega)) ?_
          intro ra rn rys rZ h7 tk7 up7 hrZ hra hrp
          have F7 := F6.keeps up7
          have e6 : ∀ p ∈ rZ, p.1 ≠ pa ∧ p.1 ≠ h3.objs.size := by
            intro p hp
            have hn := (hrZ p hp).2
            refine ⟨fun q => ?_, fun q => ?_⟩
            · rw [q] at hn; have := (N6 _ (.head _)).1; dsimp only at this hn; rw [hn] at this; cases this
            · obtain ⟨o1, ho1⟩ := hwr h3.objs.size (.head _)
              rw [q] at hn; have := (N6 _ (.tail _ (List.mem_append_right _ ho1))).1; dsimp only at this hn; rw [hn] at this; cases this
          have N7 : News s.heap s.heap.objs.size h7 ((pa, PySem.W.listOf vs.toArray n) :: (rZ ++ Z ++ own)) := by
            intro p hp
            rcases List.mem_cons.mp hp with rfl | hp
            · exact (N6.grown up7) _ (.head _)
            · rw [List.append_assoc] at hp
              rcases List.mem_append.mp hp with hp | hp
              · have hn := (hrZ p hp).2
                dsimp only at hn
                refine ⟨(hrZ p hp).1, fun q => ?_, ?_⟩
                · obtain ⟨oL, _, _, eL, _⟩ := F6.ns
                  rw [q] at hn
                  have eL' : h6.get? s.heap.objs.size = some oL := eL
                  rw [eL'] at hn; cases hn
                · cases e : s.heap.get? p.1 with
                  | none => rfl
                  | some o => rw [F6.keep _ _ e] at hn; cases hn
              · exact (N6.grown up7) _ (.tail _ hp)
          have off7 : OwnOff (rZ ++ Z ++ own) [pa] := by
            intro p hp b hb
            rw [List.append_assoc] at hp
            rcases List.mem_append.mp hp with hp | hp
            · rw [List.mem_singleton.mp hb]; exact (e6 p hp).1
            · exact off6 p hp b hb
          clear off6
          clear F6 N6
          k_steps
          rename_i h9 F9 N9
          refine ForTurn.go (nx₂ := (pa, PySem.W.listOf (vs ++ [Value.ref ra]).toArray (n + 1)) :: (rZ ++ Z)) F9 ?_ ⟨n + 1, vs ++ [Value.ref ra], rZ ++ Z, rfl, rfl, rfl, rfl, ?_, ?_⟩
          · intro p hp
            refine N9 p ?_
            rw [show (vs ++ [Value.ref ra]).toArray = vs.toArray.push (.ref ra) by simp] at hp
            exact hp
          · intro p hp
            rcases List.mem_append.mp hp with hp | hp
            · exact e6 p hp
            · exact hZ p hp
          · rw [plsUp_snoc hc]
            unfold pl3
            rw [← List.append_assoc]
            exact (hls.mono fun p hp => List.mem_append_right _ hp).append (.one (List.mem_append_left _ hra) (hrp.mono fun p hp => List.mem_append_left _ hp))
      · intro h8 tk8 m8 nx8 F8 N8 hJ
        obtain ⟨n, vs, Z, hm1, hm2, hm3, rfl, hZ, hls⟩ := hJ
        refine wpAny_execs_nil ?_
        refine wpAny_execs_cons (wpAny_Return_some (nameL F8.ns hm3 ?_ rfl rfl (by decide)))
        refine hQ pa n vs ((pa, PySem.W.listOf vs.toArray n) :: Z) h8 tk8 F8.keep (fun p hp => ⟨(N8 p hp).1, (N8 p hp).2.2⟩) (.head _) ?_
        rw [List.take_length] at hls
        exact hls.mono fun p hp => .tail _ hp
end Mine
end

section
open PySem PySem.W PyProof.Rows PySem.Calls PyProof.Rows.LCg
set_option maxRecDepth 100000
set_option maxHeartbeats 4000000
namespace Mine
theorem sq_shaped {ss : List Str} (h : ∀ x ∈ ss, PyData.strOk x = true) : SeqAt.shaped (.list (ss.map PyData.str)) = true := by
  have h1 : PyData.canLayAll0 (ss.map .str) = true := by rw [canLayAll_strs']; exact List.all_eq_true.mpr h
  simp [SeqAt.shaped, PyData.canLay0, PyData.depth, h1, depthAll_strs']
theorem sq_sameAll : ∀ ns ms : List Str, PySem.Spec.sameAll (ns.map PyData.str) (ms.map PyData.str) = decide (ns = ms)
  | [], [] => by simp [PySem.Spec.sameAll]
  | [], _ :: _ => by simp [PySem.Spec.sameAll]
  | _ :: _, [] => by simp [PySem.Spec.sameAll]
  | a :: r, b :: t => by
    simp only [List.map_cons, PySem.Spec.sameAll, PySem.Spec.same, sq_sameAll r t]
    by_cases h : a = b <;> by_cases h' : r = t <;> simp [h, h']
theorem sq_same (ns ms : List Str) : PySem.Spec.same (.list (ns.map PyData.str)) (.list (ms.map PyData.str)) = decide (ns = ms) := by
  simp only [PySem.Spec.same]; exact sq_sameAll ns ms
theorem sq_carried : ∀ {vs : List Value} {ns : List Str}, StrsAre vs ns → CarriedAll vs (ns.map PyData.str)
  | _, _, .nil => .nil
  | _, _, .cons _ t r => .cons (.str _ t) (sq_carried r)
section
variable {prog : Program} {w : World} {A : Around} {E : Value → Shared → Prop} {s : Shared} {a b : Addr} {xs ys : List Value} {ns ms : List Str} {Q : Value → Shared → Prop}
theorem eq_strs (ha : s.heap.IsList a xs.toArray) (hb : s.heap.IsList b ys.toArray) (hi : StrsAre xs ns) (hj : StrsAre ys ms) (h1 : ∀ x ∈ ns, PyData.strOk x = true) (h2 : ∀ x ∈ ms, PyData.strOk x = true) (hu : A.units + 64 < cLine) (h : Q (.bool (decide (ns = ms))) s) :
    wpAny (model prog w) A (compareOp .Eq (.ref a) (.ref b)) Q E s :=
  eq_dataH_same (reads_newData ha (sq_carried hi)) (reads_newData hb (sq_carried hj)) (sq_shaped h1) (sq_shaped h2) hu (SeqAt.noMix_of_shape (.list .str) rfl _ _ (list_map_has fun _ => rfl) (list_map_has fun _ => rfl)) (by rw [sq_same]; exact h)
theorem ne_strs (ha : s.heap.IsList a xs.toArray) (hb : s.heap.IsList b ys.toArray) (hi : StrsAre xs ns) (hj : StrsAre ys ms) (h1 : ∀ x ∈ ns, PyData.strOk x = true) (h2 : ∀ x ∈ ms, PyData.strOk x = true) (hu : A.units + 64 < cLine) (h : Q (.bool (!decide (ns = ms))) s) :
    wpAny (model prog w) A (compareOp .NotEq (.ref a) (.ref b)) Q E s :=
  ne_dataH_same (reads_newData ha (sq_carried hi)) (reads_newData hb (sq_carried hj)) (sq_shaped h1) (sq_shaped h2) hu (SeqAt.noMix_of_shape (.list .str) rfl _ _ (list_map_has fun _ => rfl) (list_map_has fun _ => rfl)) (by rw [sq_same]; exact h)
end
end Mine
end

section
open PySem PySem.W PyProof.Rows PySem.Calls PyProof.Rows.LCg PySem.Spec
set_option maxRecDepth 100000
set_option maxHeartbeats 4000000
namespace Mine
theorem lt_irr : ∀ a : List Nat, ltCps a a = false
  | [] => rfl
  | x :: r => by simp [ltCps, lt_irr r]
theorem lt_anti : ∀ {a b : List Nat}, ltCps a b = false → ltCps b a = false → a = b
  | [], [], _, _ => rfl
  | [], _ :: _, h, _ => by simp [ltCps] at h
  | _ :: _, [], _, h => by simp [ltCps] at h
  | x :: r, y :: t, h1, h2 => by
    simp only [ltCps, Bool.or_eq_false_iff, Bool.and_eq_false_iff, decide_eq_false_iff_not, beq_eq_false_iff_ne] at h1 h2
    have e : x = y := by omega
    subst e
    rw [lt_anti (h1.2.resolve_left (fun q => q rfl)) (h2.2.resolve_left (fun q => q rfl))]
theorem lt_tr : ∀ {a b c : List Nat}, ltCps b a = false → ltCps c b = false → ltCps c a = false
  | [], _, [], _, _ => rfl
  | [], _, _ :: _, _, _ => rfl
  | _ :: _, [], _, h, _ => by simp [ltCps] at h
  | _ :: _, _ :: _, [], _, h => by simp [ltCps] at h
  | x :: r, y :: t, z :: u, h1, h2 => by
    simp only [ltCps, Bool.or_eq_false_iff, Bool.and_eq_false_iff, decide_eq_false_iff_not, beq_eq_false_iff_ne] at h1 h2 ⊢
    refine ⟨by omega, ?_⟩
    by_cases e : z = x
    · refine .inr ?_
      have e1 : y = x := by omega
      subst e1 e
      exact lt_tr (h1.2.resolve_left (fun q => q rfl)) (h2.2.resolve_left (fun q => q rfl))
    · exact .inl e
abbrev leS (a b : Str) : Prop := ltCps b.cps.toList a.cps.toList = false
theorem rising_pw : ∀ (l : List Str) (p : Str), risingS p l = true → (p :: l).Pairwise leS
  | [], p, _ => by simp
  | x :: r, p, h => by
    simp only [risingS, Bool.and_eq_true, Bool.not_eq_true'] at h
    have ih := rising_pw r x h.2
    rw [List.pairwise_cons]
    refine ⟨?_, ih⟩
    intro y hy
    rcases List.mem_cons.mp hy with rfl | hy
    · exact h.1
    · exact lt_tr (b := x.cps.toList) h.1 ((List.pairwise_cons.mp ih).1 y hy)
theorem sorted_pw {l : List Str} (h : sortedS l = true) : l.Pairwise leS := by
  cases l with
  | nil => simp
  | cons p r => exact rising_pw r p h
theorem sorted_eq {a b : List Str} (p : a.Perm b) (h1 : sortedS a = true) (h2 : sortedS b = true) : a = b := by
  refine List.Perm.eq_of_pairwise (le := leS) ?_ (sorted_pw h1) (sorted_pw h2) p
  intro x y _ _ hxy hyx
  have := lt_anti hxy hyx
  exact (Str.ext' (Array.toList_inj.mp this)).symm
/-- the sorted lists are the same just if the bags are -/
theorem sorted_iff {a b a' b' : List Str} (pa : a'.Perm a) (pb : b'.Perm b) (h1 : sortedS a' = true) (h2 : sortedS b' = true) (p : a.Perm b) : a' = b' :=
  sorted_eq (pa.trans (p.trans pb.symm)) h1 h2
end Mine
end

section
open PySem PySem.W PyProof.Rows PySem.Calls PyProof.Rows.LCg
set_option maxRecDepth 100000
set_option maxHeartbeats 4000000
namespace Mine
section
variable {prog : Program} {w : World} {A : Around} {E : Value → Shared → Prop} {env : Env}
/-- the innermost clause of a comprehension -/
def TurnIs (elt : Expr) (gens : List Comprehension) (scope : Scope) (pos : Pos) (d : Nat) (target : Expr) (ips : Pos) (ifs : List Expr) : Prop := ∀ (it acc : Value) (env : Env),
    compTurn (.ListComp elt gens scope pos) d it acc env = (do
      standAt ips
      match ← pyNext it with
      | none => pure (.done .next)
      | some v =>
        letOwnedTupleGo target it v
        assign target env v
        let mut ok := true
        for c in ifs do
          if ok then ok ← isTrue c env (eval c env)
        if ok then
          (do let _ ← call (.builtin "list.append") [acc, ← eval elt env])
        again (.compLoop (.ListComp elt gens scope pos) d it acc env))
theorem turnIs_two (elt t1 t2 i1 i2 : Expr) (f1 f2 : List Expr) (scope : Scope) (pos : Pos) : TurnIs elt [⟨t1, i1, f1, 0⟩, ⟨t2, i2, f2, 0⟩] scope pos 1 t2 i2.pos f2 := fun _ _ _ => rfl
theorem turn_two (elt t1 t2 i1 i2 : Expr) (f2 : List Expr) (scope : Scope) (pos : Pos) (it acc : Value) (env : Env) :
    compTurn (.ListComp elt [⟨t1, i1, [], 0⟩, ⟨t2, i2, f2, 0⟩] scope pos) 0 it acc env = (do
      standAt i1.pos
      match ← pyNext it with
      | none => pure (.done .next)
      | some v =>
        letOwnedTupleGo t1 it v
        assign t1 env v
        let x ← eval i2 env
        standAt i2.pos
        let x ← foldedSetIterable i2 env x
        let _ ← runOwn (.compStart (.ListComp elt [⟨t1, i1, [], 0⟩, ⟨t2, i2, f2, 0⟩] scope pos) 1 (← holding [x] (pyIter x)) acc env) env
        again (.compLoop (.ListComp elt [⟨t1, i1, [], 0⟩, ⟨t2, i2, f2, 0⟩] scope pos) 0 it acc env)) := by rfl
theorem compStart_one {elt t1 t2 i1 i2 : Expr} {f1 f2 : List Expr} {scope : Scope} {pos : Pos} {it acc : Value} {s : Shared} {R : Result → Shared → Prop}
    (h0 : codeAny (model prog w) A (.compLoop (.ListComp elt [⟨t1, i1, f1, 0⟩, ⟨t2, i2, f2, 0⟩] scope pos) 1 it acc env) R s)
    (h : wpAny (model prog w) A (pyIter it) (fun it' s' => codeAny (model prog w) A (.compLoop (.ListComp elt [⟨t1, i1, f1, 0⟩, ⟨t2, i2, f2, 0⟩] scope pos) 1 it' acc env) R s')
      (notedBy (model prog w) A env fun x s' => R (.error x) s') s) :
    codeAny (model prog w) A (.compStart (.ListComp elt [⟨t1, i1, f1, 0⟩, ⟨t2, i2, f2, 0⟩] scope pos) 1 it acc env) R s := by
  refine codeAny_of_tree ?_
  show wpAny _ _ ((compStart (.ListComp elt [⟨t1, i1, f1, 0⟩, ⟨t2, i2, f2, 0⟩] scope pos) 1 it acc env).onRaise (fun x => do noteFrame x env; standAt theWindowsPlace)) _ _ s
  refine wpAny_notedAt ?_
  unfold compStart
  show wpAny _ _ (ask >>= _) _ _ s
  refine wpAny_bind (wpAny_askSetting (wpAny_ite ?_))
  split
  · first
      | exact wpAny_bind (wpAny_pure (wpAny_pure (And.intro rfl h0)))
      | exact wpAny_pure (And.intro rfl h0)
  · first
      | exact wpAny_bind (wpAny_rule (wpAny_bind (wpAny_standAt (wpAny_bind (wpAny_mono h (fun it' s' h' => wpAny_pure (And.intro rfl h')) fun _ _ x => x)))))
      | (refine wpAny_bind (wpAny_rule ?_); show wpAny _ _ (standAt i2.pos >>= _) _ _ s; exact wpAny_bind (wpAny_standAt (wpAny_bind (wpAny_mono h (fun it' s' h' => wpAny_pure (And.intro rfl h')) fun _ _ x => x))))

theorem compStart_oneW {elt t1 t2 i1 i2 : Expr} {f1 f2 : List Expr} {scope : Scope} {pos : Pos} {acc : Value} {s : Shared} {R : Result → Shared → Prop} {I : Addr} {fp wr : List Addr} {n : Nat} {P : Nat → Heap → Value → Prop} {St : Nat → Heap → Prop}
    (W : Itr prog w A t2 I fp wr n P St) (st : St 0 s.heap) (h0 : codeAny (model prog w) A (.compLoop (.ListComp elt [⟨t1, i1, f1, 0⟩, ⟨t2, i2, f2, 0⟩] scope pos) 1 (.ref I) acc env) R s) :
    codeAny (model prog w) A (.compStart (.ListComp elt [⟨t1, i1, f1, 0⟩, ⟨t2, i2, f2, 0⟩] scope pos) 1 (.ref I) acc env) R s := compStart_one h0 (W.self 0 _ _ _ st h0)

/-- the same, with what holds of the block's names -/
def TurnEndM (Mp : (Str → Option Value) → Prop) (s₂ : Shared) (C : Addr) (h : Heap) (J : List Value → List (Addr × Obj) → Prop) (ys : List Value) (Z : List (Addr × Obj)) (r : Option Value) (s₅ : Shared) : Prop :=
  ∃ h' tk' m' Zn, s₅ = { s₂ with heap := h', toks := tk' } ∧ h'.Ns C m' ∧ Mp m' ∧ (∀ b o, b ≠ C → h.get? b = some o → h'.get? b = some o) ∧ (∀ p ∈ Zn, h'.get? p.1 = some p.2 ∧ h.get? p.1 = none) ∧ J (ys ++ r.toList) (Zn ++ Z)

theorem comp_loopG {elt target : Expr} {gens : List Comprehension} {d : Nat} {ips : Pos} {ifs : List Expr} {scope : Scope} {cl : List (Str × Addr)} {pos : Pos} (hturn : TurnIs elt gens scope pos d target ips ifs) {s₂ : Shared} {I : Addr} {fp wr : List Addr} {n : Nat} {P : Nat → Heap → Value → Prop} {St : Nat → Heap → Prop}
    (W : Itr prog w A target I fp wr n P St) {ys₀ : List Value} (hsz : ys₀.length + n ≤ sizeLine) {R : Result → Shared → Prop} {C D : Addr} {h₁ : Heap} {tk₁ : Nat} {m₁ : Str → Option Value} {Z₀ : List (Addr × Obj)}
    (hCD : C ≠ D) (hC : C ∉ fp) (hD : D ∉ fp) (hst : St 0 h₁) (hn : h₁.Ns C m₁) (Mp : (Str → Option Value) → Prop) (hm₁ : Mp m₁) (hl : h₁.get? D = some (lst ys₀))
    (J : Nat → List Value → List (Addr × Obj) → Prop) (h0 : J 0 ys₀ Z₀) (hZ : ∀ p ∈ Z₀, h₁.get? p.1 = some p.2 ∧ p.1 ≠ C ∧ p.1 ≠ D ∧ p.1 ∉ wr)
    (step : ∀ i v ys Z m h tk, i < n → P i h v → J i ys Z → h.Ns C m → Mp m → (∀ b o, b ∉ wr → b ≠ C → b ≠ D → h₁.get? b = some o → h.get? b = some o) → Fz Z h → (∀ p ∈ Z, p.1 ≠ C) → (∃ o, h.get? D = some o) →
      wpAny (model prog w) A (assign target (compEnvC scope cl C env) v) (fun _ s₃ => wpAny (model prog w) A (compTests' ifs (compEnvC scope cl C env)) (fun ok s₄ =>
        if ok = true then wpAny (model prog w) A (eval elt (compEnvC scope cl C env)) (fun y s₅ => TurnEndM Mp s₂ C h (J (i + 1)) ys Z (some y) s₅) (fun _ _ => False) s₄ else TurnEndM Mp s₂ C h (J (i + 1)) ys Z none s₄) (fun _ _ => False) s₃) (fun _ _ => False) { s₂ with heap := h, toks := tk })
    (fin : ∀ ys Z h tk m, J n ys Z → h.Ns C m → h.get? D = some (lst ys) → (∀ b o, b ∉ wr → b ≠ C → b ≠ D → h₁.get? b = some o → h.get? b = some o) → Fz Z h → (∀ p ∈ Z, p.1 ≠ C ∧ p.1 ≠ D) → R (.ok .next) { s₂ with heap := h, toks := tk }) :
    codeAny (model prog w) A (.compLoop (.ListComp elt gens scope pos) d (.ref I) (.ref D) (compEnvC scope cl C env)) R { s₂ with heap := h₁, toks := tk₁ } := by
  have hCw : C ∉ wr := fun h => hC (W.sub _ h)
  have hDw : D ∉ wr := fun h => hD (W.sub _ h)
  refine codeAny_loop rfl
    (fun k s' => ∃ h tk m i ys Z, s' = { s₂ with heap := h, toks := tk } ∧ i ≤ n ∧ k = n + 1 - i ∧ ys.length ≤ ys₀.length + i ∧ St i h ∧ h.Ns C m ∧ Mp m ∧ h.get? D = some (lst ys) ∧ (∀ b o, b ∉ wr → b ≠ C → b ≠ D → h₁.get? b = some o → h.get? b = some o) ∧
      Fz Z h ∧ (∀ p ∈ Z, p.1 ≠ C ∧ p.1 ≠ D ∧ p.1 ∉ wr) ∧ J i ys Z) (fun k s' hI => ?_) (n + 1)
    ⟨h₁, tk₁, m₁, 0, ys₀, Z₀, rfl, Nat.zero_le _, rfl, Nat.le_refl _, hst, hn, hm₁, hl, fun _ _ _ _ _ e => e, fun p hp => (hZ p hp).1, fun p hp => (hZ p hp).2, h0⟩
  obtain ⟨h, tk, m, i, ys, Z, rfl, hi, rfl, hyl, hst', hn', hm', hl', hk', hz, hzo, hJ⟩ := hI
  show wpAny _ A ((compTurn (.ListComp elt gens scope pos) d (.ref I) (.ref D) (compEnvC scope cl C env)).onRaise (fun x => do noteFrame x (compEnvC scope cl C env); theTreesLotGoes x)) _ _ _
  refine wpAny_noted ?_
  rw [hturn]
  refine wpAny_bind (wpAny_standAt (wpAny_bind ?_))
  by_cases hlt : i < n
  · refine wpAny_mono (W.item i _ (fun v s₁ => wpAny (model prog w) A (assign target (compEnvC scope cl C env) v) (fun _ s₃ => wpAny (model prog w) A (compTests' ifs (compEnvC scope cl C env)) (fun ok s₄ =>
        if ok = true then wpAny (model prog w) A (eval elt (compEnvC scope cl C env)) (fun y s₅ => TurnEndM Mp s₂ C s₁.heap (J (i + 1)) ys Z (some y) s₅ ∧ (∃ o, s₁.heap.get? C = some o) ∧ St (i + 1) s₁.heap ∧ s₁.heap.get? D = some (lst ys) ∧ (∀ b o, b ∉ wr → b ≠ C → b ≠ D → h₁.get? b = some o → s₁.heap.get? b = some o) ∧ Fz Z s₁.heap) (fun _ _ => False) s₄
        else TurnEndM Mp s₂ C s₁.heap (J (i + 1)) ys Z none s₄ ∧ (∃ o, s₁.heap.get? C = some o) ∧ St (i + 1) s₁.heap ∧ s₁.heap.get? D = some (lst ys) ∧ (∀ b o, b ∉ wr → b ≠ C → b ≠ D → h₁.get? b = some o → s₁.heap.get? b = some o) ∧ Fz Z s₁.heap) (fun _ _ => False) s₃) (fun _ _ => False) s₁)
        (fun _ _ => False) hlt hst' fun v h₂ tk₂ hP hst₂ hk₂ => ?_) (fun r s₁ h₁' => ?_) fun _ _ f => f.elim
    · have hn₂ : h₂.Ns C m := hn'.at' fun o e => hk₂ _ o hCw e
      have hl₂ := hk₂ D _ hDw hl'
      have hz₂ : Fz Z h₂ := fun p hp => hk₂ _ _ (hzo p hp).2.2 (hz p hp)
      have hC₂ : ∃ o, h₂.get? C = some o := by obtain ⟨o, _, _, e, _⟩ := hn₂; exact ⟨o, e⟩
      have hk₃ : ∀ b o, b ∉ wr → b ≠ C → b ≠ D → h₁.get? b = some o → h₂.get? b = some o := fun b o hb hbC hbD e => hk₂ b o hb (hk' b o hb hbC hbD e)
      refine wpAny_mono (step i v ys Z m h₂ tk₂ hlt hP hJ hn₂ hm' hk₃ hz₂ (fun p hp => (hzo p hp).1) ⟨_, hl₂⟩) (fun _ s₃ h₃ => wpAny_mono h₃ (fun ok s₄ h₄ => ?_) fun _ _ f => f) fun _ _ f => f
      cases ok with
      | false => exact ⟨h₄, hC₂, hst₂, hl₂, hk₃, hz₂⟩
      | true => exact wpAny_mono h₄ (fun y s₅ h₅ => ⟨h₅, hC₂, hst₂, hl₂, hk₃, hz₂⟩) fun _ _ f => f
    · cases r with
      | none => exact h₁'.elim
      | some v =>
        refine wpAny_bind (wpAny_mono h₁' (fun _ s₃ h₃ => wpAny_bind (wpAny_mono h₃ (fun _ s₄ h₄ => wpAny_bind (wpAny_mono h₄ (fun ok s₅ h₅ => ?_) fun _ _ f => f.elim)) fun _ _ f => f.elim)) fun _ _ f => f.elim)
        cases ok with
        | false =>
          obtain ⟨⟨h₆, tk₆, m₆, Zn, rfl, hn₆, hm₆, hk₆, hZn, hJ₆⟩, ⟨oC, hoC⟩, hst₂, hl₂, hk₂, hz₂⟩ := h₅
          refine wpAny_pure ⟨rfl, n + 1 - (i + 1), by omega, h₆, tk₆, m₆, i + 1, ys, Zn ++ Z, rfl, hlt, rfl, by omega, W.frame _ _ _ hst₂ fun b hb o e => hk₆ b o (fun q => hC (q ▸ hb)) e, hn₆, hm₆, hk₆ D _ hCD.symm hl₂, fun b o hb hbC hbD e => hk₆ b o hbC (hk₂ b o hb hbC hbD e), ?_, ?_, by simpa using hJ₆⟩
          · intro p hp
            rcases List.mem_append.mp hp with hp | hp
            · exact (hZn p hp).1
            · exact hk₆ _ _ (hzo p hp).1 (hz₂ p hp)
          · intro p hp
            rcases List.mem_append.mp hp with hp | hp
            · have e := (hZn p hp).2
              refine ⟨fun q => ?_, fun q => ?_, fun q => ?_⟩
              · rw [q, hoC] at e; cases e
              · rw [q, hl₂] at e; cases e
              · obtain ⟨o, ho⟩ := W.live _ _ hst₂ _ q
                rw [ho] at e; cases e
            · exact hzo p hp
        | true =>
          refine wpAny_bind (wpAny_bind (wpAny_mono h₅ (fun y s₆ h₆ => ?_) fun _ _ f => f.elim))
          obtain ⟨⟨h₆, tk₆, m₆, Zn, rfl, hn₆, hm₆, hk₆, hZn, hJ₆⟩, ⟨oC, hoC⟩, hst₂, hl₂, hk₂, hz₂⟩ := h₆
          have hl₆ := hk₆ D _ hCD.symm hl₂
          refine wpAny_bind (append_at (hsz := by show ys.toArray.size ≤ sizeLine; rw [List.size_toArray]; omega) hl₆ fun h₇ hs₇ hD₇ => wpAny_pure (wpAny_pure ?_))
          have off : ∀ p ∈ Zn ++ Z, p.1 ≠ C ∧ p.1 ≠ D ∧ p.1 ∉ wr := by
            intro p hp
            rcases List.mem_append.mp hp with hp | hp
            · have e := (hZn p hp).2
              refine ⟨fun q => ?_, fun q => ?_, fun q => ?_⟩
              · rw [q, hoC] at e; cases e
              · rw [q, hl₂] at e; cases e
              · obtain ⟨o, ho⟩ := W.live _ _ hst₂ _ q
                rw [ho] at e; cases e
            · exact hzo p hp
          refine ⟨rfl, n + 1 - (i + 1), by omega, h₇, tk₆, m₆, i + 1, ys ++ [y], Zn ++ Z, rfl, hlt, rfl, by rw [List.length_append, List.length_singleton]; omega, W.frame _ _ _ hst₂ fun b hb o e => hs₇.extBut b o (fun q => hD (q ▸ hb)) (hk₆ b o (fun q => hC (q ▸ hb)) e), hn₆.sameBut hs₇ hCD, hm₆, hD₇.trans (congrArg some (lst_snoc ys y)), fun b o hb hbC hbD e => hs₇.extBut b o hbD (hk₆ b o hbC (hk₂ b o hb hbC hbD e)), ?_, off, hJ₆⟩
          intro p hp
          refine hs₇.extBut _ _ (off p hp).2.1 ?_
          rcases List.mem_append.mp hp with hp | hp
          · exact (hZn p hp).1
          · exact hk₆ _ _ (hzo p hp).1 (hz₂ p hp)
  · have hin : i = n := by omega
    subst hin
    refine W.done _ _ _ hst' fun h₂ tk₂ hk₂ => wpAny_pure ?_
    exact fin ys Z h₂ tk₂ m hJ (hn'.at' fun o e => hk₂ _ o hCw e) (hk₂ D _ hDw hl') (fun b o hb hbC hbD e => hk₂ b o hb (hk' b o hb hbC hbD e)) (fun p hp => hk₂ _ _ (hzo p hp).2.2 (hz p hp)) fun p hp => ⟨(hzo p hp).1, (hzo p hp).2.1⟩

/-- the end of an outer turn -/
def TurnEnd2 (s₂ : Shared) (C D : Addr) (h : Heap) (J : List Value → List (Addr × Obj) → Prop) (Z : List (Addr × Obj)) (s₅ : Shared) : Prop :=
  ∃ h' tk' m' Zn ys', s₅ = { s₂ with heap := h', toks := tk' } ∧ h'.Ns C m' ∧ h'.get? D = some (lst ys') ∧ (∀ b o, b ≠ C → b ≠ D → h.get? b = some o → h'.get? b = some o) ∧ (∀ p ∈ Zn, h'.get? p.1 = some p.2 ∧ (p ∈ Z ∨ h.get? p.1 = none)) ∧ J ys' Zn

theorem comp_loop2 {elt t1 t2 i1 i2 : Expr} {f2 : List Expr} {scope : Scope} {cl : List (Str × Addr)} {pos : Pos} {s₂ : Shared} {I : Addr} {fp wr : List Addr} {n : Nat} {P : Nat → Heap → Value → Prop} {St : Nat → Heap → Prop}
    (W : Itr prog w A t1 I fp wr n P St) {R : Result → Shared → Prop} {C D : Addr} {h₁ : Heap} {tk₁ : Nat} {m₁ : Str → Option Value} {Z₀ : List (Addr × Obj)}
    (hCD : C ≠ D) (hC : C ∉ fp) (hD : D ∉ fp) (hst : St 0 h₁) (hn : h₁.Ns C m₁) (hl : h₁.get? D = some (lst []))
    (J : Nat → List Value → List (Addr × Obj) → Prop) (h0 : J 0 [] Z₀) (hZ : ∀ p ∈ Z₀, h₁.get? p.1 = some p.2 ∧ p.1 ≠ C ∧ p.1 ≠ D ∧ p.1 ∉ wr)
    (hs2 : ∀ x, foldedSetIterable i2 (compEnvC scope cl C env) x = pure x)
    (step : ∀ i v ys Z m h tk, i < n → P i h v → J i ys Z → h.Ns C m → h.get? D = some (lst ys) → (∀ b o, b ∉ wr → b ≠ C → b ≠ D → h₁.get? b = some o → h.get? b = some o) → Fz Z h → (∀ p ∈ Z, p.1 ≠ C ∧ p.1 ≠ D) →
      wpAny (model prog w) A (assign t1 (compEnvC scope cl C env) v) (fun _ s₃ => wpAny (model prog w) A (eval i2 (compEnvC scope cl C env)) (fun xv s₄ => wpAny (model prog w) A (pyIter xv) (fun it2 s₅ =>
        codeAny (model prog w) A (.compStart (.ListComp elt [⟨t1, i1, [], 0⟩, ⟨t2, i2, f2, 0⟩] scope pos) 1 it2 (.ref D) (compEnvC scope cl C env)) (fun r s₆ => r = .ok .next ∧ TurnEnd2 s₂ C D h (J (i + 1)) Z s₆) s₅) (fun _ _ => False) s₄) (fun _ _ => False) s₃) (fun _ _ => False) { s₂ with heap := h, toks := tk })
    (fin : ∀ ys Z h tk m, J n ys Z → h.Ns C m → h.get? D = some (lst ys) → (∀ b o, b ∉ wr → b ≠ C → b ≠ D → h₁.get? b = some o → h.get? b = some o) → Fz Z h → (∀ p ∈ Z, p.1 ≠ C ∧ p.1 ≠ D) → R (.ok .next) { s₂ with heap := h, toks := tk }) :
    codeAny (model prog w) A (.compLoop (.ListComp elt [⟨t1, i1, [], 0⟩, ⟨t2, i2, f2, 0⟩] scope pos) 0 (.ref I) (.ref D) (compEnvC scope cl C env)) R { s₂ with heap := h₁, toks := tk₁ } := by
  have hCw : C ∉ wr := fun h => hC (W.sub _ h)
  have hDw : D ∉ wr := fun h => hD (W.sub _ h)
  refine codeAny_loop rfl
    (fun k s' => ∃ h tk m i ys Z, s' = { s₂ with heap := h, toks := tk } ∧ i ≤ n ∧ k = n + 1 - i ∧ St i h ∧ h.Ns C m ∧ h.get? D = some (lst ys) ∧ (∀ b o, b ∉ wr → b ≠ C → b ≠ D → h₁.get? b = some o → h.get? b = some o) ∧
      Fz Z h ∧ (∀ p ∈ Z, p.1 ≠ C ∧ p.1 ≠ D ∧ p.1 ∉ wr) ∧ J i ys Z) (fun k s' hI => ?_) (n + 1)
    ⟨h₁, tk₁, m₁, 0, [], Z₀, rfl, Nat.zero_le _, rfl, hst, hn, hl, fun _ _ _ _ _ e => e, fun p hp => (hZ p hp).1, fun p hp => (hZ p hp).2, h0⟩
  obtain ⟨h, tk, m, i, ys, Z, rfl, hi, rfl, hst', hn', hl', hk', hz, hzo, hJ⟩ := hI
  show wpAny _ A ((compTurn (.ListComp elt [⟨t1, i1, [], 0⟩, ⟨t2, i2, f2, 0⟩] scope pos) 0 (.ref I) (.ref D) (compEnvC scope cl C env)).onRaise (fun x => do noteFrame x (compEnvC scope cl C env); theTreesLotGoes x)) _ _ _
  refine wpAny_noted ?_
  rw [turn_two]
  refine wpAny_bind (wpAny_standAt (wpAny_bind ?_))
  by_cases hlt : i < n
  · refine wpAny_mono (W.item i _ (fun v s₁ => wpAny (model prog w) A (assign t1 (compEnvC scope cl C env) v) (fun _ s₃ => wpAny (model prog w) A (eval i2 (compEnvC scope cl C env)) (fun xv s₄ => wpAny (model prog w) A (pyIter xv) (fun it2 s₅ =>
        codeAny (model prog w) A (.compStart (.ListComp elt [⟨t1, i1, [], 0⟩, ⟨t2, i2, f2, 0⟩] scope pos) 1 it2 (.ref D) (compEnvC scope cl C env)) (fun r s₆ => r = .ok .next ∧ TurnEnd2 s₂ C D s₁.heap (J (i + 1)) Z s₆ ∧ (∃ o, s₁.heap.get? C = some o) ∧ St (i + 1) s₁.heap ∧ s₁.heap.get? D = some (lst ys) ∧ (∀ b o, b ∉ wr → b ≠ C → b ≠ D → h₁.get? b = some o → s₁.heap.get? b = some o) ∧ Fz Z s₁.heap) s₅) (fun _ _ => False) s₄) (fun _ _ => False) s₃) (fun _ _ => False) s₁)
        (fun _ _ => False) hlt hst' fun v h₂ tk₂ hP hst₂ hk₂ => ?_) (fun r s₁ h₁' => ?_) fun _ _ f => f.elim
    · have hn₂ : h₂.Ns C m := hn'.at' fun o e => hk₂ _ o hCw e
      have hl₂ := hk₂ D _ hDw hl'
      have hz₂ : Fz Z h₂ := fun p hp => hk₂ _ _ (hzo p hp).2.2 (hz p hp)
      have hC₂ : ∃ o, h₂.get? C = some o := by obtain ⟨o, _, _, e, _⟩ := hn₂; exact ⟨o, e⟩
      have hk₃ : ∀ b o, b ∉ wr → b ≠ C → b ≠ D → h₁.get? b = some o → h₂.get? b = some o := fun b o hb hbC hbD e => hk₂ b o hb (hk' b o hb hbC hbD e)
      refine wpAny_mono (step i v ys Z m h₂ tk₂ hlt hP hJ hn₂ hl₂ hk₃ hz₂ (fun p hp => ⟨(hzo p hp).1, (hzo p hp).2.1⟩)) (fun _ s₃ h₃ => wpAny_mono h₃ (fun _ s₄ h₄ => wpAny_mono h₄ (fun _ s₅ h₅ => codeAny_mono h₅ fun r s₆ h₆ => ?_) fun _ _ f => f) fun _ _ f => f) fun _ _ f => f
      exact ⟨h₆.1, h₆.2, hC₂, hst₂, hl₂, hk₃, hz₂⟩
    · cases r with
      | none => exact h₁'.elim
      | some v =>
        refine wpAny_bind (wpAny_mono h₁' (fun _ s₃ h₃ => wpAny_bind (wpAny_mono h₃ (fun _ s₄ h₄ => wpAny_bind (wpAny_mono h₄ (fun xv s₅ h₅ => ?_) fun _ _ f => f.elim)) fun _ _ f => f.elim)) fun _ _ f => f.elim)
        refine wpAny_bind (wpAny_standAt ?_)
        rw [hs2]
        refine wpAny_bind (wpAny_pure (wpAny_bind (wpAny_holding (wpAny_mono h₅ (fun it2 s₆ h₆ => wpAny_bind (wpAny_runOwn (codeAny_mono h₆ (fun r s₇ h₇ => ?_)))) fun _ _ f => f.elim))))
        obtain ⟨rfl, ⟨h₆, tk₆, m₆, Zn, ys', rfl, hn₆, hl₆, hk₆, hZn, hJ₆⟩, ⟨oC, hoC⟩, hst₂, hl₂, hk₂, hz₂⟩ := h₇
        refine wpAny_pure ⟨rfl, n + 1 - (i + 1), by omega, h₆, tk₆, m₆, i + 1, ys', Zn, rfl, hlt, rfl, W.frame _ _ _ hst₂ fun b hb o e => hk₆ b o (fun q => hC (q ▸ hb)) (fun q => hD (q ▸ hb)) e, hn₆, hl₆, fun b o hb hbC hbD e => hk₆ b o hbC hbD (hk₂ b o hb hbC hbD e), ?_, ?_, hJ₆⟩
        · intro p hp
          exact (hZn p hp).1
        · intro p hp
          rcases (hZn p hp).2 with hp | e
          · exact hzo p hp
          · refine ⟨fun q => ?_, fun q => ?_, fun q => ?_⟩
            · rw [q, hoC] at e; cases e
            · rw [q, hl₂] at e; cases e
            · obtain ⟨o, ho⟩ := W.live _ _ hst₂ _ q
              rw [ho] at e; cases e
  · have hin : i = n := by omega
    subst hin
    refine W.done _ _ _ hst' fun h₂ tk₂ hk₂ => wpAny_pure ?_
    exact fin ys Z h₂ tk₂ m hJ (hn'.at' fun o e => hk₂ _ o hCw e) (hk₂ D _ hDw hl') (fun b o hb hbC hbD e => hk₂ b o hb (hk' b o hb hbC hbD e)) (fun p hp => hk₂ _ _ (hzo p hp).2.2 (hz p hp)) fun p hp => ⟨(hzo p hp).1, (hzo p hp).2.1⟩

/-- what a comprehension of two clauses asks -/
structure CompAt2 (prog : Program) (w : World) (A : Around) (env : Env) (elt t1 i1 t2 i2 : Expr) (f2 : List Expr) (scope : Scope) (pos : Pos) (cl : List (Str × Addr)) (Fin : List Value → List (Addr × Obj) → Prop) (it : Value) (s₂ : Shared) (wr : List Addr) : Prop where
  ex : ∃ I fp n P St Z₀, ∃ J : Nat → List Value → List (Addr × Obj) → Prop, it = .ref I ∧ Itr prog w A t1 I fp wr n P St ∧ St 0 s₂.heap ∧ (∀ b ∈ fp, b < s₂.heap.objs.size) ∧ J 0 [] Z₀ ∧ (∀ p ∈ Z₀, s₂.heap.get? p.1 = some p.2 ∧ p.1 ∉ wr) ∧
    (∀ C D i v ys Z m h tk, s₂.heap.objs.size ≤ C → s₂.heap.objs.size ≤ D → C ≠ D → i < n → P i h v → J i ys Z → h.Ns C m → h.get? D = some (lst ys) → (∀ b o, b ∉ wr → s₂.heap.get? b = some o → h.get? b = some o) → Fz Z h → (∀ p ∈ Z, p.1 ≠ C ∧ p.1 ≠ D) →
      wpAny (model prog w) A (assign t1 (compEnvC scope cl C env) v) (fun _ s₃ => wpAny (model prog w) A (eval i2 (compEnvC scope cl C env)) (fun xv s₄ => wpAny (model prog w) A (pyIter xv) (fun it2 s₅ =>
        codeAny (model prog w) A (.compStart (.ListComp elt [⟨t1, i1, [], 0⟩, ⟨t2, i2, f2, 0⟩] scope pos) 1 it2 (.ref D) (compEnvC scope cl C env)) (fun r s₆ => r = .ok .next ∧ TurnEnd2 s₂ C D h (J (i + 1)) Z s₆) s₅) (fun _ _ => False) s₄) (fun _ _ => False) s₃) (fun _ _ => False) { s₂ with heap := h, toks := tk }) ∧
    (∀ ys Z, J n ys Z → Fin ys Z)

theorem comp_block2 {elt t1 t2 i1 i2 : Expr} {f2 : List Expr} {scope : Scope} {cl : List (Str × Addr)} {pos : Pos} {s₂ : Shared} {it : Value} {wr : List Addr} {Fin : List Value → List (Addr × Obj) → Prop} {RR : Value → Addr → Result → Shared → Prop}
    (hcell : ∀ y ∈ scope.names, y.2 ≠ .cell) (hkind : scope.kind = .function) (hs2 : ∀ C x, foldedSetIterable i2 (compEnvC scope cl C env) x = pure x) (X : CompAt2 prog w A env elt t1 i1 t2 i2 f2 scope pos cl Fin it s₂ wr)
    (hRR : ∀ D C ys Z h tk m, Fin ys Z → s₂.heap.get? D = none → s₂.heap.get? C = none → D ≠ C → h.Ns C m → h.get? D = some (lst ys) → (∀ b o, b ∉ wr → s₂.heap.get? b = some o → h.get? b = some o) → Fz Z h → (∀ p ∈ Z, p.1 ≠ C ∧ p.1 ≠ D) →
      RR (.ref D) C (.ok .next) { s₂ with heap := h, toks := tk }) :
    wpAny (model prog w) A (newList []) (fun acc s₃ => wpAny (model prog w) A (newFunctionEnv scope env.globals cl [] env.qual none .none (some env)) (fun cenv s₄ =>
      codeAny (model prog w) A (.compStart (.ListComp elt [⟨t1, i1, [], 0⟩, ⟨t2, i2, f2, 0⟩] scope pos) 0 it acc { cenv with scope := relabel scope env }) (RR acc cenv.locals) s₄) E s₃) E s₂ := by
  obtain ⟨I, fp, n, P, St, Z₀, J, rfl, W, hst, hfp, h0, hZ, step, fin⟩ := X.ex
  refine wpAny_newObj_type (wpAny_newFunctionEnv hcell (by intro y hy; simp at hy) (fun h₁ hns₁ hsb₁ => ?_) hkind)
  dsimp only at hns₁ hsb₁ ⊢
  generalize hH2 : s₂.heap.push { cls := .type "list", dict := none, data := .seq ([] : List Value).toArray } = H2 at hns₁ hsb₁ ⊢
  have hC : H2.objs.size = s₂.heap.objs.size + 1 := by rw [← hH2, Heap.size_push]
  have hDC : s₂.heap.objs.size ≠ H2.objs.size := by rw [hC]; exact Nat.ne_of_lt (Nat.lt_succ_self _)
  have below : ∀ b, b < s₂.heap.objs.size → b ≠ H2.objs.size ∧ b ≠ s₂.heap.objs.size := fun b hb => ⟨by rw [hC]; exact Nat.ne_of_lt (Nat.lt_succ_of_lt hb), Nat.ne_of_lt hb⟩
  have hDf : s₂.heap.objs.size ∉ fp := fun hm => Nat.lt_irrefl _ (hfp _ hm)
  have hCf : H2.objs.size ∉ fp := fun hm => by have := hfp _ hm; rw [hC] at this; exact Nat.lt_irrefl _ (Nat.lt_of_succ_lt this)
  have old : ∀ b o, s₂.heap.get? b = some o → h₁.get? b = some o := fun b o e => hsb₁.extBut b o (below b (Heap.lt_size e)).1 (Heap.get?_push_of_some _ (hH2 ▸ Heap.get?_push_of_some _ e))
  have hacc : h₁.get? s₂.heap.objs.size = some (lst []) := hsb₁.extBut _ _ hDC (Heap.get?_push_of_some _ (hH2 ▸ Heap.get?_push_size _ rfl))
  have hst₁ : St 0 h₁ := W.frame _ _ _ hst fun b _ o e => old b o e
  have fresh : ∀ a, s₂.heap.objs.size ≤ a → s₂.heap.get? a = none := fun a ha => by
    cases e : s₂.heap.get? a with
    | none => rfl
    | some o' => exact absurd (Heap.lt_size e) (Nat.not_lt.mpr ha)
  have loop : ∀ s₃ : Shared, s₃ = { s₂ with heap := h₁, toks := s₂.toks + ([] : List (Str × Value)).length } →
      codeAny (model prog w) A (.compLoop (.ListComp elt [⟨t1, i1, [], 0⟩, ⟨t2, i2, f2, 0⟩] scope pos) 0 (.ref I) (.ref s₂.heap.objs.size) (compEnvC scope cl H2.objs.size env))
        (RR (.ref s₂.heap.objs.size) H2.objs.size) s₃ := by
    rintro s₃ rfl
    refine comp_loop2 W (Ne.symm hDC) hCf hDf hst₁ hns₁ hacc J h0 (fun p hp => ⟨old _ _ (hZ p hp).1, (below _ (Heap.lt_size (hZ p hp).1)).1, (below _ (Heap.lt_size (hZ p hp).1)).2, (hZ p hp).2⟩) (hs2 _) ?_ ?_
    · intro i v ys Z m h tk hi hP hJ hn hl hk hz hzC
      exact step _ _ i v ys Z m h tk (by rw [hC]; exact Nat.le_succ _) (Nat.le_refl _) (Ne.symm hDC) hi hP hJ hn hl (fun b o hb e => hk b o hb (below b (Heap.lt_size e)).1 (below b (Heap.lt_size e)).2 (old b o e)) hz hzC
    · intro ys Z h tk m hJ hn hl hk hz hzo
      exact hRR _ _ ys Z h tk m (fin ys Z hJ) (fresh _ (Nat.le_refl _)) (fresh _ (by rw [hC]; exact Nat.le_succ _)) hDC hn hl (fun b o hb e => hk b o hb (below b (Heap.lt_size e)).1 (below b (Heap.lt_size e)).2 (old b o e)) hz hzo
  exact codeAny_compStart_list (loop _ rfl) (W.self 0 _ _ _ hst₁ (loop _ rfl))

theorem comp_assign2 {s : Shared} {elt t1 t2 i1 i2 : Expr} {f2 : List Expr} {y : Str} {py : Pos} {scope : Scope} {cl : List (Str × Addr)} {pos spos : Pos} {Q : Flow → Shared → Prop}
    (hsw : swapsWith (.ListComp elt [⟨t1, i1, [], 0⟩, ⟨t2, i2, f2, 0⟩] scope pos) (some (.Name y py)) spos.line env = pure true)
    (hclos : closureFor scope env = pure cl) (hcell : ∀ y ∈ scope.names, y.2 ≠ .cell) (hkind : scope.kind = .function)
    (hnames : ∀ y ∈ scope.names, y.2 = .local → scope.names.lookup y.1 = some .local)
    (hy : env.kindOf y = some .local) (hp : (env.scope.kind == .class || (env.scope.kind == .module && env.locals != env.globals)) = false)
    (h : wpAny (model prog w) A (eval i1 env) (fun xv s₁ => wpAny (model prog w) A (pyIter xv) (fun it s₂ => ∃ Fin wr m, CompAt2 prog w A env elt t1 i1 t2 i2 f2 scope pos cl Fin it s₂ wr ∧ env.locals ∉ wr ∧ s₂.heap.Ns env.locals m ∧
      ∀ D ys Z h tk, Fin ys Z → s₂.heap.get? D = none → h.get? D = some (lst ys) → h.Ns env.locals (fun z => if z = y then some (.ref D) else m z) → (∀ b o, b ≠ env.locals → b ∉ wr → s₂.heap.get? b = some o → h.get? b = some o) →
        (∀ p ∈ Z, p.1 ≠ env.locals → h.get? p.1 = some p.2) → (∀ p ∈ Z, p.1 ≠ D) → Q .next { s₂ with heap := h, toks := tk }) E s₁) E s)
    (hs2 : ∀ C x, foldedSetIterable i2 (compEnvC scope cl C env) x = pure x := by intro _ _; rfl) (hs : ∀ x, foldedSetIterable i1 env x = pure x := by intro _; rfl) :
    wpAny (model prog w) A (exec (.Assign [.Name y py] (.ListComp elt [⟨t1, i1, [], 0⟩, ⟨t2, i2, f2, 0⟩] scope pos) spos) env) Q E s := by
  rw [exec_Assign_Name_used _ _ _ _ hsw]
  refine wpAny_bind (wpAny_standAt (wpAny_bind ?_))
  show wpAny _ A (do let _ ← comprehension (.ListComp elt [⟨t1, i1, [], 0⟩, ⟨t2, i2, f2, 0⟩] scope pos) scope env _ (newList []) false (eval i1 env) (some (assign (.Name y py) env))) _ _ s
  refine wpAny_bind (wpAny_mono (wpAny_comprehension_free (use := some (assign (.Name y py) env)) (Q := fun _ s' => Q .next s') rfl hs hclos hkind hnames
    (wpAny_mono h (fun xv s₁ h₁ => wpAny_mono h₁ (fun it s₂ h₂ => ?_) fun _ _ e => e) fun _ _ e => e)) (fun _ s' hq => wpAny_pure (wpAny_pure hq)) fun _ _ e => e)
  obtain ⟨Fin, wr, m, X, hLf, hn, hQ⟩ := h₂
  refine comp_block2 (RR := fun acc C => compPost (model prog w) A E (some (assign (.Name y py) env)) (fun _ s' => Q .next s') acc C) hcell hkind hs2 X ?_
  intro D C ys Z h' tk m' hF hD hC hDC hnC hlD hk hz hzo
  have hLC : env.locals ≠ C := by rintro rfl; obtain ⟨o, _, _, ho, _⟩ := hn; rw [hC] at ho; cases ho
  have hLD : env.locals ≠ D := by rintro rfl; obtain ⟨o, _, _, ho, _⟩ := hn; rw [hD] at ho; cases ho
  show wpAny _ A (assign (.Name y py) env (.ref D)) _ _ _
  refine wpAny_assign_Name (wpAny_storeName_local hy (hn.at' fun o e => hk _ o hLf e) (fun h₂ hn₂ hs₂ => ?_) hp)
  refine ⟨m', hnC.sameBut hs₂ (Ne.symm hLC), fun h₃ hs₃ => ?_⟩
  refine hQ D ys Z h₃ _ hF hD (hs₃.extBut _ _ hDC (hs₂.extBut _ _ (Ne.symm hLD) hlD)) (hn₂.sameBut hs₃ hLC) (fun b o hbL hbf e =>
    hs₃.extBut b o (by rintro rfl; rw [hC] at e; cases e) (hs₂.extBut b o hbL (hk b o hbf e))) (fun p hp hpL => hs₃.extBut _ _ (hzo p hp).1 (hs₂.extBut _ _ hpL (hz p hp))) fun p hp => (hzo p hp).2
end
end Mine
end

section
open PySem PySem.W PyProof.Rows PySem.Calls PyProof.Rows.LCg
set_option maxRecDepth 100000
set_option maxHeartbeats 8000000
namespace Mine
local macro_rules | `(tactic| walk_at "mine enterC") => `(tactic| (
  (case k6 => k_is)
  (case k7 => k_is)
  (case k9 => exact rfl)
  (case kB => exact rfl)
  (case kD => decide +kernel)
  (case c2 => exact rfl)
  (case c3 => exact rfl)
  (case c4 => exact rfl)))
def prodOne (place : List (Str × Int)) (tw : Str × Int) : List (Str × Int) := place.map fun sm => (tw.1 ++ sm.1, tw.2 * sm.2)
def prodAll (cs : List (List (Str × Int))) : List (Str × Int) := cs.foldl (fun texts place => texts.flatMap (prodOne place)) [(⟨#[]⟩, 1)]
/-- places as the law writes them -/
def FitP (cs : List (List (Str × Int))) : Prop := cs.length ≤ 10 ∧ ∀ c ∈ cs, c.length ≤ 2 ∧ ∀ sm ∈ c, (sm.2 = 1 ∨ sm.2 = -1) ∧ sm.1.length ≤ 1
theorem prodAll_snoc {cs : List (List (Str × Int))} {i : Nat} {c : List (Str × Int)} (h : cs[i]? = some c) : prodAll (cs.take (i + 1)) = (prodAll (cs.take i)).flatMap (prodOne c) := by
  unfold prodAll
  rw [List.take_add_one, h, List.foldl_append]
  rfl
theorem flat_len {α β : Type} {f : α → List β} {k : Nat} : ∀ {l : List α}, (∀ x ∈ l, (f x).length ≤ k) → (l.flatMap f).length ≤ l.length * k
  | [], _ => by simp
  | x :: l, h => by
    rw [List.flatMap_cons, List.length_append, List.length_cons, Nat.succ_mul, Nat.add_comm]
    exact Nat.add_le_add (flat_len fun y hy => h y (.tail _ hy)) (h x (.head _))
theorem prodAll_fit {cs : List (List (Str × Int))} (hf : FitP cs) : ∀ i, i ≤ cs.length → (prodAll (cs.take i)).length ≤ 2 ^ i ∧ ∀ tw ∈ prodAll (cs.take i), (tw.2 = 1 ∨ tw.2 = -1) ∧ tw.1.length ≤ i
  | 0, _ => by
    rw [List.take_zero]
    refine ⟨Nat.le_refl _, fun tw h => ?_⟩
    rw [List.mem_singleton.mp h]; exact ⟨.inl rfl, Nat.le_refl _⟩
  | i + 1, hi => by
    obtain ⟨h1, h2⟩ := prodAll_fit hf i (Nat.le_of_succ_le hi)
    have hc := List.getElem?_eq_getElem (Nat.lt_of_succ_le hi)
    obtain ⟨g1, g2⟩ := hf.2 _ (List.getElem_mem (Nat.lt_of_succ_le hi))
    rw [prodAll_snoc hc]
    refine ⟨Nat.le_trans (flat_len (k := 2) fun x _ => by unfold prodOne; rw [List.length_map]; exact g1) (by rw [Nat.pow_succ]; exact Nat.mul_le_mul_right _ h1), fun tw h => ?_⟩
    obtain ⟨x, hx, hy⟩ := List.mem_flatMap.mp h
    obtain ⟨sm, hs, rfl⟩ := List.mem_map.mp hy
    refine ⟨?_, ?_⟩
    · rcases (h2 x hx).1 with e | e <;> rcases (g2 sm hs).1 with e' | e' <;> simp [e, e']
    · show (x.1 ++ sm.1).length ≤ i + 1
      rw [PySem.Str.length_append]; exact Nat.add_le_add (h2 x hx).2 (g2 sm hs).2
local macro_rules | `(tactic| walk_at "binaryOp Add str str") => `(tactic| (refine PyProof.Rows.add_str ?_ (by assumption); intro _ _))
local macro_rules | `(tactic| walk_at "eval Name") => `(tactic| (refine nameL (by assumption) (by exact rfl) ?_ rfl rfl (by decide)))
theorem turn_tupM {Mp : (Str → Option Value) → Prop} {s₂ : Shared} {C : Addr} {h h6 : Heap} {J : List Value → List (Addr × Obj) → Prop} {ys : List Value} {Z : List (Addr × Obj)} {tk : Nat} {vals : Array Value} {m : Str → Option Value} (hn : h6.Ns C m)
    (hk : ∀ b o, b ≠ C → h.get? b = some o → h6.get? b = some o) (hm : Mp m) (hj : J (ys ++ [.ref h6.objs.size]) ((h6.objs.size, TupO vals 0) :: Z)) :
    TurnEndM Mp s₂ C h J ys Z (some (.ref h6.objs.size)) { s₂ with heap := h6.push (TupO vals 0), toks := tk } := by
  refine ⟨_, _, m, [(h6.objs.size, TupO vals 0)], rfl, hn.keeps fun b o e => Heap.get?_push_of_some _ e, hm, fun b o hb e => Heap.get?_push_of_some _ (hk b o hb e), ?_, hj⟩
  intro p hp
  rw [List.mem_singleton.mp hp]
  exact ⟨Heap.get?_push_size _ rfl, fresh_turn hk hn⟩
theorem product_ok {w : World} {mean : ExcName → Option Value} {mg mb : Str → Option Value} {A : Around} {s : Shared} {E Q : Value → Shared → Prop} {pl : Addr} {pvs : List Value} {cs : List (List (Str × Int))} {Zp : List (Addr × Obj)}
    (G : Gd w mean mg mb s.heap) (hroom : A.depth < recursionLimit) (hh : A.handled = none) (hl : s.heap.IsList pl pvs.toArray) (hz : Fz Zp s.heap) (hps : LsOf SIP Zp pvs cs) (hf : FitP cs)
    (hQ : ∀ a n ys Z h' tk', Up s.heap h' → (∀ p ∈ Z, h'.get? p.1 = some p.2 ∧ s.heap.get? p.1 = none) → (a, W.listOf ys.toArray n) ∈ Z → PsOf SIP Z ys (prodAll cs) → Q (.ref a) { s with heap := h', toks := tk' }) :
    wpAny (model PySem.Challenge.rw_of0018_01.row.prog w) A (call (.ref 142) [.ref pl]) Q E s := by
  have KX := G.K
  have T := G.T
  revert KX; k_fill; intro KX
  refine' enterC (binds := [(Str.ofString "places", .ref pl)]) G ?k6 ?k7 hroom ?k9 ?kB ?kD ?_ ?c2 ?c3 ?c4
  walk_at "mine enterC"
  intro h₁ tk cells F N Y
  have hY := CellsAre.one Y
  obtain ⟨oc0, rfl, hoc⟩ := hY
  refine wpAny_execs_cons ?_
  k_steps
  rename_i tk2 D1 hD1 lD1 ca hca lca h2 F2 N2
  refine wpAny_For ?_
  walk1
  have hl2 : h2.IsList pl pvs.toArray := hl.at fun o e => F2.keep _ _ e
  refine wpAny_pyIter_list hl2 ?_
  have hL2 : s.heap.objs.size < h2.objs.size := F2.ns.lt
  have hpl : pl < s.heap.objs.size := by obtain ⟨_, e, _⟩ := hl; exact Heap.lt_size e
  have F3 := F2.push { cls := .type "list_iterator", data := .fields #[.ref pl, .int 0 0] }
  have N3 : News s.heap s.heap.objs.size (h2.push { cls := .type "list_iterator", data := .fields #[.ref pl, .int 0 0] }) [(s.heap.objs.size + 1, oc0), (ca, W.listOf #[Value.ref D1] 0), (D1, TupO #[.str (Str.ofString "") tk2, .int 1 (tk2 + 1)] 0)] := fun p hp => (N2.grown fun b o e => Heap.get?_push_of_some _ e) p (by
    simp only [List.mem_cons, List.not_mem_nil, or_false] at hp ⊢
    rcases hp with rfl | rfl | rfl
    · exact .inr (.inr rfl)
    · exact .inl rfl
    · exact .inr (.inl rfl))
  refine for_itr (h₀ := s.heap) (itr_list (by exact hh) h2.objs.size pl (Nat.ne_of_lt (Nat.lt_trans hpl hL2)) pvs.toArray) ?_ ?_ (by exact ⟨⟨_, Heap.get?_push_size _ rfl, rfl, rfl⟩, hl2.push _⟩) F3 N3
    (fun i m nx => m (Str.ofString "texts") = m (Str.ofString "texts") ∧ ∃ (oc : Obj) (ca : Addr) (n : Nat) (ys : List Value) (Z : List (Addr × Obj)), m (Str.ofString "texts") = some (.ref ca) ∧ (∃ cv, oc.data = .cell cv) ∧ nx = (s.heap.objs.size + 1, oc) :: Z ∧ (∀ p ∈ Z, p.1 ≠ s.heap.objs.size + 1 ∧ p.1 ≠ h2.objs.size) ∧ (ca, W.listOf ys.toArray n) ∈ Z ∧ PsOf SIP Z ys (prodAll (cs.take i))) ?_ ?_ ?_ ?_
  · intro hm
    rcases im2 hm with e | e
    · exact absurd e (Nat.ne_of_lt hL2)
    · exact absurd e.symm (Nat.ne_of_lt hpl)
  · intro b hb
    rw [List.mem_singleton.mp hb]
    exact fresh_above (Nat.le_of_lt hL2)
  · rintro i m nx ⟨_, oc, ca, n, ys, Z, _, _, rfl, hZ, _, _⟩ p hp hq
    rcases List.mem_cons.mp hp with rfl | hp
    · have := Heap.lt_size (N2 (s.heap.objs.size + 1, oc0) (by simp)).1
      exact absurd this (by rw [show s.heap.objs.size + 1 = h2.objs.size from List.mem_singleton.mp hq]; exact Nat.lt_irrefl _)
    · exact (hZ p hp).2 (List.mem_singleton.mp hq)
  · refine ⟨rfl, oc0, ca, 0, [.ref D1], [(ca, W.listOf #[Value.ref D1] 0), (D1, TupO #[.str (Str.ofString "") tk2, .int 1 (tk2 + 1)] 0)], rfl, ⟨_, hoc⟩, rfl, ?_, .head _, .one (.tail _ (.head _)) (SIP.mk (by rw [qnil]))⟩
    intro p hp
    have h1 := Heap.lt_size (N2 (ca, W.listOf #[Value.ref D1] 0) (by simp)).1
    have h2' := Heap.lt_size (N2 (D1, TupO #[.str (Str.ofString "") tk2, .int 1 (tk2 + 1)] 0) (by simp)).1
    simp only [List.mem_cons, List.not_mem_nil, or_false] at hp
    rcases hp with rfl | rfl
    · exact ⟨Nat.ne_of_gt lca.2, Nat.ne_of_lt h1⟩
    · exact ⟨Nat.ne_of_gt lD1, Nat.ne_of_lt h2'⟩
  · intro i v m₁ nx₁ h tk₁ own hi hv hJ hown hwr F N
    obtain ⟨_, oc, ca, n, ys, Z, hca, ⟨cv, hcv⟩, rfl, hZ, hm, hps'⟩ := hJ
    have hi' : i < cs.length := by rw [← hps.length]; simpa using hi
    obtain ⟨pa, pn, pys, hx, hpaZ, hplace⟩ := hps.get (List.getElem?_eq_getElem hi')
    have ev : v = .ref pa := by
      have : pvs[i]? = some v := by simpa using hv
      rw [hx] at this; exact (Option.some.inj this).symm
    subst ev
    refine wpAny_assign_Name (wpAny_storeName_cell rfl rfl (c := s.heap.objs.size + 1) rfl ⟨oc, (N _ (.head _)).1, hcv⟩ fun h4 hc4 hs4 => ?_)
    obtain ⟨oc4, hoc4, hcv4⟩ := hc4
    have F4 : Fr s.heap s.heap.objs.size h4 m₁ := F.change hs4 (N _ (.head _)).2.1 (N _ (.head _)).2.2
    have hZ4 : ∀ p ∈ Z, h4.get? p.1 = some p.2 := fun p hp => hs4.extBut _ _ (hZ p hp).1 (N p (.tail _ (List.mem_append_left _ hp))).1
    have hown4 : ∀ p ∈ own, h4.get? p.1 = some p.2 ∧ p.1 ≠ s.heap.objs.size + 1 := by
      intro p hp
      have hne : p.1 ≠ s.heap.objs.size + 1 := by
        rcases im2 (hown p hp) with e | e
        · rw [e]; exact Nat.ne_of_gt (Heap.lt_size (N2 (s.heap.objs.size + 1, oc0) (by simp)).1)
        · rw [e]; exact Nat.ne_of_lt (Nat.lt_succ_of_lt hpl)
      exact ⟨hs4.extBut _ _ hne (N p (.tail _ (List.mem_append_right _ hp))).1, hne⟩
    have hL4 : s.heap.objs.size < h4.objs.size := F4.ns.lt
    have hz4 : Fz Zp h4 := fun p hp => F4.keep _ _ (hz p hp)
    obtain ⟨fit1, fit2⟩ := prodAll_fit hf i (Nat.le_of_lt hi')
    obtain ⟨g1, g2⟩ := hf.2 _ (List.getElem_mem hi')
    refine wpAny_execs_cons (comp_assign2 rfl rfl (by decide) rfl (by decide) rfl rfl ?_)
    refine nameL F4.ns hca ?_ rfl rfl (by decide)
    have hlc : h4.IsList ca ys.toArray := ⟨_, hZ4 _ hm, rfl, n, rfl⟩
    refine wpAny_pyIter_list hlc ?_
    dsimp only
    obtain ⟨fp, St, W, hst, hfp1, hfp2⟩ := itr_ps (prog := PySem.Challenge.rw_of0018_01.row.prog) (w := w) (A := A.deeper _) (elts := _) (k := _) (pos := _) hh hps' (h := h4.push { cls := .type "list_iterator", data := .fields #[.ref ca, .int 0 0] }) (I := h4.objs.size) (ax := ca) (fun p hp => Heap.get?_push_of_some _ (hZ4 p hp)) (hlc.push _) ⟨_, Heap.get?_push_size _ rfl, rfl, rfl⟩ (fun p hp => Nat.ne_of_lt (Heap.lt_size (hZ4 p hp)))
    have hsz5 : (h4.push { cls := .type "list_iterator", data := .fields #[.ref ca, .int 0 0] }).objs.size = h4.objs.size + 1 := Heap.size_push ..
    refine ⟨fun ys' Z' => PsOf SIP Z' ys' ((prodAll (cs.take i)).flatMap (prodOne (cs[i]'hi'))) ∧ ∀ p ∈ Z', h4.objs.size + 1 ≤ p.1, [h4.objs.size], m₁, ⟨h4.objs.size, fp, _, _, St, [], (fun j ys' Z' => PsOf SIP Z' ys' (((prodAll (cs.take i)).take j).flatMap (prodOne (cs[i]'hi'))) ∧ ∀ p ∈ Z', h4.objs.size + 1 ≤ p.1), rfl, W, hst, ?_, ?_, ?_, ?_, ?_⟩, ?_, ?_, ?_⟩
    · intro b hb
      obtain ⟨o, e⟩ := hfp1 b hb
      exact Heap.lt_size e
    · exact ⟨.nil, fun p hp => nomatch hp⟩
    · intro p hp; exact nomatch hp
    · intro C D j v ys' Z' m' h5 tk5 hC hD hCD hj hP hJ5 hn5 hl5 hk5 hz5 hzC
      obtain ⟨T', vals, c, hc, rfl, ⟨t1, u1, rfl⟩, hT', _⟩ := hP
      obtain ⟨hps5, hnew5⟩ := hJ5
      have hCge : h4.objs.size + 1 ≤ C := by rw [← hsz5]; exact hC
      have hDge : h4.objs.size + 1 ≤ D := by rw [← hsz5]; exact hD
      have hold5 : ∀ b o, h4.get? b = some o → h5.get? b = some o := fun b o e => hk5 b o (fun q => by
        have := Heap.lt_size e
        rw [List.mem_singleton.mp q] at this
        exact Nat.lt_irrefl _ this) (Heap.get?_push_of_some _ e)
      have hneC : ∀ b o, h4.get? b = some o → b ≠ C ∧ b ≠ D := fun b o e => ⟨Nat.ne_of_lt (Nat.lt_of_lt_of_le (Heap.lt_size e) (Nat.le_of_succ_le hCge)), Nat.ne_of_lt (Nat.lt_of_lt_of_le (Heap.lt_size e) (Nat.le_of_succ_le hDge))⟩
      refine assign_pairC hh hT' hn5 rfl rfl rfl fun h6 tk6 hn6 hk6 => ?_
      have hold6 : ∀ b o, h4.get? b = some o → h6.get? b = some o := fun b o e => hk6 b o (hneC b o e).1 (hold5 b o e)
      refine nameC rfl (hold6 _ _ hoc4) hcv4 ?_ rfl rfl (by decide)
      have hlp : h6.IsList pa pys.toArray := ⟨_, hold6 _ _ (hz4 _ hpaZ), rfl, pn, rfl⟩
      refine wpAny_pyIter_list hlp ?_
      dsimp only
      have hzp6 : Fz Zp h6 := fun p hp => hold6 _ _ (hz4 p hp)
      have hC6 : C < h6.objs.size := hn6.lt
      have hD6 : h6.get? D = some (lst ys') := hk6 _ _ hCD.symm hl5
      obtain ⟨fp2, St2, W2, hst2, hfp3, hfp4⟩ := itr_ps (prog := PySem.Challenge.rw_of0018_01.row.prog) (w := w) (A := A.deeper _) (elts := _) (k := _) (pos := _) hh hplace (h := h6.push { cls := .type "list_iterator", data := .fields #[.ref pa, .int 0 0] }) (I := h6.objs.size) (ax := pa) (fun p hp => Heap.get?_push_of_some _ (hzp6 p hp)) (hlp.push _) ⟨_, Heap.get?_push_size _ rfl, rfl, rfl⟩ (fun p hp => Nat.ne_of_lt (Heap.lt_size (hzp6 p hp)))
      have hsz7 : (h6.push { cls := .type "list_iterator", data := .fields #[.ref pa, .int 0 0] }).objs.size = h6.objs.size + 1 := Heap.size_push ..
      have hD6' : D < h6.objs.size := Heap.lt_size hD6
      have hn7 := hn6.keeps (h' := h6.push { cls := .type "list_iterator", data := .fields #[.ref pa, .int 0 0] }) fun b o e => Heap.get?_push_of_some _ e
      have hCw : ∀ X, X < h6.objs.size → (∃ o, h4.get? X = some o → False) → True := fun _ _ _ => trivial
      have notin : ∀ X, h4.objs.size + 1 ≤ X → X < h6.objs.size → X ∉ fp2 := by
        intro X h1 h2 hm
        rcases hfp4 X hm with e | e | ⟨p, hp, e⟩
        · exact absurd h2 (by rw [e]; exact Nat.lt_irrefl _)
        · have := Heap.lt_size (hz4 _ hpaZ)
          dsimp only at this
          rw [← e] at this
          exact absurd (Nat.lt_of_lt_of_le this (Nat.le_of_succ_le h1)) (Nat.lt_irrefl _)
        · have := Heap.lt_size (hz4 _ hp)
          rw [e] at this
          exact absurd (Nat.lt_of_lt_of_le this (Nat.le_of_succ_le h1)) (Nat.lt_irrefl _)
      have hlen5 := hps5.length
      have hj' : j < (prodAll (cs.take i)).length := hj
      have hi10 : i ≤ 10 := Nat.le_trans (Nat.le_of_lt hi') hf.1
      have hfitn : ys'.length + (cs[i]'hi').length ≤ sizeLine := by
        have a1 : ys'.length ≤ 1024 * 2 := by
          rw [hlen5]
          refine Nat.le_trans (flat_len (k := 2) fun x _ => by unfold prodOne; rw [List.length_map]; exact g1) (Nat.mul_le_mul_right _ ?_)
          rw [List.length_take]
          exact Nat.le_trans (Nat.min_le_right _ _) (Nat.le_trans fit1 (Nat.pow_le_pow_right (by decide) hi10))
        exact Nat.le_trans (Nat.add_le_add a1 g1) (by decide)
      have hc2 := fit2 c (List.mem_of_getElem? hc)
      refine compStart_oneW W2 hst2 ?_
      refine comp_loopG (turnIs_two _ _ _ _ _ _ _ _ _) W2 hfitn (s₂ := { s with heap := h6, toks := tk6 }) hCD (notin C hCge hC6) (notin D hDge hD6') hst2 hn7 (fun m => m (Str.ofString "text") = some (.str c.1 t1) ∧ m (Str.ofString "weight") = some (.int c.2 u1)) ⟨rfl, rfl⟩ (Heap.get?_push_of_some _ hD6)
        (fun k ys2 Z2 => PsOf SIP Z2 ys2 (((prodAll (cs.take i)).take j).flatMap (prodOne (cs[i]'hi')) ++ ((cs[i]'hi').take k).map (fun sm => (c.1 ++ sm.1, c.2 * sm.2))) ∧ (∀ p ∈ Z', p ∈ Z2) ∧ ∀ p ∈ Z2, p ∈ Z' ∨ (h5.get? p.1 = none ∧ h4.objs.size + 1 ≤ p.1)) (Z₀ := Z') ?_ ?_ ?_ ?_
      · exact ⟨by simpa using hps5, fun p hp => hp, fun p hp => .inl hp⟩
      · intro p hp
        have h5p := hz5 p hp
        have h6p := hk6 _ _ (hzC p hp).1 h5p
        exact ⟨Heap.get?_push_of_some _ h6p, (hzC p hp).1, (hzC p hp).2, fun q => absurd (Heap.lt_size h6p) (by rw [List.mem_singleton.mp q]; exact Nat.lt_irrefl _)⟩
      · intro k v ys2 Z2 m8 h8 tk8 hk hP hJ hn8 hm8 hk8 hz8 hzC8 hD8
        rw [canon2 hm8.1 hm8.2] at hn8
        obtain ⟨T2, vals2, e, he, rfl, ⟨t2, u2, rfl⟩, hT2, _⟩ := hP
        obtain ⟨hps8, hsub8, hnew8⟩ := hJ
        have he2 := g2 e (List.mem_of_getElem? he)
        refine assign_pairC hh hT2 hn8 rfl rfl rfl fun h9 tk9 hn9 hk9 => ?_
        refine wpAny_tests_nil ?_
        rw [if_pos rfl]
        refine wpAny_Tuple_spliced ?_
        clear F N F2 N2 F3 N3 F4
        dsimp only at hn9 ⊢
        have hadd : c.1.length + e.1.length ≤ sizeLine := Nat.le_trans (Nat.add_le_add (Nat.le_trans hc2.2 hi10) he2.2) (by decide)
        have hc3 : c.2 ≤ 1 ∧ -1 ≤ c.2 := by omega
        have he3 : e.2 ≤ 1 ∧ -1 ≤ e.2 := by omega
        obtain ⟨hc4, hc5⟩ := hc3
        obtain ⟨he4, he5⟩ := he3
        k_steps
        refine turn_tupM hn9 hk9 ⟨rfl, rfl⟩ ⟨?_, fun p hp => .tail _ (hsub8 p hp), ?_⟩
        · rw [List.take_add_one, he, List.map_append, ← List.append_assoc]
          exact (hps8.mono fun p hp => .tail _ hp).append (.one (.head _) (SIP.mk rfl))
        · intro p hp
          rcases List.mem_cons.mp hp with rfl | hp
          · refine .inr ⟨?_, Nat.le_trans hCge (Nat.le_of_lt hn9.lt)⟩
            cases e5 : h5.get? h9.objs.size with
            | none => rfl
            | some o =>
              have hlt9 : ∀ b o', h9.get? b = some o' → b ≠ h9.objs.size := fun b o' x => Nat.ne_of_lt (Heap.lt_size x)
              obtain ⟨oD, eD⟩ := hD8
              have n1 : h9.objs.size ≠ C := Nat.ne_of_gt hn9.lt
              have n2 : h9.objs.size ≠ D := (hlt9 _ _ (hk9 _ _ hCD.symm eD)).symm
              have e6 := hk6 _ _ n1 e5
              have n3 : h9.objs.size ∉ [h6.objs.size] := fun q => absurd (Heap.lt_size e6) (by rw [List.mem_singleton.mp q]; exact Nat.lt_irrefl _)
              exact absurd rfl (hlt9 _ _ (hk9 _ _ n1 (hk8 _ _ n3 n1 n2 (Heap.get?_push_of_some _ e6))))
          · exact hnew8 p hp
      · rintro ys2 Z2 h8 tk8 m8 ⟨hps8, hsub8, hnew8⟩ hn8 hl8 hk8 hz8 hzo8
        refine ⟨rfl, h8, tk8, m8, Z2, ys2, rfl, hn8, hl8, ?_, ?_, ?_⟩
        · intro b o hbC hbD e
          have e6 := hk6 _ _ hbC e
          exact hk8 b o (fun q => absurd (Heap.lt_size e6) (by rw [List.mem_singleton.mp q]; exact Nat.lt_irrefl _)) hbC hbD (Heap.get?_push_of_some _ e6)
        · intro p hp
          refine ⟨hz8 p hp, ?_⟩
          rcases hnew8 p hp with h | h
          · exact .inl h
          · exact .inr h.1
        · refine ⟨?_, fun p hp => ?_⟩
          · rw [List.take_length] at hps8
            rw [List.take_add_one, hc, List.flatMap_append]
            simpa [prodOne] using hps8
          · rcases hnew8 p hp with h | h
            · exact hnew5 p h
            · exact h.2
    · rintro ys' Z' ⟨h1, h2⟩
      rw [List.take_length] at h1
      exact ⟨h1, h2⟩
    · intro q
      have q' : s.heap.objs.size = h4.objs.size := List.mem_singleton.mp q
      rw [q'] at hL4
      exact Nat.lt_irrefl _ hL4
    · exact F4.ns.keeps fun b o e => Heap.get?_push_of_some _ e
    · rintro D ys' Z' h5 tk5 ⟨hps5, hnew5⟩ hD hlD hn5 hk5 hz5 hzD
      have old5 : ∀ b o, b ≠ s.heap.objs.size → h4.get? b = some o → h5.get? b = some o := fun b o hb e => hk5 b o hb (fun q => absurd (Heap.lt_size e) (by rw [List.mem_singleton.mp q]; exact Nat.lt_irrefl _)) (Heap.get?_push_of_some _ e)
      have hD4 : h4.get? D = none := by
        cases e : h4.get? D with
        | none => rfl
        | some o => rw [Heap.get?_push_of_some _ e] at hD; cases hD
      have hneD : ∀ b o, h4.get? b = some o → D ≠ b := fun b o e q => by rw [q, e] at hD4; cases hD4
      have hD0 : s.heap.get? D = none := by
        cases e : s.heap.get? D with
        | none => rfl
        | some o => rw [F4.keep _ _ e] at hD4; cases hD4
      obtain ⟨oL, eL⟩ : ∃ o, h4.get? s.heap.objs.size = some o := by obtain ⟨o, _, _, e, _⟩ := F4.ns; exact ⟨o, e⟩
      obtain ⟨oI, eI⟩ : ∃ o, h4.get? h2.objs.size = some o := by
        obtain ⟨o, ho⟩ := hwr h2.objs.size (.head _)
        exact ⟨o, (hown4 _ ho).1⟩
      have ge4 : ∀ b o, h4.get? b = some o → ∀ p ∈ Z', p.1 ≠ b := fun b o e p hp => Nat.ne_of_gt (Nat.lt_of_lt_of_le (Nat.lt_succ_of_lt (Heap.lt_size e)) (hnew5 p hp))
      have keep5 : ∀ b o, s.heap.get? b = some o → h5.get? b = some o := fun b o e => old5 b o (Nat.ne_of_lt (Heap.lt_size e)) (F4.keep b o e)
      have F5 : Fr s.heap s.heap.objs.size h5 _ := ⟨hn5, keep5, Nat.le_refl _⟩
      refine wpAny_execs_nil (ForTurn.go (nx₂ := (s.heap.objs.size + 1, oc4) :: ((D, lst ys') :: Z')) F5 (fun p hp => ?_) ⟨rfl, oc4, D, ys'.length, ys', _, by exact if_pos rfl, ⟨_, hcv4⟩, rfl, ?_, .head _, ?_⟩)
      · rcases List.mem_append.mp hp with hp | hp
        · rcases List.mem_cons.mp hp with rfl | hp
          · exact ⟨old5 _ _ (Nat.succ_ne_self _) hoc4, Nat.succ_ne_self _, fresh_above (Nat.le_succ _)⟩
          · rcases List.mem_cons.mp hp with rfl | hp
            · exact ⟨hlD, hneD _ _ eL, hD0⟩
            · exact ⟨hz5 p hp (ge4 _ _ eL p hp), ge4 _ _ eL p hp, fresh_above (Nat.le_trans (Nat.le_of_lt (Nat.lt_succ_of_lt hL4)) (hnew5 p hp))⟩
        · have hN := N p (.tail _ (List.mem_append_right _ hp))
          exact ⟨old5 _ _ hN.2.1 (hown4 p hp).1, hN.2⟩
      · intro p hp
        rcases List.mem_cons.mp hp with rfl | hp
        · exact ⟨hneD _ _ hoc4, hneD _ _ eI⟩
        · exact ⟨ge4 _ _ hoc4 p hp, ge4 _ _ eI p hp⟩
      · rw [prodAll_snoc (List.getElem?_eq_getElem hi')]
        exact hps5.mono fun p hp => .tail _ hp
  · intro h8 tk8 m' nx' F8 N8 hJ
    obtain ⟨_, oc, ca, n, ys, Z, hca, _, rfl, hZ, hm, hps'⟩ := hJ
    refine wpAny_execs_nil ?_
    refine wpAny_execs_cons (wpAny_Return_some (nameL F8.ns hca ?_ rfl rfl (by decide)))
    refine hQ ca n ys Z h8 tk8 F8.keep (fun p hp => ⟨(N8 p (.tail _ hp)).1, (N8 p (.tail _ hp)).2.2⟩) hm ?_
    have e : cs.take pvs.toArray.size = cs := List.take_of_length_le (by rw [List.size_toArray, hps.length]; exact Nat.le_refl _)
    rw [e] at hps'
    exact hps'
end Mine
end

section
open PySem PySem.W PyProof.Rows PySem.Calls PyProof.Rows.LCg
set_option maxRecDepth 100000
set_option maxHeartbeats 8000000
namespace Mine
local macro_rules | `(tactic| walk_at "mine enter") => `(tactic| (
  (case k6 => k_is)
  (case k7 => k_is)
  (case k9 => exact rfl)
  (case c5 => decide)
  (case kB => exact locs rfl)
  (case c2 => exact rfl)
  (case c3 => exact rfl)
  (case c4 => exact rfl)))
/-- what the picks are -/
structure GoodP (ps : List Int) : Prop where
  nodup : ps.Nodup
  pow : ∀ p ∈ ps, ∃ k : Nat, k < 12 ∧ p = 2 ^ k
theorem canon1 {m : Str → Option Value} {a : Str} {x : Value} (h1 : m a = some x) : m = fun z => if z = a then some x else m z := by
  funext z
  by_cases e : z = a
  · rw [e, h1, if_pos rfl]
  · rw [if_neg e]
theorem swapP {h₀ h : Heap} {L : Addr} {a b c d : Addr × Obj} (N : News h₀ L h [a, b, c, d]) : News h₀ L h (d :: a :: [b, c]) := by
  intro p hp
  refine N p ?_
  simp only [List.mem_cons, List.not_mem_nil, or_false] at hp ⊢
  rcases hp with h | h | h | h <;> simp [h]
theorem sumU {prog : Program} {w : World} {A : Around} {E : Value → Shared → Prop} {s : Shared} {l : Addr} {vs : List Value} {ns : List Int} {Q : Value → Shared → Prop} (hh : A.handled = none) (hl : s.heap.IsList l vs.toArray) (hi : IntsAre vs ns)
    (h : ∀ h' tk t', Up s.heap h' → Q (.int ns.sum t') { s with heap := h', toks := tk }) : wpAny (model prog w) A (call (.builtin "sum") [.ref l]) Q E s := by
  obtain ⟨xs, hxs⟩ := hi.allInts.items
  rw [hxs] at hl
  refine sum_intListG hh hl fun h' tk t' hk => ?_
  have := h h' tk t' hk
  rw [← hi.numsOf, show vs = vs.toArray.toList from rfl, hxs, nums_intItems] at this
  rw [preSum_eq, List.take_of_length_le (by simp)]; exact this
theorem picks_ok {w : World} {mean : ExcName → Option Value} {mg mb : Str → Option Value} {A : Around} {s : Shared} {E Q : Value → Shared → Prop} {pl : Addr} {dvs : List Value} {ds : List Int}
    (G : Gd w mean mg mb s.heap) (hroom : A.depth < recursionLimit) (hh : A.handled = none) (hl : s.heap.IsList pl dvs.toArray) (hds : IntsAre dvs ds) (hlen : ds.length ≤ 10) 
    (hQ : ∀ a n ys (ps : List Int) (Z : List (Addr × Obj)) h' tk', Up s.heap h' → (∀ p ∈ Z, h'.get? p.1 = some p.2 ∧ s.heap.get? p.1 = none) → (a, W.listOf ys.toArray n) ∈ Z → IntsAre ys ps → GoodP ps → ps ≠ [] → ps.length ≤ 3 → Q (.ref a) { s with heap := h', toks := tk' }) :
    wpAny (model PySem.Challenge.rw_of0018_01.row.prog w) A (call (.ref 118) [.ref pl]) Q E s := by
  have KX := G.K
  have T := G.T
  revert KX; k_fill; intro KX
  refine' enter (binds := [(Str.ofString "draws", .ref pl)]) G ?k6 ?k7 hroom ?k9 ?kB ?_ ?c2 ?c3 ?c4 ?c5
  walk_at "mine enter"
  intro h₁ tk F
  have N := News.nil (h₀ := s.heap) (h := h₁) (L := s.heap.objs.size)
  refine stmt_cut (h₀ := s.heap) (L := s.heap.objs.size) (fun m nx => ∃ pa, m (Str.ofString "draws") = some (.ref pl) ∧ m (Str.ofString "picks") = some (.ref pa) ∧ nx = [(pa, W.listOf #[] 0)]) ?_ ?_
  · k_steps
    rename Fr _ _ _ _ => F2
    rename News _ _ _ _ => N2
    exact StA.mk F2 N2 ⟨_, rfl, rfl, rfl⟩
  · intro h2 tk2 m2 nx2 F2 N2 hJ
    obtain ⟨pa, hm1, hm2, rfl⟩ := hJ
    rw [canon2 hm1 hm2] at F2
    clear F N
    refine wpAny_execs_cons ?_
    refine wpAny_For ?_
    have X0 : ∃ x, s.heap.get? pl = some x := by obtain ⟨o, e, _⟩ := hl; exact ⟨o, e⟩
    refine expr_cut F2 (fun v nx => ∃ a ys xs Z', v = .ref a ∧ nx = (pa, W.listOf #[] 0) :: ((a, W.listOf ys.toArray 0) :: Z') ∧ a ≠ pa ∧ IntsAre ys xs ∧ xs ≠ [] ∧ xs.length ≤ 3) ?_ ?_
    · k_steps
      refine sumU hh (hl.at fun o e => F2.keep _ _ e) hds fun h3 tk3 t3 up3 => ?_
      have F3 := F2.keeps up3
      have N3 := N2.grown up3
      clear F2 N2
      k_steps
      rename_i l1 g1 c1 D1 w1 g2 i1 i2 i3 c2 D2 w2 g3 F4 N4 i4 c3
      refine ExA.mk F4 (swapP N4) ⟨D2, w2, _, _, rfl, rfl, Nat.ne_of_gt c3.2.2, i4, by simp, by rw [List.length_append, i2]; simp; omega⟩
    · intro v h3 tk3 nx3 F3 N3 hJ
      obtain ⟨la, ys, xs, Z', rfl, rfl, hla, hxs, hx0, hx3⟩ := hJ
      have hll : h3.IsList la ys.toArray := ⟨_, (N3 _ (.tail _ (.head _))).1, rfl, _, rfl⟩
      refine wpAny_pyIter_list hll ?_
      dsimp only
      have hL3 : s.heap.objs.size < h3.objs.size := F3.ns.lt
      have hpa3 : pa < h3.objs.size := Heap.lt_size (N3 _ (.head _)).1
      have hla3 : la < h3.objs.size := Heap.lt_size (N3 _ (.tail _ (.head _))).1
      have F4 := F3.push { cls := .type "list_iterator", data := .fields #[.ref la, .int 0 0] }
      have N4 : News s.heap s.heap.objs.size (h3.push { cls := .type "list_iterator", data := .fields #[.ref la, .int 0 0] }) [(pa, PySem.W.listOf #[] 0)] := fun p hp => (N3.grown fun b o e => Heap.get?_push_of_some _ e) p (by rw [List.mem_singleton.mp hp]; exact .head _)
      refine for_itr (h₀ := s.heap) (itr_list (by exact hh) h3.objs.size la (Nat.ne_of_lt hla3) ys.toArray) ?_ ?_ (by exact ⟨⟨_, Heap.get?_push_size _ rfl, rfl, rfl⟩, hll.push _⟩) F4 N4
        (fun i m nx => ∃ (n : Nat) (vs : List Value) (ps : List Int), m (Str.ofString "picks") = some (.ref pa) ∧ nx = [(pa, W.listOf vs.toArray n)] ∧ IntsAre vs ps ∧ GoodP ps ∧ ps.length ≤ i ∧ (0 < i → ps ≠ [])) ?_ ?_ ?_ ?_
      · intro hm
        rcases im2 hm with e | e
        · exact absurd e (Nat.ne_of_lt hL3)
        · exact absurd e.symm (N3 _ (.tail _ (.head _))).2.1
      · intro b hb
        rw [List.mem_singleton.mp hb]
        exact fresh_above (Nat.le_of_lt hL3)
      · rintro i m nx ⟨n, vs, ps, _, rfl, _⟩ p hp hq
        rw [List.mem_singleton.mp hp] at hq
        exact absurd (List.mem_singleton.mp hq) (Nat.ne_of_lt hpa3)
      · exact ⟨0, [], [], rfl, rfl, .nil, ⟨List.nodup_nil, fun p hp => nomatch hp⟩, Nat.le_refl _, fun h => absurd h (Nat.lt_irrefl _)⟩
      · clear N4 F4 N3 F3 F2 N2
        intro i v m₁ nx₁ h4 tk4 own hi hv hJ hown hwr F N
        obtain ⟨n, vs, ps, hm, rfl, hvs, hg, hpl, hp0⟩ := hJ
        have hi' : i < xs.length := by rw [← hxs.length]; simpa using hi
        obtain ⟨tp, hx⟩ := hxs.get i (xs[i]'hi') (List.getElem?_eq_getElem hi')
        have ev : v = .int (xs[i]'hi') tp := by
          have : ys[i]? = some v := by simpa using hv
          rw [hx] at this; exact (Option.some.inj this).symm
        subst ev
        generalize xs[i]'hi' = x at hx ⊢
        rw [canon1 hm] at F
        have offo : OwnOff own [pa] := by
          intro p hp b hb
          rw [List.mem_singleton.mp hb]
          rcases im2 (hown p hp) with e | e
          · rw [e]; exact Nat.ne_of_gt hpa3
          · rw [e]; exact hla
        replace N : News s.heap s.heap.objs.size h4 ((pa, PySem.W.listOf vs.toArray n) :: own) := N
        have hvl : vs.toArray.size ≤ sizeLine := by
          rw [List.size_toArray, hvs.length]
          exact Nat.le_trans hpl (Nat.le_trans (Nat.le_of_lt (Nat.lt_of_lt_of_le hi' hx3)) (by decide))
        k_steps
        all_goals (rename Fr _ _ _ _ => F9; rename News _ _ _ _ => N9; rename (ps.any _ = _) => hany)
        all_goals first
          | refine ForTurn.go (nx₂ := [(pa, PySem.W.listOf vs.toArray n)]) F9 N9 ⟨n, vs, ps, rfl, rfl, hvs, hg, Nat.le_succ_of_le hpl, fun _ => ?_⟩
          | refine ForTurn.go (nx₂ := [(pa, PySem.W.listOf (vs.toArray.push (.int (2 ^ (x.fmod 12).toNat) _)) (n + 1))]) F9 N9 ⟨n + 1, vs ++ [.int (2 ^ (x.fmod 12).toNat) _], ps ++ [2 ^ (x.fmod 12).toNat], rfl, by rw [show ∀ v, (vs ++ [v]).toArray = vs.toArray.push v by intro v; simp], hvs.append (.cons _ _ .nil), ?_, ?_, fun _ => by simp⟩
        · intro q; rw [q] at hany; cases hany
        · refine ⟨List.nodup_append.mpr ⟨hg.nodup, by simp, ?_⟩, ?_⟩
          · intro a ha b hb q
            rw [List.mem_singleton.mp hb] at q
            rw [List.any_eq_false] at hany
            exact hany a ha (by rw [q]; exact beq_self_eq_true _)
          · intro p hp
            rcases List.mem_append.mp hp with hp | hp
            · exact hg.pow p hp
            · exact ⟨(x.fmod 12).toNat, by omega, List.mem_singleton.mp hp⟩
        · rw [List.length_append]; exact Nat.succ_le_succ hpl
      · intro h8 tk8 m8 nx8 F8 N8 hJ
        obtain ⟨n, vs, ps, hm, rfl, hvs, hg, hpl, hp0⟩ := hJ
        refine wpAny_execs_nil ?_
        refine wpAny_execs_cons (wpAny_Return_some (nameL F8.ns hm ?_ rfl rfl (by decide)))
        have e : ys.toArray.size = xs.length := by rw [List.size_toArray, hxs.length]
        rw [e] at hpl hp0
        exact hQ pa n vs ps [(pa, W.listOf vs.toArray n)] h8 tk8 F8.keep (fun p hp => ⟨(N8 p hp).1, (N8 p hp).2.2⟩) (.head _) hvs hg (hp0 (List.length_pos_iff.mpr hx0)) (Nat.le_trans hpl hx3)
end Mine
end

section
open PySem PySem.W PyProof.Rows PySem.Calls PyProof.Rows.LCg PySem.Spec
set_option maxRecDepth 100000
set_option maxHeartbeats 8000000
namespace Mine
def isStr (x : Str) : Value → Bool
  | .str a _ => a == x
  | _ => false
theorem strs_eq {vs : List Value} {ss : List Str} (h : StrsAre vs ss) {x : Str} {t : Tok} : ∀ y ∈ vs, MeetsSeq.EqGives y (.str x t) (isStr x y) := by
  induction h with
  | nil => intro y hy; exact nomatch hy
  | cons a u _ ih =>
    intro y hy
    rcases List.mem_cons.mp hy with rfl | hy
    · exact eqGives_str a x u t
    · exact ih y hy
theorem strs_last {vs : List Value} {ss : List Str} (h : StrsAre vs ss) : ss ≠ [] → ∃ ws ts x t, vs = ws ++ [.str x t] ∧ ss = ts ++ [x] ∧ StrsAre ws ts := by
  induction h with
  | nil => intro h; exact absurd rfl h
  | @cons a u vs ys r ih =>
    intro _
    cases r with
    | nil => exact ⟨[], [], a, u, rfl, rfl, .nil⟩
    | cons b v r' =>
      obtain ⟨ws, ts, x, t, h1, h2, h3⟩ := ih (by simp)
      exact ⟨.str a u :: ws, a :: ts, x, t, by rw [h1]; rfl, by rw [h2]; rfl, .cons a u h3⟩
theorem strs_erase {vs : List Value} {ss : List Str} (h : StrsAre vs ss) {x : Str} : x ∈ ss → ∃ j, ∃ hj : j < vs.length, isStr x vs[j] = true ∧ (∀ m (hm : m < vs.length), m < j → isStr x vs[m] = false) ∧ StrsAre (vs.eraseIdx j) (ss.erase x) := by
  induction h with
  | nil => intro h; exact nomatch h
  | @cons a u vs ys r ih =>
    intro hx
    by_cases e : a == x
    · refine ⟨0, Nat.zero_lt_succ _, e, fun m _ h => absurd h (Nat.not_lt_zero _), ?_⟩
      have : a = x := by simpa using e
      subst this
      simpa using r
    · obtain ⟨j, hj, h1, h2, h3⟩ := ih (by
        rcases List.mem_cons.mp hx with q | q
        · rw [q] at e; simp at e
        · exact q)
      refine ⟨j + 1, Nat.succ_lt_succ hj, h1, ?_, ?_⟩
      · intro m hm hlt
        cases m with
        | zero => simpa [isStr] using e
        | succ m => exact h2 m (Nat.lt_of_succ_lt_succ hm) (Nat.lt_of_succ_lt_succ hlt)
      · rw [List.erase_cons_tail (by simpa using e)]
        exact .cons a u h3
theorem strs_no {vs : List Value} {ss : List Str} (h : StrsAre vs ss) {x : Str} : x ∉ ss → ∀ m (hm : m < vs.length), isStr x vs[m] = false := by
  induction h with
  | nil => intro _ m hm; exact absurd hm (Nat.not_lt_zero _)
  | @cons a u vs ys r ih =>
    intro hx m hm
    cases m with
    | zero => 
      show (a == x) = false
      rw [beq_eq_false_iff_ne]
      rintro rfl
      exact hx (.head _)
    | succ m => exact ih (fun q => hx (.tail _ q)) m (Nat.lt_of_succ_lt_succ hm)
section
variable {prog : Program} {w : World} {A : Around} {E : Value → Shared → Prop} {s : Shared} {h₀ : Heap} {L D : Addr} {m : Str → Option Value} {news news' : List (Addr × Obj)} {n : Nat} {Q : Value → Shared → Prop}
theorem popS {vs : List Value} {x : Value} (F : Fr h₀ L s.heap m) (N : News h₀ L s.heap news) (U : Upd D (listOf (vs ++ [x]).toArray n) (listOf vs.toArray (n + 1)) news news') (hz : vs.length + 1 ≤ sizeLine)
    (h : ∀ h', Fr h₀ L h' m → News h₀ L h' news' → Q x { s with heap := h' }) : wpAny (model prog w) A (call (.builtin "list.pop") [.ref D]) Q E s :=
  kl_pop F N (kpa_last x vs) U (by simpa using hz) h
theorem removeS {vs : List Value} {ss : List Str} {x : Str} {t : Tok} {pre post : List (Addr × Obj)} (F : Fr h₀ L s.heap m) (N : News h₀ L s.heap (pre ++ (D, listOf vs.toArray n) :: post)) (a : ∀ p ∈ pre, p.1 ≠ D) (b : ∀ p ∈ post, p.1 ≠ D) (hs : StrsAre vs ss) (hx : x ∈ ss) (hz : vs.length ≤ sizeLine)
    (h : ∀ h' ws, Fr h₀ L h' m → News h₀ L h' (pre ++ (D, listOf ws.toArray (n + 1)) :: post) → StrsAre ws (ss.erase x) → Q .none { s with heap := h' }) : wpAny (model prog w) A (call (.builtin "list.remove") [.ref D, .str x t]) Q E s := by
  obtain ⟨j, hj, h1, h2, h3⟩ := strs_erase hs hx
  have z := N (D, listOf vs.toArray n) (List.mem_append.mpr (.inr (.head _)))
  refine call_meets PySem.F.slot_list_remove ⟨_, z.1, rfl⟩ PySem.F.entry_list_remove (PySem.F.args_list_remove_2 _ _)
    (MeetsSeq.list_remove D vs.toArray n (.str x t) (isStr x) (fun y hy => strs_eq hs y (by simpa using hy)) j (by simpa using hj) (by simpa using h1) (fun i hi hlt => by have := h2 i (by simpa using hi) hlt; simpa using this) (by simpa using hz))
    ⟨z.1, h _ (vs.eraseIdx j) (F.change (Heap.SameBut.update ..) z.2.1 z.2.2) (ki_turn _ N a b ?_ ?_) h3⟩
  · show vs.toArray.eraseIdxIfInBounds j = (vs.eraseIdx j).toArray
    apply Array.toList_inj.mp
    simp
  · rw [if_neg]
    rw [List.size_toArray, List.size_toArray, List.length_eraseIdx, if_pos hj]
    simp only [beq_iff_eq]
    omega
theorem removeS_none {vs : List Value} {ss : List Str} {x : Str} {t : Tok} (hh : A.handled = none) (N : News h₀ L s.heap news) (hm : (D, listOf vs.toArray n) ∈ news) (hs : StrsAre vs ss) (hx : x ∉ ss)
    (h : ∀ h' tk e, Heap.NewExc s.heap h' e "ValueError" → E (.ref e) { s with heap := h', toks := tk }) : wpAny (model prog w) A (call (.builtin "list.remove") [.ref D, .str x t]) Q E s := by
  have z := N _ hm
  refine call_meets PySem.F.slot_list_remove ⟨_, z.1, rfl⟩ PySem.F.entry_list_remove (PySem.F.args_list_remove_2 _ _)
    (MeetsSeq.list_remove_none D vs.toArray n (.str x t) (isStr x) (fun y hy => strs_eq hs y (by simpa using hy)) (fun i hi => by have := strs_no hs hx i (by simpa using hi); simpa using this))
    ⟨z.1, hh, h⟩
end
local macro_rules | `(tactic| walk_at "mine enter") => `(tactic| (
  (case k6 => k_is)
  (case k7 => k_is)
  (case k9 => exact rfl)
  (case c5 => decide)
  (case kB => exact locs rfl)
  (case c2 => exact rfl)
  (case c3 => exact rfl)
  (case c4 => exact rfl)))
/-- a bag less a bag -/
def Less (ms es os : List Str) : Prop := ∀ t, ms.count t = es.count t - os.count t
def UTurn (I : Shared → Prop) (f : Flow) (s : Shared) : Prop := f = .next ∧ I s
structure UInv (es os ms es' os' : List Str) : Prop where
  c1 : ∀ t, ms.count t + (es'.count t - os'.count t) = es.count t - os.count t
  c2 : ∀ t, os'.count t - es'.count t = os.count t - es.count t
  len1 : ms.length + es'.length ≤ es.length
  len2 : os'.length ≤ os.length
theorem UInv.start {es os : List Str} : UInv es os [] es os := ⟨fun t => by simp, fun t => rfl, by simp, Nat.le_refl _⟩
theorem UInv.hit {es os ms ts os' : List Str} {x : Str} (h : UInv es os ms (ts ++ [x]) os') (hx : x ∈ os') : UInv es os ms ts (os'.erase x) := by
  have hp := List.count_pos_iff.mpr hx
  refine ⟨fun t => ?_, fun t => ?_, ?_, ?_⟩
  · have := h.c1 t
    rw [List.count_append] at this
    rw [List.count_erase]
    by_cases e : x = t
    · subst e; simp at this ⊢; omega
    · have e' : (t == x) = false := by rw [beq_eq_false_iff_ne]; exact fun q => e q.symm
      simp [e, List.count_cons] at this ⊢; simpa [e'] using this
  · have := h.c2 t
    rw [List.count_append] at this
    rw [List.count_erase]
    by_cases e : x = t
    · subst e; simp at this ⊢; omega
    · have e' : (t == x) = false := by rw [beq_eq_false_iff_ne]; exact fun q => e q.symm
      simp [e, List.count_cons] at this ⊢; simpa [e'] using this
  · have := h.len1; rw [List.length_append] at this; simp at this; omega
  · exact Nat.le_trans (List.length_erase_le) h.len2
theorem UInv.miss {es os ms ts os' : List Str} {x : Str} (h : UInv es os ms (ts ++ [x]) os') (hx : x ∉ os') : UInv es os (ms ++ [x]) ts os' := by
  have hp := List.count_eq_zero.mpr hx
  refine ⟨fun t => ?_, fun t => ?_, ?_, h.len2⟩
  · have := h.c1 t
    rw [List.count_append] at this ⊢
    by_cases e : x = t
    · subst e; simp at this ⊢; omega
    · simp [e, List.count_cons] at this ⊢; simpa using this
  · have := h.c2 t
    rw [List.count_append] at this
    by_cases e : x = t
    · subst e; simp at this ⊢; omega
    · simp [e, List.count_cons] at this ⊢; simpa using this
  · have := h.len1; rw [List.length_append] at this ⊢; simp at this ⊢; omega
theorem uld_ok {w : World} {mean : ExcName → Option Value} {mg mb : Str → Option Value} {A : Around} {s : Shared} {E Q : Value → Shared → Prop} {h₀ : Heap} {envc : Env} {Lc ea oa : Addr} {mc : Str → Option Value} {rest : List (Addr × Obj)} {en on : Nat} {evs ovs : List Value} {es os : List Str}
    (G : Gd w mean mg mb h₀) (hroom : A.depth < recursionLimit) (hh : A.handled = none) (hfr : A.frames = some [envc]) (hk : envc.scope.kind = .function) (hfc : envc.frame = some Lc)
    (F : Fr h₀ Lc s.heap mc) (N : News h₀ Lc s.heap ((ea, W.listOf evs.toArray en) :: (oa, W.listOf ovs.toArray on) :: rest)) (hne : ea ≠ oa) (hr1 : ∀ p ∈ rest, p.1 ≠ ea) (hr2 : ∀ p ∈ rest, p.1 ≠ oa) (he : StrsAre evs es) (ho : StrsAre ovs os) (hel : es.length ≤ 1000) (hol : os.length ≤ 1000)
    (hQ : ∀ r a n1 n2 n3 ms ls mvs lvs h' tk', Fr h₀ Lc h' mc → News h₀ Lc h' ((r, TupO #[.ref a, .ref oa] 0) :: (a, W.listOf mvs.toArray n1) :: (ea, W.listOf #[] n2) :: (oa, W.listOf lvs.toArray n3) :: rest) → StrsAre mvs ms → StrsAre lvs ls → Less ms es os → Less ls os es → ms.length ≤ es.length → ls.length ≤ os.length → Q (.ref r) { s with heap := h', toks := tk' }) :
    wpAny (model PySem.Challenge.rw_of0018_01.row.prog w) A (call (.ref 104) [.ref ea, .ref oa]) Q E s := by
  have Gs := G.up (h' := s.heap) F.keep
  have KX := Gs.K
  have T := G.T
  revert KX; k_fill; intro KX
  refine' enter (binds := [(Str.ofString "expected", .ref ea), (Str.ofString "actual", .ref oa)]) Gs ?k6 ?k7 hroom ?k9 ?kB ?_ ?c2 ?c3 ?c4 ?c5
  walk_at "mine enter"
  intro h₁ tk F1
  clear KX
  obtain ⟨oL, esL, epL, hL, hLd, hLk, hLf⟩ := F.ns
  have Frs0 : TI.Frs [envc] [(Lc, oL)] := ⟨by rw [hk]; decide, hfc, ⟨esL, epL, hLd⟩, trivial⟩
  have F2 : Fr h₀ s.heap.objs.size h₁ _ := ⟨F1.ns, fun b o e => F1.keep b o (F.keep b o e), Nat.le_trans F.above (Nat.le_of_lt (Heap.lt_size hL))⟩
  have N2 : News h₀ s.heap.objs.size h₁ ((ea, W.listOf evs.toArray en) :: (oa, W.listOf ovs.toArray on) :: (rest ++ [(Lc, oL)])) := by
    intro p hp
    have hp' : p ∈ ((ea, W.listOf evs.toArray en) :: (oa, W.listOf ovs.toArray on) :: rest) ∨ p = (Lc, oL) := by
      simp only [List.mem_cons, List.mem_append, List.not_mem_nil, or_false] at hp ⊢
      rcases hp with h | h | h | h <;> simp [h]
    rcases hp' with hp' | rfl
    · have z := N p hp'
      exact ⟨F1.keep _ _ z.1, Nat.ne_of_lt (Heap.lt_size z.1), z.2.2⟩
    · exact ⟨F1.keep _ _ hL, Nat.ne_of_lt (Heap.lt_size hL), Heap.get?_none_of_le F.above⟩
  have KX := G.K
  clear F1
  refine stmt_cut (h₀ := h₀) (L := s.heap.objs.size) (fun m nx => ∃ ma : Addr, m (Str.ofString "expected") = some (.ref ea) ∧ m (Str.ofString "actual") = some (.ref oa) ∧ m (Str.ofString "missing") = some (.ref ma) ∧ nx = (ma, W.listOf #[] 0) :: (ea, W.listOf evs.toArray en) :: (oa, W.listOf ovs.toArray on) :: (rest ++ [(Lc, oL)]) ∧ ea < ma ∧ oa < ma ∧ AllLt ma (rest ++ [(Lc, oL)])) ?_ ?_
  · k_steps
    rename_i ma g1 lma h3 F3 N3
    exact StA.mk F3 N3 ⟨ma, rfl, rfl, rfl, rfl, lma.1, lma.2.1, lma.2.2⟩
  · clear F2 N2
    intro h2 tk2 m2 nx2 F2 N2 hJ
    obtain ⟨ma, hm1, hm2, hm3, rfl, hlt1, hlt2, hlt3⟩ := hJ
    have hLne : ∀ p ∈ rest, p.1 ≠ Lc := fun p hp => (N p (.tail _ (.tail _ hp))).2.1
    have hLea : ea ≠ Lc := (N _ (.head _)).2.1
    have hLoa : oa ≠ Lc := (N _ (.tail _ (.head _))).2.1
    have hLma : ma ≠ Lc := allLt_ne hlt3 (List.mem_append_right _ (.head _))
    have hma : ∀ p ∈ rest, p.1 ≠ ma := fun p hp => (allLt_ne (x := p.1) (o := p.2) hlt3 (List.mem_append_left _ hp)).symm
    refine wpAny_execs_cons (wpAny_While ?_)
    refine codeAny_whileLoop (fun k s' => ∃ h tk m sl n1 n2 n3 mvs evs ovs ms es' os', s' = { s with heap := h, toks := tk } ∧ k = es'.length ∧ Fr h₀ s.heap.objs.size h m ∧ m (Str.ofString "expected") = some (.ref ea) ∧ m (Str.ofString "actual") = some (.ref oa) ∧ m (Str.ofString "missing") = some (.ref ma) ∧
      News h₀ s.heap.objs.size h ((ma, W.listOf mvs.toArray n1) :: (ea, W.listOf evs.toArray n2) :: (oa, W.listOf ovs.toArray n3) :: (rest ++ [(Lc, { oL with slots := sl })])) ∧ StrsAre mvs ms ∧ StrsAre evs es' ∧ StrsAre ovs os' ∧ UInv es os ms es' os') ?_ es.length
      ⟨h2, tk2, m2, oL.slots, 0, en, on, [], evs, ovs, [], es, os, rfl, rfl, F2, hm1, hm2, hm3, N2, .nil, he, ho, UInv.start⟩
    clear F2 N2 hm1 hm2 hm3
    rintro k s' ⟨h, tk3, m, sl, n1, n2, n3, mvs, evs, ovs, ms, es', os', rfl, rfl, F2, hm1, hm2, hm3, N2, hms, hes, hos, inv⟩
    refine wpAny_mono (Q := fun b s₂ => b = !es'.isEmpty ∧ ∃ tk, s₂ = { s with heap := h, toks := tk }) (E := fun _ _ => False) ?_ ?_ fun _ _ f => f.elim
    · refine wpAny_isTrue_value ?_ rfl
      refine nameL F2.ns hm1 ?_ rfl rfl (by decide)
      have hfit : ((evs.toArray.size : Nat) : Int) < 2 ^ 63 := by
        rw [List.size_toArray, hes.length]
        have := inv.len1
        omega
      refine wpAny_truthy_list (items := evs.toArray) ⟨_, (N2 _ (.tail _ (.head _))).1, rfl, _, rfl⟩ hfit ?_
      refine ⟨?_, _, rfl⟩
      cases hes with
      | nil => rfl
      | cons _ _ _ => rfl
    · rintro b s₂ ⟨rfl, tk4, rfl⟩
      by_cases hcase : es' = []
      · subst hcase
        rw [if_neg (by decide)]
        cases hes
        refine wpAny_execs_nil ?_
        rw [canon3 hm1 hm2 hm3] at F2
        have hLs : h.get? Lc = some { oL with slots := sl } := (N2 _ (.tail _ (.tail _ (.tail _ (List.mem_append_right _ (.head _)))))).1
        show wpAny _ _ (execs _ _) _ _ _
        k_steps
        rename_i D1 g1 F3 N3 lD1
        have hLs3 : g1.get? Lc = some { oL with slots := sl } := (N3 _ (.tail _ (.tail _ (.tail _ (.tail _ (List.mem_append_right _ (.head _))))))).1
        refine hQ D1 ma n1 n2 n3 ms os' mvs ovs _ _ ⟨⟨_, esL, epL, hLs3, hLd, hLk, hLf⟩, F3.keep, F.above⟩ ?_ hms hos ?_ ?_ ?_ inv.len2
        · intro p hp
          have hp' : p ∈ ((D1, TupO #[.ref ma, .ref oa] 0) :: (ma, W.listOf mvs.toArray n1) :: (ea, W.listOf #[] n2) :: (oa, W.listOf ovs.toArray n3) :: (rest ++ [(Lc, ({ oL with slots := sl } : Obj))])) := by
            simp only [List.mem_cons, List.mem_append] at hp ⊢
            rcases hp with h | h | h | h | h <;> simp [h]
          have z := N3 p hp'
          refine ⟨z.1, ?_, z.2.2⟩
          simp only [List.mem_cons] at hp
          rcases hp with rfl | rfl | rfl | rfl | hp
          · exact allLt_ne lD1.2.2.2 (List.mem_append_right _ (.head _))
          · exact hLma
          · exact hLea
          · exact hLoa
          · exact hLne p hp
        · intro t
          have := inv.c1 t
          simpa using this
        · intro t
          have := inv.c2 t
          simpa using this
        · have := inv.len1
          simpa using this
      · obtain ⟨ws, ts, x, t, rfl, rfl, hws⟩ := strs_last hes hcase
        rw [if_pos (by simp)]
        rw [canon3 hm1 hm2 hm3] at F2
        refine wpAny_mono (Q := UTurn fun s' => ∃ h tk m sl n1 n2 n3 mvs evs ovs ms es' os', s' = { s with heap := h, toks := tk } ∧ es' = ts ∧ Fr h₀ s.heap.objs.size h m ∧ m (Str.ofString "expected") = some (.ref ea) ∧ m (Str.ofString "actual") = some (.ref oa) ∧ m (Str.ofString "missing") = some (.ref ma) ∧
          News h₀ s.heap.objs.size h ((ma, W.listOf mvs.toArray n1) :: (ea, W.listOf evs.toArray n2) :: (oa, W.listOf ovs.toArray n3) :: (rest ++ [(Lc, { oL with slots := sl })])) ∧ StrsAre mvs ms ∧ StrsAre evs es' ∧ StrsAre ovs os' ∧ UInv es os ms es' os') (E := fun _ _ => False) ?_ ?_ fun _ _ f => f.elim
        · have hwl : ws.length + 1 ≤ sizeLine := by
            have := inv.len1
            rw [List.length_append, List.length_singleton, ← hws.length] at this
            exact Nat.le_trans (by omega : ws.length + 1 ≤ 1000) (by decide)
          have hol' : ovs.length ≤ sizeLine := by
            rw [hos.length]; exact Nat.le_trans (Nat.le_trans inv.len2 hol) (by decide)
          have hml' : mvs.toArray.size ≤ sizeLine := by
            have := inv.len1
            rw [List.size_toArray, hms.length]
            exact Nat.le_trans (by omega : ms.length ≤ 1000) (by decide)
          have e1 : ea ≠ ma := Nat.ne_of_lt hlt1
          have e2 : oa ≠ ma := Nat.ne_of_lt hlt2
          have hTea : ∀ p ∈ rest ++ [(Lc, ({ oL with slots := sl } : Obj))], p.1 ≠ ea ∧ p.1 ≠ oa ∧ p.1 ≠ ma := by
            intro p hp
            rcases List.mem_append.mp hp with hp | hp
            · exact ⟨hr1 p hp, hr2 p hp, hma p hp⟩
            · rw [List.mem_singleton.mp hp]; exact ⟨hLea.symm, hLoa.symm, hLma.symm⟩
          clear hm1 hm2 hm3
          k_steps
          have ra : ∀ p ∈ (oa, W.listOf ovs.toArray n3) :: (rest ++ [(Lc, ({ oL with slots := sl } : Obj))]), p.1 ≠ ea := by
            intro p hp
            rcases List.mem_cons.mp hp with rfl | hp
            · exact hne.symm
            · exact (hTea p hp).1
          refine popS F2 N2 (.tail e1.symm (.head ra)) hwl fun h3 F3 N3 => ?_
          clear F2 N2
          k_steps
          by_cases hx : x ∈ os'
          · rename Fr _ _ _ _ => F4
            rename News _ _ _ _ => N4
            refine removeS (pre := [(ma, W.listOf mvs.toArray n1), (ea, W.listOf ws.toArray (n2 + 1))]) F4 N4 ?_ (fun p hp => (hTea p hp).2.1) hos hx hol' fun h5 ws' F5 N5 hws' => ?_
            · intro p hp
              simp only [List.mem_cons, List.not_mem_nil, or_false] at hp
              rcases hp with rfl | rfl
              · exact e2.symm
              · exact hne
            · clear F4 N4
              k_steps
              refine ⟨rfl, _, _, _, sl, n1, n2 + 1, n3 + 1, mvs, ws, ws', ms, ts, os'.erase x, rfl, rfl, F5, rfl, rfl, rfl, N5, hms, hws, hws', inv.hit hx⟩
          · rename Fr _ _ _ _ => F4
            rename News _ _ _ _ => N4
            refine removeS_none hh N4 (.tail _ (.tail _ (.head _))) hos hx fun h5 tk5 e hexc => ?_
            have Fs1 : TI.Frs [envc] [(Lc, ({ oL with slots := sl } : Obj))] := ⟨by rw [hk]; decide, hfc, ⟨esL, epL, hLd⟩, trivial⟩
            refine TLg.noted_newA (l := [envc]) (frs := [(Lc, ({ oL with slots := sl } : Obj))]) (new := (ma, W.listOf mvs.toArray n1) :: (ea, W.listOf ws.toArray (n2 + 1)) :: (oa, W.listOf ovs.toArray n3) :: rest) hfr Fs1 hexc F4 N4 ?_ ?_
            · intro p hp hm
              have z := N4 p (by
                simp only [List.mem_cons, List.mem_append] at hp ⊢
                rcases hp with h | h | h | h <;> simp [h])
              rcases List.mem_cons.mp hm with q | hm
              · exact z.2.1 q
              · rw [List.map_cons, List.map_nil, List.mem_singleton] at hm
                simp only [List.mem_cons] at hp
                rcases hp with rfl | rfl | rfl | hp
                · exact hLma hm
                · exact hLea hm
                · exact hLoa hm
                · exact hLne p hp hm
            · clear F4 N4
              intro h6 frs' SU Fs2 H
              obtain ⟨sl', rfl⟩ := TLg.one_up SU
              have HH := TT.HeldNA.held H
              k_steps
              rename Fr _ _ _ _ => F7
              rename News _ _ _ _ => N7
              replace N7 : News h₀ s.heap.objs.size _ ((ma, W.listOf mvs.toArray n1) :: (ea, W.listOf ws.toArray (n2 + 1)) :: (oa, W.listOf ovs.toArray n3) :: (rest ++ [(Lc, ({ oL with slots := sl' } : Obj))])) := N7
              have off7 : OwnOff (rest ++ [(Lc, ({ oL with slots := sl' } : Obj))]) [ma] := by
                intro p hp b hb
                rw [List.mem_singleton.mp hb]
                rcases List.mem_append.mp hp with hp | hp
                · exact hma p hp
                · rw [List.mem_singleton.mp hp]; exact hLma.symm
              k_steps
              rename Fr _ _ _ _ => F8
              rename News _ _ _ _ => N8
              refine ⟨rfl, _, _, _, sl', n1 + 1, n2 + 1, n3, mvs ++ [.str x t], ws, ovs, ms ++ [x], ts, os', rfl, rfl, F8, rfl, rfl, rfl, ?_, StrsAre.snoc hms x t, hws, hos, inv.miss hx⟩
              rw [show (mvs ++ [Value.str x t]).toArray = mvs.toArray.push (.str x t) by simp]
              exact N8
        · rintro f s₃ ⟨rfl, h, tk, m, sl, n1, n2, n3, mvs, evs, ovs, ms, es', os', rfl, rfl, r⟩
          exact ⟨es'.length, by simp, h, tk, m, sl, n1, n2, n3, mvs, evs, ovs, ms, es', os', rfl, rfl, r⟩
end Mine
end

section
open PySem PySem.W PyProof.Rows PySem.Calls PyProof.Rows.LCg
set_option maxRecDepth 100000
set_option maxHeartbeats 8000000
namespace Mine
local macro_rules | `(tactic| walk_at "mine enter") => `(tactic| (
  (case k6 => k_is)
  (case k7 => k_is)
  (case k9 => exact rfl)
  (case c5 => decide)
  (case kB => exact locs rfl)
  (case c2 => exact rfl)
  (case c3 => exact rfl)
  (case c4 => exact rfl)))
theorem base_ok {w : World} {mean : ExcName → Option Value} {mg mb : Str → Option Value} {A : Around} {s : Shared} {E Q : Value → Shared → Prop} {pl : Addr} {dvs : List Value} {ds : List Int}
    (G : Gd w mean mg mb s.heap) (hroom : A.depth < recursionLimit) (hh : A.handled = none) (hl : s.heap.IsList pl dvs.toArray) (hds : IntsAre dvs ds)
    (hQ : ∀ b t h' tk', Up s.heap h' → 0 ≤ b → b < 65536 → Q (.int b t) { s with heap := h', toks := tk' }) :
    wpAny (model PySem.Challenge.rw_of0018_01.row.prog w) A (call (.ref 111) [.ref pl]) Q E s := by
  have KX := G.K
  have T := G.T
  revert KX; k_fill; intro KX
  refine' enter (binds := [(Str.ofString "draws", .ref pl)]) G ?k6 ?k7 hroom ?k9 ?kB ?_ ?c2 ?c3 ?c4 ?c5
  walk_at "mine enter"
  intro h₁ tk F
  have N := News.nil (h₀ := s.heap) (h := h₁) (L := s.heap.objs.size)
  refine stmt_cut (h₀ := s.heap) (L := s.heap.objs.size) (fun m nx => ∃ t, m (Str.ofString "draws") = some (.ref pl) ∧ m (Str.ofString "base") = some (.int 0 t)) ?_ ?_
  · k_steps
    rename Fr _ _ _ _ => F2
    rename News _ _ _ _ => N2
    exact StA.mk F2 N2 ⟨_, rfl, rfl⟩
  · intro h2 tk2 m2 nx2 F2 N2 hJ
    obtain ⟨t0, hm1, hm2⟩ := hJ
    clear F N
    refine wpAny_execs_cons ?_
    refine wpAny_For ?_
    refine nameL F2.ns hm1 ?_ rfl rfl (by decide)
    have hl2 : h2.IsList pl dvs.toArray := hl.at fun o e => F2.keep _ _ e
    refine wpAny_pyIter_list hl2 ?_
    dsimp only
    have hL2 : s.heap.objs.size < h2.objs.size := F2.ns.lt
    have hpl : pl < s.heap.objs.size := by obtain ⟨_, e, _⟩ := hl; exact Heap.lt_size e
    have F3 := F2.push { cls := .type "list_iterator", data := .fields #[.ref pl, .int 0 0] }
    refine for_itr (h₀ := s.heap) (itr_list (by exact hh) h2.objs.size pl (Nat.ne_of_lt (Nat.lt_trans hpl hL2)) dvs.toArray) ?_ ?_ (by exact ⟨⟨_, Heap.get?_push_size _ rfl, rfl, rfl⟩, hl2.push _⟩) F3 News.nil
      (fun i m nx => nx = [] ∧ ∃ b t, m (Str.ofString "base") = some (.int b t) ∧ 0 ≤ b ∧ b < 65536) ?_ ?_ ?_ ?_
    · intro hm
      rcases im2 hm with e | e
      · exact absurd e (Nat.ne_of_lt hL2)
      · exact absurd e.symm (Nat.ne_of_lt hpl)
    · intro b hb
      rw [List.mem_singleton.mp hb]
      exact fresh_above (Nat.le_of_lt hL2)
    · rintro i m nx ⟨rfl, _⟩ p hp
      exact nomatch hp
    · exact ⟨rfl, 0, t0, hm2, by decide, by decide⟩
    · clear F3 F2 N2 hm1 hm2
      intro i v m₁ nx₁ h4 tk4 own hi hv hJ hown hwr F N
      obtain ⟨rfl, b, t, hm, hb0, hb1⟩ := hJ
      have hi' : i < ds.length := by rw [← hds.length]; simpa using hi
      obtain ⟨tp, hx⟩ := hds.get i (ds[i]'hi') (List.getElem?_eq_getElem hi')
      have ev : v = .int (ds[i]'hi') tp := by
        have : dvs[i]? = some v := by simpa using hv
        rw [hx] at this; exact (Option.some.inj this).symm
      subst ev
      generalize ds[i]'hi' = x at hx ⊢
      rw [canon1 hm] at F
      replace N : News s.heap s.heap.objs.size h4 own := N
      k_steps
      rename Fr _ _ _ _ => F9
      rename News _ _ _ _ => N9
      refine ForTurn.go (nx₂ := []) F9 N9 ⟨rfl, (b * 37 + x).fmod 65536, _, rfl, ?_, ?_⟩
      · exact Int.fmod_nonneg_of_pos _ (by decide)
      · exact Int.fmod_lt_of_pos _ (by decide)
    · intro h8 tk8 m8 nx8 F8 N8 hJ
      obtain ⟨rfl, b, t, hm, hb0, hb1⟩ := hJ
      refine wpAny_execs_nil ?_
      refine wpAny_execs_cons (wpAny_Return_some (nameL F8.ns hm ?_ rfl rfl (by decide)))
      exact hQ b t h8 tk8 F8.keep hb0 hb1
end Mine
end

section
open PySem PySem.W PyProof.Rows PySem.Calls PyProof.Rows.LCg
set_option maxRecDepth 100000
set_option maxHeartbeats 4000000
namespace Mine
section
variable {prog : Program} {w : World} {A : Around} {E : Value → Shared → Prop} {env : Env}
def IsCl (h : Heap) (K : Addr) : Prop := ∃ o, h.get? K = some o ∧ ∃ cv, o.data = .cell cv
/-- the end of a turn, where the block owns a cell -/
def TurnEndK (K : Addr) (s₂ : Shared) (C : Addr) (h : Heap) (J : List Value → List (Addr × Obj) → Prop) (ys : List Value) (Z : List (Addr × Obj)) (r : Option Value) (s₅ : Shared) : Prop :=
  ∃ h' tk' m' Zn, s₅ = { s₂ with heap := h', toks := tk' } ∧ h'.Ns C m' ∧ IsCl h' K ∧ (∀ b o, b ≠ C → b ≠ K → h.get? b = some o → h'.get? b = some o) ∧ (∀ p ∈ Zn, h'.get? p.1 = some p.2 ∧ h.get? p.1 = none) ∧ J (ys ++ r.toList) (Zn ++ Z)

theorem comp_loopK {elt target iter : Expr} {ifs : List Expr} {scope : Scope} {cl : List (Str × Addr)} {pos : Pos} {s₂ : Shared} {I : Addr} {fp wr : List Addr} {n : Nat} {P : Nat → Heap → Value → Prop} {St : Nat → Heap → Prop}
    (W : Itr prog w A target I fp wr n P St) (hsz : n ≤ sizeLine) {R : Result → Shared → Prop} {C D K : Addr} {h₁ : Heap} {tk₁ : Nat} {m₁ : Str → Option Value} {Z₀ : List (Addr × Obj)}
    (hCD : C ≠ D) (hKC : K ≠ C) (hKD : K ≠ D) (hC : C ∉ fp) (hD : D ∉ fp) (hK : K ∉ fp) (hcl : IsCl h₁ K) (hst : St 0 h₁) (hn : h₁.Ns C m₁) (hl : h₁.get? D = some (lst []))
    (J : Nat → List Value → List (Addr × Obj) → Prop) (h0 : J 0 [] Z₀) (hZ : ∀ p ∈ Z₀, h₁.get? p.1 = some p.2 ∧ p.1 ≠ C ∧ p.1 ≠ D ∧ p.1 ∉ wr ∧ p.1 ≠ K)
    (step : ∀ i v ys Z m h tk, i < n → P i h v → J i ys Z → h.Ns C m → IsCl h K → (∀ b o, b ∉ wr → b ≠ C → b ≠ D → b ≠ K → h₁.get? b = some o → h.get? b = some o) → Fz Z h → (∀ p ∈ Z, p.1 ≠ C ∧ p.1 ≠ K) → (∃ o, h.get? D = some o) →
      wpAny (model prog w) A (assign target (compEnvC scope cl C env) v) (fun _ s₃ => wpAny (model prog w) A (compTests' ifs (compEnvC scope cl C env)) (fun ok s₄ =>
        if ok = true then wpAny (model prog w) A (eval elt (compEnvC scope cl C env)) (fun y s₅ => TurnEndK K s₂ C h (J (i + 1)) ys Z (some y) s₅) (fun _ _ => False) s₄ else TurnEndK K s₂ C h (J (i + 1)) ys Z none s₄) (fun _ _ => False) s₃) (fun _ _ => False) { s₂ with heap := h, toks := tk })
    (fin : ∀ ys Z h tk m, J n ys Z → h.Ns C m → IsCl h K → h.get? D = some (lst ys) → (∀ b o, b ∉ wr → b ≠ C → b ≠ D → b ≠ K → h₁.get? b = some o → h.get? b = some o) → Fz Z h → (∀ p ∈ Z, p.1 ≠ C ∧ p.1 ≠ D ∧ p.1 ≠ K) → R (.ok .next) { s₂ with heap := h, toks := tk }) :
    codeAny (model prog w) A (.compLoop (.ListComp elt [⟨target, iter, ifs, 0⟩] scope pos) 0 (.ref I) (.ref D) (compEnvC scope cl C env)) R { s₂ with heap := h₁, toks := tk₁ } := by
  have hCw : C ∉ wr := fun h => hC (W.sub _ h)
  have hDw : D ∉ wr := fun h => hD (W.sub _ h)
  have hKw : K ∉ wr := fun h => hK (W.sub _ h)
  refine codeAny_loop rfl
    (fun k s' => ∃ h tk m i ys Z, s' = { s₂ with heap := h, toks := tk } ∧ i ≤ n ∧ k = n + 1 - i ∧ ys.length ≤ i ∧ St i h ∧ h.Ns C m ∧ IsCl h K ∧ h.get? D = some (lst ys) ∧ (∀ b o, b ∉ wr → b ≠ C → b ≠ D → b ≠ K → h₁.get? b = some o → h.get? b = some o) ∧
      Fz Z h ∧ (∀ p ∈ Z, p.1 ≠ C ∧ p.1 ≠ D ∧ p.1 ∉ wr ∧ p.1 ≠ K) ∧ J i ys Z) (fun k s' hI => ?_) (n + 1)
    ⟨h₁, tk₁, m₁, 0, [], Z₀, rfl, Nat.zero_le _, rfl, Nat.le_refl _, hst, hn, hcl, hl, fun _ _ _ _ _ _ e => e, fun p hp => (hZ p hp).1, fun p hp => (hZ p hp).2, h0⟩
  obtain ⟨h, tk, m, i, ys, Z, rfl, hi, rfl, hyl, hst', hn', hcl', hl', hk', hz, hzo, hJ⟩ := hI
  show wpAny _ A ((compTurn (.ListComp elt [⟨target, iter, ifs, 0⟩] scope pos) 0 (.ref I) (.ref D) (compEnvC scope cl C env)).onRaise (fun x => do noteFrame x (compEnvC scope cl C env); theTreesLotGoes x)) _ _ _
  refine wpAny_noted ?_
  rw [compTurn_list]
  refine wpAny_bind (wpAny_standAt (wpAny_bind ?_))
  by_cases hlt : i < n
  · refine wpAny_mono (W.item i _ (fun v s₁ => wpAny (model prog w) A (assign target (compEnvC scope cl C env) v) (fun _ s₃ => wpAny (model prog w) A (compTests' ifs (compEnvC scope cl C env)) (fun ok s₄ =>
        if ok = true then wpAny (model prog w) A (eval elt (compEnvC scope cl C env)) (fun y s₅ => TurnEndK K s₂ C s₁.heap (J (i + 1)) ys Z (some y) s₅ ∧ (∃ o, s₁.heap.get? C = some o) ∧ St (i + 1) s₁.heap ∧ s₁.heap.get? D = some (lst ys) ∧ (∀ b o, b ∉ wr → b ≠ C → b ≠ D → b ≠ K → h₁.get? b = some o → s₁.heap.get? b = some o) ∧ (∃ o, s₁.heap.get? K = some o) ∧ Fz Z s₁.heap) (fun _ _ => False) s₄
        else TurnEndK K s₂ C s₁.heap (J (i + 1)) ys Z none s₄ ∧ (∃ o, s₁.heap.get? C = some o) ∧ St (i + 1) s₁.heap ∧ s₁.heap.get? D = some (lst ys) ∧ (∀ b o, b ∉ wr → b ≠ C → b ≠ D → b ≠ K → h₁.get? b = some o → s₁.heap.get? b = some o) ∧ (∃ o, s₁.heap.get? K = some o) ∧ Fz Z s₁.heap) (fun _ _ => False) s₃) (fun _ _ => False) s₁)
        (fun _ _ => False) hlt hst' fun v h₂ tk₂ hP hst₂ hk₂ => ?_) (fun r s₁ h₁' => ?_) fun _ _ f => f.elim
    · have hn₂ : h₂.Ns C m := hn'.at' fun o e => hk₂ _ o hCw e
      have hl₂ := hk₂ D _ hDw hl'
      have hz₂ : Fz Z h₂ := fun p hp => hk₂ _ _ (hzo p hp).2.2.1 (hz p hp)
      have hC₂ : ∃ o, h₂.get? C = some o := by obtain ⟨o, _, _, e, _⟩ := hn₂; exact ⟨o, e⟩
      have hcl₂ : IsCl h₂ K := by obtain ⟨o, e, r⟩ := hcl'; exact ⟨o, hk₂ _ _ hKw e, r⟩
      have hK₂ : ∃ o, h₂.get? K = some o := by obtain ⟨o, e, r⟩ := hcl₂; exact ⟨o, e⟩
      have hk₃ : ∀ b o, b ∉ wr → b ≠ C → b ≠ D → b ≠ K → h₁.get? b = some o → h₂.get? b = some o := fun b o hb hbC hbD hbK e => hk₂ b o hb (hk' b o hb hbC hbD hbK e)
      refine wpAny_mono (step i v ys Z m h₂ tk₂ hlt hP hJ hn₂ hcl₂ hk₃ hz₂ (fun p hp => ⟨(hzo p hp).1, (hzo p hp).2.2.2⟩) ⟨_, hl₂⟩) (fun _ s₃ h₃ => wpAny_mono h₃ (fun ok s₄ h₄ => ?_) fun _ _ f => f) fun _ _ f => f
      cases ok with
      | false => exact ⟨h₄, hC₂, hst₂, hl₂, hk₃, hK₂, hz₂⟩
      | true => exact wpAny_mono h₄ (fun y s₅ h₅ => ⟨h₅, hC₂, hst₂, hl₂, hk₃, hK₂, hz₂⟩) fun _ _ f => f
    · cases r with
      | none => exact h₁'.elim
      | some v =>
        refine wpAny_bind (wpAny_mono h₁' (fun _ s₃ h₃ => wpAny_bind (wpAny_mono h₃ (fun _ s₄ h₄ => wpAny_bind (wpAny_mono h₄ (fun ok s₅ h₅ => ?_) fun _ _ f => f.elim)) fun _ _ f => f.elim)) fun _ _ f => f.elim)
        cases ok with
        | false =>
          obtain ⟨⟨h₆, tk₆, m₆, Zn, rfl, hn₆, hcl₆, hk₆, hZn, hJ₆⟩, ⟨oC, hoC⟩, hst₂, hl₂, hk₂, ⟨oK, hoK⟩, hz₂⟩ := h₅
          refine wpAny_pure ⟨rfl, n + 1 - (i + 1), by omega, h₆, tk₆, m₆, i + 1, ys, Zn ++ Z, rfl, hlt, rfl, by omega, W.frame _ _ _ hst₂ fun b hb o e => hk₆ b o (fun q => hC (q ▸ hb)) (fun q => hK (q ▸ hb)) e, hn₆, hcl₆, hk₆ D _ hCD.symm hKD.symm hl₂, fun b o hb hbC hbD hbK e => hk₆ b o hbC hbK (hk₂ b o hb hbC hbD hbK e), ?_, ?_, by simpa using hJ₆⟩
          · intro p hp
            rcases List.mem_append.mp hp with hp | hp
            · exact (hZn p hp).1
            · exact hk₆ _ _ (hzo p hp).1 (hzo p hp).2.2.2 (hz₂ p hp)
          · intro p hp
            rcases List.mem_append.mp hp with hp | hp
            · have e := (hZn p hp).2
              refine ⟨fun q => ?_, fun q => ?_, fun q => ?_, fun q => ?_⟩
              · rw [q, hoC] at e; cases e
              · rw [q, hl₂] at e; cases e
              · obtain ⟨o, ho⟩ := W.live _ _ hst₂ _ q
                rw [ho] at e; cases e
              · rw [q, hoK] at e; cases e
            · exact hzo p hp
        | true =>
          refine wpAny_bind (wpAny_bind (wpAny_mono h₅ (fun y s₆ h₆ => ?_) fun _ _ f => f.elim))
          obtain ⟨⟨h₆, tk₆, m₆, Zn, rfl, hn₆, hcl₆, hk₆, hZn, hJ₆⟩, ⟨oC, hoC⟩, hst₂, hl₂, hk₂, ⟨oK, hoK⟩, hz₂⟩ := h₆
          have hl₆ := hk₆ D _ hCD.symm hKD.symm hl₂
          refine wpAny_bind (append_at (hsz := by show ys.toArray.size ≤ sizeLine; rw [List.size_toArray]; omega) hl₆ fun h₇ hs₇ hD₇ => wpAny_pure (wpAny_pure ?_))
          have off : ∀ p ∈ Zn ++ Z, p.1 ≠ C ∧ p.1 ≠ D ∧ p.1 ∉ wr ∧ p.1 ≠ K := by
            intro p hp
            rcases List.mem_append.mp hp with hp | hp
            · have e := (hZn p hp).2
              refine ⟨fun q => ?_, fun q => ?_, fun q => ?_, fun q => ?_⟩
              · rw [q, hoC] at e; cases e
              · rw [q, hl₂] at e; cases e
              · obtain ⟨o, ho⟩ := W.live _ _ hst₂ _ q
                rw [ho] at e; cases e
              · rw [q, hoK] at e; cases e
            · exact hzo p hp
          refine ⟨rfl, n + 1 - (i + 1), by omega, h₇, tk₆, m₆, i + 1, ys ++ [y], Zn ++ Z, rfl, hlt, rfl, by rw [List.length_append, List.length_singleton]; omega, W.frame _ _ _ hst₂ fun b hb o e => hs₇.extBut b o (fun q => hD (q ▸ hb)) (hk₆ b o (fun q => hC (q ▸ hb)) (fun q => hK (q ▸ hb)) e), hn₆.sameBut hs₇ hCD, (by obtain ⟨o, e, r⟩ := hcl₆; exact ⟨o, hs₇.extBut _ _ hKD e, r⟩), hD₇.trans (congrArg some (lst_snoc ys y)), fun b o hb hbC hbD hbK e => hs₇.extBut b o hbD (hk₆ b o hbC hbK (hk₂ b o hb hbC hbD hbK e)), ?_, off, hJ₆⟩
          intro p hp
          refine hs₇.extBut _ _ (off p hp).2.1 ?_
          rcases List.mem_append.mp hp with hp | hp
          · exact (hZn p hp).1
          · exact hk₆ _ _ (hzo p hp).1 (hzo p hp).2.2.2 (hz₂ p hp)
  · have hin : i = n := by omega
    subst hin
    refine W.done _ _ _ hst' fun h₂ tk₂ hk₂ => wpAny_pure ?_
    exact fin ys Z h₂ tk₂ m hJ (hn'.at' fun o e => hk₂ _ o hCw e) (by obtain ⟨o, e, r⟩ := hcl'; exact ⟨o, hk₂ _ _ hKw e, r⟩) (hk₂ D _ hDw hl') (fun b o hb hbC hbD hbK e => hk₂ b o hb (hk' b o hb hbC hbD hbK e)) (fun p hp => hk₂ _ _ (hzo p hp).2.2.1 (hz p hp)) fun p hp => ⟨(hzo p hp).1, (hzo p hp).2.1, (hzo p hp).2.2.2⟩
/-- what a comprehension asks of its source and its turns; Fin: what it leaves -/
structure CompAtK (prog : Program) (w : World) (A : Around) (env : Env) (elt target : Expr) (ifs : List Expr) (scope : Scope) (cl : List (Str × Addr)) (kn : Str) (Fin : Addr → List Value → List (Addr × Obj) → Prop) (it : Value) (s₂ : Shared) (wr : List Addr) : Prop where
  ex : ∃ I fp n P St Z₀, ∃ J : Nat → List Value → List (Addr × Obj) → Prop, it = .ref I ∧ Itr prog w A target I fp wr n P St ∧ n ≤ sizeLine ∧ St 0 s₂.heap ∧ (∀ b ∈ fp, b < s₂.heap.objs.size) ∧ J 0 [] Z₀ ∧ (∀ p ∈ Z₀, s₂.heap.get? p.1 = some p.2 ∧ p.1 ∉ wr) ∧
    (∀ C i v ys Z m h tk, s₂.heap.objs.size ≤ C → i < n → P i h v → J i ys Z → h.Ns C m → IsCl h (C + 1) → (∀ b o, b ∉ wr → s₂.heap.get? b = some o → h.get? b = some o) → Fz Z h → (∀ p ∈ Z, p.1 ≠ C ∧ p.1 ≠ C + 1) →
      wpAny (model prog w) A (assign target (compEnvC scope ((kn, C + 1) :: cl) C env) v) (fun _ s₃ => wpAny (model prog w) A (compTests' ifs (compEnvC scope ((kn, C + 1) :: cl) C env)) (fun ok s₄ =>
        if ok = true then wpAny (model prog w) A (eval elt (compEnvC scope ((kn, C + 1) :: cl) C env)) (fun y s₅ => TurnEndK (C + 1) s₂ C h (J (i + 1)) ys Z (some y) s₅) (fun _ _ => False) s₄ else TurnEndK (C + 1) s₂ C h (J (i + 1)) ys Z none s₄) (fun _ _ => False) s₃) (fun _ _ => False) { s₂ with heap := h, toks := tk }) ∧
    (∀ D ys Z, J n ys Z → Fin D ys Z)

theorem comp_blockK {kn : Str} {elt target iter : Expr} {ifs : List Expr} {scope : Scope} {cl : List (Str × Addr)} {pos : Pos} {s₂ : Shared} {it : Value} {wr : List Addr} {Fin : Addr → List Value → List (Addr × Obj) → Prop} {RR : Value → Addr → Result → Shared → Prop}
    (hcell : ∀ a, cellsFrom a scope.names cl = (kn, a) :: cl) (hpush : ∀ h : Heap, pushCells h scope.names = h.push { cls := .type "cell", data := .cell none }) (X : CompAtK prog w A env elt target ifs scope cl kn Fin it s₂ wr)
    (hRR : ∀ D C ys Z h tk m, Fin D ys Z → s₂.heap.get? D = none → s₂.heap.get? C = none → D ≠ C → h.Ns C m → h.get? D = some (lst ys) → (∀ b o, b ∉ wr → s₂.heap.get? b = some o → h.get? b = some o) → Fz Z h → (∀ p ∈ Z, p.1 ≠ C ∧ p.1 ≠ D) →
      RR (.ref D) C (.ok .next) { s₂ with heap := h, toks := tk }) :
    wpAny (model prog w) A (newList []) (fun acc s₃ => wpAny (model prog w) A (newFunctionEnv scope env.globals cl [] env.qual none .none (some env)) (fun cenv s₄ =>
      codeAny (model prog w) A (.compStart (.ListComp elt [⟨target, iter, ifs, 0⟩] scope pos) 0 it acc { cenv with scope := relabel scope env }) (RR acc cenv.locals) s₄) E s₃) E s₂ := by
  obtain ⟨I, fp, n, P, St, Z₀, J, rfl, W, hsz, hst, hfp, h0, hZ, step, fin⟩ := X.ex
  refine wpAny_newObj_type ?_
  generalize hH2 : s₂.heap.push { cls := .type "list", dict := none, data := .seq ([] : List Value).toArray } = H2
  have hC : H2.objs.size = s₂.heap.objs.size + 1 := by rw [← hH2, Heap.size_push]
  simp only [newFunctionEnv, Option.isSome_some, if_true]
  refine wpAny_bind (wpAny_alloc ?_)
  refine wpAny_bind (wpAny_layCells _ (fun name kind cells => by cases hkc : kind == NameKind.cell <;> simp [hkc]) _ _ _ _ ?_)
  refine wpAny_bind (wpAny_pure (wpAny_pure ?_))
  dsimp only
  rw [hcell, hpush, Heap.size_push]
  have hsz3 : (H2.push { cls := .type "dict", data := .dict #[] }).objs.size = H2.objs.size + 1 := Heap.size_push ..
  generalize hh₁ : (H2.push { cls := .type "dict", data := .dict #[] }).push { cls := .type "cell", data := .cell none } = h₁
  have hcl₁ : IsCl h₁ (H2.objs.size + 1) := ⟨_, by rw [← hh₁, ← hsz3]; exact Heap.get?_push_size _ rfl, _, rfl⟩
  have hns₁ : h₁.Ns H2.objs.size (fun _ => none) := by
    rw [← hh₁]
    exact (Heap.Ns.new H2 (.type "dict")).keeps fun b o e => Heap.get?_push_of_some _ e
  have hDC : s₂.heap.objs.size ≠ H2.objs.size := by rw [hC]; exact Nat.ne_of_lt (Nat.lt_succ_self _)
  have hKD : H2.objs.size + 1 ≠ s₂.heap.objs.size := by rw [hC]; exact Nat.ne_of_gt (Nat.lt_succ_of_lt (Nat.lt_succ_self _))
  have hKC : H2.objs.size + 1 ≠ H2.objs.size := Nat.succ_ne_self _
  have below : ∀ b, b < s₂.heap.objs.size → b ≠ H2.objs.size ∧ b ≠ s₂.heap.objs.size ∧ b ≠ H2.objs.size + 1 := fun b hb => ⟨by rw [hC]; exact Nat.ne_of_lt (Nat.lt_succ_of_lt hb), Nat.ne_of_lt hb, by rw [hC]; exact Nat.ne_of_lt (Nat.lt_succ_of_lt (Nat.lt_succ_of_lt hb))⟩
  have hDf : s₂.heap.objs.size ∉ fp := fun hm => Nat.lt_irrefl _ (hfp _ hm)
  have hCf : H2.objs.size ∉ fp := fun hm => by have := hfp _ hm; rw [hC] at this; exact Nat.lt_irrefl _ (Nat.lt_of_succ_lt this)
  have hKf : H2.objs.size + 1 ∉ fp := fun hm => by have := hfp _ hm; rw [hC] at this; exact Nat.lt_irrefl _ (Nat.lt_of_succ_lt (Nat.lt_of_succ_lt this))
  have old : ∀ b o, s₂.heap.get? b = some o → h₁.get? b = some o := fun b o e => by rw [← hh₁]; exact Heap.get?_push_of_some _ (Heap.get?_push_of_some _ (hH2 ▸ Heap.get?_push_of_some _ e))
  have hacc : h₁.get? s₂.heap.objs.size = some (lst []) := by rw [← hh₁]; exact Heap.get?_push_of_some _ (Heap.get?_push_of_some _ (hH2 ▸ Heap.get?_push_size _ rfl))
  have hst₁ : St 0 h₁ := W.frame _ _ _ hst fun b _ o e => old b o e
  have fresh : ∀ a, s₂.heap.objs.size ≤ a → s₂.heap.get? a = none := fun a ha => by
    cases e : s₂.heap.get? a with
    | none => rfl
    | some o' => exact absurd (Heap.lt_size e) (Nat.not_lt.mpr ha)
  have loop : ∀ s₃ : Shared, s₃ = { s₂ with heap := h₁, toks := s₂.toks } →
      codeAny (model prog w) A (.compLoop (.ListComp elt [⟨target, iter, ifs, 0⟩] scope pos) 0 (.ref I) (.ref s₂.heap.objs.size) (compEnvC scope ((kn, H2.objs.size + 1) :: cl) H2.objs.size env))
        (RR (.ref s₂.heap.objs.size) H2.objs.size) s₃ := by
    rintro s₃ rfl
    refine comp_loopK W hsz (Ne.symm hDC) hKC hKD hCf hDf hKf hcl₁ hst₁ hns₁ hacc J h0 (fun p hp => ⟨old _ _ (hZ p hp).1, (below _ (Heap.lt_size (hZ p hp).1)).1, (below _ (Heap.lt_size (hZ p hp).1)).2.1, (hZ p hp).2, (below _ (Heap.lt_size (hZ p hp).1)).2.2⟩) ?_ ?_
    · intro i v ys Z m h tk hi hP hJ hn hcl hk hz hzC _
      exact step _ i v ys Z m h tk (by rw [hC]; exact Nat.le_succ _) hi hP hJ hn hcl (fun b o hb e => hk b o hb (below b (Heap.lt_size e)).1 (below b (Heap.lt_size e)).2.1 (below b (Heap.lt_size e)).2.2 (old b o e)) hz hzC
    · intro ys Z h tk m hJ hn _ hl hk hz hzo
      exact hRR _ _ ys Z h tk m (fin _ ys Z hJ) (fresh _ (Nat.le_refl _)) (fresh _ (by rw [hC]; exact Nat.le_succ _)) hDC hn hl (fun b o hb e => hk b o hb (below b (Heap.lt_size e)).1 (below b (Heap.lt_size e)).2.1 (below b (Heap.lt_size e)).2.2 (old b o e)) hz fun p hp => ⟨(hzo p hp).1, (hzo p hp).2.1⟩
  exact codeAny_compStart_list (loop _ rfl) (W.self 0 _ _ _ hst₁ (loop _ rfl))

/-- a comprehension stored in a name of the frame -/
theorem comp_assignK {kn : Str} {s : Shared} {elt target iter : Expr} {ifs : List Expr} {y : Str} {py : Pos} {scope : Scope} {cl : List (Str × Addr)} {pos spos : Pos} {Q : Flow → Shared → Prop}
    (hsw : swapsWith (.ListComp elt [⟨target, iter, ifs, 0⟩] scope pos) (some (.Name y py)) spos.line env = pure true)
    (hclos : closureFor scope env = pure cl) (hcell : ∀ a, cellsFrom a scope.names cl = (kn, a) :: cl) (hpush : ∀ h : Heap, pushCells h scope.names = h.push { cls := .type "cell", data := .cell none }) (hkind : scope.kind = .function)
    (hnames : ∀ y ∈ scope.names, y.2 = .local → scope.names.lookup y.1 = some .local)
    (hy : env.kindOf y = some .local) (hp : (env.scope.kind == .class || (env.scope.kind == .module && env.locals != env.globals)) = false)
    (h : wpAny (model prog w) A (eval iter env) (fun xv s₁ => wpAny (model prog w) A (pyIter xv) (fun it s₂ => ∃ Fin wr m, CompAtK prog w A env elt target ifs scope cl kn Fin it s₂ wr ∧ env.locals ∉ wr ∧ s₂.heap.Ns env.locals m ∧
      ∀ D ys Z h tk, Fin D ys Z → s₂.heap.get? D = none → h.get? D = some (lst ys) → h.Ns env.locals (fun z => if z = y then some (.ref D) else m z) → (∀ b o, b ≠ env.locals → b ∉ wr → s₂.heap.get? b = some o → h.get? b = some o) →
        (∀ p ∈ Z, p.1 ≠ env.locals → h.get? p.1 = some p.2) → (∀ p ∈ Z, p.1 ≠ D) → Q .next { s₂ with heap := h, toks := tk }) E s₁) E s)
    (hs : ∀ x, foldedSetIterable iter env x = pure x := by intro _; rfl) :
    wpAny (model prog w) A (exec (.Assign [.Name y py] (.ListComp elt [⟨target, iter, ifs, 0⟩] scope pos) spos) env) Q E s := by
  rw [exec_Assign_Name_used _ _ _ _ hsw]
  refine wpAny_bind (wpAny_standAt (wpAny_bind ?_))
  show wpAny _ A (do let _ ← comprehension (.ListComp elt [⟨target, iter, ifs, 0⟩] scope pos) scope env _ (newList []) false (eval iter env) (some (assign (.Name y py) env))) _ _ s
  refine wpAny_bind (wpAny_mono (wpAny_comprehension_free (use := some (assign (.Name y py) env)) (Q := fun _ s' => Q .next s') rfl hs hclos hkind hnames
    (wpAny_mono h (fun xv s₁ h₁ => wpAny_mono h₁ (fun it s₂ h₂ => ?_) fun _ _ e => e) fun _ _ e => e)) (fun _ s' hq => wpAny_pure (wpAny_pure hq)) fun _ _ e => e)
  obtain ⟨Fin, wr, m, X, hLf, hn, hQ⟩ := h₂
  refine comp_blockK (RR := fun acc C => compPost (model prog w) A E (some (assign (.Name y py) env)) (fun _ s' => Q .next s') acc C) hcell hpush X ?_
  intro D C ys Z h' tk m' hF hD hC hDC hnC hlD hk hz hzo
  have hLC : env.locals ≠ C := by rintro rfl; obtain ⟨o, _, _, ho, _⟩ := hn; rw [hC] at ho; cases ho
  have hLD : env.locals ≠ D := by rintro rfl; obtain ⟨o, _, _, ho, _⟩ := hn; rw [hD] at ho; cases ho
  show wpAny _ A (assign (.Name y py) env (.ref D)) _ _ _
  refine wpAny_assign_Name (wpAny_storeName_local hy (hn.at' fun o e => hk _ o hLf e) (fun h₂ hn₂ hs₂ => ?_) hp)
  refine ⟨m', hnC.sameBut hs₂ (Ne.symm hLC), fun h₃ hs₃ => ?_⟩
  refine hQ D ys Z h₃ _ hF hD (hs₃.extBut _ _ hDC (hs₂.extBut _ _ (Ne.symm hLD) hlD)) (hn₂.sameBut hs₃ hLC) (fun b o hbL hbf e =>
    hs₃.extBut b o (by rintro rfl; rw [hC] at e; cases e) (hs₂.extBut b o hbL (hk b o hbf e))) (fun p hp hpL => hs₃.extBut _ _ (hzo p hp).1 (hs₂.extBut _ _ hpL (hz p hp))) fun p hp => (hzo p hp).2
end
end Mine
end

section
open PySem
set_option maxRecDepth 100000
namespace Mine
/-! signed sums over codes -/
def dlN (j : Nat) (f : Nat → Int) (n : Nat) : Int := f n - f (n ||| 2 ^ j)
def chS (j : Nat) (c : Nat × Int) : Nat × Int := (c.1 ||| 2 ^ j, 1 - c.2)
def chN (b : Nat) (js : List Nat) : List (Nat × Int) := js.foldl (fun cs j => cs ++ cs.map (chS j)) [(b, 0)]
noncomputable def muN (f : Nat → Int) : List (Nat × Int) → Int
  | [] => 0
  | c :: r => (if c.2 = 0 then f c.1 else - f c.1) + muN f r
theorem muN_append (f : Nat → Int) : ∀ a b, muN f (a ++ b) = muN f a + muN f b
  | [], b => by simp [muN]
  | p :: r, b => by rw [List.cons_append, muN, muN, muN_append f r b]; omega
def ParN (L : List (Nat × Int)) : Prop := ∀ c ∈ L, c.2 = 0 ∨ c.2 = 1
theorem muN_chS (f : Nat → Int) (j : Nat) : ∀ L, ParN L → muN f (L.map (chS j)) = - muN (fun o => f (o ||| 2 ^ j)) L
  | [], _ => by simp [muN]
  | c :: r, h => by
    have ih := muN_chS f j r fun x hx => h x (.tail _ hx)
    rw [List.map_cons, muN, muN, ih]
    show (if 1 - c.2 = 0 then f (c.1 ||| 2 ^ j) else - f (c.1 ||| 2 ^ j)) + _ = _
    rcases h c (.head _) with e | e <;> simp [e] <;> omega
theorem muN_sub (f g : Nat → Int) : ∀ L, muN (fun o => f o - g o) L = muN f L - muN g L
  | [] => by simp [muN]
  | c :: r => by
    rw [muN, muN, muN, muN_sub f g r]
    split <;> omega
theorem muN_turn (f : Nat → Int) (j : Nat) (L : List (Nat × Int)) (h : ParN L) : muN f (L ++ L.map (chS j)) = muN (dlN j f) L := by
  rw [muN_append, muN_chS f j L h]
  unfold dlN
  rw [muN_sub]
  omega
theorem par_turn {L : List (Nat × Int)} (h : ParN L) (j : Nat) : ParN (L ++ L.map (chS j)) := by
  intro c hc
  rcases List.mem_append.mp hc with hc | hc
  · exact h c hc
  · obtain ⟨d, hd, rfl⟩ := List.mem_map.mp hc
    show 1 - d.2 = 0 ∨ 1 - d.2 = 1
    rcases h d hd with e | e <;> omega
theorem chN_par {b : Nat} {js : List Nat} : ParN (chN b js) := by
  have key : ∀ (js : List Nat) (L : List (Nat × Int)), ParN L → ParN (js.foldl (fun cs j => cs ++ cs.map (chS j)) L) := by
    intro js
    induction js with
    | nil => intro L h; exact h
    | cons p r ih => intro L h; exact ih _ (par_turn h p)
  exact key js _ fun c hc => by rw [List.mem_singleton.mp hc]; exact .inl rfl
theorem muN_chN (b : Nat) (js : List Nat) (f : Nat → Int) : muN f (chN b js) = js.foldr dlN f b := by
  have key : ∀ (js : List Nat) (L : List (Nat × Int)) (f : Nat → Int), ParN L → muN f (js.foldl (fun cs j => cs ++ cs.map (chS j)) L) = muN (js.foldr dlN f) L := by
    intro js
    induction js with
    | nil => intro L f _; rfl
    | cons p r ih =>
      intro L f h
      rw [List.foldl_cons, ih _ f (par_turn h p), muN_turn _ _ _ h, List.foldr_cons]
  rw [chN, key js _ f fun c hc => by rw [List.mem_singleton.mp hc]; exact .inl rfl]
  simp [muN]
/-! the product over the places -/
def Ign (j : Nat) (U : Nat → Int) : Prop := ∀ o, U (o ||| 2 ^ j) = U o
theorem or_swap (o i j : Nat) : (o ||| 2 ^ i) ||| 2 ^ j = (o ||| 2 ^ j) ||| 2 ^ i := by
  rw [Nat.or_assoc, Nat.or_comm (2 ^ i), ← Nat.or_assoc]
theorem Ign.dl {i j : Nat} {U : Nat → Int} (h : Ign j U) : Ign j (dlN i U) := by
  intro o
  unfold dlN
  rw [or_swap, h, h]
theorem Ign.fold {j : Nat} {U : Nat → Int} (h : Ign j U) : ∀ js : List Nat, Ign j (js.foldr dlN U)
  | [] => h
  | _ :: r => (Ign.fold h r).dl
noncomputable def ex1 {α : Type} (own : α → Nat → Bool) (j : Nat) : List α → Bool
  | [] => false
  | p :: r => if own p j then r.all (fun q => !own q j) else ex1 own j r
noncomputable def pr {α : Type} (V : α → Nat → Nat → Int) : List α → List Nat → Nat → Int
  | [], [], _ => 1
  | p :: r, c :: cs, o => V p c o * pr V r cs o
  | _, _, _ => 0
theorem pr_ign {α : Type} {own : α → Nat → Bool} {V : α → Nat → Nat → Int} {j : Nat} (hV : ∀ p c, own p j = false → Ign j (V p c)) : ∀ (l : List α) (cs : List Nat), l.all (fun q => !own q j) = true → Ign j (pr V l cs)
  | [], [], _ => fun _ => rfl
  | [], _ :: _, _ => fun _ => rfl
  | _ :: _, [], _ => fun _ => rfl
  | p :: r, c :: cs, h => fun o => by
    rw [List.all_cons, Bool.and_eq_true, Bool.not_eq_true'] at h
    show V p c (o ||| 2 ^ j) * pr V r cs (o ||| 2 ^ j) = V p c o * pr V r cs o
    rw [hV p c h.1 o, pr_ign hV r cs h.2 o]
theorem pr_dl {α : Type} {own : α → Nat → Bool} {V : α → Nat → Nat → Int} {j : Nat} (hV : ∀ p c, own p j = false → Ign j (V p c)) : ∀ (l : List α) (cs : List Nat), ex1 own j l = true →
    dlN j (pr V l cs) = pr (fun p c => if own p j then dlN j (V p c) else V p c) l cs
  | [], _, h => by simp [ex1] at h
  | _ :: _, [], _ => by funext o; simp [dlN, pr]
  | p :: r, c :: cs, h => by
    funext o
    rw [ex1] at h
    show V p c o * pr V r cs o - V p c (o ||| 2 ^ j) * pr V r cs (o ||| 2 ^ j) = (if own p j then dlN j (V p c) else V p c) o * pr _ r cs o
    cases hp : own p j with
    | true =>
      rw [if_pos hp] at h
      rw [if_pos rfl, pr_ign hV r cs h o]
      have same : ∀ (l : List α) (cs : List Nat), l.all (fun q => !own q j) = true → pr (fun p c => if own p j then dlN j (V p c) else V p c) l cs o = pr V l cs o := by
        intro l
        induction l with
        | nil => intro cs _; cases cs <;> rfl
        | cons q l ih =>
          intro cs hl
          rw [List.all_cons, Bool.and_eq_true, Bool.not_eq_true'] at hl
          cases cs with
          | nil => rfl
          | cons c cs =>
            show (if own q j then dlN j (V q c) else V q c) o * pr _ l cs o = V q c o * pr V l cs o
            rw [ih cs hl.2, hl.1]; rfl
      rw [same r cs h]
      unfold dlN
      rw [Int.sub_mul]
    | false =>
      rw [if_neg (by rw [hp]; exact Bool.false_ne_true)] at h
      rw [if_neg (by decide), hV p c hp o, ← pr_dl hV r cs h]
      unfold dlN
      rw [Int.mul_sub]
theorem pr_fold {α : Type} {own : α → Nat → Bool} {V : α → Nat → Nat → Int} {l : List α} (hV : ∀ j p c, own p j = false → Ign j (V p c)) (cs : List Nat) : ∀ js : List Nat, (∀ j ∈ js, ex1 own j l = true) →
    js.foldr dlN (pr V l cs) = pr (fun p c => (js.filter (own p)).foldr dlN (V p c)) l cs
  | [], _ => rfl
  | j :: r, h => by
    rw [List.foldr_cons, pr_fold hV cs r fun i hi => h i (.tail _ hi), pr_dl (own := own) (fun p c hp => (hV j p c hp).fold _) l cs (h j (.head _))]
    congr 1
    funext p c
    cases hp : own p j with
    | true => rw [if_pos rfl, List.filter_cons_of_pos hp]; rfl
    | false => rw [if_neg (by decide), List.filter_cons_of_neg (by rw [hp]; decide)]
theorem dl_swap (i j : Nat) (f : Nat → Int) : dlN i (dlN j f) = dlN j (dlN i f) := by
  funext o
  unfold dlN
  rw [or_swap o i j]
  omega
theorem fold_perm {l₁ l₂ : List Nat} (p : l₁.Perm l₂) (f : Nat → Int) : l₁.foldr dlN f = l₂.foldr dlN f :=
  p.foldr_eq' (fun x _ y _ z => dl_swap y x z) f
theorem filt1 {js : List Nat} (h : js.Nodup) (j : Nat) : (js.filter (fun i => i == j)).Perm ([j].filter fun i => js.contains i) := by
  rw [List.perm_iff_count]
  intro a
  by_cases e : a = j
  · subst e
    rw [List.count_filter (by simp), h.count]
    by_cases m : a ∈ js <;> simp [m]
  · have h1 : a ∉ js.filter (fun i => i == j) := by simp [e]
    have h2 : a ∉ [j].filter (fun i => js.contains i) := by simp [e]
    rw [List.count_eq_zero.mpr h1, List.count_eq_zero.mpr h2]
theorem filt2 {js : List Nat} (h : js.Nodup) {s r : Nat} (hsr : s ≠ r) : (js.filter (fun i => i == s || i == r)).Perm ([s, r].filter fun i => js.contains i) := by
  have h3 : ([s, r].filter fun i => js.contains i).Nodup := List.Nodup.sublist List.filter_sublist (by simp [hsr])
  rw [List.perm_iff_count]
  intro a
  by_cases e : (a == s || a == r) = true
  · rw [List.count_filter (p := fun i => i == s || i == r) e, h.count, h3.count]
    have : a ∈ ([s, r].filter fun i => js.contains i) ↔ a ∈ js := by
      rw [List.mem_filter, List.contains_iff_mem]
      simp at e
      simp [e]
    by_cases m : a ∈ js
    · rw [if_pos m, if_pos (this.mpr m)]
    · rw [if_neg m, if_neg (fun q => m (this.mp q))]
  · have h1 : a ∉ js.filter (fun i => i == s || i == r) := by rw [List.mem_filter]; exact fun q => e q.2
    have h2 : a ∉ [s, r].filter (fun i => js.contains i) := by rw [List.mem_filter]; intro q; apply e; simpa using q.1
    rw [List.count_eq_zero.mpr h1, List.count_eq_zero.mpr h2]
end Mine
end

section
open PySem
set_option maxRecDepth 100000
namespace Mine
/-- the weighed count of a text -/
noncomputable def sc (t : Str) : List (Str × Int) → Int
  | [] => 0
  | p :: r => (if p.1 = t then p.2 else 0) + sc t r
theorem sc_append (t : Str) : ∀ a b, sc t (a ++ b) = sc t a + sc t b
  | [], b => by simp [sc]
  | p :: r, b => by rw [List.cons_append, sc, sc, sc_append t r b]; omega
noncomputable def prodR : List (List (Str × Int)) → List (Str × Int)
  | [] => [(⟨#[]⟩, 1)]
  | pl :: r => pl.flatMap fun sm => (prodR r).map fun tw => (sm.1 ++ tw.1, sm.2 * tw.2)
theorem str_assoc (a b c : Str) : (a ++ b) ++ c = a ++ (b ++ c) := by
  show (⟨(a.cps ++ b.cps) ++ c.cps⟩ : Str) = ⟨a.cps ++ (b.cps ++ c.cps)⟩
  rw [Array.append_assoc]
theorem str_nil (a : Str) : (⟨#[]⟩ : Str) ++ a = a := by
  show (⟨#[] ++ a.cps⟩ : Str) = a
  rw [Array.empty_append]
def pOne (place : List (Str × Int)) (tw : Str × Int) : List (Str × Int) := place.map fun sm => (tw.1 ++ sm.1, tw.2 * sm.2)
theorem prodR_fold : ∀ (pls : List (List (Str × Int))) (ts : List (Str × Int)), pls.foldl (fun texts place => texts.flatMap (pOne place)) ts = ts.flatMap (pOne (prodR pls))
  | [], ts => by
    have : ∀ tw : Str × Int, pOne (prodR []) tw = [tw] := by
      intro tw
      show [(tw.1 ++ (⟨#[]⟩ : Str), tw.2 * 1)] = [tw]
      rw [show tw.1 ++ (⟨#[]⟩ : Str) = tw.1 from by show (⟨tw.1.cps ++ #[]⟩ : Str) = tw.1; rw [Array.append_empty], Int.mul_one]
    rw [List.foldl_nil]
    induction ts with
    | nil => rfl
    | cons a r ih => rw [List.flatMap_cons, this, ← ih]; rfl
  | pl :: r, ts => by
    rw [List.foldl_cons, prodR_fold r, List.flatMap_assoc]
    congr 1
    funext tw
    show (pl.map fun sm => (tw.1 ++ sm.1, tw.2 * sm.2)).flatMap (pOne (prodR r)) = (pl.flatMap fun sm => (prodR r).map fun tw => (sm.1 ++ tw.1, sm.2 * tw.2)).map fun sm => (tw.1 ++ sm.1, tw.2 * sm.2)
    rw [List.flatMap_map, List.map_flatMap]
    congr 1
    funext sm
    show (prodR r).map (fun x => ((tw.1 ++ sm.1) ++ x.1, (tw.2 * sm.2) * x.2)) = _
    rw [List.map_map]
    congr 1
    funext x
    show ((tw.1 ++ sm.1) ++ x.1, (tw.2 * sm.2) * x.2) = (tw.1 ++ (sm.1 ++ x.1), tw.2 * (sm.2 * x.2))
    rw [str_assoc, Int.mul_assoc]
theorem prodR_all (pls : List (List (Str × Int))) : pls.foldl (fun texts place => texts.flatMap (pOne place)) [(⟨#[]⟩, 1)] = prodR pls := by
  rw [prodR_fold, List.flatMap_cons, List.flatMap_nil, List.append_nil]
  show (prodR pls).map (fun sm => ((⟨#[]⟩ : Str) ++ sm.1, 1 * sm.2)) = prodR pls
  conv => rhs; rw [← List.map_id (prodR pls)]
  congr 1
  funext sm
  rw [str_nil, Int.one_mul]; rfl
noncomputable def pP : List (List (Str × Int)) → List Nat → Int
  | [], [] => 1
  | pl :: r, c :: cs => sc (one c) pl * pP r cs
  | _, _ => 0
def Ones (pl : List (Str × Int)) : Prop := ∀ sm ∈ pl, ∃ c, sm.1 = one c
theorem one_inj {c d : Nat} (h : one c = one d) : c = d := by
  have : (#[c] : Array Nat) = #[d] := congrArg Str.cps h
  simpa using this
theorem one_app {c d : Nat} {x : Str} {cs : List Nat} : one d ++ x = (⟨(c :: cs).toArray⟩ : Str) ↔ d = c ∧ x = ⟨cs.toArray⟩ := by
  constructor
  · intro h
    have h1 : (#[d] ++ x.cps) = (c :: cs).toArray := congrArg Str.cps h
    have h2 : d :: x.cps.toList = c :: cs := by
      have := congrArg Array.toList h1
      simpa using this
    injection h2 with e1 e2
    exact ⟨e1, Str.ext' (by show x.cps = cs.toArray; rw [← e2])⟩
  · rintro ⟨rfl, rfl⟩
    show (⟨#[d] ++ cs.toArray⟩ : Str) = _
    simp
theorem sc_pre (d : Nat) (m : Int) (c : Nat) (cs : List Nat) : ∀ L : List (Str × Int), sc ⟨(c :: cs).toArray⟩ (L.map fun tw => (one d ++ tw.1, m * tw.2)) = (if d = c then m else 0) * sc ⟨cs.toArray⟩ L
  | [] => by simp [sc]
  | p :: r => by
    rw [List.map_cons, sc, sc, sc_pre d m c cs r, Int.mul_add]
    congr 1
    by_cases h : d = c
    · by_cases h' : p.1 = ⟨cs.toArray⟩
      · rw [if_pos (one_app.mpr ⟨h, h'⟩), if_pos h, if_pos h']
      · rw [if_neg (fun q => h' (one_app.mp q).2), if_neg h', Int.mul_zero]
    · rw [if_neg (fun q => h (one_app.mp q).1), if_neg h, Int.zero_mul]
theorem sc_none (d : Nat) (m : Int) : ∀ L : List (Str × Int), sc ⟨#[]⟩ (L.map fun tw => (one d ++ tw.1, m * tw.2)) = 0
  | [] => rfl
  | p :: r => by
    rw [List.map_cons, sc, sc_none d m r, if_neg, Int.add_zero]
    intro h
    have h1 : (#[d] ++ p.1.cps) = #[] := congrArg Str.cps h
    have := congrArg Array.size h1
    simp at this
theorem sc_prodR : ∀ (pls : List (List (Str × Int))) (T : List Nat), (∀ pl ∈ pls, Ones pl) → sc ⟨T.toArray⟩ (prodR pls) = pP pls T
  | [], [], _ => by simp [prodR, sc, pP]
  | [], c :: cs, _ => by
    rw [prodR, sc, if_neg]
    · rfl
    · intro h
      have := congrArg (fun s : Str => s.cps.size) h
      simp at this
  | pl :: r, T, h => by
    have h1 := h pl (.head _)
    have ih := fun T => sc_prodR r T fun p hp => h p (.tail _ hp)
    rw [prodR]
    clear h
    cases T with
    | nil =>
      show _ = 0
      induction pl with
      | nil => rfl
      | cons sm pl ihp =>
        obtain ⟨d, hd⟩ := h1 sm (.head _)
        rw [List.flatMap_cons, sc_append, ihp fun x hx => h1 x (.tail _ hx), hd]
        have := sc_none d sm.2 (prodR r)
        show sc ⟨#[]⟩ _ + 0 = 0
        rw [this]; rfl
    | cons c cs =>
      show _ = sc (one c) pl * pP r cs
      induction pl with
      | nil => simp [sc]
      | cons sm pl ihp =>
        obtain ⟨d, hd⟩ := h1 sm (.head _)
        rw [List.flatMap_cons, sc_append, ihp fun x hx => h1 x (.tail _ hx), hd, sc_pre, ih cs, sc, Int.add_mul, hd]
        congr 2
        by_cases e : d = c
        · rw [if_pos e, if_pos (by rw [e])]
        · rw [if_neg e, if_neg (fun q => e (one_inj q))]
def ab (L : List (Str × Int)) : List (Str × Int) := L.map fun p => (p.1, 1)
theorem prodR_ab : ∀ pls : List (List (Str × Int)), prodR (pls.map ab) = ab (prodR pls)
  | [] => rfl
  | pl :: r => by
    rw [List.map_cons, prodR, prodR_ab r, prodR]
    unfold ab
    rw [List.flatMap_map, List.map_flatMap]
    congr 1
    funext sm
    rw [List.map_map, List.map_map]
    rfl
theorem ab_ones {pl : List (Str × Int)} (h : Ones pl) : Ones (ab pl) := by
  intro sm hs
  obtain ⟨p, hp, rfl⟩ := List.mem_map.mp hs
  exact h p hp
theorem sc_bag (t : Str) : ∀ L : List (Str × Int), (∀ p ∈ L, p.2 = 1 ∨ p.2 = -1) →
    sc t L = (((L.filter fun p => p.2 == 1).map (·.1)).count t : Int) - (((L.filter fun p => p.2 == -1).map (·.1)).count t : Int) ∧
    sc t (ab L) = (((L.filter fun p => p.2 == 1).map (·.1)).count t : Int) + (((L.filter fun p => p.2 == -1).map (·.1)).count t : Int)
  | [], _ => by simp [sc, ab]
  | p :: r, h => by
    obtain ⟨i1, i2⟩ := sc_bag t r fun x hx => h x (.tail _ hx)
    have e2 : sc t (ab (p :: r)) = (if p.1 = t then 1 else 0) + sc t (ab r) := rfl
    rw [e2, sc, i1, i2]
    rcases h p (.head _) with e | e
    · rw [List.filter_cons_of_pos (by rw [e]; rfl), List.filter_cons_of_neg (by rw [e]; decide), List.map_cons, List.count_cons, e]
      by_cases q : p.1 = t
      · rw [if_pos q, if_pos (by rw [q]; exact beq_self_eq_true t)]; constructor <;> omega
      · rw [if_neg q, if_neg (fun x => q (by simpa using x))]; constructor <;> omega
    · rw [List.filter_cons_of_neg (by rw [e]; decide), List.filter_cons_of_pos (by rw [e]; rfl), List.map_cons, List.count_cons, e]
      by_cases q : p.1 = t
      · rw [if_pos q, if_pos q, if_pos (by rw [q]; exact beq_self_eq_true t)]; constructor <;> omega
      · rw [if_neg q, if_neg q, if_neg (fun x => q (by simpa using x))]; constructor <;> omega
theorem pP_le : ∀ (pls : List (List (Str × Int))) (T : List Nat), (∀ pl ∈ pls, ∀ c, sc (one c) pl = 0 ∨ sc (one c) pl = 1) → pP pls T = 0 ∨ pP pls T = 1
  | [], [], _ => .inr rfl
  | [], _ :: _, _ => .inl rfl
  | _ :: _, [], _ => .inl rfl
  | pl :: r, c :: cs, h => by
    show sc (one c) pl * pP r cs = 0 ∨ sc (one c) pl * pP r cs = 1
    have ih := pP_le r cs fun p hp => h p (.tail _ hp)
    rcases h pl (.head _) c with e | e <;> rcases ih with q | q <;> simp [e, q]
/-- a bag difference told by a product of distinct rows -/
theorem bag_law {pls : List (List (Str × Int))} (h1 : ∀ pl ∈ pls, Ones pl) (h2 : ∀ pl ∈ pls, ∀ c, sc (one c) (ab pl) = 0 ∨ sc (one c) (ab pl) = 1) (hw : ∀ p ∈ prodR pls, p.2 = 1 ∨ p.2 = -1)
    {es os : Str → Nat} (hs : ∀ t : Str, (es t : Int) - (os t : Int) = pP pls t.cps.toList) (t : Str) :
    es t - os t = (((prodR pls).filter fun p => p.2 == 1).map (·.1)).count t ∧ os t - es t = (((prodR pls).filter fun p => p.2 == -1).map (·.1)).count t := by
  obtain ⟨i1, i2⟩ := sc_bag t _ hw
  have e1 : sc t (prodR pls) = pP pls t.cps.toList := by
    have := sc_prodR pls t.cps.toList h1
    rw [Array.toArray_toList] at this
    exact this
  have e2 : sc t (ab (prodR pls)) = pP (pls.map ab) t.cps.toList := by
    rw [← prodR_ab]
    have := sc_prodR (pls.map ab) t.cps.toList (fun pl hp => by obtain ⟨q, hq, rfl⟩ := List.mem_map.mp hp; exact ab_ones (h1 q hq))
    rw [Array.toArray_toList] at this
    exact this
  have e3 := pP_le (pls.map ab) t.cps.toList (fun pl hp => by obtain ⟨q, hq, rfl⟩ := List.mem_map.mp hp; exact h2 q hq)
  have := hs t
  omega
end Mine
end

section
open PySem PyProof.Rows
set_option maxRecDepth 100000
namespace Mine
def stB (p o : Int) : Int := if (o.fdiv p).fmod 2 = 0 then o + p else o
theorem bit_zero (n j : Nat) : (((n : Int).fdiv (2 ^ j)).fmod 2 = 0) ↔ n.testBit j = false := by
  rw [Nat.testBit_eq_decide_div_mod_eq, decide_eq_false_iff_not]
  have e1 : (n : Int).fdiv (2 ^ j) = ((n / 2 ^ j : Nat) : Int) := by
    rw [show ((2 : Int) ^ j) = ((2 ^ j : Nat) : Int) by push_cast; rfl, Int.fdiv_eq_ediv_of_nonneg _ (Int.natCast_nonneg _)]
    rfl
  rw [e1, show (2 : Int) = ((2 : Nat) : Int) from rfl, Int.fmod_eq_emod_of_nonneg _ (by omega)]
  omega
theorem stB_or (n j : Nat) : stB (2 ^ j) (n : Int) = ((n ||| 2 ^ j : Nat) : Int) := by
  unfold stB
  by_cases h : n.testBit j = false
  · rw [if_pos ((bit_zero n j).mpr h)]
    have e : n ||| 2 ^ j = n + 2 ^ j := by
      have hz : n &&& 2 ^ j = 0 := by
        apply Nat.eq_of_testBit_eq
        intro i
        rw [Nat.testBit_and, Nat.testBit_two_pow, Nat.zero_testBit]
        by_cases q : j = i
        · subst q; simp [h]
        · simp [q]
      have := nat_or_add_and n (2 ^ j)
      omega
    rw [e]; push_cast; rfl
  · rw [if_neg (fun q => h ((bit_zero n j).mp q))]
    have h' : n.testBit j = true := by simpa using h
    have e : n ||| 2 ^ j = n := by
      apply Nat.eq_of_testBit_eq
      intro i
      rw [Nat.testBit_or, Nat.testBit_two_pow]
      by_cases q : j = i
      · subst q; simp [h']
      · simp [q]
    rw [e]
theorem and_eq_iff (n m : Nat) : n &&& m = m ↔ ∀ i, m.testBit i = true → n.testBit i = true := by
  constructor
  · intro h i hi
    rw [← h, Nat.testBit_and] at hi
    exact (Bool.and_eq_true_iff.mp hi).1
  · intro h
    apply Nat.eq_of_testBit_eq
    intro i
    rw [Nat.testBit_and]
    cases hm : m.testBit i with
    | false => simp
    | true => simp [h i hm]
theorem band_eq (n m : Nat) : (Builtin.bitAnd (n : Int) (m : Int) == (m : Int)) = (n &&& m == m) := by
  rw [bitAnd_pp (Int.natCast_nonneg _) (Int.natCast_nonneg _)]
  simp only [Int.toNat_natCast]
  rw [Bool.eq_iff_iff, beq_iff_eq, beq_iff_eq]
  omega
theorem band1 (n j : Nat) : (Builtin.bitAnd (n : Int) ((2 ^ j : Nat) : Int) == ((2 ^ j : Nat) : Int)) = n.testBit j := by
  rw [band_eq, Bool.eq_iff_iff, beq_iff_eq, and_eq_iff]
  constructor
  · intro h; exact h j (by rw [Nat.testBit_two_pow]; simp)
  · intro h i hi
    rw [Nat.testBit_two_pow] at hi
    have : j = i := by simpa using hi
    rw [← this]; exact h
theorem band2 (n i j : Nat) : (Builtin.bitAnd (n : Int) ((2 ^ i ||| 2 ^ j : Nat) : Int) == ((2 ^ i ||| 2 ^ j : Nat) : Int)) = (n.testBit i && n.testBit j) := by
  rw [band_eq, Bool.eq_iff_iff, beq_iff_eq, and_eq_iff, Bool.and_eq_true]
  constructor
  · intro h
    exact ⟨h i (by rw [Nat.testBit_or, Nat.testBit_two_pow]; simp), h j (by rw [Nat.testBit_or, Nat.testBit_two_pow, Nat.testBit_two_pow]; simp)⟩
  · rintro ⟨h1, h2⟩ k hk
    rw [Nat.testBit_or, Nat.testBit_two_pow, Nat.testBit_two_pow, Bool.or_eq_true] at hk
    rcases hk with e | e
    · have : i = k := by simpa using e
      rw [← this]; exact h1
    · have : j = k := by simpa using e
      rw [← this]; exact h2
/-- one place of reading or writing; one place of running -/
def chR (n j c : Nat) : Nat := if n.testBit j then c else 45
def chX (n s r g k : Nat) : Nat := if n.testBit s && n.testBit r then k else if n.testBit s then g else if n.testBit r then 120 else 45
theorem fmAt_R {n i j c : Nat} (hi : i ≠ 0) (ht : tabAt i = [(((2 ^ j : Nat) : Int), c)]) : fmAt (n : Int) i = chR n j c := by
  unfold fmAt chR
  rw [ht]
  have e : hits (n : Int) i (((2 ^ j : Nat) : Int), c) = n.testBit j := by unfold hits; rw [if_neg hi]; exact band1 n j
  rw [List.find?_cons, e]
  cases n.testBit j with
  | true => simp
  | false => simp [hi]
theorem fmAt_X {n i s r g k : Nat} (hi : i ≠ 0) (ht : tabAt i = [(((2 ^ s ||| 2 ^ r : Nat) : Int), k), (((2 ^ s : Nat) : Int), g), (((2 ^ r : Nat) : Int), 120)]) : fmAt (n : Int) i = chX n s r g k := by
  unfold fmAt chX
  rw [ht]
  have e1 : hits (n : Int) i (((2 ^ s ||| 2 ^ r : Nat) : Int), k) = (n.testBit s && n.testBit r) := by unfold hits; rw [if_neg hi]; exact band2 n s r
  have e2 : hits (n : Int) i (((2 ^ s : Nat) : Int), g) = n.testBit s := by unfold hits; rw [if_neg hi]; exact band1 n s
  have e3 : hits (n : Int) i (((2 ^ r : Nat) : Int), 120) = n.testBit r := by unfold hits; rw [if_neg hi]; exact band1 n r
  rw [List.find?_cons, List.find?_cons, List.find?_cons, e1, e2, e3]
  cases n.testBit s <;> cases n.testBit r <;> simp [hi]
theorem fmAt1 (n : Nat) : fmAt (n : Int) 1 = chR n 8 114 := fmAt_R (by decide) rfl
theorem fmAt2 (n : Nat) : fmAt (n : Int) 2 = chR n 7 119 := fmAt_R (by decide) rfl
theorem fmAt3 (n : Nat) : fmAt (n : Int) 3 = chX n 11 6 83 115 := fmAt_X (by decide) rfl
theorem fmAt4 (n : Nat) : fmAt (n : Int) 4 = chR n 5 114 := fmAt_R (by decide) rfl
theorem fmAt5 (n : Nat) : fmAt (n : Int) 5 = chR n 4 119 := fmAt_R (by decide) rfl
theorem fmAt6 (n : Nat) : fmAt (n : Int) 6 = chX n 10 3 83 115 := fmAt_X (by decide) rfl
theorem fmAt7 (n : Nat) : fmAt (n : Int) 7 = chR n 2 114 := fmAt_R (by decide) rfl
theorem fmAt8 (n : Nat) : fmAt (n : Int) 8 = chR n 1 119 := fmAt_R (by decide) rfl
theorem fmAt9 (n : Nat) : fmAt (n : Int) 9 = chX n 9 0 84 116 := fmAt_X (by decide) rfl
theorem and_top (n : Nat) (h : n < 65536) : n &&& 61440 = 4096 * (n / 4096) := by
  have e : (61440 : Nat) = 2 ^ 16 - 1 - (2 ^ 12 - 1) := rfl
  have h1 : n &&& 61440 = n - (n &&& 4095) := by
    have h2 := nat_or_add_and (n &&& 61440) (n &&& 4095)
    have h3 : (n &&& 61440) &&& (n &&& 4095) = 0 := by
      rw [show (n &&& 61440) &&& (n &&& 4095) = (n &&& n) &&& (61440 &&& 4095) by ac_rfl]
      simp
    have h4 : (n &&& 61440) ||| (n &&& 4095) = n := by
      rw [← Nat.and_or_distrib_left, show (61440 ||| 4095 : Nat) = 2 ^ 16 - 1 from rfl, Nat.and_two_pow_sub_one_eq_mod]
      exact Nat.mod_eq_of_lt h
    omega
  rw [h1, show (4095 : Nat) = 2 ^ 12 - 1 from rfl, Nat.and_two_pow_sub_one_eq_mod]
  have := Nat.div_add_mod n 4096
  show n - n % 4096 = _
  omega
def t0 (q : Nat) : Nat := [63, 112, 99, 63, 100, 63, 98, 63, 45, 63, 108, 63, 115, 63, 63, 63].getD q 63
def f0 (m : Int) : Nat := match (tabAt 0).find? (fun e => m == e.1) with
  | some e => e.2
  | none => 63
theorem f0_t0 : ∀ q, q < 16 → f0 ((4096 * q : Nat) : Int) = t0 q := by decide
theorem fmAt0 (n : Nat) (h : n < 65536) : fmAt (n : Int) 0 = t0 (n / 4096) := by
  rw [← f0_t0 _ (by omega), ← and_top n h]
  have e : (hits (n : Int) 0) = fun e => (((n &&& 61440 : Nat) : Int) == e.1) := by
    funext e
    unfold hits
    rw [if_pos rfl, bitAnd_pp (Int.natCast_nonneg _) (by decide)]
    rfl
  unfold fmAt f0
  rw [e]
  rfl
end Mine
end

section
open PySem PyProof.Rows
set_option maxRecDepth 100000
namespace Mine
/-! the ten places -/
inductive Plc where
  | top : Plc
  | R (j c : Nat) : Plc
  | X (s r g k : Nat) : Plc
def PL : List Plc := [.top, .R 8 114, .R 7 119, .X 11 6 83 115, .R 5 114, .R 4 119, .X 10 3 83 115, .R 2 114, .R 1 119, .X 9 0 84 116]
def Plc.own : Plc → Nat → Bool
  | .top, _ => false
  | .R j _, i => i == j
  | .X s r _ _, i => i == s || i == r
def Plc.wf : Plc → Bool
  | .top => true
  | .R _ c => lo1 c != 45
  | .X s r g k => s != r && lo1 g == lo1 k && lo1 k != 120 && lo1 k != 45
theorem PL_wf : ∀ P ∈ PL, P.wf = true := by decide
theorem PL_ex1 : ∀ j, j < 12 → ex1 Plc.own j PL = true := by decide
def chY (b : Nat) (js : List Nat) (o s r g k : Nat) : Nat := if o.testBit s then (if o.testBit r && !(js.contains r && !b.testBit r) then k else g) else if o.testBit r then 120 else 45
def Plc.ch (b : Nat) (js : List Nat) (o : Nat) : Plc → Nat
  | .top => t0 (b / 4096)
  | .R j c => chR o j c
  | .X s r g k => chY b js o s r g k
def Plc.raw (o : Nat) : Plc → Nat
  | .top => t0 (o / 4096)
  | .R j c => chR o j c
  | .X s r g k => chX o s r g k
def Plc.lst (b : Nat) (js : List Nat) : Plc → List (Str × Int)
  | .top => [(one (t0 (b / 4096)), 1)]
  | .R j c => if js.contains j then (if b.testBit j then [] else [(one 45, 1), (one c, -1)]) else [(if b.testBit j then one c else one 45, 1)]
  | .X s r g k => if js.contains r then (if b.testBit r || b.testBit s then [] else [(one 45, 1), (one 120, -1)])
    else if js.contains s then (if b.testBit s then [] else if b.testBit r then [(one 120, 1), (one k, -1)] else [(one 45, 1), (one g, -1)])
    else if b.testBit s then [(if b.testBit r then one k else one g, 1)]
    else [(if b.testBit r then one 120 else one 45, 1)]
def Vc (b : Nat) (js : List Nat) (P : Plc) (c o : Nat) : Int := if P.ch b js o = c then 1 else 0
theorem or_bit (o j i : Nat) : (o ||| 2 ^ j).testBit i = (o.testBit i || decide (j = i)) := by
  rw [Nat.testBit_or, Nat.testBit_two_pow]
theorem or_other {o j i : Nat} (h : j ≠ i) : (o ||| 2 ^ j).testBit i = o.testBit i := by
  rw [or_bit]; simp [h]
theorem or_self (o j : Nat) : (o ||| 2 ^ j).testBit j = true := by
  rw [or_bit]; simp
def vR (x : Bool) (c : Nat) : Nat := if x then c else 45
def vY (s r q : Bool) (g k : Nat) : Nat := if s then (if r && q then k else g) else if r then 120 else 45
theorem chR_v (o j c : Nat) : chR o j c = vR (o.testBit j) c := rfl
theorem chY_v (b : Nat) (js : List Nat) (o s r g k : Nat) : chY b js o s r g k = vY (o.testBit s) (o.testBit r) (!(js.contains r && !b.testBit r)) g k := rfl
theorem ch_or {b : Nat} {js : List Nat} (j : Nat) (P : Plc) (o : Nat) (h : P.own j = false) : P.ch b js (o ||| 2 ^ j) = P.ch b js o := by
  cases P with
  | top => rfl
  | R i d =>
    have : j ≠ i := by simpa [Plc.own] using h
    show chR _ _ _ = chR _ _ _
    rw [chR_v, chR_v, or_other this]
  | X s r g k =>
    have : j ≠ s ∧ j ≠ r := by simpa [Plc.own] using h
    show chY _ _ _ _ _ _ _ = chY _ _ _ _ _ _ _
    rw [chY_v, chY_v, or_other this.1, or_other this.2]
theorem Vc_ign {b : Nat} {js : List Nat} (j : Nat) (P : Plc) (c : Nat) (h : P.own j = false) : Ign j (Vc b js P c) := by
  intro o
  unfold Vc
  rw [ch_or j P o h]
theorem one_iff {c d : Nat} : (one c = one d) ↔ c = d := ⟨one_inj, fun h => by rw [h]⟩
def ind (x c : Nat) : Int := if x = c then 1 else 0
theorem Vc_R (b : Nat) (js : List Nat) (j d c o : Nat) : Vc b js (.R j d) c o = ind (vR (o.testBit j) d) c := rfl
theorem Vc_X (b : Nat) (js : List Nat) (s r g k c o : Nat) : Vc b js (.X s r g k) c o = ind (vY (o.testBit s) (o.testBit r) (!(js.contains r && !b.testBit r)) g k) c := rfl
def lR (p x : Bool) (c : Nat) : List (Str × Int) := if p then (if x then [] else [(one 45, 1), (one c, -1)]) else [(if x then one c else one 45, 1)]
def lX (ps pr s r : Bool) (g k : Nat) : List (Str × Int) := if pr then (if r || s then [] else [(one 45, 1), (one 120, -1)])
    else if ps then (if s then [] else if r then [(one 120, 1), (one k, -1)] else [(one 45, 1), (one g, -1)])
    else if s then [(if r then one k else one g, 1)]
    else [(if r then one 120 else one 45, 1)]
theorem lst_R (b : Nat) (js : List Nat) (j c : Nat) : Plc.lst b js (.R j c) = lR (js.contains j) (b.testBit j) c := rfl
theorem lst_X (b : Nat) (js : List Nat) (s r g k : Nat) : Plc.lst b js (.X s r g k) = lX (js.contains s) (js.contains r) (b.testBit s) (b.testBit r) g k := rfl
theorem sc1 (a c : Nat) (m : Int) : sc (one c) [(one a, m)] = m * ind a c := by
  simp only [sc, one_iff, ind]
  by_cases h : a = c <;> simp [h]
theorem sc2 (a d c : Nat) (m n : Int) : sc (one c) [(one a, m), (one d, n)] = m * ind a c + n * ind d c := by
  simp only [sc, one_iff, ind]
  by_cases h : a = c <;> by_cases h' : d = c <;> simp [h, h']
theorem place_law {b : Nat} {js : List Nat} (hn : js.Nodup) (P : Plc) (hw : P.wf = true) (c : Nat) : (js.filter P.own).foldr dlN (Vc b js P c) b = sc (one c) (P.lst b js) := by
  cases P with
  | top =>
    have : js.filter Plc.top.own = [] := by
      rw [List.filter_eq_nil_iff]; intro a _; simp [Plc.own]
    rw [this]
    show ind (t0 (b / 4096)) c = sc (one c) [(one (t0 (b / 4096)), 1)]
    rw [sc1]; omega
  | R j d =>
    rw [show Plc.own (.R j d) = fun i => i == j from rfl, fold_perm (filt1 hn j), lst_R]
    cases hj : js.contains j with
    | false =>
      have e : [j].filter (fun i => js.contains i) = [] := by simp only [List.filter_cons, hj, List.filter_nil]; rfl
      rw [e, List.foldr_nil, Vc_R]
      cases b.testBit j with
      | false => show ind 45 c = sc (one c) [(one 45, 1)]; rw [sc1]; omega
      | true => show ind d c = sc (one c) [(one d, 1)]; rw [sc1]; omega
    | true =>
      have e : [j].filter (fun i => js.contains i) = [j] := by simp only [List.filter_cons, hj, List.filter_nil]; rfl
      rw [e, List.foldr_cons, List.foldr_nil]
      unfold dlN
      rw [Vc_R, Vc_R, or_self]
      cases b.testBit j with
      | false => show ind 45 c - ind d c = sc (one c) [(one 45, 1), (one d, -1)]; rw [sc2]; omega
      | true => show ind d c - ind d c = 0; omega
  | X s r g k =>
    have hsr : s ≠ r := by
      simp only [Plc.wf, Bool.and_eq_true, bne_iff_ne] at hw
      exact hw.1.1.1
    rw [show Plc.own (.X s r g k) = fun i => i == s || i == r from rfl, fold_perm (filt2 hn hsr), lst_X]
    have e1 : ∀ o, (o ||| 2 ^ s).testBit r = o.testBit r := fun o => or_other hsr
    have e2 : ∀ o, (o ||| 2 ^ r).testBit s = o.testBit s := fun o => or_other hsr.symm
    have v0 := Vc_X b js s r g k c b
    have v1 := Vc_X b js s r g k c (b ||| 2 ^ s)
    have v2 := Vc_X b js s r g k c (b ||| 2 ^ r)
    have v3 := Vc_X b js s r g k c (b ||| 2 ^ s ||| 2 ^ r)
    rw [e1, or_self] at v1
    rw [e2, or_self] at v2
    rw [e2, or_self, or_self] at v3
    cases hs : js.contains s <;> cases hr : js.contains r <;> rw [hr] at v0 v1 v2 v3
    · have e : [s, r].filter (fun i => js.contains i) = [] := by simp only [List.filter_cons, hs, hr, List.filter_nil]; rfl
      rw [e, List.foldr_nil, v0]
      cases b.testBit s <;> cases b.testBit r <;> refine Eq.trans ?_ (sc1 _ c 1).symm <;> rw [Int.one_mul] <;> rfl
    · have e : [s, r].filter (fun i => js.contains i) = [r] := by simp only [List.filter_cons, hs, hr, List.filter_nil]; rfl
      rw [e, List.foldr_cons, List.foldr_nil, dlN, v0, v2]
      cases b.testBit s <;> cases b.testBit r
      · refine Eq.trans ?_ (sc2 45 120 c 1 (-1)).symm
        show ind 45 c - ind 120 c = _
        omega
      all_goals exact Int.sub_self _
    · have e : [s, r].filter (fun i => js.contains i) = [s] := by simp only [List.filter_cons, hs, hr, List.filter_nil]; rfl
      rw [e, List.foldr_cons, List.foldr_nil, dlN, v0, v1]
      cases b.testBit s <;> cases b.testBit r
      · refine Eq.trans ?_ (sc2 45 g c 1 (-1)).symm
        show ind 45 c - ind g c = _
        omega
      · refine Eq.trans ?_ (sc2 120 k c 1 (-1)).symm
        show ind 120 c - ind k c = _
        omega
      all_goals exact Int.sub_self _
    · have e : [s, r].filter (fun i => js.contains i) = [s, r] := by simp only [List.filter_cons, hs, hr, List.filter_nil]; rfl
      rw [e, List.foldr_cons, List.foldr_cons, List.foldr_nil, dlN, dlN, dlN, v0, v1, v2, v3]
      cases b.testBit s <;> cases b.testBit r
      · refine Eq.trans ?_ (sc2 45 120 c 1 (-1)).symm
        show ind 45 c - ind 120 c - (ind g c - ind g c) = _
        omega
      · show ind 120 c - ind 120 c - (ind k c - ind k c) = 0; omega
      · show ind g c - ind g c - (ind g c - ind g c) = 0; omega
      · show ind k c - ind k c - (ind k c - ind k c) = 0; omega
theorem pr_places {b : Nat} {js : List Nat} (hn : js.Nodup) : ∀ (l : List Plc) (T : List Nat), (∀ P ∈ l, P.wf = true) → pr (fun P c => (js.filter P.own).foldr dlN (Vc b js P c)) l T b = pP (l.map (Plc.lst b js)) T
  | [], [], _ => rfl
  | [], _ :: _, _ => rfl
  | _ :: _, [], _ => rfl
  | P :: l, c :: T, h => by
    show (js.filter P.own).foldr dlN (Vc b js P c) b * pr _ l T b = sc (one c) (P.lst b js) * pP (l.map (Plc.lst b js)) T
    rw [place_law hn P (h P (.head _)), pr_places hn l T fun Q hQ => h Q (.tail _ hQ)]
theorem pr_text {b : Nat} {js : List Nat} (o : Nat) : ∀ (l : List Plc) (T : List Nat), pr (Vc b js) l T o = if l.map (Plc.ch b js o) = T then 1 else 0
  | [], [] => rfl
  | [], _ :: _ => rfl
  | _ :: _, [] => rfl
  | P :: l, c :: T => by
    show Vc b js P c o * pr (Vc b js) l T o = _
    rw [pr_text o l T, List.map_cons, Vc]
    by_cases h1 : P.ch b js o = c <;> by_cases h2 : l.map (Plc.ch b js o) = T <;> simp [h1, h2]
/-- the text of the name of a code -/
def nmT (b : Nat) (js : List Nat) (o : Nat) : Str := ⟨(PL.map (Plc.ch b js o)).toArray⟩
theorem signed {b : Nat} {js : List Nat} (hn : js.Nodup) (h12 : ∀ j ∈ js, j < 12) (t : Str) : muN (fun o => if nmT b js o = t then 1 else 0) (chN b js) = pP (PL.map (Plc.lst b js)) t.cps.toList := by
  have e : (fun o => if nmT b js o = t then (1 : Int) else 0) = pr (Vc b js) PL t.cps.toList := by
    funext o
    rw [pr_text]
    have : (nmT b js o = t) ↔ PL.map (Plc.ch b js o) = t.cps.toList := by
      constructor
      · rintro rfl; rfl
      · intro h
        refine Str.ext' ?_
        show (PL.map (Plc.ch b js o)).toArray = t.cps
        rw [h]
    by_cases q : nmT b js o = t
    · rw [if_pos q, if_pos (this.mp q)]
    · rw [if_neg q, if_neg (fun x => q (this.mpr x))]
  rw [e, muN_chN, pr_fold (fun j P c hp => Vc_ign j P c hp) _ js fun j hj => PL_ex1 j (h12 j hj)]
  exact pr_places hn PL _ PL_wf
end Mine
end

section
open PySem PyProof.Rows
set_option maxRecDepth 100000
namespace Mine
/-! the codes, in their order -/
noncomputable def cdR (b : Nat) : List Nat → List Nat
  | [] => [b]
  | j :: r => cdR b r ++ (cdR b r).map (· ||| 2 ^ j)
theorem cdR_chN (b : Nat) (js : List Nat) : (chN b js).map (·.1) = cdR b js.reverse := by
  have key : ∀ rs : List Nat, (rs.foldr (fun j cs => cs ++ cs.map (chS j)) [(b, (0 : Int))]).map (·.1) = cdR b rs := by
    intro rs
    induction rs with
    | nil => rfl
    | cons j r ih =>
      rw [List.foldr_cons, List.map_append, ih, cdR, ← ih, List.map_map, List.map_map]
      rfl
  rw [chN, List.foldl_eq_foldr_reverse]
  exact key _
theorem cdR_bits {b : Nat} : ∀ {rs : List Nat} {c : Nat}, c ∈ cdR b rs → ∀ i, (b.testBit i = true → c.testBit i = true) ∧ (i ∉ rs → c.testBit i = b.testBit i)
  | [], c, h, i => by rw [List.mem_singleton.mp h]; exact ⟨id, fun _ => rfl⟩
  | j :: r, c, h, i => by
    rcases List.mem_append.mp h with h | h
    · have ih := cdR_bits h i
      exact ⟨ih.1, fun q => ih.2 fun m => q (.tail _ m)⟩
    · obtain ⟨d, hd, rfl⟩ := List.mem_map.mp h
      have ih := cdR_bits hd i
      refine ⟨fun q => ?_, fun q => ?_⟩
      · rw [or_bit, ih.1 q]; rfl
      · rw [or_other (fun e => q (by rw [e]; exact .head _)), ih.2 fun m => q (.tail _ m)]
def Lack (c' c j : Nat) : Prop := ∀ i, c'.testBit i = (c.testBit i && i != j)
theorem cdR_less {b : Nat} : ∀ {rs : List Nat} {c : Nat} {l1 l2 : List Nat}, cdR b rs = l1 ++ c :: l2 → rs.Nodup → ∀ {j : Nat}, b.testBit j = false → c.testBit j = true → ∃ c' ∈ l1, Lack c' c j
  | [], c, l1, l2, h, _, j, hb, hc => by
    have hm : c ∈ cdR b [] := by rw [h]; exact List.mem_append_right _ (.head _)
    rw [List.mem_singleton.mp hm, hb] at hc
    cases hc
  | q :: r, c, l1, l2, h, hn, j, hb, hc => by
    have hq : q ∉ r := (List.nodup_cons.mp hn).1
    have hr := (List.nodup_cons.mp hn).2
    have second : ∀ as, (cdR b r).map (· ||| 2 ^ q) = as ++ c :: l2 → l1 = cdR b r ++ as → ∃ c' ∈ l1, Lack c' c j := by
      intro as e1 e2
      obtain ⟨m1, m2, e3, rfl, e4⟩ := List.map_eq_append_iff.mp e1
      obtain ⟨d, m3, rfl, rfl, _⟩ := List.map_eq_cons_iff.mp e4
      have hd : d ∈ cdR b r := by rw [e3]; exact List.mem_append_right _ (.head _)
      by_cases e : j = q
      · subst e
        refine ⟨d, by rw [e2]; exact List.mem_append_left _ hd, fun i => ?_⟩
        rw [or_bit]
        by_cases ei : i = j
        · subst ei
          rw [(cdR_bits hd i).2 hq, hb]; simp
        · have : j ≠ i := fun x => ei x.symm
          simp [ei, this]
      · have hdj : d.testBit j = true := by rw [← hc, or_other (fun x => e x.symm)]
        obtain ⟨d', hd', hl⟩ := cdR_less e3 hr hb hdj
        refine ⟨d' ||| 2 ^ q, by rw [e2]; exact List.mem_append_right _ (List.mem_map.mpr ⟨d', hd', rfl⟩), fun i => ?_⟩
        rw [or_bit, or_bit, hl i]
        by_cases ei : q = i
        · subst ei
          have : q ≠ j := fun x => e x.symm
          simp [this]
        · simp [ei]
    rcases List.append_eq_append_iff.mp h with ⟨as, e1, e2⟩ | ⟨bs, e1, e2⟩
    · exact second as e2 e1
    · cases bs with
      | nil => exact second [] e2.symm (by rw [e1]; simp)
      | cons x bs =>
        rw [List.cons_append] at e2
        injection e2 with e3 e4
        subst e3
        exact cdR_less e1 hr hb hc
/-! what the rows are -/
theorem fm_raw {n : Nat} (h : n < 65536) : fm (n : Int) = ⟨(PL.map (Plc.raw n)).toArray⟩ := by
  unfold fm
  have : (List.range 10).map (fmAt (n : Int)) = PL.map (Plc.raw n) := by
    show [fmAt (n : Int) 0, fmAt (n : Int) 1, fmAt (n : Int) 2, fmAt (n : Int) 3, fmAt (n : Int) 4, fmAt (n : Int) 5, fmAt (n : Int) 6, fmAt (n : Int) 7, fmAt (n : Int) 8, fmAt (n : Int) 9] = _
    rw [fmAt0 n h, fmAt1, fmAt2, fmAt3, fmAt4, fmAt5, fmAt6, fmAt7, fmAt8, fmAt9]
    rfl
  rw [this]
theorem lw_raw {n : Nat} (h : n < 65536) : lw (fm (n : Int)) = ⟨(PL.map fun P => lo1 (P.raw n)).toArray⟩ := by
  rw [fm_raw h]
  unfold lw
  dsimp only
  rw [List.map_toArray, List.map_map]
  rfl
theorem lw_iff {x y : Nat} (hx : x < 65536) (hy : y < 65536) : lw (fm (x : Int)) = lw (fm (y : Int)) ↔ ∀ P ∈ PL, lo1 (P.raw x) = lo1 (P.raw y) := by
  rw [lw_raw hx, lw_raw hy]
  constructor
  · intro h
    have h1 : (PL.map fun P => lo1 (P.raw x)).toArray = (PL.map fun P => lo1 (P.raw y)).toArray := congrArg Str.cps h
    have h2 : (PL.map fun P => lo1 (P.raw x)) = (PL.map fun P => lo1 (P.raw y)) := by simpa using congrArg Array.toList h1
    exact List.map_inj_left.mp h2
  · intro h
    rw [List.map_inj_left.mpr h]
theorem top_same {x y k : Nat} (h : ∀ i, k ≤ i → x.testBit i = y.testBit i) : x / 2 ^ k = y / 2 ^ k := by
  apply Nat.eq_of_testBit_eq
  intro i
  rw [Nat.testBit_div_two_pow, Nat.testBit_div_two_pow]
  exact h _ (Nat.le_add_left _ _)
theorem ex1_uniq {α : Type} {own : α → Nat → Bool} {j : Nat} : ∀ {l : List α}, ex1 own j l = true → ∀ P ∈ l, ∀ Q ∈ l, own P j = true → own Q j = true → P = Q
  | [], h, _, _, _, _, _, _ => by simp [ex1] at h
  | p :: r, h, P, hP, Q, hQ, h1, h2 => by
    rw [ex1] at h
    cases hp : own p j with
    | true =>
      rw [if_pos hp] at h
      have none : ∀ R ∈ r, own R j = true → False := fun R hR hh => by
        have := List.all_eq_true.mp h R hR
        rw [hh] at this; cases this
      rcases List.mem_cons.mp hP with rfl | hP
      · rcases List.mem_cons.mp hQ with rfl | hQ
        · rfl
        · exact (none Q hQ h2).elim
      · exact (none P hP h1).elim
    | false =>
      rw [if_neg (by rw [hp]; decide)] at h
      rcases List.mem_cons.mp hP with rfl | hP
      · rw [hp] at h1; cases h1
      · rcases List.mem_cons.mp hQ with rfl | hQ
        · rw [hp] at h2; cases h2
        · exact ex1_uniq h P hP Q hQ h1 h2
def vX (s r : Bool) (g k : Nat) : Nat := if s && r then k else if s then g else if r then 120 else 45
theorem chX_v (o s r g k : Nat) : chX o s r g k = vX (o.testBit s) (o.testBit r) g k := rfl
theorem raw_same {x y j : Nat} {P : Plc} (h : ∀ i, i ≠ j → x.testBit i = y.testBit i) (hj : j < 12) (ho : P.own j = false) : P.raw x = P.raw y := by
  cases P with
  | top =>
    show t0 (x / 2 ^ 12) = t0 (y / 2 ^ 12)
    rw [top_same fun i hi => h i (by omega)]
  | R i d =>
    have : j ≠ i := by simpa [Plc.own] using ho
    show chR _ _ _ = chR _ _ _
    rw [chR_v, chR_v, h i this.symm]
  | X s r g k =>
    have : j ≠ s ∧ j ≠ r := by simpa [Plc.own] using ho
    show chX _ _ _ _ _ = chX _ _ _ _ _
    rw [chX_v, chX_v, h s this.1.symm, h r this.2.symm]
theorem lo_R {x y : Bool} {c : Nat} (hw : lo1 c ≠ 45) (h : lo1 (vR x c) = lo1 (vR y c)) : x = y := by
  have e45 : lo1 45 = 45 := by decide
  cases x <;> cases y
  · rfl
  · exact absurd (h.symm.trans e45) hw
  · exact absurd (h.trans e45) hw
  · rfl
theorem lo_X {s r s' r' : Bool} {g k : Nat} (h1 : lo1 g = lo1 k) (h2 : lo1 k ≠ 120) (h3 : lo1 k ≠ 45) (h : lo1 (vX s r g k) = lo1 (vX s' r' g k)) : s = s' ∧ (s = false → r = r') := by
  have e45 : lo1 45 = 45 := by decide
  have e120 : lo1 120 = 120 := by decide
  cases s <;> cases r <;> cases s' <;> cases r' <;> simp only [vX] at h <;> simp_all
theorem code_lt {b c : Nat} {rs : List Nat} (hb : b < 65536) (h12 : ∀ j ∈ rs, j < 12) (hc : c ∈ cdR b rs) : c / 4096 = b / 4096 ∧ c < 65536 := by
  have : c / 2 ^ 12 = b / 2 ^ 12 := top_same fun i hi => (cdR_bits hc i).2 fun m => by have := h12 i m; omega
  have e : c / 4096 = b / 4096 := this
  exact ⟨e, by omega⟩
/-- the first of the same host -/
theorem first_row {b : Nat} {js : List Nat} (hb : b < 65536) (hn : js.Nodup) (h12 : ∀ j ∈ js, j < 12) {o c : Nat} (ho : o ∈ cdR b js.reverse)
    (hf : (cdR b js.reverse).find? (fun x : Nat => lw (fm (o : Int)) == lw (fm (x : Int))) = some c) : fm (c : Int) = nmT b js o := by
  have h12' : ∀ j ∈ js.reverse, j < 12 := fun j hj => h12 j (List.mem_reverse.mp hj)
  have hn' : js.reverse.Nodup := (List.reverse_perm js).nodup_iff.mpr hn
  obtain ⟨hp, l1, l2, hl, hpre⟩ := List.find?_eq_some_iff_append.mp hf
  have hc : c ∈ cdR b js.reverse := by rw [hl]; exact List.mem_append_right _ (.head _)
  obtain ⟨ot, ol⟩ := code_lt hb h12' ho
  obtain ⟨ct, cl⟩ := code_lt hb h12' hc
  have heq : lw (fm (o : Int)) = lw (fm (c : Int)) := by simpa using hp
  have hall := (lw_iff ol cl).mp heq
  have hmin : ∀ s r g k, Plc.X s r g k ∈ PL → r ∈ js → b.testBit r = false → c.testBit s = true → c.testBit r = false := by
    intro s r g k hX hr hbr hcs
    cases hcr : c.testBit r with
    | false => rfl
    | true =>
      exfalso
      have hr12 := h12 r hr
      have hwf := PL_wf _ hX
      simp only [Plc.wf, Bool.and_eq_true, bne_iff_ne, beq_iff_eq] at hwf
      obtain ⟨c', hc', hlk⟩ := cdR_less hl hn' hbr hcr
      have hcm : c' ∈ cdR b js.reverse := by rw [hl]; exact List.mem_append_left _ hc'
      have hno := hpre c' hc'
      have hsame : lw (fm (c' : Int)) = lw (fm (c : Int)) := by
        refine (lw_iff (code_lt hb h12' hcm).2 cl).mpr fun P hP => ?_
        cases hown : P.own r with
        | false =>
          rw [raw_same (x := c') (y := c) (j := r) (fun i hi => by rw [hlk i]; simp [hi]) hr12 hown]
        | true =>
          have : P = .X s r g k := ex1_uniq (PL_ex1 r hr12) P hP _ hX hown (by simp [Plc.own])
          subst this
          show lo1 (chX _ _ _ _ _) = lo1 (chX _ _ _ _ _)
          rw [chX_v, chX_v, hlk s, hlk r, hcs, hcr]
          simp only [vX, bne_self_eq_false, Bool.and_false]
          rw [show (s != r) = true from by simpa using hwf.1.1.1]
          simpa using hwf.1.1.2
      rw [heq, hsame] at hno
      simp at hno
  rw [fm_raw cl]
  unfold nmT
  have : PL.map (Plc.raw c) = PL.map (Plc.ch b js o) := by
    refine List.map_inj_left.mpr fun P hP => ?_
    have hlo := hall P hP
    have hwf := PL_wf _ hP
    cases P with
    | top =>
      show t0 (c / 4096) = t0 (b / 4096)
      rw [ct]
    | R j d =>
      replace hlo : lo1 (vR (o.testBit j) d) = lo1 (vR (c.testBit j) d) := hlo
      show vR (c.testBit j) d = vR (o.testBit j) d
      rw [lo_R (by simpa [Plc.wf] using hwf) hlo]
    | X s r g k =>
      simp only [Plc.wf, Bool.and_eq_true, bne_iff_ne, beq_iff_eq] at hwf
      replace hlo : lo1 (vX (o.testBit s) (o.testBit r) g k) = lo1 (vX (c.testBit s) (c.testBit r) g k) := hlo
      obtain ⟨es, er⟩ := lo_X hwf.1.1.2 hwf.1.2 hwf.2 hlo
      show vX (c.testBit s) (c.testBit r) g k = vY (o.testBit s) (o.testBit r) (!(js.contains r && !b.testBit r)) g k
      rw [← es]
      cases hs : o.testBit s with
      | false =>
        rw [er hs]
        cases c.testBit r <;> rfl
      | true =>
        have key : c.testBit r = (o.testBit r && !(js.contains r && !b.testBit r)) := by
          cases hr : js.contains r with
          | false =>
            have hr' : r ∉ js.reverse := by
              intro m
              have := List.contains_iff_mem.mpr (List.mem_reverse.mp m)
              rw [hr] at this; cases this
            rw [(cdR_bits hc r).2 hr', (cdR_bits ho r).2 hr']; simp
          | true =>
            cases hbr : b.testBit r with
            | true => rw [(cdR_bits hc r).1 hbr, (cdR_bits ho r).1 hbr]; rfl
            | false => rw [hmin s r g k hP (List.contains_iff_mem.mp hr) hbr (by rw [← es, hs])]; simp
        rw [key]
        cases o.testBit r <;> cases js.contains r <;> cases b.testBit r <;> rfl
  rw [this]
end Mine
end

section
open PySem PyProof.Rows
set_option maxRecDepth 100000
namespace Mine
/-- the first row that is the same host as row i -/
def nm1 (rows : List Str) (i : Nat) : Str := (((rows.take (i + 1)).filter fun o => lw (rows.getD i ⟨#[]⟩) == lw o)).headD ⟨#[]⟩
def toI (c : Nat × Int) : Int × Int := ((c.1 : Int), c.2)
theorem chBit_or (c : Nat × Int) (j : Nat) : chBit (2 ^ j) (toI c) = toI (chS j c) := by
  have := stB_or c.1 j
  unfold stB at this
  unfold chBit toI chS
  dsimp only
  rw [this]
theorem chAll_N (b : Nat) (js : List Nat) : chAll (b : Int) (js.map fun j => (2 : Int) ^ j) = (chN b js).map toI := by
  have key : ∀ (js : List Nat) (L : List (Nat × Int)), (js.map fun j => (2 : Int) ^ j).foldl (fun cs b => cs ++ cs.map (chBit b)) (L.map toI) = (js.foldl (fun cs j => cs ++ cs.map (chS j)) L).map toI := by
    intro js
    induction js with
    | nil => intro L; rfl
    | cons j r ih =>
      intro L
      rw [List.map_cons, List.foldl_cons, List.foldl_cons, ← ih, List.map_append, List.map_map, List.map_map]
      congr 2
      exact List.map_congr_left fun c _ => chBit_or c j
  exact key js [(b, 0)]
theorem good_js {ps : List Int} (h : GoodP ps) : ∃ js : List Nat, ps = js.map (fun j => (2 : Int) ^ j) ∧ js.Nodup ∧ ∀ j ∈ js, j < 12 := by
  have key : ∀ ps : List Int, (∀ p ∈ ps, ∃ k : Nat, k < 12 ∧ p = 2 ^ k) → ∃ js : List Nat, ps = js.map (fun j => (2 : Int) ^ j) ∧ ∀ j ∈ js, j < 12 := by
    intro ps
    induction ps with
    | nil => intro _; exact ⟨[], rfl, fun j hj => nomatch hj⟩
    | cons p r ih =>
      intro h
      obtain ⟨js, e, hj⟩ := ih fun x hx => h x (.tail _ hx)
      obtain ⟨k, hk, e'⟩ := h p (.head _)
      refine ⟨k :: js, by rw [e, e']; rfl, fun j hm => ?_⟩
      rcases List.mem_cons.mp hm with rfl | hm
      · exact hk
      · exact hj j hm
  obtain ⟨js, e, hj⟩ := key ps h.pow
  refine ⟨js, e, ?_, hj⟩
  have hn := h.nodup
  rw [e] at hn
  exact List.Pairwise.of_map _ (fun a b hab e => hab (by rw [e])) hn
theorem rows_N (b : Nat) (js : List Nat) : (chAll (b : Int) (js.map fun j => (2 : Int) ^ j)).map (fun c => fm c.1) = (cdR b js.reverse).map (fun x : Nat => fm (x : Int)) := by
  rw [chAll_N, ← cdR_chN, List.map_map, List.map_map]
  rfl
theorem nm1_first {b : Nat} {js : List Nat} (hb : b < 65536) (hn : js.Nodup) (h12 : ∀ j ∈ js, j < 12) (i : Nat) (hi : i < (cdR b js.reverse).length) :
    nm1 ((cdR b js.reverse).map (fun x : Nat => fm (x : Int))) i = nmT b js ((cdR b js.reverse)[i]'hi) := by
  generalize hcd : cdR b js.reverse = codes at hi ⊢
  have hi' : i < (codes.map (fun x : Nat => fm (x : Int))).length := by rw [List.length_map]; exact hi
  have e0 : (codes.map (fun x : Nat => fm (x : Int))).getD i ⟨#[]⟩ = fm ((codes[i] : Nat) : Int) := by
    rw [List.getD_eq_getElem?_getD, List.getElem?_eq_getElem hi', List.getElem_map]; rfl
  have hfull : (codes.map (fun x : Nat => fm (x : Int))).find? (fun o => lw (fm ((codes[i] : Nat) : Int)) == lw o) = ((codes.map (fun x : Nat => fm (x : Int))).take (i + 1)).find? (fun o => lw (fm ((codes[i] : Nat) : Int)) == lw o) := by
    conv => lhs; rw [← List.take_append_drop (i + 1) (codes.map (fun x : Nat => fm (x : Int)))]
    rw [List.find?_append]
    cases e : ((codes.map (fun x : Nat => fm (x : Int))).take (i + 1)).find? (fun o => lw (fm ((codes[i] : Nat) : Int)) == lw o) with
    | some v => rfl
    | none =>
      exfalso
      have := List.find?_eq_none.mp e (fm ((codes[i] : Nat) : Int)) (by
        rw [List.mem_take_iff_getElem]
        exact ⟨i, by omega, by rw [List.getElem_map]⟩)
      simp at this
  rw [nm1, e0, List.headD_eq_head?_getD, List.head?_filter, ← hfull, List.find?_map]
  have hsome : ∃ c, codes.find? (fun x : Nat => lw (fm ((codes[i] : Nat) : Int)) == lw (fm (x : Int))) = some c := by
    cases e : codes.find? (fun x : Nat => lw (fm ((codes[i] : Nat) : Int)) == lw (fm (x : Int))) with
    | some c => exact ⟨c, rfl⟩
    | none =>
      have := List.find?_eq_none.mp e _ (List.getElem_mem hi)
      simp at this
  obtain ⟨c, hc⟩ := hsome
  have hc' : codes.find? ((fun o => lw (fm ((codes[i] : Nat) : Int)) == lw o) ∘ fun x : Nat => fm (x : Int)) = some c := hc
  rw [hc']
  show fm (c : Int) = _
  subst hcd
  exact first_row hb hn h12 (List.getElem_mem hi) hc
theorem names_N {b : Nat} {js : List Nat} (hb : b < 65536) (hn : js.Nodup) (h12 : ∀ j ∈ js, j < 12) {rows : List Str} (hrw : (cdR b js.reverse).map (fun x : Nat => fm (x : Int)) = rows) :
    (List.range rows.length).map (nm1 rows) = (chN b js).map fun c => nmT b js c.1 := by
  have e : (chN b js).map (fun c => nmT b js c.1) = (cdR b js.reverse).map (nmT b js) := by
    rw [← cdR_chN, List.map_map]; rfl
  rw [e, ← hrw]
  refine List.ext_getElem (by simp) fun i h1 h2 => ?_
  rw [List.getElem_map, List.getElem_map, List.getElem_range]
  exact nm1_first hb hn h12 i (by simpa using h2)
/-- the names of one weight -/
def sel (k : Int) (ns : List Str) (cs : List (Int × Int)) : List Str := ((ns.zip cs).filter fun x => x.2.2 == k).map (·.1)
theorem sel_N (k : Int) (f : Nat → Str) (L : List (Nat × Int)) : sel k (L.map fun c => f c.1) (L.map toI) = (L.filter fun c => c.2 == k).map fun c => f c.1 := by
  unfold sel
  induction L with
  | nil => rfl
  | cons c r ih =>
    rw [List.map_cons, List.map_cons, List.zip_cons_cons]
    cases h : c.2 == k with
    | true =>
      rw [List.filter_cons_of_pos (by exact h), List.map_cons, ih, List.filter_cons_of_pos (by exact h), List.map_cons]
    | false =>
      rw [List.filter_cons_of_neg (fun q => by rw [show (toI c).2 = c.2 from rfl, h] at q; cases q), ih, List.filter_cons_of_neg (by rw [h]; decide)]
theorem count_mu (f : Nat → Str) (t : Str) : ∀ L : List (Nat × Int), ParN L → ((((L.filter fun c => c.2 == 0).map fun c => f c.1).count t : Nat) : Int) - ((((L.filter fun c => c.2 == 1).map fun c => f c.1).count t : Nat) : Int) = muN (fun o => if f o = t then 1 else 0) L
  | [], _ => by simp [muN]
  | c :: r, h => by
    have ih := count_mu f t r fun x hx => h x (.tail _ hx)
    rw [muN, ← ih]
    rcases h c (.head _) with e | e
    · rw [List.filter_cons_of_pos (by rw [e]; rfl), List.filter_cons_of_neg (by rw [e]; decide), List.map_cons, List.count_cons, if_pos e]
      by_cases q : f c.1 = t
      · rw [if_pos q, if_pos (by rw [q]; exact beq_self_eq_true t)]; omega
      · rw [if_neg q, if_neg (fun x => q (by simpa using x))]; omega
    · rw [List.filter_cons_of_neg (by rw [e]; decide), List.filter_cons_of_pos (by rw [e]; rfl), List.map_cons, List.count_cons, if_neg (show ¬ c.2 = 0 by rw [e]; decide)]
      by_cases q : f c.1 = t
      · rw [if_pos q, if_pos (by rw [q]; exact beq_self_eq_true t)]; omega
      · rw [if_neg q, if_neg (fun x => q (by simpa using x))]; omega
/-! the places as the law writes them -/
theorem bit_one (n j : Nat) : (((n : Int).fdiv (2 ^ j)).fmod 2 = 1) ↔ n.testBit j = true := by
  have h := bit_zero n j
  have h2 : ((n : Int).fdiv (2 ^ j)).fmod 2 = 0 ∨ ((n : Int).fdiv (2 ^ j)).fmod 2 = 1 := by
    rw [Int.fmod_eq_emod_of_nonneg _ (by omega)]; omega
  constructor
  · intro e
    cases q : n.testBit j with
    | true => rfl
    | false => have := h.mpr q; omega
  · intro e
    rcases h2 with q | q
    · rw [h.mp q] at e; cases e
    · exact q
theorem pow_inj {i j : Nat} (h : (2 : Int) ^ i = 2 ^ j) : i = j := by
  have : (2 : Nat) ^ i = 2 ^ j := by exact_mod_cast h
  exact (Nat.pow_right_inj (by decide)).mp this
theorem any_js (js : List Nat) (j : Nat) : (js.map fun j => (2 : Int) ^ j).any (fun x => x == 2 ^ j) = js.contains j := by
  rw [Bool.eq_iff_iff, List.any_eq_true, List.contains_iff_mem]
  constructor
  · rintro ⟨x, hx, e⟩
    obtain ⟨i, hi, rfl⟩ := List.mem_map.mp hx
    rw [← pow_inj (by simpa using e : (2 : Int) ^ i = 2 ^ j)]; exact hi
  · intro h
    exact ⟨_, List.mem_map.mpr ⟨j, h, rfl⟩, by simp⟩
theorem plR_lst (b : Nat) (js : List Nat) (j c : Nat) : plR (b : Int) (js.map fun j => (2 : Int) ^ j) (2 ^ j, one c) = Plc.lst b js (.R j c) := by
  unfold plR
  dsimp only
  rw [any_js, lst_R, lR]
  by_cases h : b.testBit j = true
  · rw [if_pos ((bit_one b j).mpr h), if_pos ((bit_one b j).mpr h), h]; rfl
  · rw [if_neg (fun q => h ((bit_one b j).mp q)), if_neg (fun q => h ((bit_one b j).mp q))]
    rw [Bool.not_eq_true] at h
    rw [h]; rfl
theorem rpl_lst (b : Nat) (js : List Nat) (s r g k : Nat) : rpl (b : Int) (js.map fun j => (2 : Int) ^ j) (2 ^ s) (2 ^ r) (one g) (one k) = Plc.lst b js (.X s r g k) := by
  have hd : ∀ j, decide (((b : Int).fdiv (2 ^ j)).fmod 2 = 1) = b.testBit j := by
    intro j
    rw [Bool.eq_iff_iff, decide_eq_true_iff]
    exact bit_one b j
  unfold rpl
  dsimp only
  rw [any_js, any_js, hd, hd, lst_X, lX]
theorem item_top : ∀ q : Nat, q < 16 → Txt.item (Str.ofString "?pc?d?b?-?l?s???") (q : Int) = one (t0 q) := by decide +kernel
theorem pl0_lst (b : Nat) (hb : b < 65536) : pl0 (b : Int) = [(one (t0 (b / 4096)), 1)] := by
  unfold pl0
  have e : (b : Int).fdiv 4096 = ((b / 4096 : Nat) : Int) := by
    rw [Int.fdiv_eq_ediv_of_nonneg _ (by omega)]; omega
  rw [e, item_top _ (by omega)]
theorem plsOf_lst (b : Nat) (hb : b < 65536) (js : List Nat) : plsOf (b : Int) (js.map fun j => (2 : Int) ^ j) = PL.map (Plc.lst b js) := by
  show [pl0 (b : Int), plR _ _ (2 ^ 8, one 114), plR _ _ (2 ^ 7, one 119), rpl _ _ (2 ^ 11) (2 ^ 6) (one 83) (one 115),
    plR _ _ (2 ^ 5, one 114), plR _ _ (2 ^ 4, one 119), rpl _ _ (2 ^ 10) (2 ^ 3) (one 83) (one 115),
    plR _ _ (2 ^ 2, one 114), plR _ _ (2 ^ 1, one 119), rpl _ _ (2 ^ 9) (2 ^ 0) (one 84) (one 116)] = _
  rw [pl0_lst b hb]
  simp only [plR_lst, rpl_lst]
  rfl
def Form (l : List (Str × Int)) : Prop := l = [] ∨ (∃ a, l = [(one a, 1)]) ∨ ∃ a d, a ≠ d ∧ l = [(one a, 1), (one d, -1)]
theorem lst_form {b : Nat} {js : List Nat} (P : Plc) (hw : P.wf = true) : Form (P.lst b js) := by
  cases P with
  | top => exact .inr (.inl ⟨_, rfl⟩)
  | R j c =>
    have hc : (45 : Nat) ≠ c := by
      rintro rfl; exact absurd (show (lo1 45 != 45) = true from hw) (by decide)
    rw [lst_R]
    cases js.contains j <;> cases b.testBit j
    · exact .inr (.inl ⟨_, rfl⟩)
    · exact .inr (.inl ⟨_, rfl⟩)
    · exact .inr (.inr ⟨_, _, hc, rfl⟩)
    · exact .inl rfl
  | X s r g k =>
    simp only [Plc.wf, Bool.and_eq_true, bne_iff_ne, beq_iff_eq] at hw
    have hg : (45 : Nat) ≠ g := by
      rintro rfl; exact hw.2 (by rw [← hw.1.1.2]; decide)
    have hk : (120 : Nat) ≠ k := by
      rintro rfl; exact hw.1.2 (by decide)
    rw [lst_X]
    cases js.contains s <;> cases js.contains r <;> cases b.testBit s <;> cases b.testBit r <;>
      first
      | exact .inl rfl
      | exact .inr (.inl ⟨_, rfl⟩)
      | exact .inr (.inr ⟨45, 120, by decide, rfl⟩)
      | exact .inr (.inr ⟨_, _, hg, rfl⟩)
      | exact .inr (.inr ⟨_, _, hk, rfl⟩)
theorem Form.ones {l : List (Str × Int)} (h : Form l) : Ones l := by
  rcases h with rfl | ⟨a, rfl⟩ | ⟨a, d, _, rfl⟩
  · intro x hx; exact nomatch hx
  · intro x hx; rw [List.mem_singleton.mp hx]; exact ⟨_, rfl⟩
  · intro x hx
    rcases List.mem_cons.mp hx with rfl | hx
    · exact ⟨_, rfl⟩
    · rw [List.mem_singleton.mp hx]; exact ⟨_, rfl⟩
theorem Form.ab {l : List (Str × Int)} (h : Form l) (c : Nat) : sc (one c) (ab l) = 0 ∨ sc (one c) (ab l) = 1 := by
  rcases h with rfl | ⟨a, rfl⟩ | ⟨a, d, hne, rfl⟩
  · exact .inl rfl
  · show sc (one c) [(one a, 1)] = 0 ∨ sc (one c) [(one a, 1)] = 1
    rw [sc1]; unfold ind; split <;> simp
  · show sc (one c) [(one a, 1), (one d, 1)] = 0 ∨ sc (one c) [(one a, 1), (one d, 1)] = 1
    rw [sc2]; unfold ind
    by_cases e1 : a = c <;> by_cases e2 : d = c
    · exact absurd (e1.trans e2.symm) hne
    all_goals simp [e1, e2]
theorem Form.fit {l : List (Str × Int)} (h : Form l) : l.length ≤ 2 ∧ ∀ sm ∈ l, (sm.2 = 1 ∨ sm.2 = -1) ∧ sm.1.length ≤ 1 := by
  rcases h with rfl | ⟨a, rfl⟩ | ⟨a, d, hne, rfl⟩
  · exact ⟨by decide, fun x hx => nomatch hx⟩
  · refine ⟨by simp, fun x hx => ?_⟩
    rw [List.mem_singleton.mp hx]; exact ⟨.inl rfl, Nat.le_refl 1⟩
  · refine ⟨by simp, fun x hx => ?_⟩
    rcases List.mem_cons.mp hx with rfl | hx
    · exact ⟨.inl rfl, Nat.le_refl 1⟩
    · rw [List.mem_singleton.mp hx]; exact ⟨.inr rfl, Nat.le_refl 1⟩
theorem pls_form {b : Nat} {js : List Nat} : ∀ l ∈ PL.map (Plc.lst b js), Form l := by
  intro l hl
  obtain ⟨P, hP, rfl⟩ := List.mem_map.mp hl
  exact lst_form P (PL_wf P hP)
theorem pls_fit {base : Int} (h0 : 0 ≤ base) (h1 : base < 65536) {ps : List Int} (hg : GoodP ps) : FitP (plsOf base ps) := by
  obtain ⟨js, rfl, hn, h12⟩ := good_js hg
  obtain ⟨b, rfl⟩ := Int.eq_ofNat_of_zero_le h0
  rw [plsOf_lst b (by omega)]
  exact ⟨by rw [List.length_map]; decide, fun c hc => (pls_form c hc).fit⟩
theorem prodAll_R (cs : List (List (Str × Int))) : prodAll cs = prodR cs := prodR_all cs
end Mine
end

section
open PySem PyProof.Rows
set_option maxRecDepth 100000
namespace Mine
theorem bag_law2 {pls : List (List (Str × Int))} {E O : List Str} (h1 : ∀ pl ∈ pls, Ones pl) (h2 : ∀ pl ∈ pls, ∀ c, sc (one c) (ab pl) = 0 ∨ sc (one c) (ab pl) = 1) (hw : ∀ p ∈ prodR pls, p.2 = 1 ∨ p.2 = -1)
    (hs : ∀ t : Str, (E.count t : Int) - (O.count t : Int) = pP pls t.cps.toList) (t : Str) :
    E.count t - O.count t = (((prodR pls).filter fun p => p.2 == 1).map (·.1)).count t ∧ O.count t - E.count t = (((prodR pls).filter fun p => p.2 == -1).map (·.1)).count t :=
  bag_law (es := fun t => E.count t) (os := fun t => O.count t) h1 h2 hw hs t
/-- the plain law -/
theorem plain_law {base : Int} (h0 : 0 ≤ base) (h1 : base < 65536) {ps : List Int} (hg : GoodP ps) {rows : List Str} (hrw : (chAll base ps).map (fun c => fm c.1) = rows) (t : Str) :
    (sel 0 ((List.range rows.length).map (nm1 rows)) (chAll base ps)).count t - (sel 1 ((List.range rows.length).map (nm1 rows)) (chAll base ps)).count t = (((prodAll (plsOf base ps)).filter fun p => p.2 == 1).map (·.1)).count t ∧
    (sel 1 ((List.range rows.length).map (nm1 rows)) (chAll base ps)).count t - (sel 0 ((List.range rows.length).map (nm1 rows)) (chAll base ps)).count t = (((prodAll (plsOf base ps)).filter fun p => p.2 == -1).map (·.1)).count t := by
  have hfit := pls_fit h0 h1 hg
  obtain ⟨js, rfl, hn, h12⟩ := good_js hg
  obtain ⟨b, rfl⟩ := Int.eq_ofNat_of_zero_le h0
  have hb : b < 65536 := by omega
  have hw := (prodAll_fit hfit _ (Nat.le_refl _)).2
  rw [List.take_length] at hw
  have hall : prodAll (plsOf (b : Int) (js.map fun j => (2 : Int) ^ j)) = prodR (PL.map (Plc.lst b js)) := by
    rw [plsOf_lst b hb, prodAll_R]
  rw [rows_N] at hrw
  rw [names_N hb hn h12 hrw, hall, chAll_N, sel_N, sel_N]
  rw [hall] at hw
  have f1 : ∀ l ∈ PL.map (Plc.lst b js), Ones l := fun l hl => (pls_form l hl).ones
  have f2 : ∀ l ∈ PL.map (Plc.lst b js), ∀ c, sc (one c) (ab l) = 0 ∨ sc (one c) (ab l) = 1 := fun l hl c => (pls_form l hl).ab c
  have f3 : ∀ t : Str, ((((chN b js).filter fun c => c.2 == 0).map fun c => nmT b js c.1).count t : Int) - ((((chN b js).filter fun c => c.2 == 1).map fun c => nmT b js c.1).count t : Int) = pP (PL.map (Plc.lst b js)) t.cps.toList := fun t =>
    (count_mu (nmT b js) t _ chN_par).trans (signed hn h12 t)
  have f4 : ∀ p ∈ prodR (PL.map (Plc.lst b js)), p.2 = 1 ∨ p.2 = -1 := fun p hp => (hw p hp).1
  clear hw hall hfit
  exact bag_law2 f1 f2 f4 f3 t
end Mine
end

section
open PySem PySem.W PyProof.Rows PySem.Calls PyProof.Rows.LCg
set_option maxRecDepth 100000
set_option maxHeartbeats 4000000
namespace Mine
theorem strs_get {vs : List Value} {ss : List Str} (h : StrsAre vs ss) : ∀ {j : Nat} {x : Str}, ss[j]? = some x → ∃ t, vs[j]? = some (.str x t) := by
  induction h with
  | nil => intro j x e; simp at e
  | @cons a u vs ys r ih =>
    intro j x e
    cases j with
    | zero => obtain rfl : a = x := by simpa using e
              exact ⟨u, rfl⟩
    | succ j => exact ih (by simpa using e)
theorem sel_snoc (K : Int) {ns : List Str} {cs : List (Int × Int)} {j : Nat} {x : Str} {c : Int × Int} (h1 : ns[j]? = some x) (h2 : cs[j]? = some c) :
    sel K (ns.take (j + 1)) (cs.take (j + 1)) = sel K (ns.take j) (cs.take j) ++ (if c.2 == K then [x] else []) := by
  have l1 : (ns.take j).length = (cs.take j).length := by
    have := (List.getElem?_eq_some_iff.mp h1).1
    have := (List.getElem?_eq_some_iff.mp h2).1
    rw [List.length_take, List.length_take]; omega
  unfold sel
  rw [List.take_add_one, List.take_add_one, h1, h2, List.zip_append l1, List.filter_append, List.map_append]
  congr 1
  show List.map (fun x => x.1) (List.filter (fun x => x.2.2 == K) [(x, c)]) = _
  cases e : (c.2 == K) with
  | true => rw [List.filter_cons_of_pos (by exact e)]; rfl
  | false => rw [List.filter_cons_of_neg (fun q => by rw [show ((x, c) : Str × Int × Int).2.2 = c.2 from rfl, e] at q; cases q)]; rfl
theorem comp_not_class {scope : Scope} {cl : List (Str × Addr)} {env : Env} (h : scope.kind = .function) (C : Addr) : ((compEnvC scope cl C env).scope.kind == .class || ((compEnvC scope cl C env).scope.kind == .module && (compEnvC scope cl C env).locals != (compEnvC scope cl C env).globals)) = false := by
  show (scope.kind == .class || (scope.kind == .module && _)) = false
  rw [h]; rfl
/-- names zipped with choices, those of one weight kept -/
theorem zip_call {prog : Program} {w : World} {A : Around} {E : Value → Shared → Prop} {s : Shared} {env : Env} {scope : Scope} {cl : List (Str × Addr)} {nm ch y : Str} {p1 p2 p3 p4 p5 p6 p7 p8 p9 : Pos} {k k1 k2 : Nat} {K : Int} {na ca : Addr} {nvs cvs : List Value} {names : List Str} {cs : List (Int × Int)} {Z : List (Addr × Obj)} {m : Str → Option Value} {Q : Flow → Shared → Prop}
    (hh : A.handled = none) (hz : Fz Z s.heap) (hna : s.heap.IsList na nvs.toArray) (hca : s.heap.IsList ca cvs.toArray) (hns : StrsAre nvs names) (hcs : PsOf IP Z cvs cs) (hlen : names.length = cs.length) (hsz : names.length ≤ 8)
    (hm : s.heap.Ns env.locals m) (hkd : scope.kind = .function) (hnm : ∀ C, (compEnvC scope cl C env).kindOf nm = some .local) (hch : ∀ C, (compEnvC scope cl C env).kindOf ch = some .local) (hne : nm ≠ ch)
    (hd1 : (nm == ("__debug__" : Str)) = false) (hd2 : (ch == ("__debug__" : Str)) = false)
    (hQ : ∀ D ys h tk, StrsAre ys (sel K names cs) → s.heap.get? D = none → h.get? D = some (lst ys) → h.Ns env.locals (fun z => if z = y then some (.ref D) else m z) → (∀ b o, b ≠ env.locals → s.heap.get? b = some o → h.get? b = some o) → Q .next { s with heap := h, toks := tk }) :
    wpAny (model prog w) A (call (.type "zip") [.ref na, .ref ca]) (fun xv s₁ => wpAny (model prog w) A (pyIter xv) (fun it s₂ => ∃ Fin wr m, CompAt prog w A env (.Name nm p1) (.Tuple [.Name nm p2, .Name ch p3] k p4) [.Compare (.Subscript (.Name ch p5) (.Constant (.int 1) k1 p6) p7) [.Eq] [.Constant (.int K) k2 p8] p9] scope cl Fin it s₂ wr ∧ env.locals ∉ wr ∧ s₂.heap.Ns env.locals m ∧
      ∀ D ys Z h tk, Fin D ys Z → s₂.heap.get? D = none → h.get? D = some (lst ys) → h.Ns env.locals (fun z => if z = y then some (.ref D) else m z) → (∀ b o, b ≠ env.locals → b ∉ wr → s₂.heap.get? b = some o → h.get? b = some o) →
        (∀ p ∈ Z, p.1 ≠ env.locals → h.get? p.1 = some p.2) → (∀ p ∈ Z, p.1 ≠ D) → Q .next { s₂ with heap := h, toks := tk }) E s₁) E s := by
  refine call_zip_2 hna hca fun h2 hzp hTI hTO hi1 hi2 hs2 up2 => ?_
  refine wpAny_pyIter_zip hzp ?_
  have lna : na < s.heap.objs.size := by obtain ⟨o, e, _⟩ := hna; exact Heap.lt_size e
  have lca : ca < s.heap.objs.size := by obtain ⟨o, e, _⟩ := hca; exact Heap.lt_size e
  have Dz := zipApart_new lna lca
  have W := Itr.ofWalksU (elts := [.Name nm p2, .Name ch p3]) (k := k) (pos := p4) (WalksT.zip2 (prog := prog) (w := w) hh _ _ _ _ _ _ _ Dz nvs.toArray cvs.toArray).toU (by
    rintro i h ⟨z1, z2, ⟨a, b, z3⟩, ⟨o1, z4, _⟩, ⟨o2, z5, _⟩, _⟩ c hc
    simp only [List.mem_cons, List.not_mem_nil, or_false] at hc
    rcases hc with rfl | rfl | rfl | rfl
    · exact ⟨_, z1⟩
    · exact ⟨_, z3⟩
    · exact ⟨_, z4⟩
    · exact ⟨_, z5⟩)
  have hn8 : min nvs.toArray.size cvs.toArray.size = names.length := by
    rw [List.size_toArray, List.size_toArray, StrsAre.length hns, hcs.length, hlen, Nat.min_self]
  have notwr : ∀ b o, s.heap.get? b = some o → b ∉ [s.heap.objs.size + 4, s.heap.objs.size + 3, s.heap.objs.size, s.heap.objs.size + 1] := by
    intro b o e hb
    have l := Heap.lt_size e
    simp only [List.mem_cons, List.not_mem_nil, or_false] at hb
    rcases hb with rfl | rfl | rfl | rfl
    · exact Nat.lt_irrefl _ (Nat.lt_of_le_of_lt (Nat.le_add_right _ 4) l)
    · exact Nat.lt_irrefl _ (Nat.lt_of_le_of_lt (Nat.le_add_right _ 3) l)
    · exact Nat.lt_irrefl _ l
    · exact Nat.lt_irrefl _ (Nat.lt_of_le_of_lt (Nat.le_add_right _ 1) l)
  refine ⟨fun D ys Z' => StrsAre ys (sel K names cs), _, m, ⟨_, _, _, _, _, [], (fun j ys Z' => Z' = [] ∧ StrsAre ys (sel K (names.take j) (cs.take j))), rfl, W, ?_, ⟨hzp, hTI, ⟨_, _, hTO⟩, hi1, hi2, hna.at fun o e => up2 _ _ e, hca.at fun o e => up2 _ _ e⟩, ?_, ?_, ?_, ?_, ?_⟩, ?_, ?_, ?_⟩
  · rw [hn8]; exact Nat.le_trans hsz (by decide)
  · intro b hb
    show b < h2.objs.size
    rw [hs2]
    simp only [List.mem_cons, List.not_mem_nil, or_false] at hb
    rcases hb with rfl | rfl | rfl | rfl | rfl | rfl | rfl
    · exact Nat.add_lt_add_left (by decide) _
    · exact Nat.add_lt_add_left (by decide) _
    · exact Nat.add_lt_add_left (by decide) _
    · exact Nat.lt_add_of_pos_right (by decide)
    · exact Nat.add_lt_add_left (by decide) _
    · exact Nat.lt_of_lt_of_le lna (Nat.le_add_right _ _)
    · exact Nat.lt_of_lt_of_le lca (Nat.le_add_right _ _)
  · refine ⟨rfl, ?_⟩
    show StrsAre [] (sel K [] [])
    exact .nil
  · intro p hp; exact nomatch hp
  · intro C i v ys Z' m' h3 tk3 hC hi hP hJ hn3 hk3 hz3 hzC
    obtain ⟨T, vals, rfl, ⟨x, y', hx, hy, rfl⟩, hT, _⟩ := hP
    obtain ⟨rfl, hss⟩ := hJ
    have hi' : i < names.length := by rw [← hn8]; exact hi
    have hic : i < cs.length := by rw [← hlen]; exact hi'
    obtain ⟨t1, hx'⟩ := strs_get hns (List.getElem?_eq_getElem hi')
    obtain ⟨T', vals', n', hy', hTZ, ⟨tc, uc, rfl⟩⟩ := hcs.get (List.getElem?_eq_getElem hic)
    have ex : x = .str (names[i]'hi') t1 := by
      have : nvs[i]? = some x := by simpa using hx
      rw [hx'] at this; exact (Option.some.inj this).symm
    have ey : y' = .ref T' := by
      have : cvs[i]? = some y' := by simpa using hy
      rw [hy'] at this; exact (Option.some.inj this).symm
    subst ex ey
    have hsn := sel_snoc K (List.getElem?_eq_getElem hi') (List.getElem?_eq_getElem hic)
    generalize names[i]'hi' = nx at hsn hx hx' hT ⊢
    generalize cs[i]'hic = c at hsn hTZ hy' hy hT ⊢
    have hkind3 : (compEnvC scope cl C env).scope.kind = .function := hkd
    have hT3 : h3.get? T' = some (TupO #[.int c.1 tc, .int c.2 uc] n') := hk3 _ _ (notwr _ _ (hz _ hTZ)) (up2 _ _ (hz _ hTZ))
    have hTC : T' ≠ C := by
      have l := Heap.lt_size (hz _ hTZ)
      have : s.heap.objs.size ≤ C := Nat.le_trans (by show s.heap.objs.size ≤ h2.objs.size; rw [hs2]; exact Nat.le_add_right _ _) hC
      exact Nat.ne_of_lt (Nat.lt_of_lt_of_le l this)
    refine assign_pairC hh hT hn3 (hnm C) (hch C) (comp_not_class hkd C) fun h4 tk4 hn4 hk4 => ?_
    have hT4 := hk4 _ _ hTC hT3
    refine wpAny_tests_one ?_
    refine wpAny_isTrue_Compare1 ?_
    refine Subscript_ ?_
    refine nameL hn4 (if_pos rfl) ?_ hkind3 (hch C) hd2
    refine wpAny_Constant_int ?_
    refine item_tuple (j := 1) ⟨_, hT4, rfl, _, rfl⟩ (by decide) (by decide) rfl rfl ?_
    refine wpAny_Constant_int ?_
    refine eq_int ?_
    refine wpAny_truthy_bool ?_
    cases hb : (c.2 == K) with
    | true =>
      rw [if_pos rfl]
      refine nameL (v := .str nx t1) hn4 ?_ ?_ hkind3 (hnm C) hd1
      · rw [if_neg hne, if_pos rfl]
      · refine ⟨h4, _, _, [], rfl, hn4, hk4, (fun p hp => nomatch hp), rfl, ?_⟩
        rw [hsn, if_pos hb]
        exact StrsAre.snoc hss _ _
    | false =>
      rw [if_neg (by decide)]
      refine ⟨h4, _, _, [], rfl, hn4, hk4, (fun p hp => nomatch hp), rfl, ?_⟩
      rw [hsn, if_neg (by rw [hb]; decide), List.append_nil]
      simpa using hss
  · rintro D ys Z' ⟨_, h1⟩
    rw [hn8] at h1
    rw [List.take_length, hlen, List.take_length] at h1
    exact h1
  · intro hm'
    obtain ⟨o, _, _, e, _⟩ := hm
    exact notwr _ _ e hm'
  · exact hm.keeps up2
  · rintro D ys Z' h3 tk3 hss hD hlD hn3 hk3 _ _
    refine hQ D ys h3 tk3 hss ?_ hlD hn3 fun b o hb e => hk3 b o hb (notwr b o e) (up2 _ _ e)
    cases e : s.heap.get? D with
    | none => rfl
    | some o => have hD' : h2.get? D = none := hD; rw [up2 _ _ e] at hD'; cases hD'
end Mine
end

section
open PySem PySem.W PyProof.Rows PySem.Calls PyProof.Rows.LCg
set_option maxRecDepth 100000
set_option maxHeartbeats 4000000
namespace Mine
theorem sortedU {prog : Program} {w : World} {A : Around} {E : Value → Shared → Prop} {s : Shared} {l : Addr} {vs : List Value} {ss : List Str} {Q : Value → Shared → Prop} (hl : s.heap.IsList l vs.toArray) (hS : StrsAre vs ss) (h64 : ss.length < 64)
    (h : ∀ h' a vs' ss', Up s.heap h' → h'.IsList a vs'.toArray → StrsAre vs' ss' → ss'.Perm ss → sortedS ss' = true → Q (.ref a) { s with heap := h' }) :
    wpAny (model prog w) A (call (.builtin "sorted") [.ref l]) Q E s := by
  refine sorted_strs hl hS (by rw [hS.length]; exact h64) fun out ss' a1 a2 a3 => ?_
  obtain ⟨e, he⟩ := sortedAll_at s.heap vs out
  exact h _ _ out.toList ss' (fun _ _ => sortedAll_old) ⟨_, he, rfl, e, by simp⟩ a1 a2 a3
/-- the rows of one weight -/
def wsel (K : Int) (due : List (Str × Int)) : List Str := (due.filter fun p => p.2 == K).map (·.1)
theorem wsel_snoc (K : Int) {due : List (Str × Int)} {j : Nat} {c : Str × Int} (h : due[j]? = some c) : wsel K (due.take (j + 1)) = wsel K (due.take j) ++ (if c.2 == K then [c.1] else []) := by
  unfold wsel
  rw [List.take_add_one, h, List.filter_append, List.map_append]
  congr 1
  show List.map (fun x => x.1) (List.filter (fun x => x.2 == K) [c]) = _
  cases e : (c.2 == K) with
  | true => rw [List.filter_cons_of_pos (by exact e)]; rfl
  | false => rw [List.filter_cons_of_neg (by rw [e]; decide)]; rfl
theorem due_iter {prog : Program} {w : World} {A : Around} {E : Value → Shared → Prop} {s : Shared} {env : Env} {scope : Scope} {cl : List (Str × Addr)} {nm wt : Str} {p1 p2 p3 p4 p5 p9 : Pos} {k : Nat} {K : Int} {ce : Expr} {da : Addr} {dvs : List Value} {due : List (Str × Int)} {Z : List (Addr × Obj)} {Q : Value → Shared → Prop}
    (hh : A.handled = none) (hz : Fz Z s.heap) (hda : s.heap.IsList da dvs.toArray) (hcs : PsOf SIP Z dvs due) (hsz : due.length ≤ 1024)
    (hkd : scope.kind = .function) (hnm : ∀ C, (compEnvC scope cl C env).kindOf nm = some .local) (hch : ∀ C, (compEnvC scope cl C env).kindOf wt = some .local) (hne : nm ≠ wt)
    (hd1 : (nm == ("__debug__" : Str)) = false) (hd2 : (wt == ("__debug__" : Str)) = false)
    (hce : ∀ C (s : Shared) (Q : Value → Shared → Prop), (∀ t tk, Q (.int K t) { s with toks := tk }) → wpAny (model prog w) A (eval ce (compEnvC scope cl C env)) Q (fun _ _ => False) s) (hbm : behindInMarks .Eq ce = false)
    (hQ : ∀ D ys h tk, StrsAre ys (wsel K due) → h.get? D = some (lst ys) → Up s.heap h → Q (.ref D) { s with heap := h, toks := tk }) :
    wpAny (model prog w) A (pyIter (.ref da)) (fun it s₂ => ∃ Fin wr, CompAt prog w A env (.Name nm p1) (.Tuple [.Name nm p2, .Name wt p3] k p4) [.Compare (.Name wt p5) [.Eq] [ce] p9] scope cl Fin it s₂ wr ∧
      ∀ D ys Z h tk, Fin D ys Z → s₂.heap.get? D = none → h.get? D = some (lst ys) → (∀ b o, b ∉ wr → s₂.heap.get? b = some o → h.get? b = some o) → Fz Z h → (∀ p ∈ Z, p.1 ≠ D) → Q (.ref D) { s₂ with heap := h, toks := tk }) E s := by
  refine wpAny_pyIter_list hda ?_
  obtain ⟨fp, St, W, hst, hfp1, hfp2⟩ := itr_ps (prog := prog) (w := w) (A := A) (elts := [.Name nm p2, .Name wt p3]) (k := k) (pos := p4) hh hcs (h := s.heap.push { cls := .type "list_iterator", data := .fields #[.ref da, .int 0 0] }) (I := s.heap.objs.size) (ax := da) (fun p hp => Heap.get?_push_of_some _ (hz p hp)) (hda.push _) ⟨_, Heap.get?_push_size _ rfl, rfl, rfl⟩ (fun p hp => Nat.ne_of_lt (Heap.lt_size (hz p hp)))
  refine ⟨fun D ys Z' => StrsAre ys (wsel K due), [s.heap.objs.size], ⟨s.heap.objs.size, fp, _, _, St, [], (fun j ys Z' => Z' = [] ∧ StrsAre ys (wsel K (due.take j))), rfl, W, ?_, hst, ?_, ?_, ?_, ?_, ?_⟩, ?_⟩
  · exact Nat.le_trans hsz (by decide)
  · intro b hb
    obtain ⟨o, e⟩ := hfp1 b hb
    exact Heap.lt_size e
  · exact ⟨rfl, .nil⟩
  · intro p hp; exact nomatch hp
  · intro C i v ys Z' m' h3 tk3 hC hi hP hJ hn3 hk3 hz3 hzC
    obtain ⟨T', vals, c, hc, rfl, ⟨t1, u1, rfl⟩, hT', _⟩ := hP
    obtain ⟨rfl, hss⟩ := hJ
    have hkind3 : (compEnvC scope cl C env).scope.kind = .function := hkd
    refine assign_pairC hh hT' hn3 (hnm C) (hch C) (comp_not_class hkd C) fun h4 tk4 hn4 hk4 => ?_
    refine wpAny_tests_one ?_
    refine wpAny_isTrue_Compare1 ?_ hbm
    refine nameL hn4 (if_pos rfl) ?_ hkind3 (hch C) hd2
    refine hce C _ _ fun t5 tk5 => ?_
    refine eq_int ?_
    refine wpAny_truthy_bool ?_
    have hsn := wsel_snoc K hc
    cases hb : (c.2 == K) with
    | true =>
      rw [if_pos rfl]
      refine nameL (v := .str c.1 t1) hn4 ?_ ?_ hkind3 (hnm C) hd1
      · rw [if_neg hne, if_pos rfl]
      · refine ⟨h4, _, _, [], rfl, hn4, hk4, (fun p hp => nomatch hp), rfl, ?_⟩
        rw [hsn, if_pos hb]
        exact StrsAre.snoc hss _ _
    | false =>
      rw [if_neg (by decide)]
      refine ⟨h4, _, _, [], rfl, hn4, hk4, (fun p hp => nomatch hp), rfl, ?_⟩
      rw [hsn, if_neg (by rw [hb]; decide), List.append_nil]
      simpa using hss
  · rintro D ys Z' ⟨_, h1⟩
    rw [List.take_length] at h1
    exact h1
  · rintro D ys Z' h3 tk3 hss hD hlD hk3 _ _
    exact hQ D ys h3 tk3 hss hlD fun b o e => hk3 b o (fun q => absurd (Heap.lt_size e) (by rw [List.mem_singleton.mp q]; exact Nat.lt_irrefl _)) (Heap.get?_push_of_some _ e)
/-! the texts can be laid -/
theorem nm1_ok {rows : List Str} (h : ∀ r ∈ rows, PyData.strOk r = true) (i : Nat) : PyData.strOk (nm1 rows i) = true := by
  unfold nm1
  cases e : (rows.take (i + 1)).filter (fun o => lw (rows.getD i ⟨#[]⟩) == lw o) with
  | nil => simp [PyData.strOk]
  | cons a r =>
    have : a ∈ (rows.take (i + 1)).filter (fun o => lw (rows.getD i ⟨#[]⟩) == lw o) := by rw [e]; exact .head _
    exact h a (List.mem_of_mem_take (List.mem_filter.mp this).1)
theorem sel_mem {K : Int} {ns : List Str} {cs : List (Int × Int)} {x : Str} (h : x ∈ sel K ns cs) : x ∈ ns := by
  unfold sel at h
  obtain ⟨p, hp, rfl⟩ := List.mem_map.mp h
  exact (List.of_mem_zip (List.mem_filter.mp hp).1).1
theorem sel_len {K : Int} {ns : List Str} {cs : List (Int × Int)} : (sel K ns cs).length ≤ ns.length := by
  unfold sel
  rw [List.length_map]
  refine Nat.le_trans (List.length_filter_le _ _) ?_
  rw [List.length_zip]; exact Nat.min_le_left _ _
theorem Less.mem {ms es os : List Str} (h : Less ms es os) {x : Str} (hx : x ∈ ms) : x ∈ es := by
  have h1 := List.count_pos_iff.mpr hx
  rw [h x] at h1
  exact List.count_pos_iff.mp (by omega)
end Mine
end

section
open PySem PySem.W PyProof.Rows PySem.Calls PyProof.Rows.LCg
set_option maxRecDepth 100000
set_option maxHeartbeats 8000000
namespace Mine
theorem news_call {h₀ h h' : Heap} {L : Addr} {m : Str → Option Value} {old Z : List (Addr × Obj)} (F : Fr h₀ L h m) (N : News h₀ L h old) (up : Up h h') (hZ : ∀ p ∈ Z, h'.get? p.1 = some p.2 ∧ h.get? p.1 = none) :
    News h₀ L h' (Z ++ old) ∧ ∀ p ∈ Z, ∀ q ∈ old, p.1 ≠ q.1 := by
  refine ⟨fun p hp => ?_, fun p hp q hq e => ?_⟩
  · rcases List.mem_append.mp hp with hp | hp
    · refine ⟨(hZ p hp).1, fun q => ?_, ?_⟩
      · obtain ⟨o, _, _, e, _⟩ := F.ns
        have := (hZ p hp).2
        rw [q, e] at this; cases this
      · cases e : h₀.get? p.1 with
        | none => rfl
        | some o => have := (hZ p hp).2; rw [F.keep _ _ e] at this; cases this
    · exact ⟨up _ _ (N p hp).1, (N p hp).2⟩
  · have := (hZ p hp).2
    rw [e, (N q hq).1] at this; cases this
theorem GoodP.small {ps : List Int} (h : GoodP ps) : ∀ p ∈ ps, 0 < p ∧ p ≤ 2048 := by
  intro p hp
  obtain ⟨k, hk, rfl⟩ := h.pow p hp
  have h1 : (1 : Int) ≤ 2 ^ k := by exact_mod_cast Nat.one_le_two_pow
  have h2 : (2 : Int) ^ k ≤ 2 ^ 11 := by exact_mod_cast Nat.pow_le_pow_right (by decide) (Nat.le_of_lt_succ hk)
  exact ⟨by omega, by omega⟩
theorem frames_of {env : Env} {A : Around} (h : callerA.deeper env = A) : A.frames = some [env] := by rw [← h]; exact Around.frames_deeper rfl
local macro_rules | `(tactic| walk_at "eval Name") => `(tactic| (refine nameL (by assumption) (by exact rfl) ?_ rfl rfl (by decide)))
local macro_rules | `(tactic| walk_at "eval Name") => `(tactic| (refine nameG (by assumption) (by assumption) (by k_is) ?_ rfl rfl rfl (by decide)))
local macro_rules | `(tactic| walk_at "eval Name") => `(tactic| (refine nameC (by exact rfl) (by assumption) (by assumption) ?_ rfl rfl (by decide)))
/-- what the rows are, for the matching -/
structure FmOk (r : Str) : Prop where
  ascii : ∀ c ∈ r.cps.toList, c < 128
  dot : 46 ∉ r.cps
  size : r.cps.size = 10
theorem fm_ok (mode : Int) : FmOk (fm mode) := by
  have key : ∀ i, fmAt mode i < 128 ∧ fmAt mode i ≠ 46 := by
    intro i
    unfold fmAt
    cases e : (tabAt i).find? (hits mode i) with
    | none => dsimp only; split <;> exact ⟨by decide, by decide⟩
    | some p =>
      have hm := List.mem_of_find?_eq_some e
      have hall : ∀ l ∈ tabs, ∀ q ∈ l, q.2 < 128 ∧ q.2 ≠ 46 := by decide
      unfold tabAt at hm
      rw [List.getD_eq_getElem?_getD] at hm
      cases e2 : tabs[i]? with
      | none => rw [e2] at hm; exact nomatch hm
      | some l => rw [e2] at hm; exact hall l (List.mem_of_getElem? e2) p hm
  refine ⟨fun c hc => ?_, fun hc => ?_, fm_size mode⟩
  · unfold fm at hc
    have hc' : ∃ a, a < 10 ∧ fmAt mode a = c := by simpa using hc
    obtain ⟨i, _, rfl⟩ := hc'
    exact (key i).1
  · unfold fm at hc
    have hc' : ∃ a, a < 10 ∧ fmAt mode a = 46 := by simpa using hc
    obtain ⟨i, _, e⟩ := hc'
    exact (key i).2 e
theorem sliceU {prog : Program} {w : World} {A : Around} {E : Value → Shared → Prop} {s : Shared} {value slice : Expr} {l : Addr} {items : Array Value} {vl vu vk : Value} {lo hi st : Option Int} {ops : List Value} {Q : Value → Shared → Prop}
    (hl : s.heap.IsList l items) (pl : IsPart vl lo) (pu : IsPart vu hi) (pk : IsPart vk st) (h0 : st ≠ some 0) (hsz : items.size ≤ sizeLine)
    (h : ∀ h' a, Up s.heap h' → h'.IsList a (slicePick items lo hi st) → s.heap.get? a = none → Q (.ref a) { s with heap := h' })
    (hs : subscripted slice false (.ref l) (.ref s.heap.objs.size) = operate ops (getItem (.ref l) (.ref s.heap.objs.size)) := by with_unfolding_all rfl)
    (ht : ∀ r, letTemporaryGo value (.ref l) r = pure () := by intro _; with_unfolding_all rfl) :
    wpAny (model prog w) A (subscriptTail value slice (.ref l) (.ref s.heap.objs.size)) Q E { s with heap := s.heap.push { cls := .type "slice", data := .fields #[vl, vu, vk] } } := by
  refine subscriptTail_ops (Heap.IsList.typeIs (s := { s with heap := s.heap.push { cls := .type "slice", data := .fields #[vl, vu, vk] } }) (hl.push _)) list_getitem_lookup
    (wpAny_getItem_list_slice (hl.push _) (Heap.IsSliceOf.new ..) pl pu pk h0 ?_ hsz) hs ht
  refine h _ _ (fun b o e => Heap.get?_push_of_some _ (Heap.get?_push_of_some _ e)) ⟨_, Heap.get?_push_size _ rfl, rfl, _, rfl⟩ ?_
  exact fresh_above (by rw [Heap.size_push]; exact Nat.le_succ _)
theorem strs_take {vs : List Value} {ss : List Str} (h : StrsAre vs ss) : ∀ n, StrsAre (vs.take n) (ss.take n) := by
  induction h with
  | nil => intro n; simp; exact .nil
  | @cons a u vs ys r ih =>
    intro n
    cases n with
    | zero => exact .nil
    | succ n => exact .cons a u (ih n)
theorem assign_pairLC {prog : Program} {w : World} {A : Around} {E : Value → Shared → Prop} {s : Shared} {env : Env} {m : Str → Option Value} {Q : Unit → Shared → Prop} {x y : Str} {px py pos : Pos} {k : Nat} {T K : Addr} {v0 v1 : Value} (hh : A.handled = none) (ht : s.heap.IsTuple T #[v0, v1]) (hn : s.heap.Ns env.locals m)
    (hc : IsCl s.heap K) (hKL : K ≠ env.locals) (hf : env.scope.kind = .function) (hK : env.cells.lookup y = some K)
    (hx : env.kindOf x = some .local) (hy : env.kindOf y = some .cell) (hp : (env.scope.kind == .class || (env.scope.kind == .module && env.locals != env.globals)) = false)
    (h : ∀ h' tk o, h'.Ns env.locals (fun z => if z = x then some v0 else m z) → h'.get? K = some o → o.data = .cell (some v1) → (∀ b o, b ≠ env.locals → b ≠ K → s.heap.get? b = some o → h'.get? b = some o) → Q () { s with heap := h', toks := tk }) :
    wpAny (model prog w) A (assign (.Tuple [.Name x px, .Name y py] k pos) env (.ref T)) Q E s := by
  refine wpAny_assign_Tuple hh ht rfl rfl fun h₃ hx₃ => ?_
  have up₃ : ∀ b o, s.heap.get? b = some o → h₃.get? b = some o := fun b o x => hx₃ b o (Nat.ne_of_lt (Heap.lt_size x)) x
  obtain ⟨oc, hoc, cv, hcv⟩ := hc
  show wpAny _ A (do holding [v1] (assign (.Name x px) env v0); do holding [] (assign (.Name y py) env v1); pure ()) _ _ _
  refine wpAny_bind (wpAny_holding (wpAny_assign_Name (wpAny_storeName_local hx (hn.keeps up₃) (fun h₄ hn₄ hs₄ => ?_) hp)))
  refine wpAny_bind (wpAny_holding (wpAny_assign_Name (wpAny_storeName_cell hf hy hK ⟨oc, hs₄.extBut _ _ hKL (up₃ _ _ hoc), hcv⟩ fun h₅ hc₅ hs₅ => wpAny_pure ?_)))
  obtain ⟨o5, e5, d5⟩ := hc₅
  exact h _ _ o5 (hn₄.sameBut hs₅ hKL.symm) e5 d5 fun b o hb hbK e => hs₅.extBut b o hbK (hs₄.extBut b o hb (up₃ b o e))
theorem strOk_ascii {x : Str} (h : ∀ c ∈ x.cps.toList, c < 128) : PyData.strOk x = true := by
  unfold PyData.strOk
  rw [Array.all_eq_true]
  intro i hi
  have := h x.cps[i] (by simp)
  simp only [decide_eq_true_eq]
  omega
theorem store_new {h₀ h h' : Heap} {L D : Addr} {m m' : Str → Option Value} {nx : List (Addr × Obj)} {o : Obj} (F : Fr h₀ L h m) (N : News h₀ L h nx) (hD : h.get? D = none) (hl : h'.get? D = some o) (hn : h'.Ns L m') (hk : ∀ b o, b ≠ L → h.get? b = some o → h'.get? b = some o) :
    Fr h₀ L h' m' ∧ News h₀ L h' ((D, o) :: nx) ∧ ∀ p ∈ nx, D ≠ p.1 := by
  have ne : ∀ b o, h.get? b = some o → D ≠ b := fun b o e q => by rw [q, e] at hD; cases hD
  have hDL : D ≠ L := by obtain ⟨o, _, _, e, _⟩ := F.ns; exact ne _ _ e
  refine ⟨⟨hn, fun b o e => hk b o (fun q => ?_) (F.keep b o e), F.above⟩, ?_, fun p hp => ne _ _ (N p hp).1⟩
  · have := Heap.lt_size e
    rw [q] at this
    exact Nat.lt_irrefl _ (Nat.lt_of_lt_of_le this F.above)
  · intro p hp
    rcases List.mem_cons.mp hp with rfl | hp
    · refine ⟨hl, hDL, ?_⟩
      cases e : h₀.get? D with
      | none => rfl
      | some o => rw [F.keep _ _ e] at hD; cases hD
    · exact ⟨hk _ _ (N p hp).2.1 (N p hp).1, (N p hp).2⟩
/-- what the rows of one weight leave -/
def DueA (s : Shared) (ss : List Str) (v : Value) (s' : Shared) : Prop := ∃ D ys h tk, v = .ref D ∧ s' = { s with heap := h, toks := tk } ∧ StrsAre ys ss ∧ h.get? D = some (lst ys) ∧ Up s.heap h
theorem DueA.mk {s : Shared} {ss : List Str} (D : Addr) (ys : List Value) (h : Heap) (tk : Nat) (h1 : StrsAre ys ss) (h2 : h.get? D = some (lst ys)) (h3 : Up s.heap h) : DueA s ss (.ref D) { s with heap := h, toks := tk } := ⟨D, ys, h, tk, rfl, rfl, h1, h2, h3⟩
theorem tryit : PySem.Challenge.rw_of0018_01.Holds := hd (by
  k_go0
  rename_i w s₀ s₁ mg mb _ _ _ _ _ _ _ _ KX _ _ _ T _ _ _ _ _ _ _ _ _ ns _ _ _ _ _ _ _ sa vs _ hsl _ _ _ hI _ hlen _ _ _ h₁ tk₁ F oc0 hoc0 N0 X0
  have G : Gd w _ mg mb s₁.heap := ⟨KX, T⟩
  clear X0
  dsimp only at F hoc0 ⊢
  generalize hA : callerA.deeper _ = A
  have hh : A.handled = none := by rw [← hA]; rfl
  have hroom : A.depth + 3 < recursionLimit := by rw [← hA]; show callerA.depth + 1 + 3 < recursionLimit; decide +kernel
  have hfr := frames_of hA
  have hun : A.units + 64 < cLine := by rw [← hA]; show callerA.units + 3 + 64 < cLine; decide +kernel
  clear hA
  have hoc : ∃ cv, oc0.data = .cell cv := ⟨_, hoc0⟩
  clear hoc0
  refine stmt_cut (h₀ := s₁.heap) (L := s₁.heap.objs.size) (fun m nx => ∃ (da : Addr) (dvs : List Value) (ds : List Int), m (Str.ofString "draws") = some (.ref da) ∧ nx = [(da, W.listOf dvs.toArray 0), (s₁.heap.objs.size + 1, oc0)] ∧ IntsAre dvs ds ∧ ds.length ≤ 10) ?_ ?_
  · k_steps
    rename_i D1 ws1 g1 i1 i2 i3 c1 g2 F2 N2
    exact StA.mk F2 N2 ⟨D1, ws1, _, rfl, rfl, i1, by rw [List.length_take]; omega⟩
  · clear F N0
    intro h2 tk2 m2 nx2 F N hJ
    obtain ⟨da, dvs, ds, hm1, rfl, hds, hdl⟩ := hJ
    rw [canon1 hm1] at F
    refine stmt_cut (h₀ := s₁.heap) (L := s₁.heap.objs.size) (fun m nx => ∃ b t, m (Str.ofString "draws") = some (.ref da) ∧ m (Str.ofString "base") = some (.int b t) ∧ nx = [(da, W.listOf dvs.toArray 0), (s₁.heap.objs.size + 1, oc0)] ∧ 0 ≤ b ∧ b < 65536) ?_ ?_
    · k_steps
      refine base_ok (G.up F.keep) (Nat.lt_of_le_of_lt (Nat.le_add_right _ 3) hroom) hh ⟨_, (N _ (.head _)).1, rfl, _, rfl⟩ hds ?_
      intro b t h3 tk3 up3 hb0 hb1
      have F3 := F.keeps up3
      have N3 := N.grown up3
      clear F N
      k_steps
      rename Fr _ _ _ _ => F4
      rename News _ _ _ _ => N4
      exact StA.mk F4 N4 ⟨b, t, rfl, rfl, rfl, hb0, hb1⟩
    · clear F N hm1
      intro h3 tk3 m3 nx3 F N hJ
      obtain ⟨base, tb, hm1, hm2, rfl, hb0, hb1⟩ := hJ
      rw [canon2 hm1 hm2] at F
      refine stmt_cut (h₀ := s₁.heap) (L := s₁.heap.objs.size) (fun m nx => ∃ pa pn pvs ps Z, m (Str.ofString "base") = some (.int base tb) ∧ m (Str.ofString "picks") = some (.ref pa) ∧ nx = (s₁.heap.objs.size + 1, oc0) :: Z ∧ (∀ p ∈ Z, p.1 ≠ s₁.heap.objs.size + 1) ∧ (pa, W.listOf pvs.toArray pn) ∈ Z ∧ IntsAre pvs ps ∧ GoodP ps ∧ ps ≠ [] ∧ ps.length ≤ 3) ?_ ?_
      · k_steps
        refine picks_ok (G.up F.keep) (Nat.lt_of_le_of_lt (Nat.le_add_right _ 3) hroom) hh ⟨_, (N _ (.head _)).1, rfl, _, rfl⟩ hds hdl ?_
        intro pa pn pvs ps Z h4 tk4 up4 hZ hpa hps hg hp0 hp3
        have F4 := F.keeps up4
        obtain ⟨N4, hne⟩ := news_call F N up4 hZ
        have hc1 : ∀ p ∈ Z, p.1 ≠ s₁.heap.objs.size + 1 := fun p hp => hne p hp _ (.tail _ (.head _))
        replace N4 : News s₁.heap s₁.heap.objs.size h4 ((s₁.heap.objs.size + 1, oc0) :: Z) := fun p hp => N4 p (by
          rcases List.mem_cons.mp hp with rfl | hp
          · exact List.mem_append_right _ (.tail _ (.head _))
          · exact List.mem_append_left _ hp)
        clear F N
        k_steps
        rename Fr _ _ _ _ => F5
        rename News _ _ _ _ => N5
        exact StA.mk F5 N5 ⟨pa, pn, pvs, ps, Z, rfl, rfl, rfl, hc1, hpa, hps, hg, hp0, hp3⟩
      · clear F N hm1 hm2
        intro h4 tk4 m4 nx4 F N hJ
        obtain ⟨pa, pn, pvs, ps, Z, hm1, hm2, rfl, hc1, hpa, hps, hg, hp0, hp3⟩ := hJ
        rw [canon2 hm1 hm2] at F
        have hpow : ∀ p ∈ ps, 0 < p ∧ p ≤ 2048 := hg.small
        refine stmt_cut (h₀ := s₁.heap) (L := s₁.heap.objs.size) (fun m nx => ∃ ca cn cvs Z, m (Str.ofString "base") = some (.int base tb) ∧ m (Str.ofString "picks") = some (.ref pa) ∧ m (Str.ofString "choices") = some (.ref ca) ∧ nx = (s₁.heap.objs.size + 1, oc0) :: Z ∧ (∀ p ∈ Z, p.1 ≠ s₁.heap.objs.size + 1) ∧ (pa, W.listOf pvs.toArray pn) ∈ Z ∧ (ca, W.listOf cvs.toArray cn) ∈ Z ∧ PsOf IP Z cvs (chAll base ps)) ?_ ?_
        · k_steps
          refine choices_ok (G.up F.keep) (Nat.lt_of_le_of_lt (Nat.le_add_right _ 3) hroom) hh ⟨_, (N _ (.tail _ hpa)).1, rfl, _, rfl⟩ hps hpow hp3 ?_
          intro ca cn cvs Z2 h5 tk5 up5 hZ2 hca hcs
          have F5 := F.keeps up5
          obtain ⟨N5, hne⟩ := news_call F N up5 hZ2
          replace N5 : News s₁.heap s₁.heap.objs.size h5 ((s₁.heap.objs.size + 1, oc0) :: (Z2 ++ Z)) := fun p hp => N5 p (by
            simp only [List.mem_cons, List.mem_append] at hp ⊢
            rcases hp with h | h | h <;> simp [h])
          clear F N
          k_steps
          rename Fr _ _ _ _ => F6
          rename News _ _ _ _ => N6
          refine StA.mk F6 N6 ⟨ca, cn, cvs, Z2 ++ Z, rfl, rfl, rfl, rfl, fun p hp => ?_, List.mem_append_right _ hpa, List.mem_append_left _ hca, hcs.mono fun p hp => List.mem_append_left _ hp⟩
          rcases List.mem_append.mp hp with hp | hp
          · exact hne p hp _ (.head _)
          · exact hc1 p hp
        · clear F N hm1 hm2
          intro h5 tk5 m5 nx5 F N hJ
          obtain ⟨ca, cn, cvs, Z, hm1, hm2, hm3, rfl, hc1, hpa, hca, hcs⟩ := hJ
          refine stmt_cut (h₀ := s₁.heap) (L := s₁.heap.objs.size) (fun m nx => ∃ ra rn rvs oc Z, m (Str.ofString "base") = some (.int base tb) ∧ m (Str.ofString "picks") = some (.ref pa) ∧ m (Str.ofString "choices") = some (.ref ca) ∧ nx = (s₁.heap.objs.size + 1, oc) :: Z ∧ oc.data = .cell (some (.ref ra)) ∧ (∀ p ∈ Z, p.1 ≠ s₁.heap.objs.size + 1) ∧ (pa, W.listOf pvs.toArray pn) ∈ Z ∧ (ca, W.listOf cvs.toArray cn) ∈ Z ∧ PsOf IP Z cvs (chAll base ps) ∧ (ra, W.listOf rvs.toArray rn) ∈ Z ∧ StrsAre rvs ((chAll base ps).map fun c => fm c.1)) ?_ ?_
          · refine wpAny_Assign_Name ?_
            refine comp_eval rfl (by decide) rfl (by decide) ?_
            refine nameL F.ns hm3 ?_ rfl rfl (by decide)
            have hzc : Fz Z h5 := fun p hp => (N p (.tail _ hp)).1
            have hlc : h5.IsList ca cvs.toArray := ⟨_, hzc _ hca, rfl, _, rfl⟩
            refine wpAny_pyIter_list hlc ?_
            dsimp only
            obtain ⟨fp, St, W, hst, hfp1, hfp2⟩ := itr_ps (prog := PySem.Challenge.rw_of0018_01.row.prog) (w := w) (A := A) (elts := _) (k := _) (pos := _) hh hcs (h := h5.push { cls := .type "list_iterator", data := .fields #[.ref ca, .int 0 0] }) (I := h5.objs.size) (ax := ca) (fun p hp => Heap.get?_push_of_some _ (hzc p hp)) (hlc.push _) ⟨_, Heap.get?_push_size _ rfl, rfl, rfl⟩ (fun p hp => Nat.ne_of_lt (Heap.lt_size (hzc p hp)))
            have hsz5 : (h5.push { cls := .type "list_iterator", data := .fields #[.ref ca, .int 0 0] }).objs.size = h5.objs.size + 1 := Heap.size_push ..
            refine ⟨fun D ys' Z' => StrsAre ys' ((chAll base ps).map fun c => fm c.1), [h5.objs.size], ⟨h5.objs.size, fp, _, _, St, [], (fun j ys' Z' => Z' = [] ∧ StrsAre ys' (((chAll base ps).take j).map fun c => fm c.1)), rfl, W, ?_, hst, ?_, ?_, ?_, ?_, ?_⟩, ?_⟩
            · rw [chAll_length]
              exact Nat.le_trans (Nat.pow_le_pow_right (by decide) hp3) (by decide)
            · intro b hb
              obtain ⟨o, e⟩ := hfp1 b hb
              exact Heap.lt_size e
            · exact ⟨rfl, .nil⟩
            · intro p hp; exact nomatch hp
            · intro C j v ys' Z' m' h6 tk6 hC hj hP hJ6 hn6 hk6 hz6 hzC
              obtain ⟨T', vals, c, hc, rfl, ⟨t1, u1, rfl⟩, hT', _⟩ := hP
              obtain ⟨rfl, hss⟩ := hJ6
              refine assign_pairC hh hT' hn6 rfl rfl rfl fun h7 tk7 hn7 hk7 => ?_
              have hC' : h5.objs.size + 1 ≤ C := by rw [← hsz5]; exact hC
              have up7 : Up s₁.heap h7 := fun b o e => by
                have e5 := F.keep b o e
                have lt5 := Heap.lt_size e5
                exact hk7 b o (Nat.ne_of_lt (Nat.lt_of_lt_of_le (Nat.lt_succ_of_lt lt5) hC')) (hk6 b o (fun q => by rw [List.mem_singleton.mp q] at lt5; exact Nat.lt_irrefl _ lt5) (Heap.get?_push_of_some _ e5))
              refine wpAny_tests_nil ?_
              rw [if_pos rfl]
              clear F N
              have K7 := (G.up up7).K
              dsimp only at hn7 ⊢
              k_steps
              refine filemode_ok (G.up up7) (by omega) hh fun t8 h8 tk8 up8 => ?_
              refine ⟨h8, _, _, [], rfl, hn7.keeps up8, fun b o hb e => up8 _ _ (hk7 b o hb e), (fun p hp => nomatch hp), rfl, ?_⟩
              rw [List.take_add_one, hc, List.map_append]
              exact StrsAre.snoc hss _ _
            · rintro D ys' Z' ⟨_, h1⟩
              rw [List.take_length] at h1
              exact h1
            · rintro D ys' Z' h6 tk6 hss hD hlD hk6 hz6 hzD
              have up6 : Up h5 h6 := fun b o e => hk6 b o (fun q => absurd (Heap.lt_size e) (by rw [List.mem_singleton.mp q]; exact Nat.lt_irrefl _)) (Heap.get?_push_of_some _ e)
              have hD5 : h5.get? D = none := by
                cases e : h5.get? D with
                | none => rfl
                | some o => rw [Heap.get?_push_of_some _ e] at hD; cases hD
              have F6 := F.keeps up6
              obtain ⟨N6, hne⟩ := news_call (Z := [(D, lst ys')]) F N up6 (fun p hp => by rw [List.mem_singleton.mp hp]; exact ⟨hlD, hD5⟩)
              obtain ⟨cv, hcv⟩ := hoc
              have hDc := hne _ (.head _) _ (.head _)
              refine wpAny_storeName_cell rfl rfl (c := s₁.heap.objs.size + 1) rfl ⟨oc0, (N6 _ (.tail _ (.head _))).1, hcv⟩ fun h7 hc7 hs7 => ?_
              obtain ⟨oc7, hoc7, hcv7⟩ := hc7
              have zc := N6 _ (.tail _ (.head _))
              have F7 : Fr s₁.heap s₁.heap.objs.size h7 m5 := F6.change hs7 zc.2.1 zc.2.2
              refine StA.mk F7 (nx := (s₁.heap.objs.size + 1, oc7) :: ((D, lst ys') :: Z)) ?_ ⟨D, ys'.length, ys', oc7, (D, lst ys') :: Z, hm1, hm2, hm3, rfl, hcv7, ?_, .tail _ hpa, .tail _ hca, hcs.mono fun p hp => .tail _ hp, .head _, hss⟩
              · intro p hp
                rcases List.mem_cons.mp hp with rfl | hp
                · exact ⟨hoc7, zc.2⟩
                · rcases List.mem_cons.mp hp with rfl | hp
                  · have z := N6 _ (.head _)
                    exact ⟨hs7.extBut _ _ hDc z.1, z.2⟩
                  · have z := N6 p (.tail _ (.tail _ hp))
                    exact ⟨hs7.extBut _ _ (hc1 p hp) z.1, z.2⟩
              · intro p hp
                rcases List.mem_cons.mp hp with rfl | hp
                · exact hDc
                · exact hc1 p hp
          · clear F N hm1 hm2 hm3 hc1 hpa hca hcs
            intro h6 tk6 m6 nx6 F N hJ
            obtain ⟨ra, rn, rvs, oc, Z, hm1, hm2, hm3, rfl, hocr, hc1, hpa, hca, hcs, hra, hrs⟩ := hJ
            have hrl : rvs.length ≤ 8 := by
              rw [StrsAre.length hrs, List.length_map, chAll_length]
              exact Nat.pow_le_pow_right (by decide) hp3
            have hrows : ∀ r ∈ (chAll base ps).map (fun c => fm c.1), FmOk r := by
              intro r hr
              obtain ⟨c, _, rfl⟩ := List.mem_map.mp hr
              exact fm_ok c.1
            generalize hrw : (chAll base ps).map (fun c => fm c.1) = rows at hrs hrows
            refine stmt_cut (h₀ := s₁.heap) (L := s₁.heap.objs.size) (fun m nx => ∃ na nn nvs oc Z, m (Str.ofString "base") = some (.int base tb) ∧ m (Str.ofString "picks") = some (.ref pa) ∧ m (Str.ofString "choices") = some (.ref ca) ∧ m (Str.ofString "names") = some (.ref na) ∧ nx = (s₁.heap.objs.size + 1, oc) :: Z ∧ (∀ p ∈ Z, p.1 ≠ s₁.heap.objs.size + 1) ∧ (pa, W.listOf pvs.toArray pn) ∈ Z ∧ (ca, W.listOf cvs.toArray cn) ∈ Z ∧ PsOf IP Z cvs (chAll base ps) ∧ (na, W.listOf nvs.toArray nn) ∈ Z ∧ StrsAre nvs ((List.range rows.length).map (nm1 rows))) ?_ ?_
            · refine comp_assignK (kn := Str.ofString "row") rfl rfl (fun _ => rfl) (fun _ => rfl) rfl (by decide) rfl rfl ?_
              have hz6 : Fz Z h6 := fun p hp => (N p (.tail _ hp)).1
              have hoc6 : h6.get? (s₁.heap.objs.size + 1) = some oc := (N _ (.head _)).1
              have up6 : Up s₁.heap h6 := F.keep
              have hlr : h6.IsList ra rvs.toArray := ⟨_, hz6 _ hra, rfl, _, rfl⟩
              walk1
              refine nameB (v := Value.type "enumerate") G up6 (by k_is) rfl (by decide) ?_ rfl rfl rfl rfl (by decide)
              k_steps
              refine call_enumerate_list hlr fun h7 hen hit hs7 up7 => ?_
              refine wpAny_pyIter_enum hen ?_
              have hraI : ra ≠ h6.objs.size := Nat.ne_of_lt (Heap.lt_size (hz6 _ hra))
              have WI := fun elts k pos => itr_enum (prog := PySem.Challenge.rw_of0018_01.row.prog) (w := w) (A := A) (elts := elts) (k := k) (pos := pos) (Draws.list (A := A.in1) hh h6.objs.size ra hraI rvs.toArray) (h6.objs.size + 1) (Nat.succ_ne_self _) (by
                intro hm
                rcases im2 hm with e | e
                · exact absurd e (Nat.succ_ne_self _)
                · exact absurd e.symm (Nat.ne_of_lt (Nat.lt_succ_of_lt (Heap.lt_size (hz6 _ hra))))) (.head _)
              have hlen7 : rvs.toArray.size = rows.length := by rw [List.size_toArray, StrsAre.length hrs]
              refine ⟨fun D ys' Z' => StrsAre ys' ((List.range rows.length).map (nm1 rows)), [h6.objs.size + 1, h6.objs.size], m6, ⟨h6.objs.size + 1, _, _, _, _, [], (fun j ys' Z' => Z' = [] ∧ StrsAre ys' ((List.range j).map (nm1 rows))), rfl, WI _ _ _, ?_, ⟨⟨_, hen⟩, hit, hlr.at fun o e => up7 _ _ e⟩, ?_, ?_, ?_, ?_, ?_⟩, ?_, ?_, ?_⟩
              · rw [List.size_toArray]; exact Nat.le_trans hrl (by decide)
              · intro b hb
                show b < h7.objs.size
                rw [hs7]
                rcases List.mem_cons.mp hb with e | hb
                · rw [e]; exact Nat.lt_succ_self _
                · rcases im2 hb with e | e
                  · rw [e]; exact Nat.lt_succ_of_lt (Nat.lt_succ_self _)
                  · rw [e]; exact Nat.lt_succ_of_lt (Nat.lt_succ_of_lt (Heap.lt_size (hz6 _ hra)))
              · exact ⟨rfl, .nil⟩
              · intro p hp; exact nomatch hp
              · intro C j v ys' Z' m' h8 tk8 hC hj hP hJ8 hn8 hcl8 hk8 hz8 hzC
                obtain ⟨T', vals, rfl, ⟨t1, x, hx, rfl⟩, hT', _⟩ := hP
                obtain ⟨rfl, hss⟩ := hJ8
                have hj' : j < rows.length := by rw [← hlen7]; exact hj
                obtain ⟨t2, hrj⟩ := strs_get hrs (List.getElem?_eq_getElem hj')
                have ex : x = .str (rows[j]'hj') t2 := by
                  have : rvs[j]? = some x := by simpa using hx
                  rw [hrj] at this; exact (Option.some.inj this).symm
                subst ex
                have hC' : h6.objs.size + 2 ≤ C := by rw [← hs7]; exact hC
                have old8 : ∀ b o, h6.get? b = some o → h8.get? b = some o ∧ b ≠ C ∧ b ≠ C + 1 := fun b o e => by
                  have l6 := Heap.lt_size e
                  refine ⟨hk8 b o (fun q => ?_) (up7 _ _ e), Nat.ne_of_lt (Nat.lt_of_lt_of_le (Nat.lt_succ_of_lt (Nat.lt_succ_of_lt l6)) hC'), Nat.ne_of_lt (Nat.lt_succ_of_lt (Nat.lt_of_lt_of_le (Nat.lt_succ_of_lt (Nat.lt_succ_of_lt l6)) hC'))⟩
                  rcases im2 q with e | e
                  · rw [e] at l6; exact Nat.lt_irrefl _ (Nat.lt_of_succ_lt l6)
                  · rw [e] at l6; exact Nat.lt_irrefl _ l6
                refine assign_pairLC (K := C + 1) hh hT' hn8 hcl8 (Nat.succ_ne_self _) rfl rfl rfl rfl rfl fun h9 tk9 o9 hn9 ho9 hd9 hk9 => ?_
                have old9 : ∀ b o, h6.get? b = some o → h9.get? b = some o := fun b o e => hk9 b o (old8 b o e).2.1 (old8 b o e).2.2 (old8 b o e).1
                have hoc9 := old9 _ _ hoc6
                have hlr9 : h9.IsList ra rvs.toArray := hlr.at fun o e => old9 _ _ e
                have up9 : Up s₁.heap h9 := fun b o e => old9 _ _ (up6 _ _ e)
                refine wpAny_tests_nil ?_
                rw [if_pos rfl]
                have K9 := (G.up up9).K
                refine Subscript_ ?_
                refine comp_eval rfl (by decide) rfl (by decide) ?_
                clear F N
                dsimp only at hn9 ⊢
                walk1
                refine nameC rfl hoc9 hocr ?_ rfl rfl (by decide)
                walk1
                walk1
                walk1
                walk1
                refine nameL hn9 rfl ?_ rfl rfl (by decide)
                walk1
                walk1
                walk1
                refine sliceU (lo := none) (hi := some ((j : Int) + 1)) (st := none) hlr9 .none (.int _ _) .none (by decide) (by rw [List.size_toArray]; exact Nat.le_trans hrl (by decide)) fun h10 la up10 hsl hsn => ?_
                rw [show ((j : Int) + 1) = ((j + 1 : Nat) : Int) by omega, slicePick_upto'] at hsl
                have hts : StrsAre (rvs.take (j + 1)) (rows.take (j + 1)) := strs_take hrs _
                replace hsl : h10.IsList la (rvs.take (j + 1)).toArray := by simpa using hsl
                refine wpAny_pyIter_list hsl ?_
                have hlaI : la ≠ h10.objs.size := by obtain ⟨o, e, _⟩ := hsl; exact Nat.ne_of_lt (Heap.lt_size e)
                have hsz11 : (h10.push { cls := .type "list_iterator", data := .fields #[.ref la, .int 0 0] }).objs.size = h10.objs.size + 1 := Heap.size_push ..
                refine ⟨fun D ys' Z' => StrsAre ys' ((rows.take (j + 1)).filter fun o => lw (rows[j]'hj') == lw o), [h10.objs.size], ⟨h10.objs.size, _, _, _, _, [], (fun k ys' Z' => Z' = [] ∧ StrsAre ys' (((rows.take (j + 1)).take k).filter fun o => lw (rows[j]'hj') == lw o)), rfl, itr_list hh h10.objs.size la hlaI (rvs.take (j + 1)).toArray, ?_, ⟨⟨_, Heap.get?_push_size _ rfl, rfl, rfl⟩, hsl.push _⟩, ?_, ?_, ?_, ?_, ?_⟩, ?_⟩
                · rw [List.size_toArray, List.length_take]; exact Nat.le_trans (Nat.min_le_right _ _) (Nat.le_trans hrl (by decide))
                · intro b hb
                  show b < (h10.push _).objs.size
                  rw [hsz11]
                  rcases im2 hb with e | e
                  · rw [e]; exact Nat.lt_succ_self _
                  · rw [e]; obtain ⟨o, e, _⟩ := hsl; exact Nat.lt_succ_of_lt (Heap.lt_size e)
                · exact ⟨rfl, .nil⟩
                · intro p hp; exact nomatch hp
                · intro C2 k v ys2 Z2 m2' h11 tk11 hC2 hk hv hJ11 hn11 hk11 hz11 hzC2
                  obtain ⟨rfl, hss2⟩ := hJ11
                  have hk' : k < (rows.take (j + 1)).length := by rw [← StrsAre.length hts]; simpa using hk
                  obtain ⟨t3, hrk⟩ := strs_get hts (List.getElem?_eq_getElem hk')
                  have ex : v = .str ((rows.take (j + 1))[k]'hk') t3 := by
                    have : (rvs.take (j + 1))[k]? = some v := by simpa using hv
                    rw [hrk] at this; exact (Option.some.inj this).symm
                  subst ex
                  have hokk : FmOk ((rows.take (j + 1))[k]'hk') := hrows _ (List.mem_of_mem_take (List.getElem_mem hk'))
                  have hokj : FmOk (rows[j]'hj') := hrows _ (List.getElem_mem hj')
                  have hsnoc : (rows.take (j + 1)).take (k + 1) = (rows.take (j + 1)).take k ++ [(rows.take (j + 1))[k]'hk'] := by
                    rw [List.take_add_one, List.getElem?_eq_getElem hk']; rfl
                  generalize (rows.take (j + 1))[k]'hk' = y at hrk hokk hsnoc ⊢
                  generalize hrwj : rows[j]'hj' = x at hd9 hokj hss2 ⊢
                  have hC2' : h10.objs.size + 1 ≤ C2 := by rw [← hsz11]; exact hC2
                  have old11 : ∀ b o, h9.get? b = some o → h11.get? b = some o ∧ b ≠ C2 := fun b o e => by
                    have l10 := Heap.lt_size (up10 _ _ e)
                    exact ⟨hk11 b o (fun q => by rw [List.mem_singleton.mp q] at l10; exact Nat.lt_irrefl _ l10) (Heap.get?_push_of_some _ (up10 _ _ e)), Nat.ne_of_lt (Nat.lt_of_lt_of_le (Nat.lt_succ_of_lt l10) hC2')⟩
                  refine wpAny_assign_Name (wpAny_storeName_local rfl hn11 (fun h12 hn12 hs12 => ?_) rfl)
                  have old12 : ∀ b o, h9.get? b = some o → h12.get? b = some o := fun b o e => hs12.extBut b o (old11 b o e).2 (old11 b o e).1
                  have up12 : Up s₁.heap h12 := fun b o e => old12 _ _ (up9 _ _ e)
                  have K12 := (G.up up12).K
                  have ho12 := old12 _ _ ho9
                  refine wpAny_tests_one ?_
                  refine wpAny_isTrue_value ?_ rfl
                  clear K9 hlr9 hoc9 hn9 ho9
                  dsimp only at hn12 ⊢
                  k_steps
                  refine udm_ok (G.up up12) (by omega) hokj.ascii hokk.ascii hokj.dot hokk.dot (by rw [hokj.size]; decide) (by rw [hokk.size]; decide) fun h13 tk13 up13 => ?_
                  refine wpAny_truthy_bool ?_
                  have hn13 := hn12.keeps up13
                  have keep13 : ∀ b o, b ≠ C2 → h11.get? b = some o → h13.get? b = some o := fun b o hb e => up13 _ _ (hs12.extBut b o hb e)
                  cases hb : (lw x == lw y) with
                  | true =>
                    rw [if_pos rfl]
                    refine nameL hn13 rfl ?_ rfl rfl (by decide)
                    refine ⟨h13, _, _, [], rfl, hn13, keep13, (fun p hp => nomatch hp), rfl, ?_⟩
                    rw [hsnoc, List.filter_append, List.filter_cons_of_pos (by exact hb), List.filter_nil]
                    exact StrsAre.snoc hss2 _ _
                  | false =>
                    rw [if_neg (by decide)]
                    refine ⟨h13, _, _, [], rfl, hn13, keep13, (fun p hp => nomatch hp), rfl, ?_⟩
                    rw [hsnoc, List.filter_append, List.filter_cons_of_neg (by rw [hb]; decide), List.filter_nil, List.append_nil]
                    simpa using hss2
                · rintro D ys' Z' ⟨_, h1⟩
                  rw [show (rvs.take (j + 1)).toArray.size = (rows.take (j + 1)).length by rw [List.size_toArray, StrsAre.length hts], List.take_length] at h1
                  exact h1
                · rintro D ys2 Z2 h14 tk14 hf hD hlD hk14 _ _
                  have old14 : ∀ b o, h9.get? b = some o → h14.get? b = some o := fun b o e => by
                    have l10 := Heap.lt_size (up10 _ _ e)
                    exact hk14 b o (fun q => by rw [List.mem_singleton.mp q] at l10; exact Nat.lt_irrefl _ l10) (Heap.get?_push_of_some _ (up10 _ _ e))
                  have hmem : rows[j]'hj' ∈ (rows.take (j + 1)).filter fun o => lw (rows[j]'hj') == lw o := by
                    rw [List.mem_filter]
                    refine ⟨?_, by simp⟩
                    rw [List.mem_take_iff_getElem]
                    exact ⟨j, by omega, rfl⟩
                  have hnm : nm1 rows j = ((rows.take (j + 1)).filter fun o => lw (rows[j]'hj') == lw o).headD ⟨#[]⟩ := by
                    unfold nm1
                    rw [List.getD_eq_getElem?_getD, List.getElem?_eq_getElem hj']; rfl
                  obtain ⟨t5, h50⟩ : ∃ t, ys2[0]? = some (.str (nm1 rows j) t) := by
                    refine strs_get hf ?_
                    rw [hnm]
                    cases hq : (rows.take (j + 1)).filter fun o => lw (rows[j]'hj') == lw o with
                    | nil => rw [hq] at hmem; exact nomatch hmem
                    | cons a r => rfl
                  refine wpAny_Constant_int ?_
                  refine item_listR (items := ys2.toArray) ⟨_, hlD, rfl, _, rfl⟩ (by decide) (by decide) (by simpa using h50) ?_
                  refine ⟨h14, _, _, [], rfl, hn9.keeps old14, ⟨o9, old14 _ _ ho9, _, hd9⟩, fun b o hb hbK e => old14 _ _ (hk9 b o hb hbK e), (fun p hp => nomatch hp), rfl, ?_⟩
                  rw [List.range_succ, List.map_append]
                  exact StrsAre.snoc hss _ _
              · rintro D ys' Z' ⟨_, h1⟩
                rw [hlen7] at h1
                exact h1
              · intro hm
                have hL6 : s₁.heap.objs.size < h6.objs.size := F.ns.lt
                rcases im2 hm with e | e
                · exact absurd e (Nat.ne_of_lt (Nat.lt_succ_of_lt hL6))
                · exact absurd e (Nat.ne_of_lt hL6)
              · exact F.ns.keeps up7
              · rintro D ys' Z' h8 tk8 hss hD hlD hn8 hk8 _ _
                have old8 : ∀ b o, b ≠ s₁.heap.objs.size → h6.get? b = some o → h8.get? b = some o := fun b o hb e => by
                  have l6 := Heap.lt_size e
                  refine hk8 b o hb (fun q => ?_) (up7 _ _ e)
                  rcases im2 q with e | e
                  · rw [e] at l6; exact Nat.lt_irrefl _ (Nat.lt_of_succ_lt l6)
                  · rw [e] at l6; exact Nat.lt_irrefl _ l6
                have hD6 : h6.get? D = none := by
                  cases e : h6.get? D with
                  | none => rfl
                  | some o => have hD' : h7.get? D = none := hD; rw [up7 _ _ e] at hD'; cases hD'
                have hneD : ∀ b o, h6.get? b = some o → D ≠ b := fun b o e q => by rw [q, e] at hD6; cases hD6
                have hDL : D ≠ s₁.heap.objs.size := by obtain ⟨o, _, _, e, _⟩ := F.ns; exact hneD _ _ e
                have hD0 : s₁.heap.get? D = none := by
                  cases e : s₁.heap.get? D with
                  | none => rfl
                  | some o => rw [F.keep _ _ e] at hD6; cases hD6
                have F8 : Fr s₁.heap s₁.heap.objs.size h8 _ := ⟨hn8, fun b o e => old8 b o (Nat.ne_of_lt (Heap.lt_size e)) (F.keep b o e), F.above⟩
                refine StA.mk F8 (nx := (s₁.heap.objs.size + 1, oc) :: ((D, lst ys') :: Z)) ?_ ⟨D, ys'.length, ys', oc, (D, lst ys') :: Z, hm1, hm2, hm3, rfl, rfl, ?_, .tail _ hpa, .tail _ hca, hcs.mono fun p hp => .tail _ hp, .head _, hss⟩
                · intro p hp
                  rcases List.mem_cons.mp hp with rfl | hp
                  · have z := N _ (.head _)
                    exact ⟨old8 _ _ z.2.1 z.1, z.2⟩
                  · rcases List.mem_cons.mp hp with rfl | hp
                    · exact ⟨hlD, hDL, hD0⟩
                    · have z := N p (.tail _ hp)
                      exact ⟨old8 _ _ z.2.1 z.1, z.2⟩
                · intro p hp
                  rcases List.mem_cons.mp hp with rfl | hp
                  · exact hneD _ _ hoc6
                  · exact hc1 p hp
            · clear F N hm1 hm2 hm3 hc1 hpa hca hcs hra hrs hocr
              intro h7 tk7 m7 nx7 F N hJ
              obtain ⟨na, nn, nvs, oc7, Z, hm1, hm2, hm3, hm4, rfl, hc1, hpa, hca, hcs, hna, hns⟩ := hJ
              have hnl : ((List.range rows.length).map (nm1 rows)).length = (chAll base ps).length := by rw [List.length_map, List.length_range, ← hrw, List.length_map]
              have hn8 : ((List.range rows.length).map (nm1 rows)).length ≤ 8 := by rw [hnl, chAll_length]; exact Nat.pow_le_pow_right (by decide) hp3
              have plain := plain_law hb0 hb1 hg hrw
              have hok : ∀ x ∈ (List.range rows.length).map (nm1 rows), PyData.strOk x = true := by
                intro x hx
                obtain ⟨i, _, rfl⟩ := List.mem_map.mp hx
                exact nm1_ok (fun r hr => strOk_ascii (hrows r hr).ascii) i
              generalize (List.range rows.length).map (nm1 rows) = nms at hns hnl hn8 plain hok
              refine stmt_cut (h₀ := s₁.heap) (L := s₁.heap.objs.size) (fun m nx => ∃ ea en evs Z, m (Str.ofString "base") = some (.int base tb) ∧ m (Str.ofString "picks") = some (.ref pa) ∧ m (Str.ofString "choices") = some (.ref ca) ∧ m (Str.ofString "names") = some (.ref na) ∧ m (Str.ofString "evens") = some (.ref ea) ∧ nx = (ea, W.listOf evs.toArray en) :: Z ∧ (∀ p ∈ Z, p.1 ≠ ea) ∧ (pa, W.listOf pvs.toArray pn) ∈ Z ∧ (ca, W.listOf cvs.toArray cn) ∈ Z ∧ PsOf IP Z cvs (chAll base ps) ∧ (na, W.listOf nvs.toArray nn) ∈ Z ∧ StrsAre evs (sel 0 nms (chAll base ps))) ?_ ?_
              · refine comp_assign rfl rfl (by decide) rfl (by decide) rfl rfl ?_
                have hz7 : Fz Z h7 := fun p hp => (N p (.tail _ hp)).1
                have hlc : h7.IsList ca cvs.toArray := ⟨_, hz7 _ hca, rfl, _, rfl⟩
                have hln : h7.IsList na nvs.toArray := ⟨_, hz7 _ hna, rfl, _, rfl⟩
                walk1
                refine nameB (v := Value.type "zip") G F.keep (by k_is) rfl (by decide) ?_ rfl rfl rfl rfl (by decide)
                walk1
                walk1
                refine nameL F.ns hm4 ?_ rfl rfl (by decide)
                walk1
                refine nameL F.ns hm3 ?_ rfl rfl (by decide)
                walk1
                refine zip_call hh hz7 hln hlc hns hcs hnl hn8 F.ns rfl (fun _ => rfl) (fun _ => rfl) (by decide) (by decide) (by decide) ?_
                rintro D ys' h8 tk8 hss hD hlD hn8 hk8
                obtain ⟨F8, N8, hne8⟩ := store_new F N hD hlD hn8 hk8
                exact StA.mk F8 (nx := (D, lst ys') :: Z) (fun p hp => N8 p (by simp only [List.mem_cons] at hp ⊢; rcases hp with h | h <;> simp [h])) ⟨D, ys'.length, ys', Z, hm1, hm2, hm3, hm4, rfl, rfl, fun p hp => (hne8 p (.tail _ hp)).symm, hpa, hca, hcs, hna, hss⟩
              · clear F N hm1 hm2 hm3 hm4 hc1 hpa hca hcs hna
                intro h8 tk8 m8 nx8 F N hJ
                obtain ⟨ea, en, evs, Z, hm1, hm2, hm3, hm4, hm5, rfl, hea, hpa, hca, hcs, hna, hes⟩ := hJ
                refine stmt_cut (h₀ := s₁.heap) (L := s₁.heap.objs.size) (fun m nx => ∃ oa on ovs, m (Str.ofString "base") = some (.int base tb) ∧ m (Str.ofString "picks") = some (.ref pa) ∧ m (Str.ofString "evens") = some (.ref ea) ∧ m (Str.ofString "odds") = some (.ref oa) ∧ nx = (ea, W.listOf evs.toArray en) :: (oa, W.listOf ovs.toArray on) :: Z ∧ ea ≠ oa ∧ (∀ p ∈ Z, p.1 ≠ oa) ∧ StrsAre ovs (sel 1 nms (chAll base ps))) ?_ ?_
                · refine comp_assign rfl rfl (by decide) rfl (by decide) rfl rfl ?_
                  have hz8 : Fz Z h8 := fun p hp => (N p (.tail _ hp)).1
                  have hlc : h8.IsList ca cvs.toArray := ⟨_, hz8 _ hca, rfl, _, rfl⟩
                  have hln : h8.IsList na nvs.toArray := ⟨_, hz8 _ hna, rfl, _, rfl⟩
                  walk1
                  refine nameB (v := Value.type "zip") G F.keep (by k_is) rfl (by decide) ?_ rfl rfl rfl rfl (by decide)
                  walk1
                  walk1
                  refine nameL F.ns hm4 ?_ rfl rfl (by decide)
                  walk1
                  refine nameL F.ns hm3 ?_ rfl rfl (by decide)
                  walk1
                  refine zip_call hh hz8 hln hlc hns hcs hnl hn8 F.ns rfl (fun _ => rfl) (fun _ => rfl) (by decide) (by decide) (by decide) ?_
                  rintro D ys' h9 tk9 hss hD hlD hn9 hk9
                  obtain ⟨F9, N9, hne9⟩ := store_new F N hD hlD hn9 hk9
                  exact StA.mk F9 (nx := (ea, W.listOf evs.toArray en) :: (D, lst ys') :: Z) (fun p hp => N9 p (by simp only [List.mem_cons] at hp ⊢; rcases hp with h | h | h <;> simp [h])) ⟨D, ys'.length, ys', hm1, hm2, hm5, rfl, rfl, (hne9 _ (.head _)).symm, fun p hp => (hne9 p (.tail _ hp)).symm, hss⟩
                · clear F N hm1 hm2 hm3 hm4 hm5
                  intro h9 tk9 m9 nx9 F N hJ
                  obtain ⟨oa, on, ovs, hm1, hm2, hm3, hm4, rfl, heo, hoa, hos⟩ := hJ
                  have hel : (sel 0 nms (chAll base ps)).length ≤ 8 := Nat.le_trans sel_len hn8
                  have hol : (sel 1 nms (chAll base ps)).length ≤ 8 := Nat.le_trans sel_len hn8
                  have hokE : ∀ x ∈ sel 0 nms (chAll base ps), PyData.strOk x = true := fun x hx => hok x (sel_mem hx)
                  have hokO : ∀ x ∈ sel 1 nms (chAll base ps), PyData.strOk x = true := fun x hx => hok x (sel_mem hx)
                  generalize sel 0 nms (chAll base ps) = es at hes plain hel hokE
                  generalize sel 1 nms (chAll base ps) = os at hos plain hol hokO
                  clear hca hcs hna hns hnl hn8 hok
                  refine stmt_cut (h₀ := s₁.heap) (L := s₁.heap.objs.size) (fun m nx => ∃ ma mn mvs ms ln lvs ls, m (Str.ofString "base") = some (.int base tb) ∧ m (Str.ofString "picks") = some (.ref pa) ∧ m (Str.ofString "missing") = some (.ref ma) ∧ m (Str.ofString "left") = some (.ref oa) ∧ (ma, W.listOf mvs.toArray mn) ∈ nx ∧ (oa, W.listOf lvs.toArray ln) ∈ nx ∧ (pa, W.listOf pvs.toArray pn) ∈ nx ∧ StrsAre mvs ms ∧ StrsAre lvs ls ∧ Less ms es os ∧ Less ls os es ∧ ms.length ≤ es.length ∧ ls.length ≤ os.length) ?_ ?_
                  · walk1
                    walk1
                    have K9 := (G.up F.keep).K
                    refine nameG (v := .ref 104) G F.keep (by k_is) ?_ rfl rfl rfl (by decide)
                    walk1
                    walk1
                    refine nameL F.ns hm3 ?_ rfl rfl (by decide)
                    walk1
                    refine nameL F.ns hm4 ?_ rfl rfl (by decide)
                    walk1
                    refine ⟨K9, ?_⟩
                    refine uld_ok (rest := Z) G (by omega) hh hfr rfl rfl F N heo hea hoa hes hos (by omega) (by omega) ?_
                    intro r a n1 n2 n3 ms ls mvs lvs h10 tk10 F10 N10 hms hls hL1 hL2 hl1 hl2
                    refine assign_pairF hh ⟨_, (N10 _ (.head _)).1, rfl, _, rfl⟩ F10 N10 rfl rfl rfl fun h11 tk11 F11 N11 hk11 => ?_
                    exact StA.mk F11 N11 ⟨a, n1, mvs, ms, n3, lvs, ls, hm1, hm2, rfl, rfl, .tail _ (.head _), .tail _ (.tail _ (.tail _ (.head _))), .tail _ (.tail _ (.tail _ (.tail _ hpa))), hms, hls, hL1, hL2, hl1, hl2⟩
                  · clear F N hm1 hm2 hm3 hm4 hes hos hpa heo hea hoa
                    intro h10 tk10 m10 nx10 F N hJ
                    obtain ⟨ma, mn, mvs, ms, ln, lvs, ls, hm1, hm2, hm3, hm4, hma, hla, hpa, hms, hls, hL1, hL2, hl1, hl2⟩ := hJ
                    refine stmt_cut (h₀ := s₁.heap) (L := s₁.heap.objs.size) (fun m nx => ∃ da dn dvs Z, m (Str.ofString "missing") = some (.ref ma) ∧ m (Str.ofString "left") = some (.ref oa) ∧ m (Str.ofString "due") = some (.ref da) ∧ nx = Z ∧ (ma, W.listOf mvs.toArray mn) ∈ Z ∧ (oa, W.listOf lvs.toArray ln) ∈ Z ∧ (da, W.listOf dvs.toArray dn) ∈ Z ∧ PsOf SIP Z dvs (prodAll (plsOf base ps))) ?_ ?_
                    · walk1
                      walk1
                      have K10 := (G.up F.keep).K
                      refine nameG (v := .ref 142) G F.keep (by k_is) ?_ rfl rfl rfl (by decide)
                      walk1
                      walk1
                      walk1
                      refine nameG (v := .ref 137) G F.keep (by k_is) ?_ rfl rfl rfl (by decide)
                      walk1
                      walk1
                      refine nameL F.ns hm1 ?_ rfl rfl (by decide)
                      walk1
                      refine nameL F.ns hm2 ?_ rfl rfl (by decide)
                      walk1
                      refine ⟨K10, ?_⟩
                      refine places_ok (G.up F.keep) (by omega) hh ⟨_, (N _ hpa).1, rfl, _, rfl⟩ hps hp3 hb0 hb1 ?_
                      intro qa qn qvs Z1 h11 tk11 up11 hZ1 hqa hqs
                      have F11 := F.keeps up11
                      obtain ⟨N11, _⟩ := news_call F N up11 hZ1
                      have K11 := (G.up F11.keep).K
                      clear F N
                      walk1
                      refine ⟨K11, ?_⟩
                      refine product_ok (G.up F11.keep) (by omega) hh ⟨_, (hZ1 _ hqa).1, rfl, _, rfl⟩ (fun p hp => (hZ1 p hp).1) hqs (pls_fit hb0 hb1 hg) ?_
                      intro da dn dvs Z2 h12 tk12 up12 hZ2 hda hds2
                      have F12 := F11.keeps up12
                      obtain ⟨N12, _⟩ := news_call F11 N11 up12 hZ2
                      refine wpAny_storeName_local rfl F12.ns (fun h13 hn13 hs13 => ?_) rfl
                      exact StA.mk (F12.set hn13 hs13) (N12.set hs13) ⟨da, dn, dvs, _, hm3, hm4, rfl, rfl, List.mem_append_right _ (List.mem_append_right _ hma), List.mem_append_right _ (List.mem_append_right _ hla), List.mem_append_left _ hda, hds2.mono fun p hp => List.mem_append_left _ hp⟩
                    · clear F N hm1 hm2 hm3 hm4 hma hla hpa
                      intro h11 tk11 m11 nx11 F N hJ
                      obtain ⟨da, dn, dvs, Z, hm1, hm2, hm3, rfl, hma, hla, hda, hdue⟩ := hJ
                      have p1 : ms.Perm (wsel 1 (prodAll (plsOf base ps))) := List.perm_iff_count.mpr fun t => (hL1 t).trans (plain t).1
                      have p2 : ls.Perm (wsel (-1) (prodAll (plsOf base ps))) := List.perm_iff_count.mpr fun t => (hL2 t).trans (plain t).2
                      have hdl2 : (prodAll (plsOf base ps)).length ≤ 1024 := by
                        have hf := pls_fit hb0 hb1 hg
                        have := (prodAll_fit hf _ (Nat.le_refl _)).1
                        rw [List.take_length] at this
                        exact Nat.le_trans this (Nat.pow_le_pow_right (by decide) hf.1)
                      generalize prodAll (plsOf base ps) = due at hdue p1 p2 hdl2
                      have hz11 : Fz nx11 h11 := fun p hp => (N p hp).1
                      refine wpAny_execs_cons (wpAny_If (wpAny_isTrue_Compare1 ?_))
                      walk1
                      refine nameB (v := Value.builtin "sorted") G F.keep (by k_is) rfl (by decide) ?_ rfl rfl rfl rfl (by decide)
                      walk1
                      walk1
                      refine nameL F.ns hm1 ?_ rfl rfl (by decide)
                      walk1
                      refine sortedU ⟨_, hz11 _ hma, rfl, _, rfl⟩ hms (by omega) fun h12 a12 vs12 ss12 up12 hl12 hs12 hp12 hso12 => ?_
                      have F12 := F.keeps up12
                      walk1
                      refine nameB (v := Value.builtin "sorted") G F12.keep (by k_is) rfl (by decide) ?_ rfl rfl rfl rfl (by decide)
                      walk1
                      walk1
                      refine wpAny_mono (Q := DueA { s₁ with heap := h12, toks := tk11 } (wsel 1 due)) (comp_eval rfl (by decide) rfl (by decide) ?_) (fun v s' hv => ?_) fun _ _ e => e
                      · refine nameL F12.ns hm3 ?_ rfl rfl (by decide)
                        exact due_iter (K := 1) hh (fun p hp => up12 _ _ (hz11 p hp)) ⟨_, up12 _ _ (hz11 _ hda), rfl, _, rfl⟩ hdue hdl2 rfl (fun _ => rfl) (fun _ => rfl) (by decide) (by decide) (by decide) (fun C s Q hq => wpAny_Constant_int (hq _ _)) rfl DueA.mk
                      obtain ⟨D, ys, h13, tk13, rfl, rfl, hys, hlD, up13⟩ := hv
                      walk1
                      refine sortedU ⟨_, hlD, rfl, _, rfl⟩ hys (by rw [← p1.length_eq]; omega) fun h14 a14 vs14 ss14 up14 hl14 hs14 hp14 hso14 => ?_
                      have e12 : ss12 = ss14 := sorted_iff hp12 hp14 hso12 hso14 p1
                      refine ne_strs (hl12.at fun o e => up14 _ _ (up13 _ _ e)) hl14 hs12 hs14 (fun x hx => hokE x (hL1.mem (hp12.mem_iff.mp hx))) (fun x hx => hokE x (hL1.mem (p1.mem_iff.mpr (hp14.mem_iff.mp hx)))) hun ?_
                      refine wpAny_truthy_bool ?_
                      rw [e12, decide_eq_true rfl]
                      rw [if_neg (by decide)]
                      refine wpAny_execs_nil ?_
                      have up15 : Up h11 h14 := fun b o e => up14 _ _ (up13 _ _ (up12 _ _ e))
                      have F15 := F.keeps up15
                      have hz15 : Fz nx11 h14 := fun p hp => up15 _ _ (hz11 p hp)
                      clear F hlD hl12 hl14 up12 up13 up14 hz11
                      show wpAny _ _ (execs _ _) _ _ _
                      refine wpAny_execs_cons (wpAny_Return_some (wpAny_Compare1 ?_))
                      walk1
                      refine nameB (v := Value.builtin "sorted") G F15.keep (by k_is) rfl (by decide) ?_ rfl rfl rfl rfl (by decide)
                      walk1
                      walk1
                      refine nameL F15.ns hm2 ?_ rfl rfl (by decide)
                      walk1
                      refine sortedU ⟨_, hz15 _ hla, rfl, _, rfl⟩ hls (by omega) fun h16 a16 vs16 ss16 up16 hl16 hs16 hp16 hso16 => ?_
                      have F16 := F15.keeps up16
                      walk1
                      refine nameB (v := Value.builtin "sorted") G F16.keep (by k_is) rfl (by decide) ?_ rfl rfl rfl rfl (by decide)
                      walk1
                      walk1
                      refine wpAny_mono (Q := DueA { s₁ with heap := h16, toks := tk13 } (wsel (-1) due)) (comp_eval rfl (by decide) rfl (by decide) ?_) (fun v s' hv => ?_) fun _ _ e => e
                      · refine nameL F16.ns hm3 ?_ rfl rfl (by decide)
                        exact due_iter (K := -1) hh (fun p hp => up16 _ _ (hz15 p hp)) ⟨_, up16 _ _ (hz15 _ hda), rfl, _, rfl⟩ hdue hdl2 rfl (fun _ => rfl) (fun _ => rfl) (by decide) (by decide) (by decide) (fun C s Q hq => wpAny_UnaryOp (wpAny_Constant_int (neg_int (hq _ _)))) rfl DueA.mk
                      obtain ⟨D2, ys2, h17, tk17, rfl, rfl, hys2, hlD2, up17⟩ := hv
                      walk1
                      refine sortedU ⟨_, hlD2, rfl, _, rfl⟩ hys2 (by rw [← p2.length_eq]; omega) fun h18 a18 vs18 ss18 up18 hl18 hs18 hp18 hso18 => ?_
                      have e16 : ss16 = ss18 := sorted_iff hp16 hp18 hso16 hso18 p2
                      refine eq_strs (hl16.at fun o e => up18 _ _ (up17 _ _ e)) hl18 hs16 hs18 (fun x hx => hokO x (hL2.mem (hp16.mem_iff.mp hx))) (fun x hx => hokO x (hL2.mem (p2.mem_iff.mpr (hp18.mem_iff.mp hx)))) hun ?_
                      rw [e16, decide_eq_true rfl]
                      have F18 := F16.keeps (Up.trans up17 up18)
                      refine goodW_bool F18 ?_ ?_ ?_ ?_
                      · show s₁.gens = #[]
                        assumption
                      · exact raisesW_false (by wrow_none_raised)
                      · kc_post
                      · rfl
  )
end Mine
end

set_option maxRecDepth 100000 in
set_option maxHeartbeats 8000000 in
theorem PySem.Challenge.cw_of0018_01_holds : PySem.Challenge.rw_of0018_01.Holds := by
  exact Mine.tryit
