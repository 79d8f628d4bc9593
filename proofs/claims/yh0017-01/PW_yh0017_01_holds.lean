import PyProof.Rows.All
import Wide.All
import OpenK.AllK
import Wide.FinOn
import PyProof.EnumStmt
import PyProof.ZipIter
import PyProof.DictValues
import PySem.Challenge.RW_yh0017_01
open PySem PySem.W PyProof.Rows
set_option Elab.async false
set_option maxRecDepth 100000
set_option maxHeartbeats 8000000
set_option rowWalk.seconds 0
namespace Mine
/-- the top without its four texts of names (`__name__ = ..`) -/
def hd.view_1 : Program :=
  let p := PySem.Challenge.rw_yh0017_01.row.prog
  { p with main := { p.main with body := (((p.main.body.eraseIdx 15).eraseIdx 7).eraseIdx 3).eraseIdx 0 } }
/-- the looks at the law's text, each by itself -/
theorem law_said : PySem.Challenge.rw_yh0017_01.wellSaid = true := by
  repeat' (first
    | with_reducible refine look_both ?_ ?_
    | unfold OpenLaw.wellSaid
    | unfold OpenRow.wellSaid
    | unfold OpenRow.partSaid
    | unfold looksOpen)
  all_goals decide +kernel
/-- the head: the kernel runs the top once (`left`), the walk of the law is left -/
theorem head_of (H : Hook) {d : DefRec} {kwd : List (PySem.Str × Expr)} (hdef : defOf hd.view_1 PySem.Challenge.rw_yh0017_01.row.name = some (d, kwd))
    (hp : PySem.Challenge.rw_yh0017_01.row.prog.theDef PySem.Challenge.rw_yh0017_01.row.name = some (d.params, d.body, d.scope))
    (hk : kwWritten? d.params.kwonlyargs d.params.kw_defaults = some kwd)
    (left : LeftO PySem.Challenge.rw_yh0017_01.row.prog hd.view_1 [] (fun s => xlAt hd.view_1 [] s && recOk (RowW.records (OpenRow.toRowW PySem.Challenge.rw_yh0017_01.row)) s) H.obs H.val 2692)
    (hw : PySem.Challenge.rw_yh0017_01.row.toRowW.promised)
    (hc : WalkO hd.view_1 [] (XL hd.view_1 []) H.says PySem.Challenge.rw_yh0017_01.row.toRowW d kwd fun f vs => PySem.call f vs) : PySem.Challenge.rw_yh0017_01.row.Holds :=
  holds_open left H.of H.keeps (fun s e => xl_of s (Bool.and_eq_true_iff.mp e).1) XL.keeps hdef hp hk (fun s e => recFacts_of (Bool.and_eq_true_iff.mp e).2) rfl (row_said law_said) (by decide +kernel)
    ⟨rfl, rfl, rfl, rfl, rfl, by decide +kernel⟩ hw hc
section
local macro_rules | `(tactic| o_head $H) => `(tactic| refine head_of $H (by rfl) (by rfl) (by rfl) (by intro w; kernel_rfl) ?hw ?hc)
open_top hd for PySem.Challenge.rw_yh0017_01.row
end
/-! Tk -/
section
theorem runs_toks {M : Model} {Γ : Ctx} {p : Pos} {t : Sem Fin} {fs : List Frame} {s s' : Shared} {e : End} (h : Runs M Γ p t fs s e s') : s.toks ≤ s'.toks := by
  induction h <;> (try simp only [Shared.setGen] at *) <;> first | exact Nat.le_refl _ | omega

theorem wakes_toks {M : Model} {Γ : Ctx} {p : Pos} {g : Nat} {r : Resume} {s s' : Shared} {x : GenResult} (h : Wakes M Γ p g r s x s') : s.toks ≤ s'.toks := by
  unfold Wakes at h
  split at h
  · exact h.elim
  · split at h
    · obtain ⟨e, s₁, hr, _, _, rfl⟩ := h; have q := runs_toks hr; exact q
    · rw [h.2]; exact Nat.le_refl _
    · rw [h.2]; exact Nat.le_refl _
  · obtain ⟨e, s₁, hr, _, _, rfl⟩ := h; have q := runs_toks hr; exact q
  · rw [h.2]; exact Nat.le_refl _
  · rw [h.2]; exact Nat.le_refl _

theorem wp_toks {α : Type} {M : Model} {Γ : Ctx} (n : Nat) (Q : α → Pos → Shared → Prop) (E : Value → Pos → Shared → Prop) (t : Sem α) :
    ∀ (p : Pos) (s : Shared), n ≤ s.toks → Sem.wp M Γ t (fun a p' s' => n ≤ s'.toks → Q a p' s') (fun e p' s' => n ≤ s'.toks → E e p' s') p s → Sem.wp M Γ t Q E p s := by
  induction t with
  | pure a => intro p s hn h; exact h hn
  | raise e => intro p s hn h; exact h hn
  | unsupported w => intro p s hn h; exact h
  | finish e => intro p s hn h; exact h
  | rule t k ih => intro p s hn h; exact ih _ p s hn h
  | «at» q k ih => intro p s hn h; exact ih _ q s hn h
  | load a q k ih => intro p s hn h; obtain ⟨o, ho, h⟩ := h; exact ⟨o, ho, ih _ p s hn h⟩
  | update a q f k ih => intro p s hn h; exact ⟨h.1, ih _ p _ hn h.2⟩
  | alloc o k ih => intro p s hn h; exact ih _ p _ hn h
  | loadIfAlive a k ih => intro p s hn h; exact ih _ p s hn h
  | point l k ih => intro p s hn h; exact ih _ p s hn h
  | register a k ih => intro p s hn h; exact h
  | fresh k ih => intro p s hn h; exact ih _ p { s with toks := s.toks + 1 } (Nat.le_succ_of_le hn) h
  | ask k ih => intro p s hn h; exact ih _ p s hn h
  | choose c m k ih => intro p s hn h; exact ⟨h.1, ih _ p _ hn h.2⟩
  | os q l k ih => intro p s hn h; exact ih _ p _ hn h
  | call c hd g l k ih =>
    intro p s hn h
    obtain ⟨r, s', hr, h⟩ := h
    exact ⟨r, s', hr, ih _ p s' (Nat.le_trans hn (runs_toks hr)) h⟩
  | handled o k ih => intro p s hn h; exact ih _ p s hn h
  | newGen c k ih => intro p s hn h; exact ih _ p _ hn h
  | genState g k ih => intro p s hn h; obtain ⟨o, ho, h⟩ := h; exact ⟨o, ho, ih _ p s hn h⟩
  | resume g r l k ih => intro p s hn h; obtain ⟨x, s', hx, h⟩ := h; exact ⟨x, s', hx, ih _ p s' (Nat.le_trans hn (wakes_toks hx)) h⟩
  | yield v g l k ih => intro p s hn h; exact h
  | stack k ih => intro p s hn h; exact ih _ p s hn h
  | fork c k ih => intro p s hn h; exact h
  | thread k ih => intro p s hn h; exact ih _ p s hn h
  | await a t d l k ih => intro p s hn h; exact h

/-- tokens never go back -/
theorem any_toks {α : Type} {M : Model} {A : Around} {t : Sem α} {Q : α → Shared → Prop} {E : Value → Shared → Prop} {s : Shared}
    (h : wpAny M A t (fun a s' => s.toks ≤ s'.toks → Q a s') (fun e s' => s.toks ≤ s'.toks → E e s') s) : wpAny M A t Q E s :=
  fun Γ p hΓ => wp_toks s.toks _ _ t p s (Nat.le_refl _) (h Γ p hΓ)
theorem any_pos {α : Type} {M : Model} {A : Around} {t : Sem α} {Q : α → Shared → Prop} {E : Value → Shared → Prop} {s : Shared} (hp : 0 < s.toks)
    (h : wpAny M A t (fun a s' => 0 < s'.toks → Q a s') E s) : wpAny M A t Q E s :=
  any_toks (wpAny_mono h (fun _ _ x y => x (Nat.lt_of_lt_of_le hp y)) fun _ _ x _ => x)
end
/-! Px -/
section
/-- a text from its signs' numbers -/
def tx (l : List Nat) : PySem.Str := ⟨l.toArray⟩
theorem tx_len (l : List Nat) : (tx l).length = l.length := by
  show l.toArray.size = _
  exact List.size_toArray
theorem tx_toList (x : PySem.Str) : tx x.cps.toList = x := by
  obtain ⟨⟨l⟩⟩ := x; rfl
theorem tx_inj {a b : List Nat} (h : tx a = tx b) : a = b := by
  have := congrArg (fun x : PySem.Str => x.cps.toList) h
  exact this
theorem tx_append (a b : List Nat) : tx a ++ tx b = tx (a ++ b) := by
  show PySem.Str.mk (a.toArray ++ b.toArray) = PySem.Str.mk (a ++ b).toArray
  simp
/-- one sign by another text -/
def sub1 (c : Nat) (r : List Nat) (d : Nat) : List Nat := if d = c then r else [d]
def rep1 (c : Nat) (r : List Nat) (l : List Nat) : List Nat := l.flatMap (sub1 c r)
theorem rep1_append (c : Nat) (r a b : List Nat) : rep1 c r (a ++ b) = rep1 c r a ++ rep1 c r b := List.flatMap_append
theorem rep1_free (c : Nat) (r : List Nat) : ∀ l : List Nat, c ∉ l → rep1 c r l = l
  | [], _ => rfl
  | k :: t, h => by
    have h1 : ¬ k = c := fun e => h (e ▸ List.mem_cons_self ..)
    have ih := rep1_free c r t fun m => h (List.mem_cons_of_mem _ m)
    show sub1 c r k ++ rep1 c r t = k :: t
    rw [ih, sub1, if_neg h1]; rfl
theorem rep1_join (c : Nat) (r : List Nat) : ∀ parts : List PySem.Str, (∀ p ∈ parts, c ∉ p.cps.toList) → rep1 c r (PySem.Str.join ⟨#[c]⟩ parts).cps.toList = (PySem.Str.join (tx r) parts).cps.toList
  | [], _ => rfl
  | [p], h => rep1_free c r _ (h p (List.mem_singleton.mpr rfl))
  | p :: q :: t, h => by
    have ih := rep1_join c r (q :: t) fun a ha => h a (List.mem_cons_of_mem _ ha)
    have e1 : PySem.Str.join ⟨#[c]⟩ (p :: q :: t) = p ++ ⟨#[c]⟩ ++ PySem.Str.join ⟨#[c]⟩ (q :: t) := rfl
    have e2 : PySem.Str.join (tx r) (p :: q :: t) = p ++ tx r ++ PySem.Str.join (tx r) (q :: t) := rfl
    rw [e1, e2]
    simp only [PySem.Str.cps_append, Array.toList_append]
    rw [rep1_append, rep1_append, ih, rep1_free c r _ (h p (List.mem_cons_self ..))]
    congr 2
    show sub1 c r c ++ [] = r
    rw [sub1, if_pos rfl, List.append_nil]
theorem replace_tx (l : List Nat) (c : Nat) (r : List Nat) : Txt.replace (tx l) ⟨#[c]⟩ (tx r) = tx (rep1 c r l) := by
  have h : (Txt.replace (tx l) ⟨#[c]⟩ (tx r)).cps.toList = rep1 c r l := by
    rw [StrLaws.replace_one, ← rep1_join c r _ (StrLaws.split_free (tx l) c), StrLaws.join_split]
    rfl
  rw [← tx_toList (Txt.replace _ _ _), h]
theorem sub1_le (c : Nat) (r : List Nat) (d k : Nat) (hr : r.length ≤ k) (hk : 1 ≤ k) : (sub1 c r d).length ≤ k := by
  unfold sub1; split
  · exact hr
  · exact hk
theorem rep1_le (c : Nat) (r : List Nat) (k : Nat) (hr : r.length ≤ k) (hk : 1 ≤ k) : ∀ l : List Nat, (rep1 c r l).length ≤ k * l.length
  | [] => by simp [rep1]
  | d :: t => by
    have ih := rep1_le c r k hr hk t
    have h1 := sub1_le c r d k hr hk
    show (sub1 c r d ++ rep1 c r t).length ≤ _
    rw [List.length_append, List.length_cons, Nat.mul_succ]; omega
theorem occ_none {l : List Nat} {c : Nat} (h : (Builtin.Str.occurrences (tx l) ⟨#[c]⟩ 0 (tx l).length 1).isEmpty = true) : c ∉ l := by
  have e := StrLaws.found_one (tx l) c
  rw [h] at e
  have e' : decide (c ∈ (tx l).cps.toList) = false := e.symm
  exact of_decide_eq_false e'
end
/-! Px2 -/
section
theorem tx_cps (l : List Nat) : (tx l).cps.toList = l := rfl
theorem slice_from (l : List Nat) (i : Nat) (h : i ≤ l.length) : Txt.slice (tx l) (some (i : Int)) none = tx (l.drop i) := by
  have e := eq_of_beq (slice_closes_fromL (x := tx l) (i := (i : Int)) (b := (l.length : Int)) (by omega) (by rw [tx_len]; omega) (by rw [tx_len]))
  rw [e, tx_cps]
  show tx _ = _
  rw [Int.toNat_natCast, List.take_of_length_le (by rw [List.length_drop]; omega)]
theorem slice_to (l : List Nat) (j : Nat) (h : j ≤ l.length) : Txt.slice (tx l) none (some (j : Int)) = tx (l.take j) := by
  have e := eq_of_beq (slice_closes_toL (x := tx l) (j := (j : Int)) (by omega) (by rw [tx_len]; omega))
  rw [e, tx_cps]
  show tx _ = _
  simp
theorem slice_ft (l : List Nat) (i j : Nat) (hij : i ≤ j) (h : j ≤ l.length) : Txt.slice (tx l) (some (i : Int)) (some (j : Int)) = tx ((l.drop i).take (j - i)) := by
  have e := eq_of_beq (slice_closesL (x := tx l) (i := (i : Int)) (j := (j : Int)) (by omega) (by omega) (by rw [tx_len]; omega))
  rw [e, tx_cps]
  show tx _ = _
  rw [Int.toNat_natCast, show ((j : Int) - (i : Int)).toNat = j - i by omega]
theorem item_at (a : List Nat) (c : Nat) (r : List Nat) : Txt.item (tx (a ++ c :: r)) (a.length : Int) = tx [c] := by
  refine item_meets (by omega) ?_
  show (a ++ c :: r).toArray[((a.length : Int)).toNat]? = some c
  simp
theorem ofString_dq : PySem.Str.ofString "\"" = tx [34] := by decide +kernel
/-- what parse257 reads behind the opening mark -/
noncomputable def pq : List Nat → List Nat
  | [] => []
  | [c] => if c = 34 then [] else [c]
  | c :: d :: r => if c = 34 then (if d = 34 then 34 :: pq r else []) else c :: pq (d :: r)
theorem pq_other (c : Nat) (r : List Nat) (h : c ≠ 34) : pq (c :: r) = c :: pq r := by
  cases r with
  | nil => simp [pq, h]
  | cons d r => simp [pq, h]
theorem pq_dq (r : List Nat) : pq (34 :: 34 :: r) = 34 :: pq r := by simp [pq]
theorem pq_end (r : List Nat) (h : ∀ d t, r = d :: t → d ≠ 34) : pq (34 :: r) = [] := by
  cases r with
  | nil => simp [pq]
  | cons d t => simp [pq, h d t rfl]
/-- the reply read back -/
theorem pq_back (l : List Nat) (r : List Nat) (h : ∀ d t, r = d :: t → d ≠ 34) : pq (rep1 34 [34, 34] l ++ 34 :: r) = l := by
  induction l with
  | nil => exact pq_end r h
  | cons c l ih =>
    show pq ((sub1 34 [34, 34] c ++ rep1 34 [34, 34] l) ++ 34 :: r) = _
    by_cases hc : c = 34
    · subst hc
      simp only [sub1, if_true, List.append_assoc, List.cons_append, List.nil_append]
      rw [pq_dq, ih]
    · simp only [sub1, if_neg hc, List.append_assoc, List.cons_append, List.nil_append]
      rw [pq_other _ _ hc, ih]
end
/-! Ct -/
section
open PySem.Spec PySem.Calls

section
variable {prog : Program} {w : World} {A₀ A : Around} {s : Shared} {base h₀ : Heap} {outer : List Env} {L : Addr} {m : Str → Option Value} {K : Frag}
  {p : Program} {loose : List Str} {mean : ExcName → Option Value} {mg mb : Str → Option Value}
  {env : Env} {R : Result → Shared → Prop} {name qual : Str} {params : Arguments} {body : List Stmt} {scope : Scope} {dV kV doc pm cdv ct oc : Value} {an od : Option Addr} {osl : Array (Option Value)} {f : Addr} {args : Args} {binds : List (Str × Value)}

/-- a call of a def that changes nothing that stands: the whole heap is the callee's base -/
theorem enterP (B : Below A₀ base outer h₀) (F : Fr h₀ L s.heap m) (X₀ : K.In h₀) (T : Top p loose mean mg mb h₀) (hA : A.frames = some (env :: outer)) (hf : env.frame = some L) (hke : env.scope.kind = .function)
    (ho : K.lookup f = some ⟨oc, od, .func (fnOf name qual params body scope dV kV doc pm an cdv ct), osl⟩) (hcd : codeIn K cdv qual = true) (hroom : A.depth < recursionLimit)
    (hbind : BindsTo s (fnOf name qual params body scope dV kV doc pm an cdv ct) args binds) (hloc : ∀ y ∈ binds, scope.names.lookup y.1 = some .local)
    (h : ∀ L' h₁, Fr s.heap L' h₁ (fun y => binds.reverse.lookup y) → News s.heap L' h₁ [] → Below A base (env :: outer) s.heap → K.In s.heap → Top p loose mean mg mb s.heap →
      wpAny (model prog w) (A.deeper (envOf qual scope L' f cdv)) (execs body (envOf qual scope L' f cdv))
        (fun fl s' => R (.ok (.ret (match fl with | .ret v => v | _ => .none))) s')
        (fun _ _ => False)
        { s with heap := h₁, toks := s.toks + binds.length })
    (hco : scope.isCoroutine = false) (hgen : scope.isGenerator = false) (hk : scope.kind = .function)
    (hcell : ∀ x ∈ scope.names, x.2 ≠ .cell) : codeAny (model prog w) A (.call (.ref f) args) R s := by
  have P := pushX B F hf hke
  exact codeAny_call_def (fd := fnOf name qual params body scope dV kV doc pm an cdv ct) (body := body) (binds := binds) hroom ((X₀.keeps F.keep) _ _ ho) rfl (T.nolimit.keeps F.keep)
    (codeRec_of (X₀.keeps F.keep) hcd) rfl hbind hcell hloc
    (fun h₁ hns hk₁ => wpAny_mono (h s.heap.objs.size h₁ ⟨hns, hk₁, Nat.le_refl _⟩ News.nil ⟨hA, P.stays, P.frames⟩ (X₀.keeps F.keep) (T.keeps F.keep)) (fun _ _ x => x) fun _ _ x => x.elim) hco hgen hk

theorem enterPC (B : Below A₀ base outer h₀) (F : Fr h₀ L s.heap m) (X₀ : K.In h₀) (T : Top p loose mean mg mb h₀) (hA : A.frames = some (env :: outer)) (hf : env.frame = some L) (hke : env.scope.kind = .function)
    (ho : K.lookup f = some ⟨oc, od, .func (fnOf name qual params body scope dV kV doc pm an cdv ct), osl⟩) (hcd : codeIn K cdv qual = true) (hroom : A.depth < recursionLimit)
    (hbind : BindsTo s (fnOf name qual params body scope dV kV doc pm an cdv ct) args binds) (hkind : (binds.all fun y => scope.names.lookup y.1 == some .local || scope.names.lookup y.1 == some .cell) = true)
    (hnd : ((cellsFrom 0 scope.names []).map (·.1)).Nodup)
    (h : ∀ L' h₁ tk cells, s.toks ≤ tk → Fr s.heap L' h₁ (bindL (envOfC qual scope L' f cdv).kindOf binds fun _ => none) → News s.heap L' h₁ cells →
      CellsAre (bindC (envOfC qual scope L' f cdv).kindOf binds fun _ => none) (cellsFrom (L' + 1) scope.names []) cells → Below A base (env :: outer) s.heap → K.In s.heap → Top p loose mean mg mb s.heap →
      wpAny (model prog w) (A.deeper (envOfC qual scope L' f cdv)) (execs body (envOfC qual scope L' f cdv))
        (fun fl s' => R (.ok (.ret (match fl with | .ret v => v | _ => .none))) s')
        (fun _ _ => False)
        { s with heap := h₁, toks := tk })
    (hco : scope.isCoroutine = false) (hgen : scope.isGenerator = false) (hk : scope.kind = .function) : codeAny (model prog w) A (.call (.ref f) args) R s := by
  have P := pushX B F hf hke
  have X := X₀.keeps F.keep
  have lim := T.nolimit.keeps F.keep
  refine codeAny_call_function hroom (X _ _ ho) rfl hco hgen rfl (codeRec_of X hcd) (hbind _ _ _ _ ?_)
  refine any_toks (wpAny_newFunctionEnv_cells hk (kindsX hkind _) fun env' he s' x htk => ?_)
  subst he
  refine ⟨lim.keeps x.toInCall.keep, codeAny_func ?_⟩
  obtain ⟨h₁, tk, rfl, _⟩ := x.done
  obtain ⟨cells, NC, Y⟩ := Cl.news (h₀ := s.heap) (Nat.le_refl _) fun n c hm => ⟨x.cell n c (lookup_of_mem_nodup (cellsFrom_names scope.names 0 (s.heap.objs.size + 1) [] [] rfl ▸ hnd) hm), x.above n c hm⟩
  exact wpAny_mono (h s.heap.objs.size h₁ tk cells htk ⟨x.toInCall.ns, x.toInCall.keep, Nat.le_refl _⟩ NC Y ⟨hA, P.stays, P.frames⟩ X (T.keeps F.keep)) (fun _ _ x => x) fun _ _ x => x.elim
end
end
section
open PySem.Spec PySem.Calls
def TokP (s : Shared) (P : Prop) : Prop := 0 < s.toks → P
section
variable {M : Model} {A : Around} {E : Value → Shared → Prop} {hp : Heap} {gs : Array GenState} {dr : Drawn} {X : Nat} {os : OsState} {st : Stmt} {rest : List Stmt} {env : Env}
theorem execs_pos {Q : Flow → Shared → Prop} (h0 : 0 < X)
    (h : ∀ tk, 0 < tk → wpAny M A (exec st env) (fun f s' => TokP s' (match f with | .next => wpAny M A (execs rest env) Q E s' | f => Q f s')) E ⟨hp, gs, dr, tk, os⟩) :
    wpAny M A (execs (st :: rest) env) Q E ⟨hp, gs, dr, X, os⟩ := wpAny_execs_cons (any_pos h0 (h X h0))
theorem tokP_in {P : Prop} (h : 0 < X → P) : TokP ⟨hp, gs, dr, X, os⟩ P := h
end
end
section
open PySem.Spec PySem.Calls
/-- a mark at which the walk stops -/
def StopG (P : Prop) : Prop := P
theorem stopG {P : Prop} (h : StopG P) : P := h
end
/-! Ct2 -/
section
open PySem.Spec PySem.Calls

section
variable {prog : Program} {w : World} {A₀ A : Around} {s : Shared} {base h₀ : Heap} {outer : List Env} {L : Addr} {m : Str → Option Value} {K : Frag}
  {p : Program} {loose : List Str} {mean : ExcName → Option Value} {mg mb : Str → Option Value} {news : List (Addr × Obj)}
  {env : Env} {R : Result → Shared → Prop} {name qual : Str} {params : Arguments} {body : List Stmt} {scope : Scope} {dV kV doc pm cdv ct oc : Value} {an od : Option Addr} {osl : Array (Option Value)} {f : Addr} {args : Args} {binds : List (Str × Value)}

/-- the same, with some objects of the caller's ledger carried along -/
theorem enterG (B : Below A₀ base outer h₀) (F : Fr h₀ L s.heap m) (X₀ : K.In h₀) (N : News h₀ L s.heap news) (T : Top p loose mean mg mb h₀) (hA : A.frames = some (env :: outer)) (hf : env.frame = some L) (hke : env.scope.kind = .function)
    (ho : K.lookup f = some ⟨oc, od, .func (fnOf name qual params body scope dV kV doc pm an cdv ct), osl⟩) (hcd : codeIn K cdv qual = true) (hroom : A.depth < recursionLimit)
    (hbind : BindsTo s (fnOf name qual params body scope dV kV doc pm an cdv ct) args binds) (hloc : ∀ y ∈ binds, scope.names.lookup y.1 = some .local)
    (h : ∀ g L' h₁, @LE.le Nat _ s.heap.objs.size L' → GSub s.heap g (news.map (·.1)) → Fr g L' h₁ (fun y => binds.reverse.lookup y) → News g L' h₁ news → Below A base (env :: outer) g → K.In g → Top p loose mean mg mb g → (∀ p ∈ news, p.1 < L') →
      wpAny (model prog w) (A.deeper (envOf qual scope L' f cdv)) (execs body (envOf qual scope L' f cdv))
        (fun fl s' => R (.ok (.ret (match fl with | .ret v => v | _ => .none))) s')
        (fun _ _ => False)
        { s with heap := h₁, toks := s.toks + binds.length })
    (hco : scope.isCoroutine = false) (hgen : scope.isGenerator = false) (hk : scope.kind = .function)
    (hcell : ∀ x ∈ scope.names, x.2 ≠ .cell) : codeAny (model prog w) A (.call (.ref f) args) R s := by
  obtain ⟨FG, BG, st, lv⟩ := groundX (R := R) B F N hA hf hke
  exact codeAny_call_def (fd := fnOf name qual params body scope dV kV doc pm an cdv ct) (body := body) (binds := binds) hroom ((X₀.keeps F.keep) _ _ ho) rfl (T.nolimit.keeps F.keep)
    (codeRec_of (X₀.keeps F.keep) hcd) rfl hbind hcell hloc
    (fun h₁ hns hk₁ => wpAny_mono (h _ s.heap.objs.size h₁ (Nat.le_refl _) (fun b o e n => hideAll_get _ e n) ⟨hns, fun b o e => hk₁ b o (of_hideAll _ e), Nat.le_of_eq (hideAll_size _ _)⟩
      (fun p hp => ⟨hk₁ _ _ (N p hp).1, Nat.ne_of_lt (Heap.lt_size (N p hp).1), hideAll_none _ (List.mem_map_of_mem hp)⟩) BG (X₀.keeps st) (T.keeps st) (fun p hp => Heap.lt_size (N p hp).1)) (fun _ _ x => x) fun _ _ x => x.elim) hco hgen hk

theorem enterGC (B : Below A₀ base outer h₀) (F : Fr h₀ L s.heap m) (X₀ : K.In h₀) (N : News h₀ L s.heap news) (T : Top p loose mean mg mb h₀) (hA : A.frames = some (env :: outer)) (hf : env.frame = some L) (hke : env.scope.kind = .function)
    (ho : K.lookup f = some ⟨oc, od, .func (fnOf name qual params body scope dV kV doc pm an cdv ct), osl⟩) (hcd : codeIn K cdv qual = true) (hroom : A.depth < recursionLimit)
    (hbind : BindsTo s (fnOf name qual params body scope dV kV doc pm an cdv ct) args binds) (hkind : (binds.all fun y => scope.names.lookup y.1 == some .local || scope.names.lookup y.1 == some .cell) = true)
    (hnd : ((cellsFrom 0 scope.names []).map (·.1)).Nodup)
    (h : ∀ g L' h₁ tk cells, s.toks ≤ tk → @LE.le Nat _ s.heap.objs.size L' → GSub s.heap g (news.map (·.1)) → Fr g L' h₁ (bindL (envOfC qual scope L' f cdv).kindOf binds fun _ => none) → News g L' h₁ (cells ++ news) →
      CellsAre (bindC (envOfC qual scope L' f cdv).kindOf binds fun _ => none) (cellsFrom (L' + 1) scope.names []) cells → Below A base (env :: outer) g → K.In g → Top p loose mean mg mb g → (∀ p ∈ news, p.1 < L') →
      wpAny (model prog w) (A.deeper (envOfC qual scope L' f cdv)) (execs body (envOfC qual scope L' f cdv))
        (fun fl s' => R (.ok (.ret (match fl with | .ret v => v | _ => .none))) s')
        (fun _ _ => False)
        { s with heap := h₁, toks := tk })
    (hco : scope.isCoroutine = false) (hgen : scope.isGenerator = false) (hk : scope.kind = .function) : codeAny (model prog w) A (.call (.ref f) args) R s := by
  obtain ⟨FG, BG, st, lv⟩ := groundX (R := R) B F N hA hf hke
  have X := X₀.keeps F.keep
  have lim := T.nolimit.keeps F.keep
  refine codeAny_call_function hroom (X _ _ ho) rfl hco hgen rfl (codeRec_of X hcd) (hbind _ _ _ _ ?_)
  refine any_toks (wpAny_newFunctionEnv_cells hk (kindsX hkind _) fun env' he s' x htk => ?_)
  subst he
  refine ⟨lim.keeps x.toInCall.keep, codeAny_func ?_⟩
  obtain ⟨h₁, tk, rfl, _⟩ := x.done
  obtain ⟨cells, NC, Y⟩ := Cl.news (h₀ := s.heap) (Nat.le_refl _) fun n c hm => ⟨x.cell n c (lookup_of_mem_nodup (cellsFrom_names scope.names 0 (s.heap.objs.size + 1) [] [] rfl ▸ hnd) hm), x.above n c hm⟩
  have none_of : ∀ b, s.heap.get? b = none → (hideAll s.heap (news.map (·.1))).get? b = none := fun b e => by
    cases q : (hideAll s.heap (news.map (·.1))).get? b with
    | none => rfl
    | some o => rw [of_hideAll _ q] at e; cases e
  refine wpAny_mono (h _ s.heap.objs.size h₁ tk cells htk (Nat.le_refl _) (fun b o e n => hideAll_get _ e n) ⟨x.toInCall.ns, fun b o e => x.toInCall.keep b o (of_hideAll _ e), Nat.le_of_eq (hideAll_size _ _)⟩ ?_ Y BG (X₀.keeps st) (T.keeps st) (fun p hp => Heap.lt_size (N p hp).1)) (fun _ _ x => x) fun _ _ x => x.elim
  intro p hp
  rcases List.mem_append.mp hp with hp | hp
  · exact ⟨(NC p hp).1, (NC p hp).2.1, none_of _ (NC p hp).2.2⟩
  · exact ⟨x.toInCall.keep _ _ (N p hp).1, Nat.ne_of_lt (Heap.lt_size (N p hp).1), hideAll_none _ (List.mem_map_of_mem hp)⟩

/-- an item of a written list, at a written place -/
theorem sub5 {E : Value → Shared → Prop} {h₀ : Heap} {L D : Addr} {value slice : PySem.Expr} {its : Array Value} {n : Nat} {k : Int} {u : Tok} {x : Value} {Q : Value → Shared → Prop} (N : News h₀ L s.heap news) (hm : (D, PySem.W.listOf its n) ∈ news) (h0 : 0 ≤ k) (hfit : k < 2 ^ 63) (hx : its.toList[k.toNat]? = some x) (h : Q x s)
    (hs : subscripted slice false (.ref D) (.int k u) = operate [.ref D, .int k u] (getItem (.ref D) (.int k u)) := by with_unfolding_all rfl) (ht : ∀ r, letTemporaryGo value (.ref D) r = pure () := by intro _; with_unfolding_all rfl) :
    wpAny (model prog w) A (subscriptTail value slice (.ref D) (.int k u)) Q E s :=
  subscriptTail_builtin (PySem.IsL.isList (n := n) (N _ hm).1).typeIs slot_list_getitem.lookup (wpAny_getItem_list (PySem.IsL.isList (n := n) (N _ hm).1) h0 hfit (by simpa using hx) h) hs ht
/-- what stood in the caller's heap stands when the callee leaves -/
theorem keep_of {H g H' : Heap} {L' : Addr} {m' : Str → Option Value} {D : Addr} {o : Obj} {N' : List (Addr × Obj)} (G : GSub H g [D]) (hD : H.get? D = some o) (F' : Fr g L' H' m') (NN : News g L' H' N') (hm : (D, o) ∈ N') : ∀ b x, H.get? b = some x → H'.get? b = some x := by
  intro b x e
  by_cases q : b = D
  · subst q
    rw [hD] at e; cases e
    exact (NN _ hm).1
  · exact F'.keep _ _ (G _ _ e (fun hb => q (List.mem_singleton.mp hb)))
end
end
/-! Cm -/
section
open PySem.Spec PySem.Calls
abbrev pg : Program := PySem.Challenge.rw_yh0017_01.row.prog
/-- a call that changes nothing that stands -/
abbrev Ct (w : World) (mean : ExcName → Option Value) (mg mb : PySem.Str → Option Value) (c : Sem Value) (pre : Heap → Prop) (post : Heap → Heap → Value → Prop) : Prop :=
  ∀ (dp un : Nat) (gd : Option (List Code)) (cn : PySem.Str) (cs : Scope) (a : Addr) (ccd : Value) (cl : List (PySem.Str × Addr)) (outer : List Env) (A₀ : Around) (base h₀ : Heap) (L : Addr) (m : PySem.Str → Option Value) (s : Shared) (Q E : Value → Shared → Prop),
    Below A₀ base outer h₀ → Fr h₀ L s.heap m → (hd.heap_1 w.params).In h₀ → Top hd.view_1 (looseW hd.view_1 []) mean mg mb h₀ → cs.kind = .function →
    dp + 20 < recursionLimit → un + 100 < cLine → 0 < s.toks → pre s.heap →
    (∀ v h' tk', (∀ b o, s.heap.get? b = some o → h'.get? b = some o) → post s.heap h' v → 0 < tk' → Q v { s with heap := h', toks := tk' }) →
      wpAny (model PySem.Challenge.rw_yh0017_01.row.prog w) (ktrTop dp un gd cn cs L a ccd cl outer) c Q E s
/-- the same, where it calls further -/
abbrev Ct40 (w : World) (mean : ExcName → Option Value) (mg mb : PySem.Str → Option Value) (c : Sem Value) (pre : Heap → Prop) (post : Heap → Heap → Value → Prop) : Prop :=
  ∀ (dp un : Nat) (gd : Option (List Code)) (cn : PySem.Str) (cs : Scope) (a : Addr) (ccd : Value) (cl : List (PySem.Str × Addr)) (outer : List Env) (A₀ : Around) (base h₀ : Heap) (L : Addr) (m : PySem.Str → Option Value) (s : Shared) (Q E : Value → Shared → Prop),
    Below A₀ base outer h₀ → Fr h₀ L s.heap m → (hd.heap_1 w.params).In h₀ → Top hd.view_1 (looseW hd.view_1 []) mean mg mb h₀ → cs.kind = .function →
    dp + 40 < recursionLimit → un + 200 < cLine → 0 < s.toks → pre s.heap →
    (∀ v h' tk', (∀ b o, s.heap.get? b = some o → h'.get? b = some o) → post s.heap h' v → 0 < tk' → Q v { s with heap := h', toks := tk' }) →
      wpAny (model PySem.Challenge.rw_yh0017_01.row.prog w) (ktrTop dp un gd cn cs L a ccd cl outer) c Q E s
abbrev CtL (w : World) (mean : ExcName → Option Value) (mg mb : PySem.Str → Option Value) (D : Addr) (o : Obj) (c : Sem Value) (post : Heap → Heap → Value → Prop) : Prop :=
  ∀ (dp un : Nat) (gd : Option (List Code)) (cn : PySem.Str) (cs : Scope) (a : Addr) (ccd : Value) (cl : List (PySem.Str × Addr)) (outer : List Env) (A₀ : Around) (base h₀ : Heap) (L : Addr) (m : PySem.Str → Option Value) (s : Shared) (Q E : Value → Shared → Prop),
    Below A₀ base outer h₀ → Fr h₀ L s.heap m → News h₀ L s.heap [(D, o)] → (hd.heap_1 w.params).In h₀ → Top hd.view_1 (looseW hd.view_1 []) mean mg mb h₀ → cs.kind = .function →
    dp + 20 < recursionLimit → un + 100 < cLine → 0 < s.toks →
    (∀ v h' tk', (∀ b o, s.heap.get? b = some o → h'.get? b = some o) → post s.heap h' v → 0 < tk' → Q v { s with heap := h', toks := tk' }) →
      wpAny (model PySem.Challenge.rw_yh0017_01.row.prog w) (ktrTop dp un gd cn cs L a ccd cl outer) c Q E s
end
/-! Nm -/
section
open PySem.Spec PySem.Calls
section
variable {prog : Program} {w : World} {A : Around} {E : Value → Shared → Prop} {s : Shared} {h₀ : Heap} {L : Addr} {m : PySem.Str → Option Value} {news : List (Addr × Obj)} {K : Frag} {p : Program} {loose : List PySem.Str} {mg mb : PySem.Str → Option Value}
  {x cn : PySem.Str} {pos : Pos} {cs : Scope} {a c : Addr} {ccd v : Value} {cl : List (PySem.Str × Addr)} {o : Obj} {Q : Value → Shared → Prop}
theorem nameL (hk : cs.kind = .function) (hx : (envX cn cs L a ccd cl).kindOf x = some .local) (hd : (x == ("__debug__" : PySem.Str)) = false) (F : Fr h₀ L s.heap m) (hv : m x = some v) (h : Q v s) :
    wpAny (model prog w) A (eval (.Name x pos) (envX cn cs L a ccd cl)) Q E s := nameX_L F hv h hk hx hd
theorem nameC (hk : cs.kind = .function) (hx : (envX cn cs L a ccd cl).kindOf x = some .cell) (hb : (x == ("__debug__" : PySem.Str)) = false) (hc : cl.lookup x = some c) (N : News h₀ L s.heap news) (hm : (c, o) ∈ news) (hd : o.data = .cell (some v)) (h : Q v s) :
    wpAny (model prog w) A (eval (.Name x pos) (envX cn cs L a ccd cl)) Q E s := nameX_C N hc hm hd h hk hx hb
theorem nameK (hk : cs.kind = .function) (hx : (envX cn cs L a ccd cl).kindOf x = some .globalImplicit) (hd : (x == ("__debug__" : PySem.Str)) = false) (F : Fr h₀ L s.heap m) (X : K.In h₀) (T : TopRead p loose mg mb h₀) (e : nsIn K mainGlobals x = some (some v)) (h : Q v s) :
    wpAny (model prog w) A (eval (.Name x pos) (envX cn cs L a ccd cl)) Q E s := nameX_K F X T e h hk hx hd
theorem nameB (hk : cs.kind = .function) (hx : (envX cn cs L a ccd cl).kindOf x = some .globalImplicit) (hd : (x == ("__debug__" : PySem.Str)) = false) (F : Fr h₀ L s.heap m) (X : K.In h₀) (T : TopRead p loose mg mb h₀) (e : nsIn K mainGlobals x = some none) (hv : bootBuiltins x = some v) (hn : x ≠ "__name__") (h : Q v s) :
    wpAny (model prog w) A (eval (.Name x pos) (envX cn cs L a ccd cl)) Q E s := nameX_B F X T e hv hn h hk hx hd
end
section
variable {prog : Program} {w : World} {A : Around} {E : Value → Shared → Prop} {s : Shared} {h₀ : Heap} {L : Addr} {m : PySem.Str → Option Value} {news : List (Addr × Obj)}
  {x cn : PySem.Str} {cs : Scope} {a c : Addr} {ccd v : Value} {cl : List (PySem.Str × Addr)} {o : Obj} {Q : Unit → Shared → Prop} {g : Obj → List (Addr × Obj)} {v₀ : Option Value}
theorem storeL (hk : cs.kind = .function) (hx : (envX cn cs L a ccd cl).kindOf x = some .local) (F : Fr h₀ L s.heap m) (N : News h₀ L s.heap news)
    (h : ∀ h', Fr h₀ L h' (fun y => if y = x then some v else m y) → News h₀ L h' news → Q () { s with heap := h', toks := s.toks + 1 }) : wpAny (model prog w) A (storeName (envX cn cs L a ccd cl) x v) Q E s := storeX_L F N h hk hx
theorem storeC (hk : cs.kind = .function) (hx : (envX cn cs L a ccd cl).kindOf x = some .cell) (hc : cl.lookup x = some c) (F : Fr h₀ L s.heap m) (N : News h₀ L s.heap news) (U : UpdF c o news g) (hd : o.data = .cell v₀)
    (h : ∀ h' o', Fr h₀ L h' m → News h₀ L h' (g o') → o'.data = .cell (some v) → Q () { s with heap := h' }) : wpAny (model prog w) A (storeName (envX cn cs L a ccd cl) x v) Q E s := storeX_C F N hc U hd h hk hx
end
theorem ltNe {d a : Nat} {o : Obj} : ∀ {l : List (Addr × Obj)}, AllLt d l → (a, o) ∈ l → @Ne Nat a d
  | _ :: _, h, .head _ => Nat.ne_of_lt h.1
  | _ :: _, h, .tail _ hm => ltNe h.2 hm
theorem ltNe' {d a : Nat} {o : Obj} {l : List (Addr × Obj)} (h : AllLt d l) (hm : (a, o) ∈ l) : @Ne Nat d a := Ne.symm (ltNe h hm)
end
/-! Cc -/
section
open PySem.Spec PySem.Calls

section
variable {M : Model} {A : Around} {E : Value → Shared → Prop} {s : Shared} {env : Env}
theorem newEnv_cell {scope : Scope} {cl : List (PySem.Str × Addr)} {Q : Env → Shared → Prop}
    (h : Q { scope := scope, locals := s.heap.objs.size, globals := env.globals, cells := cellsFrom (s.heap.objs.size + 1) scope.names cl, qual := env.qual, func := none, code := env.code, frame := env.frame, builtins := env.builtins }
      { s with heap := pushCells (s.heap.push { cls := .type "dict", data := .dict #[] }) scope.names }) :
    wpAny M A (newFunctionEnv scope env.globals cl [] env.qual none .none (some env)) Q E s := by
  simp only [newFunctionEnv, Option.isSome_some, if_true]
  refine wpAny_bind (wpAny_alloc ?_)
  refine wpAny_bind (wpAny_layCells _ (fun name kind cells => by cases hkc : kind == NameKind.cell <;> simp [hkc]) _ _ _ _ ?_)
  rw [show ({ s with heap := s.heap.push { cls := .type "dict", data := .dict #[] } } : Shared).heap.objs.size = s.heap.objs.size + 1 from Heap.size_push ..]
  refine wpAny_bind ?_
  rw [List.forIn_nil]
  exact wpAny_pure (wpAny_pure h)
end

section
variable {prog : Program} {w : World} {A : Around} {E : Value → Shared → Prop} {s : Shared} {env : Env}
/-- a comprehension over a list whose own name is a cell -/
theorem ListComp_cell {elt iter : Expr} {x : PySem.Str} {px : Pos} {scope : Scope} {cl : List (PySem.Str × Addr)} {pos : Pos} {Q : Value → Shared → Prop} {items : Array Value} {ax : Addr} (F : Value → Value → Prop)
    (hh : A.handled = none) (hclos : closureFor scope env = pure cl) (hkind : scope.kind = .function) (hnames : ∀ y ∈ scope.names, y.2 = .local → scope.names.lookup y.1 = some .local)
    (hxk : (relabel scope env).names.lookup x = some .cell) (hcf : ∀ n, cellsFrom n scope.names cl = (x, n) :: cl) (hpc : ∀ h : Heap, pushCells h scope.names = h.push { cls := .type "cell", data := .cell none })
    (h : wpAny (model prog w) A (eval iter env) (fun xv s₁ => xv = .ref ax ∧ s₁.heap.IsList ax items ∧ items.size ≤ sizeLine ∧
      (∀ C c v s₂ m₂ E', v ∈ items.toList → s₁.heap.get? C = none → s₁.heap.get? c = none → s₂.heap.Ns C m₂ → s₂.heap.IsCell c (some v) → (∀ b o, s₁.heap.get? b = some o → s₂.heap.get? b = some o) →
        wpAny (model prog w) A (eval elt (compEnvC scope ((x, c) :: cl) C env)) (fun y s₃ => F v y ∧ Keeps s₂ s₃) E' s₂) ∧
      (∀ D h' tk ys, s₁.heap.objs.size ≤ D → h'.PlainList D ys → Paired F items.toList ys.toList → (∀ b o, s₁.heap.get? b = some o → h'.get? b = some o) → Q (.ref D) { s₁ with heap := h', toks := tk })) E s)
    (hs : ∀ x, foldedSetIterable iter env x = pure x := by intro _; rfl) :
    wpAny (model prog w) A (eval (.ListComp elt [⟨.Name x px, iter, [], 0⟩] scope pos) env) Q E s := by
  rw [eval_ListComp]
  refine wpAny_comprehension_free (use := none) rfl hs hclos hkind hnames (wpAny_mono h (fun xv s₁ h₁ => ?_) fun _ _ e => e)
  obtain ⟨rfl, hl, hsz, helt, hQ⟩ := h₁
  have hax : @LT.lt Nat _ ax s₁.heap.objs.size := by obtain ⟨_, e, _⟩ := hl; exact Heap.lt_size e
  refine wpAny_pyIter_list hl (wpAny_newObj_type (newEnv_cell ?_))
  dsimp only
  rw [hcf, hpc]
  generalize hH1 : s₁.heap.push { cls := .type "list_iterator", data := .fields #[.ref ax, .int 0 0] } = H1
  have s1 : H1.objs.size = s₁.heap.objs.size + 1 := by rw [← hH1, Heap.size_push]
  generalize hH2 : H1.push { cls := .type "list", dict := none, data := .seq ([] : List Value).toArray } = H2
  have s2 : H2.objs.size = s₁.heap.objs.size + 2 := by rw [← hH2, Heap.size_push, s1]
  generalize hH3 : H2.push { cls := .type "dict", data := .dict #[] } = H3
  have s3 : H3.objs.size = s₁.heap.objs.size + 3 := by rw [← hH3, Heap.size_push, s2]
  generalize hH4 : H3.push { cls := .type "cell", data := .cell none } = H4
  rw [s1, s2]
  have up1 : ∀ b o, s₁.heap.get? b = some o → H1.get? b = some o := fun b o e => hH1 ▸ Heap.get?_push_of_some _ e
  have up2 : ∀ b o, H1.get? b = some o → H2.get? b = some o := fun b o e => hH2 ▸ Heap.get?_push_of_some _ e
  have up3 : ∀ b o, H2.get? b = some o → H3.get? b = some o := fun b o e => hH3 ▸ Heap.get?_push_of_some _ e
  have up4 : ∀ b o, H3.get? b = some o → H4.get? b = some o := fun b o e => hH4 ▸ Heap.get?_push_of_some _ e
  have up : ∀ b o, s₁.heap.get? b = some o → H4.get? b = some o := fun b o e => up4 _ _ (up3 _ _ (up2 _ _ (up1 _ _ e)))
  have oI : H4.IsListIter s₁.heap.objs.size ax 0 := ⟨_, up4 _ _ (up3 _ _ (up2 _ _ (hH1 ▸ Heap.get?_push_size _ rfl))), rfl, rfl⟩
  have oD : H4.PlainList (s₁.heap.objs.size + 1) #[] := ⟨_, up4 _ _ (up3 _ _ (by rw [← s1, ← hH2]; exact Heap.get?_push_size _ rfl))⟩
  have oC : H4.Ns (s₁.heap.objs.size + 2) (fun _ => none) := Heap.Ns.keeps (by rw [← s2, ← hH3]; exact Heap.Ns.new H2 _) up4
  have oc : H4.IsCell (s₁.heap.objs.size + 2 + 1) none := ⟨_, by rw [show s₁.heap.objs.size + 2 + 1 = H3.objs.size from s3.symm, ← hH4]; exact Heap.get?_push_size _ rfl, rfl⟩
  have fresh : ∀ b, s₁.heap.objs.size ≤ b → s₁.heap.get? b = none := fun b hb => by
    cases e : s₁.heap.get? b with
    | none => rfl
    | some o' => exact absurd (Heap.lt_size e) (Nat.not_lt.mpr hb)
  have key : codeAny (model prog w) A (.compLoop (.ListComp elt [⟨.Name x px, iter, [], 0⟩] scope pos) 0 (.ref s₁.heap.objs.size) (.ref (s₁.heap.objs.size + 1)) (compEnvC scope ((x, s₁.heap.objs.size + 2 + 1) :: cl) (s₁.heap.objs.size + 2) env))
      (compPost (model prog w) A E none Q (.ref (s₁.heap.objs.size + 1)) (s₁.heap.objs.size + 2)) { s₁ with heap := H4 } := by
    have W := Walks.list (prog := prog) (w := w) hh s₁.heap.objs.size ax (Nat.ne_of_lt hax) items
    refine codeAny_compLoop_tests
      (fun k s' => ∃ h' tk m' v', ∃ ys : Array Value, s' = { s₁ with heap := h', toks := tk } ∧ ys.size ≤ items.size ∧ k = items.size + 1 - ys.size ∧ (h'.IsListIter s₁.heap.objs.size ax ys.size ∧ h'.IsList ax items) ∧ h'.PlainList (s₁.heap.objs.size + 1) ys ∧ h'.Ns (s₁.heap.objs.size + 2) m' ∧
        h'.IsCell (s₁.heap.objs.size + 2 + 1) v' ∧ Paired F (items.toList.take ys.size) ys.toList ∧ (∀ b o, s₁.heap.get? b = some o → h'.get? b = some o)) ?_ (items.size + 1)
      ⟨H4, _, _, none, #[], rfl, Nat.zero_le _, rfl, ⟨oI, let ⟨o, e, r⟩ := hl; ⟨o, up _ _ e, r⟩⟩, oD, oC, oc, by simpa using Paired.nil, up⟩
    rintro k s' ⟨h', tk, m', v', ys, rfl, hi, rfl, hst, hD, hC, hc, hP, hk⟩
    by_cases hlt : ys.size < items.size
    · refine W.item ys.size _ _ _ hlt hst fun v h₂ tk₂ hPv hst₂ hk₂ => ?_
      have nI : ∀ b, b ≠ s₁.heap.objs.size → b ∉ [s₁.heap.objs.size] := fun b hb hm => hb (List.mem_singleton.mp hm)
      have c2 : h₂.IsCell (s₁.heap.objs.size + 2 + 1) v' := by
        obtain ⟨o, ho, hd⟩ := hc
        exact ⟨o, hk₂ _ _ (nI _ (by show @Ne Nat _ _; omega)) ho, hd⟩
      refine wpAny_assign_Name (wpAny_storeName_cell (by simp [compEnvC, relabel, hkind]) hxk (by simp [compEnvC]) c2 fun h₃ hc₃ hs₃ => ?_)
      refine wpAny_tests_nil ?_
      simp only [if_true]
      have hne : ∀ b, b < s₁.heap.objs.size + 2 + 1 → b ≠ s₁.heap.objs.size + 2 + 1 := fun b hb => Nat.ne_of_lt hb
      have keep3 : ∀ b o, s₁.heap.get? b = some o → h₃.get? b = some o := fun b o e => by
        have l : @LT.lt Nat _ b s₁.heap.objs.size := Heap.lt_size e
        exact hs₃.extBut b o (hne b (by omega)) (hk₂ b o (nI _ (Nat.ne_of_lt l)) (hk b o e))
      have C3 : h₃.Ns (s₁.heap.objs.size + 2) m' := hC.at' fun o e => hs₃.extBut _ _ (hne _ (by omega)) (hk₂ _ _ (nI _ (by show @Ne Nat _ _; omega)) e)
      have D3 : h₃.PlainList (s₁.heap.objs.size + 1) ys := hD.at fun o e => hs₃.extBut _ _ (hne _ (by omega)) (hk₂ _ _ (nI _ (by show @Ne Nat _ _; omega)) e)
      have st3 := W.frame _ h₂ h₃ hst₂ fun b hb o e => hs₃.extBut b o (by
        rcases List.mem_cons.mp hb with rfl | hb
        · exact hne _ (by omega)
        · rw [List.mem_singleton.mp hb]; exact hne _ (by omega)) e
      have hv : v ∈ items.toList := Array.mem_toList_iff.mpr (Array.mem_of_getElem? hPv)
      refine wpAny_mono (helt _ _ v _ _ _ hv (fresh _ (by omega)) (fresh _ (by omega)) C3 hc₃ keep3) (fun y s₄ h₄ => ?_) fun _ _ e => e
      obtain ⟨hF, h₅, tk₅, rfl, hk₅⟩ := h₄
      obtain ⟨nD, D5⟩ := D3.at fun o e => hk₅ _ _ e
      have D5' : h₅.get? (s₁.heap.objs.size + 1) = some { cls := .type "list", data := .seq ys nD } := D5
      refine append_at (hsz := Nat.le_trans (Nat.le_of_lt hlt) hsz) D5' fun h₆ hs₆ hD₆ => ?_
      have st5 := W.frame _ h₃ h₅ st3 fun b _ o e => hk₅ b o e
      have st6 := W.frame _ h₅ h₆ st5 fun b hb o e => hs₆.extBut b o (by
        rcases List.mem_cons.mp hb with rfl | hb
        · show @Ne Nat _ _; omega
        · rw [List.mem_singleton.mp hb]; show @Ne Nat _ _; omega) e
      refine ⟨items.size + 1 - (ys.push y).size, by rw [Array.size_push]; omega, h₆, tk₅, _, some v, ys.push y, rfl, by rw [Array.size_push]; exact hlt, rfl, by rw [Array.size_push]; exact st6, ⟨_, hD₆⟩, (C3.keeps hk₅).sameBut hs₆ (by show @Ne Nat _ _; omega), (hc₃.keeps hk₅).sameBut hs₆ (by show @Ne Nat _ _; omega), ?_, fun b o e => ?_⟩
      · rw [Array.size_push, List.take_add_one, Array.toList_push]
        have : items.toList[ys.size]? = some v := by simpa using hPv
        rw [this]
        exact hP.snoc hF
      · have l : @LT.lt Nat _ b s₁.heap.objs.size := Heap.lt_size e
        exact hs₆.extBut b o (by show @Ne Nat _ _; omega) (hk₅ b o (keep3 b o e))
    · have e : ys.size = items.size := Nat.le_antisymm hi (Nat.not_lt.mp hlt)
      rw [e] at hst hP
      refine W.done _ _ _ hst fun h₂ tk₂ hk₂ => ?_
      have nI : ∀ b, b ≠ s₁.heap.objs.size → b ∉ [s₁.heap.objs.size] := fun b hb hm => hb (List.mem_singleton.mp hm)
      refine ⟨_, hC.at' fun o e => hk₂ _ _ (nI _ (by show @Ne Nat _ _; omega)) e, fun h'' hs'' => ?_⟩
      refine hQ _ h'' tk₂ ys (by omega) ((hD.at fun o e => hk₂ _ _ (nI _ (by show @Ne Nat _ _; omega)) e).extBut hs''.extBut (by show @Ne Nat _ _; omega)) ?_ fun b o e => ?_
      · have : items.toList.take items.size = items.toList := List.take_of_length_le (by simp)
        rw [this] at hP; exact hP
      · have l : @LT.lt Nat _ b s₁.heap.objs.size := Heap.lt_size e
        exact hs''.extBut b o (by show @Ne Nat _ _; omega) (hk₂ b o (nI _ (Nat.ne_of_lt l)) (hk b o e))
  exact codeAny_compStart_list key (wpAny_pyIter_listiter oI key)
end
end
/-! Ce -/
section
open PySem.Spec PySem.Calls
/-- is it an int below a? -/
def ltI (a : Int) : Value → Bool
  | .int x _ => decide (x < a)
  | _ => false
section
variable {prog : Program} {w : World} {A : Around} {E : Value → Shared → Prop} {s : Shared}
theorem elt_len {cenv : Env} {pl ppr ppi px pp pc po pcmp pcall : Pos} {scopeI : Scope} {mg' mb' : PySem.Str → Option Value} {cP c P : Addr} {a : Int} {t : Tok} {items : Array Value}
    (hh : A.handled = none) (hk : cenv.scope.kind = .function) (hlen : cenv.kindOf (PySem.Str.ofString "len") = some .globalImplicit) (hG : s.heap.Ns cenv.globals mg') (hg : mg' (PySem.Str.ofString "len") = none) (hB : s.heap.Ns cenv.builtins mb') (hb : mb' (PySem.Str.ofString "len") = some (.builtin "len"))
    (hpk : cenv.kindOf (PySem.Str.ofString "pairs") = some .cell) (hpc : cenv.cells.lookup (PySem.Str.ofString "pairs") = some cP) (hP : s.heap.IsCell cP (some (.ref P))) (hL : s.heap.IsList P items) (hA : AllInts items) (hsz : items.size ≤ 100)
    (hI : scopeI.names = [(PySem.Str.ofString ".0", .local), (PySem.Str.ofString "pair", .local), (PySem.Str.ofString "one", .free)]) (hIk : scopeI.kind = .function) (hclos : closureFor scopeI cenv = pure [(PySem.Str.ofString "one", c)]) (hok : cenv.kindOf (PySem.Str.ofString "one") = some .cell) (hc : s.heap.IsCell c (some (.int a t))) :
    wpAny (model prog w) A (eval (.Call (.Name (PySem.Str.ofString "len") pl) [.ListComp (.Name (PySem.Str.ofString "pair") ppr) [⟨.Name (PySem.Str.ofString "pair") ppi, .Name (PySem.Str.ofString "pairs") px, [.Compare (.Name (PySem.Str.ofString "pair") pp) [.Lt] [.Name (PySem.Str.ofString "one") po] pcmp], 0⟩] scopeI pc] [] pcall) cenv)
      (fun y s₃ => (∃ u, y = .int ((items.toList.filter (ltI a)).length : Nat) u) ∧ Keeps s s₃) E s := by
  have hs8 := sizeLine_eq
  have hrel : ∀ C, (compEnvC scopeI [(PySem.Str.ofString "one", c)] C cenv).kindOf (PySem.Str.ofString "pair") = some .local := fun C => by
    refine lookup_relabel_local (env := cenv) ?_
    rw [hI]; rfl
  have hrel1 : ∀ C, (compEnvC scopeI [(PySem.Str.ofString "one", c)] C cenv).kindOf (PySem.Str.ofString "one") = some .cell := fun C => by
    show (relabel scopeI cenv).names.lookup _ = _
    unfold relabel
    rw [hI]
    simp only [List.map_cons, List.map_nil]
    rw [hk, hok]
    rfl
  have hrk : ∀ C, (compEnvC scopeI [(PySem.Str.ofString "one", c)] C cenv).scope.kind = .function := fun C => hIk
  refine Call_Name1 (Name_function_global hk hlen (loadGlobal_builtin hG hg hB hb ?_))
  refine callWith_builtin1 ?_
  refine wpAny_ListComp_free (ltI a) (fun _ _ => True) hclos (by rw [hI]; decide +kernel) hIk (by rw [hI]; decide +kernel) (by rw [hI]; rfl) ?_
  refine wpAny_Name (wpAny_loadName_cell hk hpk hpc hP ?_)
  have hlt : P < s.heap.objs.size := by obtain ⟨_, e, _⟩ := hL; exact Heap.lt_size e
  refine wpAny_pyIter_list hL ?_
  have up : ∀ b o, s.heap.get? b = some o → (s.heap.push { cls := .type "list_iterator", data := .fields #[.ref P, .int 0 0] }).get? b = some o := fun b o e => Heap.get?_push_of_some _ e
  have nI : ∀ b o, s.heap.get? b = some o → b ∉ [s.heap.objs.size] := fun b o e hm => by
    have := Heap.lt_size e
    rw [List.mem_singleton.mp hm] at this
    exact Nat.lt_irrefl _ this
  refine ⟨_, _, _, _, _, _, rfl, Walks.list hh s.heap.objs.size P (Nat.ne_of_lt hlt) items, by rw [hs8]; omega, ⟨⟨_, Heap.get?_push_size _ rfl, rfl, rfl⟩, by obtain ⟨o, e, r⟩ := hL; exact ⟨o, up _ _ e, r⟩⟩, ?_, ⟨?_, ?_⟩, ?_⟩
  · intro b hb
    show b < (s.heap.push _).objs.size
    rw [Heap.size_push]
    rcases List.mem_cons.mp hb with rfl | hb
    · exact Nat.lt_succ_self _
    · rw [List.mem_singleton.mp hb]; exact Nat.lt_succ_of_lt hlt
  · intro C i v s₃ m₃ E' hC hPi hn hm hold htk
    obtain ⟨x, u, rfl⟩ := hA v (Array.mem_of_getElem? hPi)
    have hc3 : s₃.heap.IsCell c (some (.int a t)) := by
      obtain ⟨o, ho, hd⟩ := hc
      exact ⟨o, hold _ _ (nI _ _ ho) (up _ _ ho), hd⟩
    refine wpAny_tests_one (wpAny_isTrue_Compare1 (wpAny_Name (wpAny_loadName_local (hrk C) (hrel C) hn hm ?_)))
    refine wpAny_Name (wpAny_loadName_cell (hrk C) (hrel1 C) rfl hc3 ?_)
    refine lt_int (wpAny_truthy_bool ⟨rfl, s₃.heap, s₃.toks, rfl, fun _ _ e => e⟩)
  · intro C i v s₃ m₃ E' hC hPi hp hn hm hold htk
    exact wpAny_Name (wpAny_loadName_local (hrk C) (hrel C) hn hm ⟨trivial, s₃.heap, s₃.toks, rfl, fun _ _ e => e⟩)
  · intro D h' tk ys vs hD hlD hpl hlen hPv hF hk'
    have hvs : vs = items.toList := list_of_places hlen hPv
    have hys : ys.size = (items.toList.filter (ltI a)).length := by
      rw [← hvs, hF.length, Array.length_toList]
    have hle : (items.toList.filter (ltI a)).length ≤ 100 := Nat.le_trans (List.length_filter_le _ _) (by simpa using hsz)
    refine call_len_list hlD (by rw [hys]; omega) ⟨⟨_, by rw [hys]⟩, h', _, rfl, fun b o e => hk' b o (nI _ _ e) (up _ _ e)⟩
end
end
/-! Cr -/
section
open PySem.Spec PySem.Calls
def cnt (p0 p1 p2 p3 p4 a : Int) : Nat := (if p0 < a then 1 else 0) + ((if p1 < a then 1 else 0) + ((if p2 < a then 1 else 0) + ((if p3 < a then 1 else 0) + ((if p4 < a then 1 else 0) + 0))))
/-- the numbers c are the places of the numbers p -/
def RankStep (p0 p1 p2 p3 p4 c0 c1 c2 c3 c4 : Int) : Prop := c0 = (cnt p0 p1 p2 p3 p4 p0 : Nat) ∧ c1 = (cnt p0 p1 p2 p3 p4 p1 : Nat) ∧ c2 = (cnt p0 p1 p2 p3 p4 p2 : Nat) ∧ c3 = (cnt p0 p1 p2 p3 p4 p3 : Nat) ∧ c4 = (cnt p0 p1 p2 p3 p4 p4 : Nat)
theorem fl_cons (a x : Int) (u : Tok) (l : List Value) : ((Value.int x u :: l).filter (ltI a)).length = (if x < a then 1 else 0) + (l.filter (ltI a)).length := by
  by_cases h : x < a
  · rw [List.filter_cons_of_pos (by simp [ltI, h]), if_pos h, List.length_cons]; omega
  · rw [List.filter_cons_of_neg (by simp [ltI, h]), if_neg h]; omega
section
variable {prog : Program} {w : World} {A : Around} {E : Value → Shared → Prop} {s : Shared} {h₀ : Heap} {L a : Addr} {m : PySem.Str → Option Value} {cn : PySem.Str} {cs : Scope} {ccd : Value} {cl : List (PySem.Str × Addr)} {news : List (Addr × Obj)}
  {K : Frag} {mg mb : PySem.Str → Option Value} {p : Program} {loose : List PySem.Str}
theorem rank_comp {scopeO scopeI : Scope} {pl ppr ppi px pp pc po pcmp pcall p1' p2' p3' : Pos} {cP P : Addr} {oC : Obj} {p0 p1 p2 p3 p4 : Int} {u0 u1 u2 u3 u4 : Tok} {n : Nat} {Q : Value → Shared → Prop}
    (hh : A.handled = none) (F : Fr h₀ L s.heap m) (N : News h₀ L s.heap news) (X : K.In h₀) (T : TopRead p loose mg mb h₀) (e : nsIn K mainGlobals (PySem.Str.ofString "len") = some none)
    (hm : (cP, oC) ∈ news) (hd : oC.data = .cell (some (.ref P))) (hP : (P, PySem.W.listOf #[.int p0 u0, .int p1 u1, .int p2 u2, .int p3 u3, .int p4 u4] n) ∈ news)
    (hk : cs.kind = .function) (hcp : cl.lookup (PySem.Str.ofString "pairs") = some cP) (hpk : (envX cn cs L a ccd cl).kindOf (PySem.Str.ofString "pairs") = some .cell)
    (hO : scopeO.names = [(PySem.Str.ofString ".0", .local), (PySem.Str.ofString "one", .cell), (PySem.Str.ofString "len", .globalImplicit), (PySem.Str.ofString "pairs", .free)]) (hOk : scopeO.kind = .function)
    (hI : scopeI.names = [(PySem.Str.ofString ".0", .local), (PySem.Str.ofString "pair", .local), (PySem.Str.ofString "one", .free)]) (hIk : scopeI.kind = .function)
    (h : ∀ D h' tk v0 v1 v2 v3 v4 nn c0 c1 c2 c3 c4, RankStep p0 p1 p2 p3 p4 c0 c1 c2 c3 c4 → Fr h₀ L h' m → News h₀ L h' ((D, PySem.W.listOf #[.int c0 v0, .int c1 v1, .int c2 v2, .int c3 v3, .int c4 v4] nn) :: news) → (∀ q ∈ news, q.1 < D) → Q (.ref D) { s with heap := h', toks := tk }) :
    wpAny (model prog w) A (eval (.ListComp (.Call (.Name (PySem.Str.ofString "len") pl) [.ListComp (.Name (PySem.Str.ofString "pair") ppr) [⟨.Name (PySem.Str.ofString "pair") ppi, .Name (PySem.Str.ofString "pairs") px, [.Compare (.Name (PySem.Str.ofString "pair") pp) [.Lt] [.Name (PySem.Str.ofString "one") po] pcmp], 0⟩] scopeI pc] [] pcall) [⟨.Name (PySem.Str.ofString "one") p1', .Name (PySem.Str.ofString "pairs") p2', [], 0⟩] scopeO p3') (envX cn cs L a ccd cl)) Q E s := by
  have hclos : closureFor scopeO (envX cn cs L a ccd cl) = pure [(PySem.Str.ofString "pairs", cP)] := by
    unfold closureFor
    rw [hO]
    simp only [List.forIn_cons, List.forIn_nil]
    have hco : cellOf (envX cn cs L a ccd cl) (PySem.Str.ofString "pairs") = pure cP := by
      unfold cellOf
      rw [show (envX cn cs L a ccd cl).cells.lookup (PySem.Str.ofString "pairs") = some cP from hcp]
    rw [hco]
    rfl
  have hrel : (relabel scopeO (envX cn cs L a ccd cl)).names = [(PySem.Str.ofString ".0", .local), (PySem.Str.ofString "one", .cell), (PySem.Str.ofString "len", .globalImplicit), (PySem.Str.ofString "pairs", .cell)] := by
    unfold relabel
    rw [hO]
    simp only [List.map_cons, List.map_nil]
    rw [show (envX cn cs L a ccd cl).scope.kind = .function from hk, hpk]
    rfl
  have hL : s.heap.IsList P #[.int p0 u0, .int p1 u1, .int p2 u2, .int p3 u3, .int p4 u4] := ⟨_, (N _ hP).1, rfl, _, rfl⟩
  have hA : AllInts #[.int p0 u0, .int p1 u1, .int p2 u2, .int p3 u3, .int p4 u4] := by
    intro v hv
    simp at hv
    rcases hv with rfl | rfl | rfl | rfl | rfl <;> exact ⟨_, _, rfl⟩
  have hcell : s.heap.IsCell cP (some (.ref P)) := ⟨_, (N _ hm).1, hd⟩
  have fresh : ∀ b, s.heap.get? b = none → ∀ o, s.heap.get? b ≠ some o := fun b e o q => by rw [e] at q; cases q
  have key : ∀ x, ([Value.int p0 u0, .int p1 u1, .int p2 u2, .int p3 u3, .int p4 u4].filter (ltI x)).length = cnt p0 p1 p2 p3 p4 x := fun x => by
    rw [fl_cons, fl_cons, fl_cons, fl_cons, fl_cons]; rfl
  refine ListComp_cell (items := #[.int p0 u0, .int p1 u1, .int p2 u2, .int p3 u3, .int p4 u4]) (ax := P) (cl := [(PySem.Str.ofString "pairs", cP)]) (fun v y => ∃ x t u, v = .int x t ∧ y = .int (cnt p0 p1 p2 p3 p4 x : Nat) u) hh hclos hOk (by rw [hO]; decide +kernel) ?_ (fun n => by rw [hO]; rfl) (fun h => by rw [hO]; rfl) ?_
  · rw [hrel]; rfl
  · refine wpAny_Name (wpAny_loadName_cell hk hpk hcp hcell ?_)
    refine ⟨rfl, hL, by rw [sizeLine_eq]; exact Nat.le_of_ble_eq_true rfl, ?_, ?_⟩
    · intro C c v s₂ m₂ E' hv hC0 hc0 hC hc hkeep
      obtain ⟨x, t, rfl⟩ := hA v (Array.mem_toList_iff.mp hv)
      refine wpAny_mono (elt_len (cP := cP) (c := c) (P := P) (mg' := mg) (mb' := mb) hh hOk ?_ ((T.g.keeps F.keep).keeps hkeep) (mg_none_of X T.g e) ((T.b.keeps F.keep).keeps hkeep) ((T.builtins _ (by decide)).trans ?_) ?_ ?_ (hcell.keeps hkeep) ?_ hA (Nat.le_of_ble_eq_true rfl) hI hIk ?_ ?_ hc) (fun y s₃ hy => ?_) fun _ _ e => e
      · show (relabel scopeO _).names.lookup _ = _
        rw [hrel]; rfl
      · boot_fast
      · show (relabel scopeO _).names.lookup _ = _
        rw [hrel]; rfl
      · rfl
      · obtain ⟨o, e, r⟩ := hL; exact ⟨o, hkeep _ _ e, r⟩
      · unfold closureFor
        rw [hI]
        simp only [List.forIn_cons, List.forIn_nil]
        rfl
      · show (relabel scopeO _).names.lookup _ = _
        rw [hrel]; rfl
      · obtain ⟨⟨u, rfl⟩, hK⟩ := hy
        exact ⟨⟨_, _, _, rfl, by rw [key]⟩, hK⟩
    · intro D h' tk ys hD hpl hF hkeep
      obtain ⟨nn, hpl⟩ := hpl
      rcases ys with ⟨l⟩
      rcases hF with _ | ⟨⟨x0, t0, v0, e0, rfl⟩, _ | ⟨⟨x1, t1, v1, e1, rfl⟩, _ | ⟨⟨x2, t2, v2, e2, rfl⟩, _ | ⟨⟨x3, t3, v3, e3, rfl⟩, _ | ⟨⟨x4, t4, v4, e4, rfl⟩, _ | _⟩⟩⟩⟩⟩
      cases e0; cases e1; cases e2; cases e3; cases e4
      refine h D h' tk v0 v1 v2 v3 v4 nn _ _ _ _ _ ⟨rfl, rfl, rfl, rfl, rfl⟩ (F.keeps hkeep) (fun q hq => ?_) fun q hq => ?_
      · rcases List.mem_cons.mp hq with rfl | hq
        · have hle : ∀ b o, h₀.get? b = some o → @LT.lt Nat _ b s.heap.objs.size := fun b o e => Heap.lt_size (F.keep _ _ e)
          refine ⟨hpl, ?_, ?_⟩
          · have := F.ns.lt
            exact Nat.ne_of_gt (Nat.lt_of_lt_of_le this hD)
          · cases e : h₀.get? D with
            | none => rfl
            | some o => exact absurd (hle _ _ e) (Nat.not_lt.mpr hD)
        · exact ⟨hkeep _ _ (N q hq).1, (N q hq).2⟩
      · exact Nat.lt_of_lt_of_le (Heap.lt_size (N q hq).1) hD
end
end
/-! Cr2 -/
section
open PySem.Spec PySem.Calls
section
variable {prog : Program} {w : World} {A : Around} {E : Value → Shared → Prop} {s : Shared} {h₀ : Heap} {L a : Addr} {m : PySem.Str → Option Value} {cn : PySem.Str} {cs : Scope} {ccd : Value} {cl : List (PySem.Str × Addr)} {news : List (Addr × Obj)}
  {K : Frag} {mg mb : PySem.Str → Option Value} {p : Program} {loose : List PySem.Str}
theorem rank_comp2 {scopeO scopeI : Scope} {pl ppr ppi px pp pc po pcmp pcall p1' p2' p3' : Pos} {cP P : Addr} {oC : Obj} {p0 p1 p2 p3 p4 : Int} {u0 u1 u2 u3 u4 : Tok} {n : Nat} {Q : Value → Shared → Prop}
    (hh : A.handled = none) (F : Fr h₀ L s.heap m) (N : News h₀ L s.heap news) (X : K.In h₀) (T : TopRead p loose mg mb h₀) (e : nsIn K mainGlobals (PySem.Str.ofString "len") = some none)
    (hk : cs.kind = .function) (hcp : cl.lookup (PySem.Str.ofString "pairs") = some cP) (hpk : (envX cn cs L a ccd cl).kindOf (PySem.Str.ofString "pairs") = some .cell)
    (hm : (cP, oC) ∈ news) (hd : oC.data = .cell (some (.ref P))) (hP : (P, PySem.W.listOf #[.int p0 u0, .int p1 u1, .int p2 u2, .int p3 u3, .int p4 u4] n) ∈ news)
    (hO : scopeO.names = [(PySem.Str.ofString ".0", .local), (PySem.Str.ofString "one", .cell), (PySem.Str.ofString "len", .globalImplicit), (PySem.Str.ofString "pairs", .free)]) (hOk : scopeO.kind = .function)
    (hI : scopeI.names = [(PySem.Str.ofString ".0", .local), (PySem.Str.ofString "pair", .local), (PySem.Str.ofString "one", .free)]) (hIk : scopeI.kind = .function)
    (h : ∀ D h' tk v0 v1 v2 v3 v4 nn c0 c1 c2 c3 c4, RankStep p0 p1 p2 p3 p4 c0 c1 c2 c3 c4 → Fr h₀ L h' m → News h₀ L h' ((D, PySem.W.listOf #[.int c0 v0, .int c1 v1, .int c2 v2, .int c3 v3, .int c4 v4] nn) :: news) → (∀ q ∈ news, q.1 < D) → Q (.ref D) { s with heap := h', toks := tk }) :
    wpAny (model prog w) A (eval (.ListComp (.Call (.Name (PySem.Str.ofString "len") pl) [.ListComp (.Name (PySem.Str.ofString "pair") ppr) [⟨.Name (PySem.Str.ofString "pair") ppi, .Name (PySem.Str.ofString "pairs") px, [.Compare (.Name (PySem.Str.ofString "pair") pp) [.Lt] [.Name (PySem.Str.ofString "one") po] pcmp], 0⟩] scopeI pc] [] pcall) [⟨.Name (PySem.Str.ofString "one") p1', .Name (PySem.Str.ofString "pairs") p2', [], 0⟩] scopeO p3') (envX cn cs L a ccd cl)) Q E s :=  rank_comp (loose := loose) (p := p) hh F N X T e hm hd hP hk hcp hpk hO hOk hI hIk h
end
end
/-! Fp -/
section
theorem ind_mono {a b x : Int} (h : a ≤ b) : (if x < a then 1 else 0 : Nat) ≤ (if x < b then 1 else 0) := by
  split <;> split <;> omega
theorem cnt_mono (p0 p1 p2 p3 p4 : Int) {a b : Int} (h : a ≤ b) : cnt p0 p1 p2 p3 p4 a ≤ cnt p0 p1 p2 p3 p4 b := by
  unfold cnt
  have h0 := ind_mono (x := p0) h
  have h1 := ind_mono (x := p1) h
  have h2 := ind_mono (x := p2) h
  have h3 := ind_mono (x := p3) h
  have h4 := ind_mono (x := p4) h
  omega
theorem ind_self {a b : Int} (h : a < b) : (if a < a then 1 else 0 : Nat) + 1 ≤ (if a < b then 1 else 0) := by
  rw [if_neg (Int.lt_irrefl _), if_pos h]; omega
theorem cnt_lt (p0 p1 p2 p3 p4 : Int) {a b : Int} (h : a < b) (ha : a = p0 ∨ a = p1 ∨ a = p2 ∨ a = p3 ∨ a = p4) : cnt p0 p1 p2 p3 p4 a < cnt p0 p1 p2 p3 p4 b := by
  unfold cnt
  have hh : a ≤ b := by omega
  have h0 := ind_mono (x := p0) hh
  have h1 := ind_mono (x := p1) hh
  have h2 := ind_mono (x := p2) hh
  have h3 := ind_mono (x := p3) hh
  have h4 := ind_mono (x := p4) hh
  have hs := ind_self h
  rcases ha with rfl | rfl | rfl | rfl | rfl <;> omega
theorem cnt_iff (p0 p1 p2 p3 p4 : Int) {a b : Int} (ha : a = p0 ∨ a = p1 ∨ a = p2 ∨ a = p3 ∨ a = p4) : (cnt p0 p1 p2 p3 p4 a : Int) < cnt p0 p1 p2 p3 p4 b ↔ a < b := by
  constructor
  · intro h
    by_cases q : a < b
    · exact q
    · have := cnt_mono p0 p1 p2 p3 p4 (a := b) (b := a) (by omega)
      omega
  · intro h
    have := cnt_lt p0 p1 p2 p3 p4 h ha
    omega
theorem cnt_le (p0 p1 p2 p3 p4 a : Int) (ha : a = p0 ∨ a = p1 ∨ a = p2 ∨ a = p3 ∨ a = p4) : cnt p0 p1 p2 p3 p4 a ≤ 4 := by
  have hh : ∀ x, (if x < a then 1 else 0 : Nat) ≤ 1 := fun x => by split <;> omega
  have h0 := hh p0
  have h1 := hh p1
  have h2 := hh p2
  have h3 := hh p3
  have h4 := hh p4
  have hs : (if a < a then 1 else 0 : Nat) = 0 := if_neg (Int.lt_irrefl _)
  unfold cnt
  rcases ha with rfl | rfl | rfl | rfl | rfl <;> omega
/-- the order of the places is the order of the numbers -/
structure Same (x0 x1 x2 x3 x4 y0 y1 y2 y3 y4 : Int) : Prop where
  h01 : x0 < x1 ↔ y0 < y1
  h10 : x1 < x0 ↔ y1 < y0
  h02 : x0 < x2 ↔ y0 < y2
  h20 : x2 < x0 ↔ y2 < y0
  h03 : x0 < x3 ↔ y0 < y3
  h30 : x3 < x0 ↔ y3 < y0
  h04 : x0 < x4 ↔ y0 < y4
  h40 : x4 < x0 ↔ y4 < y0
  h12 : x1 < x2 ↔ y1 < y2
  h21 : x2 < x1 ↔ y2 < y1
  h13 : x1 < x3 ↔ y1 < y3
  h31 : x3 < x1 ↔ y3 < y1
  h14 : x1 < x4 ↔ y1 < y4
  h41 : x4 < x1 ↔ y4 < y1
  h23 : x2 < x3 ↔ y2 < y3
  h32 : x3 < x2 ↔ y3 < y2
  h24 : x2 < x4 ↔ y2 < y4
  h42 : x4 < x2 ↔ y4 < y2
  h34 : x3 < x4 ↔ y3 < y4
  h43 : x4 < x3 ↔ y4 < y3
theorem RankStep.same {p0 p1 p2 p3 p4 c0 c1 c2 c3 c4 : Int} (h : RankStep p0 p1 p2 p3 p4 c0 c1 c2 c3 c4) : Same c0 c1 c2 c3 c4 p0 p1 p2 p3 p4 := by
  obtain ⟨rfl, rfl, rfl, rfl, rfl⟩ := h
  constructor <;> exact cnt_iff _ _ _ _ _ (by simp)
theorem RankStep.bounds {p0 p1 p2 p3 p4 c0 c1 c2 c3 c4 : Int} (h : RankStep p0 p1 p2 p3 p4 c0 c1 c2 c3 c4) : (0 ≤ c0 ∧ c0 ≤ 4) ∧ (0 ≤ c1 ∧ c1 ≤ 4) ∧ (0 ≤ c2 ∧ c2 ≤ 4) ∧ (0 ≤ c3 ∧ c3 ≤ 4) ∧ (0 ≤ c4 ∧ c4 ≤ 4) := by
  obtain ⟨rfl, rfl, rfl, rfl, rfl⟩ := h
  have h0 := cnt_le p0 p1 p2 p3 p4 p0 (by simp)
  have h1 := cnt_le p0 p1 p2 p3 p4 p1 (by simp)
  have h2 := cnt_le p0 p1 p2 p3 p4 p2 (by simp)
  have h3 := cnt_le p0 p1 p2 p3 p4 p3 (by simp)
  have h4 := cnt_le p0 p1 p2 p3 p4 p4 (by simp)
  omega
theorem pair_lt {x y x' y' a b a' b' : Int} (h : a < a' ↔ x < x') (h' : a' < a ↔ x' < x) (k : b < b' ↔ y < y') (hb : 0 ≤ b ∧ b ≤ 63) (hb' : 0 ≤ b' ∧ b' ≤ 63) (w : Int) (hy : 0 ≤ y ∧ y < w) (hy' : 0 ≤ y' ∧ y' < w) :
    64 * a + b < 64 * a' + b' ↔ x * w + y < x' * w + y' := by
  by_cases e : x = x'
  · subst e
    have : a = a' := by omega
    subst this
    omega
  · rcases Int.lt_or_gt_of_ne e with q | q
    · have q1 : a < a' := h.mpr q
      have q2 : x * w + w ≤ x' * w := by
        have : (x + 1) * w ≤ x' * w := Int.mul_le_mul_of_nonneg_right (by omega) (by omega)
        rw [Int.add_mul, Int.one_mul] at this
        exact this
      constructor <;> intro _ <;> omega
    · have q1 : a' < a := h'.mpr q
      have q2 : x' * w + w ≤ x * w := by
        have : (x' + 1) * w ≤ x * w := Int.mul_le_mul_of_nonneg_right (by omega) (by omega)
        rw [Int.add_mul, Int.one_mul] at this
        exact this
      constructor <;> intro _ <;> omega
def at5 (x0 x1 x2 x3 x4 i : Int) : Int := if i = 0 then x0 else if i = 1 then x1 else if i = 2 then x2 else if i = 3 then x3 else x4
def key0 (r0 r1 r2 r3 r4 : Int) : Int := (r0+1)*6561 + (r1+1)*729 + (r2+1)*81 + (r3+1)*9 + (r4+1)*1
def key1 (r1 r2 r3 r4 : Int) : Int := (r1+1)*6561 + (r2+1)*729 + (r3+1)*81 + (r4+1)*9
def key2 (r2 r3 r4 : Int) : Int := (r2+1)*6561 + (r3+1)*729 + (r4+1)*81
def key3 (r3 r4 : Int) : Int := (r3+1)*6561 + (r4+1)*729
def key4 (r4 : Int) : Int := (r4+1)*6561
def Key (r0 r1 r2 r3 r4 i : Int) : Int := at5 (key0 r0 r1 r2 r3 r4) (key1 r1 r2 r3 r4) (key2 r2 r3 r4) (key3 r3 r4) (key4 r4) i
def In8 (r0 r1 r2 r3 r4 : Int) : Prop := (0 ≤ r0 ∧ r0 < 8) ∧ (0 ≤ r1 ∧ r1 < 8) ∧ (0 ≤ r2 ∧ r2 < 8) ∧ (0 ≤ r3 ∧ r3 < 8) ∧ (0 ≤ r4 ∧ r4 < 8)
/-- o is the falling order of the ends of r -/
structure IsFall (r0 r1 r2 r3 r4 o0 o1 o2 o3 o4 : Int) : Prop where
  b0 : 0 ≤ o0 ∧ o0 < 5
  b1 : 0 ≤ o1 ∧ o1 < 5
  b2 : 0 ≤ o2 ∧ o2 < 5
  b3 : 0 ≤ o3 ∧ o3 < 5
  b4 : 0 ≤ o4 ∧ o4 < 5
  k01 : Key r0 r1 r2 r3 r4 o1 < Key r0 r1 r2 r3 r4 o0
  k12 : Key r0 r1 r2 r3 r4 o2 < Key r0 r1 r2 r3 r4 o1
  k23 : Key r0 r1 r2 r3 r4 o3 < Key r0 r1 r2 r3 r4 o2
  k34 : Key r0 r1 r2 r3 r4 o4 < Key r0 r1 r2 r3 r4 o3
theorem sh1 {a b x y : Int} (h : a < b ↔ x < y) : a + 1 < b + 1 ↔ x < y := Iff.trans (Int.add_lt_add_iff_right 1) h
theorem pz1 {a x : Int} (h : 0 ≤ a) (g : 0 ≤ x) : a + 1 < 0 ↔ x < 0 := ⟨fun q => absurd q (by omega), fun q => absurd q (by omega)⟩
theorem zp1 {a x : Int} (h : 0 ≤ a) (g : 0 < x) : 0 < a + 1 ↔ 0 < x := ⟨fun _ => g, fun _ => by omega⟩
theorem bd1 {a : Int} (h : 0 ≤ a ∧ a ≤ 4) : 0 ≤ a + 1 ∧ a + 1 ≤ 63 := by omega
theorem z63 : (0 : Int) ≤ 0 ∧ (0 : Int) ≤ 63 := by decide
theorem m729 {a b : Int} : 729 * a < 729 * b ↔ a < b := by omega
theorem stepG {w x0 x1 x2 x3 x4 y0 y1 y2 y3 y4 a0 a1 a2 a3 a4 b0 b1 b2 b3 b4 c0 c1 c2 c3 c4 : Int} (sa : Same a0 a1 a2 a3 a4 x0 x1 x2 x3 x4) (sb : Same b0 b1 b2 b3 b4 y0 y1 y2 y3 y4)
    (d0 : 0 ≤ b0 ∧ b0 ≤ 63) (d1 : 0 ≤ b1 ∧ b1 ≤ 63) (d2 : 0 ≤ b2 ∧ b2 ≤ 63) (d3 : 0 ≤ b3 ∧ b3 ≤ 63) (d4 : 0 ≤ b4 ∧ b4 ≤ 63) (e0 : 0 ≤ y0 ∧ y0 < w) (e1 : 0 ≤ y1 ∧ y1 < w) (e2 : 0 ≤ y2 ∧ y2 < w) (e3 : 0 ≤ y3 ∧ y3 < w) (e4 : 0 ≤ y4 ∧ y4 < w)
    (hc : RankStep (64*a0 + b0) (64*a1 + b1) (64*a2 + b2) (64*a3 + b3) (64*a4 + b4) c0 c1 c2 c3 c4) : Same c0 c1 c2 c3 c4 (x0*w + y0) (x1*w + y1) (x2*w + y2) (x3*w + y3) (x4*w + y4) :=
  have s := hc.same
  ⟨s.h01.trans (pair_lt sa.h01 sa.h10 sb.h01 d0 d1 w e0 e1),
    s.h10.trans (pair_lt sa.h10 sa.h01 sb.h10 d1 d0 w e1 e0),
    s.h02.trans (pair_lt sa.h02 sa.h20 sb.h02 d0 d2 w e0 e2),
    s.h20.trans (pair_lt sa.h20 sa.h02 sb.h20 d2 d0 w e2 e0),
    s.h03.trans (pair_lt sa.h03 sa.h30 sb.h03 d0 d3 w e0 e3),
    s.h30.trans (pair_lt sa.h30 sa.h03 sb.h30 d3 d0 w e3 e0),
    s.h04.trans (pair_lt sa.h04 sa.h40 sb.h04 d0 d4 w e0 e4),
    s.h40.trans (pair_lt sa.h40 sa.h04 sb.h40 d4 d0 w e4 e0),
    s.h12.trans (pair_lt sa.h12 sa.h21 sb.h12 d1 d2 w e1 e2),
    s.h21.trans (pair_lt sa.h21 sa.h12 sb.h21 d2 d1 w e2 e1),
    s.h13.trans (pair_lt sa.h13 sa.h31 sb.h13 d1 d3 w e1 e3),
    s.h31.trans (pair_lt sa.h31 sa.h13 sb.h31 d3 d1 w e3 e1),
    s.h14.trans (pair_lt sa.h14 sa.h41 sb.h14 d1 d4 w e1 e4),
    s.h41.trans (pair_lt sa.h41 sa.h14 sb.h41 d4 d1 w e4 e1),
    s.h23.trans (pair_lt sa.h23 sa.h32 sb.h23 d2 d3 w e2 e3),
    s.h32.trans (pair_lt sa.h32 sa.h23 sb.h32 d3 d2 w e3 e2),
    s.h24.trans (pair_lt sa.h24 sa.h42 sb.h24 d2 d4 w e2 e4),
    s.h42.trans (pair_lt sa.h42 sa.h24 sb.h42 d4 d2 w e4 e2),
    s.h34.trans (pair_lt sa.h34 sa.h43 sb.h34 d3 d4 w e3 e4),
    s.h43.trans (pair_lt sa.h43 sa.h34 sb.h43 d4 d3 w e4 e3)⟩
theorem stepA {r0 r1 r2 r3 r4 a0 a1 a2 a3 a4 : Int} (h : In8 r0 r1 r2 r3 r4) (ha : RankStep (64*r0 + (r1+1)) (64*r1 + (r2+1)) (64*r2 + (r3+1)) (64*r3 + (r4+1)) (64*r4 + 0) a0 a1 a2 a3 a4) : Same a0 a1 a2 a3 a4 ((r0+1)*9 + (r1+1)) ((r1+1)*9 + (r2+1)) ((r2+1)*9 + (r3+1)) ((r3+1)*9 + (r4+1)) ((r4+1)*9 + 0) := by
  have r1' : ∀ {a b : Int}, a < b ↔ a + 1 < b + 1 := (Int.add_lt_add_iff_right 1).symm
  have f : ∀ {r : Int}, (0 ≤ r ∧ r < 8) → (0 ≤ r + 1 ∧ r + 1 ≤ 63) ∧ (0 ≤ r + 1 ∧ r + 1 < 9) := fun h => by omega
  obtain ⟨h0, h1, h2, h3, h4⟩ := h
  exact stepG ⟨r1', r1', r1', r1', r1', r1', r1', r1', r1', r1', r1', r1', r1', r1', r1', r1', r1', r1', r1', r1'⟩ ⟨Iff.rfl, Iff.rfl, Iff.rfl, Iff.rfl, Iff.rfl, Iff.rfl, Iff.rfl, Iff.rfl, Iff.rfl, Iff.rfl, Iff.rfl, Iff.rfl, Iff.rfl, Iff.rfl, Iff.rfl, Iff.rfl, Iff.rfl, Iff.rfl, Iff.rfl, Iff.rfl⟩ (f h1).1 (f h2).1 (f h3).1 (f h4).1 z63 (f h1).2 (f h2).2 (f h3).2 (f h4).2 (by decide) ha
theorem stepB {x0 x1 x2 x3 x4 a0 a1 a2 a3 a4 b0 b1 b2 b3 b4 : Int} (h0 : 9 ≤ x0 ∧ x0 < 81) (h1 : 9 ≤ x1 ∧ x1 < 81) (h2 : 9 ≤ x2 ∧ x2 < 81) (h3 : 9 ≤ x3 ∧ x3 < 81) (h4 : 9 ≤ x4 ∧ x4 < 81) (sa : Same a0 a1 a2 a3 a4 x0 x1 x2 x3 x4)
    (ba : (0 ≤ a0 ∧ a0 ≤ 4) ∧ (0 ≤ a1 ∧ a1 ≤ 4) ∧ (0 ≤ a2 ∧ a2 ≤ 4) ∧ (0 ≤ a3 ∧ a3 ≤ 4) ∧ (0 ≤ a4 ∧ a4 ≤ 4))
    (hb : RankStep (64*a0 + (a2+1)) (64*a1 + (a3+1)) (64*a2 + (a4+1)) (64*a3 + 0) (64*a4 + 0) b0 b1 b2 b3 b4) : Same b0 b1 b2 b3 b4 (x0*81 + x2) (x1*81 + x3) (x2*81 + x4) (x3*81 + 0) (x4*81 + 0) := by
  have f : ∀ {x : Int}, (9 ≤ x ∧ x < 81) → (0 ≤ x ∧ x < 81) := fun h => by omega
  have g : ∀ {x : Int}, (9 ≤ x ∧ x < 81) → 0 < x := fun h => by omega
  obtain ⟨c0, c1, c2, c3, c4⟩ := ba
  exact stepG sa (b0 := a2 + 1) (b1 := a3 + 1) (b2 := a4 + 1) (b3 := 0) (b4 := 0) ⟨sh1 sa.h23, sh1 sa.h32, sh1 sa.h24, sh1 sa.h42, pz1 c2.1 (f h2).1, zp1 c2.1 (g h2), pz1 c2.1 (f h2).1, zp1 c2.1 (g h2), sh1 sa.h34, sh1 sa.h43, pz1 c3.1 (f h3).1, zp1 c3.1 (g h3), pz1 c3.1 (f h3).1, zp1 c3.1 (g h3), pz1 c4.1 (f h4).1, zp1 c4.1 (g h4), pz1 c4.1 (f h4).1, zp1 c4.1 (g h4), Iff.rfl, Iff.rfl⟩ (bd1 c2) (bd1 c3) (bd1 c4) z63 z63 (f h2) (f h3) (f h4) (by decide) (by decide) hb
theorem stepC {x0 x1 x2 x3 x4 a0 a1 a2 a3 a4 b0 b1 b2 b3 b4 : Int} (h0 : 9 ≤ x0 ∧ x0 < 6561) (h1 : 9 ≤ x1 ∧ x1 < 6561) (h2 : 9 ≤ x2 ∧ x2 < 6561) (h3 : 9 ≤ x3 ∧ x3 < 6561) (h4 : 9 ≤ x4 ∧ x4 < 6561) (sa : Same a0 a1 a2 a3 a4 x0 x1 x2 x3 x4)
    (ba : (0 ≤ a0 ∧ a0 ≤ 4) ∧ (0 ≤ a1 ∧ a1 ≤ 4) ∧ (0 ≤ a2 ∧ a2 ≤ 4) ∧ (0 ≤ a3 ∧ a3 ≤ 4) ∧ (0 ≤ a4 ∧ a4 ≤ 4))
    (hb : RankStep (64*a0 + (a4+1)) (64*a1 + 0) (64*a2 + 0) (64*a3 + 0) (64*a4 + 0) b0 b1 b2 b3 b4) : Same b0 b1 b2 b3 b4 (x0*6561 + x4) (x1*6561 + 0) (x2*6561 + 0) (x3*6561 + 0) (x4*6561 + 0) := by
  have f : 0 ≤ x4 ∧ x4 < 6561 := by omega
  have g : 0 < x4 := by omega
  obtain ⟨c0, c1, c2, c3, c4⟩ := ba
  exact stepG sa (b0 := a4 + 1) (b1 := 0) (b2 := 0) (b3 := 0) (b4 := 0) ⟨pz1 c4.1 f.1, zp1 c4.1 g, pz1 c4.1 f.1, zp1 c4.1 g, pz1 c4.1 f.1, zp1 c4.1 g, pz1 c4.1 f.1, zp1 c4.1 g, Iff.rfl, Iff.rfl, Iff.rfl, Iff.rfl, Iff.rfl, Iff.rfl, Iff.rfl, Iff.rfl, Iff.rfl, Iff.rfl, Iff.rfl, Iff.rfl⟩ (bd1 c4) z63 z63 z63 z63 f (by decide) (by decide) (by decide) (by decide) hb
theorem fall_same {r0 r1 r2 r3 r4 a0 a1 a2 a3 a4 b0 b1 b2 b3 b4 c0 c1 c2 c3 c4 : Int} (h : In8 r0 r1 r2 r3 r4) (ha : RankStep (64*r0 + (r1+1)) (64*r1 + (r2+1)) (64*r2 + (r3+1)) (64*r3 + (r4+1)) (64*r4 + 0) a0 a1 a2 a3 a4)
    (hb : RankStep (64*a0 + (a2+1)) (64*a1 + (a3+1)) (64*a2 + (a4+1)) (64*a3 + 0) (64*a4 + 0) b0 b1 b2 b3 b4)
    (hc : RankStep (64*b0 + (b4+1)) (64*b1 + 0) (64*b2 + 0) (64*b3 + 0) (64*b4 + 0) c0 c1 c2 c3 c4) : Same c0 c1 c2 c3 c4 (key0 r0 r1 r2 r3 r4) (key1 r1 r2 r3 r4) (key2 r2 r3 r4) (key3 r3 r4) (key4 r4) := by
  have sA := stepA h ha
  obtain ⟨h0, h1, h2, h3, h4⟩ := h
  have n2 : ∀ {r q : Int}, (0 ≤ r ∧ r < 8) → (0 ≤ q ∧ q < 8) → 9 ≤ (r+1)*9 + (q+1) ∧ (r+1)*9 + (q+1) < 81 := fun h g => by omega
  have n1 : ∀ {r : Int}, (0 ≤ r ∧ r < 8) → 9 ≤ (r+1)*9 + 0 ∧ (r+1)*9 + 0 < 81 := fun h => by omega
  have m2 : ∀ {r q : Int}, (9 ≤ r ∧ r < 81) → (9 ≤ q ∧ q < 81) → 9 ≤ r*81 + q ∧ r*81 + q < 6561 := fun h g => by omega
  have m1 : ∀ {r : Int}, (9 ≤ r ∧ r < 81) → 9 ≤ r*81 + 0 ∧ r*81 + 0 < 6561 := fun h => by omega
  have x0 := n2 h0 h1
  have x1 := n2 h1 h2
  have x2 := n2 h2 h3
  have x3 := n2 h3 h4
  have x4 := n1 h4
  have sB := stepB x0 x1 x2 x3 x4 sA ha.bounds hb
  have sC := stepC (m2 x0 x2) (m2 x1 x3) (m2 x2 x4) (m1 x3) (m1 x4) sB hb.bounds hc
  rw [show (((r0+1)*9 + (r1+1))*81 + ((r2+1)*9 + (r3+1)))*6561 + (((r4+1)*9 + 0)*81 + 0) = 729 * key0 r0 r1 r2 r3 r4 by unfold key0; omega,
    show (((r1+1)*9 + (r2+1))*81 + ((r3+1)*9 + (r4+1)))*6561 + 0 = 729 * key1 r1 r2 r3 r4 by unfold key1; omega,
    show (((r2+1)*9 + (r3+1))*81 + ((r4+1)*9 + 0))*6561 + 0 = 729 * key2 r2 r3 r4 by unfold key2; omega,
    show (((r3+1)*9 + (r4+1))*81 + 0)*6561 + 0 = 729 * key3 r3 r4 by unfold key3; omega,
    show (((r4+1)*9 + 0)*81 + 0)*6561 + 0 = 729 * key4 r4 by unfold key4; omega] at sC
  exact ⟨sC.h01.trans m729, sC.h10.trans m729, sC.h02.trans m729, sC.h20.trans m729, sC.h03.trans m729, sC.h30.trans m729, sC.h04.trans m729, sC.h40.trans m729, sC.h12.trans m729, sC.h21.trans m729, sC.h13.trans m729, sC.h31.trans m729, sC.h14.trans m729, sC.h41.trans m729, sC.h23.trans m729, sC.h32.trans m729, sC.h24.trans m729, sC.h42.trans m729, sC.h34.trans m729, sC.h43.trans m729⟩
theorem key_ne {r0 r1 r2 r3 r4 : Int} (h : In8 r0 r1 r2 r3 r4) : key0 r0 r1 r2 r3 r4 ≠ key1 r1 r2 r3 r4 ∧ key0 r0 r1 r2 r3 r4 ≠ key2 r2 r3 r4 ∧ key0 r0 r1 r2 r3 r4 ≠ key3 r3 r4 ∧ key0 r0 r1 r2 r3 r4 ≠ key4 r4 ∧
    key1 r1 r2 r3 r4 ≠ key2 r2 r3 r4 ∧ key1 r1 r2 r3 r4 ≠ key3 r3 r4 ∧ key1 r1 r2 r3 r4 ≠ key4 r4 ∧ key2 r2 r3 r4 ≠ key3 r3 r4 ∧ key2 r2 r3 r4 ≠ key4 r4 ∧ key3 r3 r4 ≠ key4 r4 := by
  obtain ⟨h0, h1, h2, h3, h4⟩ := h
  unfold key0 key1 key2 key3 key4
  refine ⟨?_, ?_, ?_, ?_, ?_, ?_, ?_, ?_, ?_, ?_⟩ <;> omega
theorem five_fin : ∀ c0 c1 c2 c3 c4 : Fin 5, c0 ≠ c1 → c0 ≠ c2 → c0 ≠ c3 → c0 ≠ c4 → c1 ≠ c2 → c1 ≠ c3 → c1 ≠ c4 → c2 ≠ c3 → c2 ≠ c4 → c3 ≠ c4 → ∀ k : Fin 5, k = c0 ∨ k = c1 ∨ k = c2 ∨ k = c3 ∨ k = c4 := by decide +kernel
theorem Same.mem {c0 c1 c2 c3 c4 y0 y1 y2 y3 y4 : Int} (s : Same c0 c1 c2 c3 c4 y0 y1 y2 y3 y4) (b : (0 ≤ c0 ∧ c0 ≤ 4) ∧ (0 ≤ c1 ∧ c1 ≤ 4) ∧ (0 ≤ c2 ∧ c2 ≤ 4) ∧ (0 ≤ c3 ∧ c3 ≤ 4) ∧ (0 ≤ c4 ∧ c4 ≤ 4))
    (d : y0 ≠ y1 ∧ y0 ≠ y2 ∧ y0 ≠ y3 ∧ y0 ≠ y4 ∧ y1 ≠ y2 ∧ y1 ≠ y3 ∧ y1 ≠ y4 ∧ y2 ≠ y3 ∧ y2 ≠ y4 ∧ y3 ≠ y4) {k : Int} (hk : 0 ≤ k ∧ k ≤ 4) : k ∈ [c0, c1, c2, c3, c4] := by
  obtain ⟨b0, b1, b2, b3, b4⟩ := b
  obtain ⟨d01, d02, d03, d04, d12, d13, d14, d23, d24, d34⟩ := d
  have ne : ∀ {x y u v : Int}, (x < y ↔ u < v) → (y < x ↔ v < u) → u ≠ v → x ≠ y := fun h1 h2 d e => by omega
  have n01 := ne s.h01 s.h10 d01
  have n02 := ne s.h02 s.h20 d02
  have n03 := ne s.h03 s.h30 d03
  have n04 := ne s.h04 s.h40 d04
  have n12 := ne s.h12 s.h21 d12
  have n13 := ne s.h13 s.h31 d13
  have n14 := ne s.h14 s.h41 d14
  have n23 := ne s.h23 s.h32 d23
  have n24 := ne s.h24 s.h42 d24
  have n34 := ne s.h34 s.h43 d34
  clear s d01 d02 d03 d04 d12 d13 d14 d23 d24 d34 ne
  have t : ∀ x y : Int, (hx : 0 ≤ x ∧ x ≤ 4) → (hy : 0 ≤ y ∧ y ≤ 4) → x ≠ y → (⟨x.toNat, by omega⟩ : Fin 5) ≠ ⟨y.toNat, by omega⟩ := fun x y hx hy h e => by
    have := Fin.mk.inj e
    omega
  have f := five_fin ⟨c0.toNat, by omega⟩ ⟨c1.toNat, by omega⟩ ⟨c2.toNat, by omega⟩ ⟨c3.toNat, by omega⟩ ⟨c4.toNat, by omega⟩ (t _ _ b0 b1 n01) (t _ _ b0 b2 n02) (t _ _ b0 b3 n03) (t _ _ b0 b4 n04) (t _ _ b1 b2 n12) (t _ _ b1 b3 n13) (t _ _ b1 b4 n14) (t _ _ b2 b3 n23) (t _ _ b2 b4 n24) (t _ _ b3 b4 n34) ⟨k.toNat, by omega⟩
  simp only [Fin.mk.injEq] at f
  simp only [List.mem_cons, List.not_mem_nil, or_false]
  clear t n01 n02 n03 n04 n12 n13 n14 n23 n24 n34
  rcases f with f | f | f | f | f
  · left; omega
  · right; left; omega
  · right; right; left; omega
  · right; right; right; left; omega
  · right; right; right; right; omega
theorem fall_mem {r0 r1 r2 r3 r4 a0 a1 a2 a3 a4 b0 b1 b2 b3 b4 c0 c1 c2 c3 c4 : Int} (h : In8 r0 r1 r2 r3 r4) (ha : RankStep (64*r0 + (r1+1)) (64*r1 + (r2+1)) (64*r2 + (r3+1)) (64*r3 + (r4+1)) (64*r4 + 0) a0 a1 a2 a3 a4)
    (hb : RankStep (64*a0 + (a2+1)) (64*a1 + (a3+1)) (64*a2 + (a4+1)) (64*a3 + 0) (64*a4 + 0) b0 b1 b2 b3 b4)
    (hc : RankStep (64*b0 + (b4+1)) (64*b1 + 0) (64*b2 + 0) (64*b3 + 0) (64*b4 + 0) c0 c1 c2 c3 c4) {k : Int} (hk : 0 ≤ k ∧ k ≤ 4) : k ∈ [c0, c1, c2, c3, c4] :=
  (fall_same h ha hb hc).mem hc.bounds (key_ne h) hk
theorem Same.at {c0 c1 c2 c3 c4 y0 y1 y2 y3 y4 i j : Int} (s : Same c0 c1 c2 c3 c4 y0 y1 y2 y3 y4) (hi : 0 ≤ i ∧ i < 5) (hj : 0 ≤ j ∧ j < 5) : at5 c0 c1 c2 c3 c4 i < at5 c0 c1 c2 c3 c4 j ↔ at5 y0 y1 y2 y3 y4 i < at5 y0 y1 y2 y3 y4 j := by
  have ei : i = 0 ∨ i = 1 ∨ i = 2 ∨ i = 3 ∨ i = 4 := by omega
  have ej : j = 0 ∨ j = 1 ∨ j = 2 ∨ j = 3 ∨ j = 4 := by omega
  obtain ⟨h01, h10, h02, h20, h03, h30, h04, h40, h12, h21, h13, h31, h14, h41, h23, h32, h24, h42, h34, h43⟩ := s
  rcases ei with rfl | rfl | rfl | rfl | rfl <;> rcases ej with rfl | rfl | rfl | rfl | rfl <;> first | assumption | (constructor <;> intro h <;> exact absurd h (Int.lt_irrefl _))
theorem fall_done {r0 r1 r2 r3 r4 a0 a1 a2 a3 a4 b0 b1 b2 b3 b4 c0 c1 c2 c3 c4 o0 o1 o2 o3 o4 : Int} (h : In8 r0 r1 r2 r3 r4) (ha : RankStep (64*r0 + (r1+1)) (64*r1 + (r2+1)) (64*r2 + (r3+1)) (64*r3 + (r4+1)) (64*r4 + 0) a0 a1 a2 a3 a4)
    (hb : RankStep (64*a0 + (a2+1)) (64*a1 + (a3+1)) (64*a2 + (a4+1)) (64*a3 + 0) (64*a4 + 0) b0 b1 b2 b3 b4)
    (hc : RankStep (64*b0 + (b4+1)) (64*b1 + 0) (64*b2 + 0) (64*b3 + 0) (64*b4 + 0) c0 c1 c2 c3 c4)
    (g0 : (0 ≤ o0 ∧ o0 < 5) ∧ at5 c0 c1 c2 c3 c4 o0 = 4) (g1 : (0 ≤ o1 ∧ o1 < 5) ∧ at5 c0 c1 c2 c3 c4 o1 = 3) (g2 : (0 ≤ o2 ∧ o2 < 5) ∧ at5 c0 c1 c2 c3 c4 o2 = 2) (g3 : (0 ≤ o3 ∧ o3 < 5) ∧ at5 c0 c1 c2 c3 c4 o3 = 1) (g4 : (0 ≤ o4 ∧ o4 < 5) ∧ at5 c0 c1 c2 c3 c4 o4 = 0) :
    IsFall r0 r1 r2 r3 r4 o0 o1 o2 o3 o4 := by
  have s := fall_same h ha hb hc
  refine ⟨g0.1, g1.1, g2.1, g3.1, g4.1, ?_, ?_, ?_, ?_⟩
  · exact (s.at g1.1 g0.1).mp (by rw [g1.2, g0.2]; decide)
  · exact (s.at g2.1 g1.1).mp (by rw [g2.2, g1.2]; decide)
  · exact (s.at g3.1 g2.1).mp (by rw [g3.2, g2.2]; decide)
  · exact (s.at g4.1 g3.1).mp (by rw [g4.2, g3.2]; decide)
end
/-! Lp -/
section
open PySem.Spec PySem.Calls
/-- x, but v at the place i = j -/
def up (i j v x : Int) : Int := if i = j then v else x
def at6 (x0 x1 x2 x3 x4 x5 i : Int) : Int := if i = 0 then x0 else if i = 1 then x1 else if i = 2 then x2 else if i = 3 then x3 else if i = 4 then x4 else x5
section
variable {prog : Program} {w : World} {A : Around} {E : Value → Shared → Prop} {s : Shared} {h₀ : Heap} {L D : Addr} {m : PySem.Str → Option Value} {news news' : List (Addr × Obj)}
theorem seq_sub {value slice : PySem.Expr} {its : Array Value} {n : Nat} {k : Int} {u : Tok} {x : Value} {Q : Value → Shared → Prop} (N : News h₀ L s.heap news) (hm : (D, PySem.W.listOf its n) ∈ news) (h0 : 0 ≤ k) (hfit : k < 2 ^ 63) (hx : its[k.toNat]? = some x) (h : Q x s)
    (hs : subscripted slice false (.ref D) (.int k u) = operate [.ref D, .int k u] (getItem (.ref D) (.int k u)) := by with_unfolding_all rfl) (ht : ∀ r, letTemporaryGo value (.ref D) r = pure () := by intro _; with_unfolding_all rfl) :
    wpAny (model prog w) A (subscriptTail value slice (.ref D) (.int k u)) Q E s :=
  subscriptTail_builtin (PySem.IsL.isList (n := n) (N _ hm).1).typeIs slot_list_getitem.lookup (wpAny_getItem_list (PySem.IsL.isList (n := n) (N _ hm).1) h0 hfit hx h) hs ht
theorem five {k : Int} (h : 0 ≤ k ∧ k < 5) : k = 0 ∨ k = 1 ∨ k = 2 ∨ k = 3 ∨ k = 4 := by omega
theorem six {k : Int} (h : 0 ≤ k ∧ k < 6) : k = 0 ∨ k = 1 ∨ k = 2 ∨ k = 3 ∨ k = 4 ∨ k = 5 := by omega
theorem sub5s {value slice : PySem.Expr} {x0 x1 x2 x3 x4 : Int} {u0 u1 u2 u3 u4 : Tok} {n : Nat} {k : Int} {u : Tok} {Q : Value → Shared → Prop} (N : News h₀ L s.heap news) (hm : (D, PySem.W.listOf #[.int x0 u0, .int x1 u1, .int x2 u2, .int x3 u3, .int x4 u4] n) ∈ news) (hk : 0 ≤ k ∧ k < 5)
    (h : ∀ t, Q (.int (at5 x0 x1 x2 x3 x4 k) t) s)
    (hs : subscripted slice false (.ref D) (.int k u) = operate [.ref D, .int k u] (getItem (.ref D) (.int k u)) := by with_unfolding_all rfl) (ht : ∀ r, letTemporaryGo value (.ref D) r = pure () := by intro _; with_unfolding_all rfl) :
    wpAny (model prog w) A (subscriptTail value slice (.ref D) (.int k u)) Q E s := by
  rcases five hk with rfl | rfl | rfl | rfl | rfl <;> exact seq_sub N hm (by decide) (by decide) rfl (h _) hs ht
theorem sub6s {value slice : PySem.Expr} {x0 x1 x2 x3 x4 x5 : Int} {u0 u1 u2 u3 u4 u5 : Tok} {n : Nat} {k : Int} {u : Tok} {Q : Value → Shared → Prop} (N : News h₀ L s.heap news) (hm : (D, PySem.W.listOf #[.int x0 u0, .int x1 u1, .int x2 u2, .int x3 u3, .int x4 u4, .int x5 u5] n) ∈ news) (hk : 0 ≤ k ∧ k < 6)
    (h : ∀ t, Q (.int (at6 x0 x1 x2 x3 x4 x5 k) t) s)
    (hs : subscripted slice false (.ref D) (.int k u) = operate [.ref D, .int k u] (getItem (.ref D) (.int k u)) := by with_unfolding_all rfl) (ht : ∀ r, letTemporaryGo value (.ref D) r = pure () := by intro _; with_unfolding_all rfl) :
    wpAny (model prog w) A (subscriptTail value slice (.ref D) (.int k u)) Q E s := by
  rcases six hk with rfl | rfl | rfl | rfl | rfl | rfl <;> exact seq_sub N hm (by decide) (by decide) rfl (h _) hs ht
theorem get5l {x0 x1 x2 x3 x4 v : Int} {u0 u1 u2 u3 u4 : Tok} {n : Nat} {k : Int} {u : Tok} {Q : Value → Shared → Prop} (N : News h₀ L s.heap news) (hm : (D, PySem.W.listOf #[.int (up k 0 v x0) u0, .int (up k 1 v x1) u1, .int (up k 2 v x2) u2, .int (up k 3 v x3) u3, .int (up k 4 v x4) u4] n) ∈ news) (hk : 0 ≤ k ∧ k < 5)
    (h : ∀ t, Q (.int v t) s) : wpAny (model prog w) A (getItem (.ref D) (.int k u)) Q E s := by
  rcases five hk with rfl | rfl | rfl | rfl | rfl <;> exact wpAny_getItem_list (PySem.IsL.isList (n := n) (N _ hm).1) (by decide) (by decide) rfl (h _)
theorem seq_set {its its' : Array Value} {n : Nat} {k : Int} {t : Tok} {v : Value} {g : Obj → List (Addr × Obj)} {Q : Unit → Shared → Prop} (F : Fr h₀ L s.heap m) (N : News h₀ L s.heap news) (U : UpdF D (PySem.W.listOf its n) news g) (h0 : 0 ≤ k) (hfit : k < 2 ^ 63) (hlt : k < its.size) (he : its.setIfInBounds k.toNat v = its')
    (h : ∀ h', Fr h₀ L h' m → News h₀ L h' (g (PySem.W.listOf its' n)) → Q () { s with heap := h' }) : wpAny (model prog w) A (setItem (.ref D) (.int k t) v) Q E s := by
  obtain ⟨pre, post, rfl, hg, a, b⟩ := U.split
  have z := N (D, PySem.W.listOf its n) (List.mem_append.mpr (.inr (.head _)))
  refine ki_setAt z.1 h0 hfit hlt (h _ (F.change (Heap.SameBut.update ..) z.2.1 z.2.2) ?_)
  rw [hg]
  exact ki_turn _ N a b he (by subst he; simp)
theorem set5s {x0 x1 x2 x3 x4 v : Int} {u0 u1 u2 u3 u4 t tv : Tok} {n : Nat} {k : Int} {g : Obj → List (Addr × Obj)} {Q : Unit → Shared → Prop} (F : Fr h₀ L s.heap m) (N : News h₀ L s.heap news)
    (U : UpdF D (PySem.W.listOf #[.int x0 u0, .int x1 u1, .int x2 u2, .int x3 u3, .int x4 u4] n) news g) (hk : 0 ≤ k ∧ k < 5)
    (h : ∀ w0 w1 w2 w3 w4 h', Fr h₀ L h' m → News h₀ L h' (g (PySem.W.listOf #[.int (up k 0 v x0) w0, .int (up k 1 v x1) w1, .int (up k 2 v x2) w2, .int (up k 3 v x3) w3, .int (up k 4 v x4) w4] n)) → Q () { s with heap := h' }) : wpAny (model prog w) A (setItem (.ref D) (.int k t) (.int v tv)) Q E s := by
  rcases five hk with rfl | rfl | rfl | rfl | rfl
  · exact seq_set F N U (by decide) (by decide) (by show (0 : Int) < 5; decide) rfl (h _ _ _ _ _)
  · exact seq_set F N U (by decide) (by decide) (by show (1 : Int) < 5; decide) rfl (h _ _ _ _ _)
  · exact seq_set F N U (by decide) (by decide) (by show (2 : Int) < 5; decide) rfl (h _ _ _ _ _)
  · exact seq_set F N U (by decide) (by decide) (by show (3 : Int) < 5; decide) rfl (h _ _ _ _ _)
  · exact seq_set F N U (by decide) (by decide) (by show (4 : Int) < 5; decide) rfl (h _ _ _ _ _)
theorem up_up (k j v v' x : Int) : up k j v (up k j v' x) = up k j v x := by
  unfold up; split <;> rfl
theorem set5l {x0 x1 x2 x3 x4 v v' : Int} {u0 u1 u2 u3 u4 t tv : Tok} {n : Nat} {k : Int} {g : Obj → List (Addr × Obj)} {Q : Unit → Shared → Prop} (F : Fr h₀ L s.heap m) (N : News h₀ L s.heap news)
    (U : UpdF D (PySem.W.listOf #[.int (up k 0 v' x0) u0, .int (up k 1 v' x1) u1, .int (up k 2 v' x2) u2, .int (up k 3 v' x3) u3, .int (up k 4 v' x4) u4] n) news g) (hk : 0 ≤ k ∧ k < 5)
    (h : ∀ w0 w1 w2 w3 w4 h', Fr h₀ L h' m → News h₀ L h' (g (PySem.W.listOf #[.int (up k 0 v x0) w0, .int (up k 1 v x1) w1, .int (up k 2 v x2) w2, .int (up k 3 v x3) w3, .int (up k 4 v x4) w4] n)) → Q () { s with heap := h' }) : wpAny (model prog w) A (setItem (.ref D) (.int k t) (.int v tv)) Q E s := by
  refine set5s F N U hk fun w0 w1 w2 w3 w4 h' F' N' => h w0 w1 w2 w3 w4 h' F' ?_
  rw [up_up, up_up, up_up, up_up, up_up] at N'
  exact N'
theorem set6s {x0 x1 x2 x3 x4 x5 v : Int} {u0 u1 u2 u3 u4 u5 t tv : Tok} {n : Nat} {k : Int} {g : Obj → List (Addr × Obj)} {Q : Unit → Shared → Prop} (F : Fr h₀ L s.heap m) (N : News h₀ L s.heap news)
    (U : UpdF D (PySem.W.listOf #[.int x0 u0, .int x1 u1, .int x2 u2, .int x3 u3, .int x4 u4, .int x5 u5] n) news g) (hk : 0 ≤ k ∧ k < 5)
    (h : ∀ w0 w1 w2 w3 w4 w5 h', Fr h₀ L h' m → News h₀ L h' (g (PySem.W.listOf #[.int (up k 0 v x0) w0, .int (up k 1 v x1) w1, .int (up k 2 v x2) w2, .int (up k 3 v x3) w3, .int (up k 4 v x4) w4, .int x5 w5] n)) → Q () { s with heap := h' }) : wpAny (model prog w) A (setItem (.ref D) (.int k t) (.int v tv)) Q E s := by
  rcases five hk with rfl | rfl | rfl | rfl | rfl
  · exact seq_set F N U (by decide) (by decide) (by show (0 : Int) < 6; decide) rfl (h _ _ _ _ _ _)
  · exact seq_set F N U (by decide) (by decide) (by show (1 : Int) < 6; decide) rfl (h _ _ _ _ _ _)
  · exact seq_set F N U (by decide) (by decide) (by show (2 : Int) < 6; decide) rfl (h _ _ _ _ _ _)
  · exact seq_set F N U (by decide) (by decide) (by show (3 : Int) < 6; decide) rfl (h _ _ _ _ _ _)
  · exact seq_set F N U (by decide) (by decide) (by show (4 : Int) < 6; decide) rfl (h _ _ _ _ _ _)
end
end
/-! Lc -/
section
open PySem.Spec PySem.Calls
section
variable {prog : Program} {w : World} {A : Around} {E : Value → Shared → Prop} {s : Shared} {env : Env}
/-- a comprehension over a list whose own name is a plain local -/
theorem lc_list {elt iter : Expr} {x : PySem.Str} {px : Pos} {scope : Scope} {cl : List (PySem.Str × Addr)} {pos : Pos} {Q : Value → Shared → Prop} (R : Value → Value → Prop)
    (hh : A.handled = none) (hclos : closureFor scope env = pure cl) (hcell : ∀ y ∈ scope.names, y.2 ≠ .cell) (hkind : scope.kind = .function)
    (hnames : ∀ y ∈ scope.names, y.2 = .local → scope.names.lookup y.1 = some .local) (hx : scope.names.lookup x = some .local)
    (h : wpAny (model prog w) A (eval iter env) (fun xv s₁ => ∃ (ax : Addr) (items : Array Value), xv = .ref ax ∧ s₁.heap.IsList ax items ∧ items.size ≤ sizeLine ∧
      (∀ C v s₂ m₂ E', v ∈ items.toList → s₁.heap.get? C = none → s₂.heap.Ns C m₂ → m₂ x = some v → (∀ b o, s₁.heap.get? b = some o → s₂.heap.get? b = some o) → s₁.toks ≤ s₂.toks →
        wpAny (model prog w) A (eval elt (compEnvC scope cl C env)) (fun y s₃ => R v y ∧ Keeps s₂ s₃) E' s₂) ∧
      (∀ D h' tk ys nn, s₁.heap.objs.size ≤ D → h'.get? D = some (PySem.W.listOf ys nn) → Paired R items.toList ys.toList → (∀ b o, s₁.heap.get? b = some o → h'.get? b = some o) → Q (.ref D) { s₁ with heap := h', toks := tk })) E s)
    (hs : ∀ x, foldedSetIterable iter env x = pure x := by intro _; rfl) :
    wpAny (model prog w) A (eval (.ListComp elt [⟨.Name x px, iter, [], 0⟩] scope pos) env) Q E s := by
  rw [eval_ListComp]
  refine wpAny_comprehension_free (use := none) rfl hs hclos hkind hnames (wpAny_mono h (fun xv s₁ h₁ => ?_) fun _ _ e => e)
  obtain ⟨ax, items, rfl, hl, hsz, helt, hQ⟩ := h₁
  have hax : @LT.lt Nat _ ax s₁.heap.objs.size := by obtain ⟨_, e, _⟩ := hl; exact Heap.lt_size e
  refine wpAny_pyIter_list hl (wpAny_newObj_type ?_)
  generalize hH1 : s₁.heap.push { cls := .type "list_iterator", data := .fields #[.ref ax, .int 0 0] } = H1
  have s1 : H1.objs.size = s₁.heap.objs.size + 1 := by rw [← hH1, Heap.size_push]
  dsimp only
  generalize hH2 : H1.push { cls := .type "list", dict := none, data := .seq ([] : List Value).toArray } = H2
  have s2 : H2.objs.size = s₁.heap.objs.size + 2 := by rw [← hH2, Heap.size_push, s1]
  refine wpAny_newFunctionEnv hcell (by intro y hy; cases hy) (fun H3 ns3 sb3 => ?_) hkind
  dsimp only at ns3 sb3 ⊢
  rw [s1]
  rw [s2] at ns3 sb3 ⊢
  have up1 : ∀ b o, s₁.heap.get? b = some o → H1.get? b = some o := fun b o e => hH1 ▸ Heap.get?_push_of_some _ e
  have up2 : ∀ b o, H1.get? b = some o → H2.get? b = some o := fun b o e => hH2 ▸ Heap.get?_push_of_some _ e
  have up3 : ∀ b o, H2.get? b = some o → H3.get? b = some o := fun b o e => by
    have l : @LT.lt Nat _ b H2.objs.size := Heap.lt_size e
    exact sb3.extBut b o (by show @Ne Nat _ _; omega) (Heap.get?_push_of_some _ e)
  have up : ∀ b o, s₁.heap.get? b = some o → H3.get? b = some o := fun b o e => up3 _ _ (up2 _ _ (up1 _ _ e))
  have oI : H3.IsListIter s₁.heap.objs.size ax 0 := ⟨_, up3 _ _ (up2 _ _ (hH1 ▸ Heap.get?_push_size _ rfl)), rfl, rfl⟩
  have oD : H3.PlainList (s₁.heap.objs.size + 1) #[] := ⟨_, up3 _ _ (by rw [← s1, ← hH2]; exact Heap.get?_push_size _ rfl)⟩
  have fresh : ∀ b, s₁.heap.objs.size ≤ b → s₁.heap.get? b = none := fun b hb => by
    cases e : s₁.heap.get? b with
    | none => rfl
    | some o' => exact absurd (Heap.lt_size e) (Nat.not_lt.mpr hb)
  have nI : ∀ b, @LT.lt Nat _ b s₁.heap.objs.size → b ∉ [s₁.heap.objs.size] := fun b hb hm => by
    have := List.mem_singleton.mp hm
    rw [this] at hb; exact Nat.lt_irrefl _ hb
  have stand : ∀ (H : Heap), (∀ b o, b ≠ s₁.heap.objs.size + 2 → b ∉ [s₁.heap.objs.size] → b ≠ s₁.heap.objs.size + 1 → H3.get? b = some o → H.get? b = some o) → ∀ b o, s₁.heap.get? b = some o → H.get? b = some o := fun H hk b o e => by
    have l : @LT.lt Nat _ b s₁.heap.objs.size := Heap.lt_size e
    exact hk b o (by show @Ne Nat _ _; omega) (nI b l) (by show @Ne Nat _ _; omega) (up b o e)
  have key : codeAny (model prog w) A (.compLoop (.ListComp elt [⟨.Name x px, iter, [], 0⟩] scope pos) 0 (.ref s₁.heap.objs.size) (.ref (s₁.heap.objs.size + 1)) (compEnvC scope cl (s₁.heap.objs.size + 2) env))
      (compPost (model prog w) A E none Q (.ref (s₁.heap.objs.size + 1)) (s₁.heap.objs.size + 2)) { s₁ with heap := H3, toks := s₁.toks + ([] : List (PySem.Str × Value)).length } := by
    refine codeAny_compLoop_walk (hsz := hsz) (Walks.list (prog := prog) (w := w) hh s₁.heap.objs.size ax (Nat.ne_of_lt hax) items) (fun _ => true) R (lookup_relabel_local hx) (by simp [compEnvC, relabel, hkind])
      (by show @Ne Nat (s₁.heap.objs.size + 1) (s₁.heap.objs.size + 2); omega) ?_ ?_ ⟨oI, let ⟨o, e, r⟩ := hl; ⟨o, up _ _ e, r⟩⟩ oD ns3 ?_ ?_ ?_
    · intro hm
      rcases List.mem_cons.mp hm with e | hm
      · exact absurd e (by show @Ne Nat _ _; omega)
      · exact absurd (List.mem_singleton.mp hm) (by show @Ne Nat _ _; omega)
    · intro hm
      rcases List.mem_cons.mp hm with e | hm
      · exact absurd e (by show @Ne Nat (s₁.heap.objs.size + 2) _; omega)
      · exact absurd (List.mem_singleton.mp hm) (by show @Ne Nat (s₁.heap.objs.size + 2) _; omega)
    · intro i v s₂ m₂ hv hn hm hk htk
      exact wpAny_tests_nil ⟨rfl, s₂.heap, s₂.toks, rfl, fun _ _ e => e⟩
    · intro i v s₂ m₂ hv hp hn hm hk htk
      exact helt _ v s₂ m₂ _ (Array.mem_toList_iff.mpr (Array.mem_of_getElem? hv)) (fresh _ (Nat.le_add_right _ 2)) hn hm (stand _ hk) htk
    · intro h' tk m' ys vs hn hl' hpl hlen hP hF hk
      have hvs : vs = items.toList := list_of_places hlen hP
      rw [List.filter_eq_self.mpr (fun _ _ => rfl), hvs] at hF
      refine ⟨m', hn, fun h'' hs'' => ?_⟩
      obtain ⟨nn, hpl⟩ := hpl
      refine hQ _ h'' tk ys nn (Nat.le_succ _) (hs''.extBut _ _ (by show @Ne Nat _ _; omega) hpl) hF fun b o e => ?_
      have l : @LT.lt Nat _ b s₁.heap.objs.size := Heap.lt_size e
      exact hs''.extBut b o (by show @Ne Nat b (s₁.heap.objs.size + 2); omega) (stand _ hk b o e)
  exact codeAny_compStart_list key (wpAny_pyIter_listiter oI key)
end
end
/-! Li -/
section
open PySem.Spec PySem.Calls
section
variable {prog : Program} {w : World} {A : Around} {E : Value → Shared → Prop} {s : Shared}
theorem meth_nm {x name y : PySem.Str} {q q1 apos pos : Pos} {env : Env} (hline : apos.endLine = pos.line) :
    eval (.Call (.Attribute (.Name x q) name apos) [.Name y q1] [] pos) env = (do
      let ov ← eval (.Name x q) env
      standAt apos.atName
      let (f, first) ← holding [ov] (getMethod ov name (do return (← importBound (.Name x q) env).getD true))
      callWith pos f first (backTo pos (starEach [.Name y q1] env)) []) := by
  have hpos : methodCallPos true (.Name x q) env apos pos = pure pos := by unfold methodCallPos; simp [hline]
  show (do
      let ov ← eval (.Name x q) env
      standAt apos.atName
      let (f, first) ← holding [ov] (calleeOf true (.Name x q) env ov name)
      let callPos ← methodCallPos true (.Name x q) env apos pos
      callWith callPos f first (backTo callPos (starEach [.Name y q1] env)) []) = _
  rw [hpos]; rfl
theorem index5h {P : Addr} {c0 c1 c2 c3 c4 k : Int} {v0 v1 v2 v3 v4 t : Tok} {n : Nat} {Q : Value → Shared → Prop}
    (ho : s.heap.get? P = some (PySem.W.listOf #[.int c0 v0, .int c1 v1, .int c2 v2, .int c3 v3, .int c4 v4] n)) (hk : k ∈ [c0, c1, c2, c3, c4])
    (h : ∀ i : Int, (0 ≤ i ∧ i < 5) ∧ at5 c0 c1 c2 c3 c4 i = k → Q (.int i s.toks) { s with toks := s.toks + 1 }) : wpAny (model prog w) A (call (.builtin "list.index") [.ref P, .int k t]) Q E s := by
  have hi : IntsAre [.int c0 v0, .int c1 v1, .int c2 v2, .int c3 v3, .int c4 v4] [c0, c1, c2, c3, c4] := .cons _ _ (.cons _ _ (.cons _ _ (.cons _ _ (.cons _ _ .nil))))
  have hj : [c0, c1, c2, c3, c4].idxOf k < [c0, c1, c2, c3, c4].length := List.idxOf_lt_length_iff.mpr hk
  have hj5 : [c0, c1, c2, c3, c4].idxOf k < 5 := hj
  have hat : at5 c0 c1 c2 c3 c4 ([c0, c1, c2, c3, c4].idxOf k : Nat) = k := by
    have e := List.getElem_idxOf hj
    generalize [c0, c1, c2, c3, c4].idxOf k = j at *
    have : j = 0 ∨ j = 1 ∨ j = 2 ∨ j = 3 ∨ j = 4 := by omega
    rcases this with rfl | rfl | rfl | rfl | rfl <;> exact e
  refine call_meets PySem.F.slot_list_index ⟨_, ho, rfl⟩ PySem.F.entry_list_index (PySem.F.args_list_index_2 _ _)
    (PySem.SeqAt.list_indexAt P [.int c0 v0, .int c1 v1, .int c2 v2, .int c3 v3, .int c4 v4].toArray n none #[] (.int k t) (isInt k) ([c0, c1, c2, c3, c4].idxOf k) hj5 (by omega) ?_ ?_) ⟨ho, fun y hy => (PyProof.Rows.eq_isInt k t hi y (by simpa using hy)).at _ _, h _ ⟨by omega, hat⟩⟩
  · show isInt k [Value.int c0 v0, .int c1 v1, .int c2 v2, .int c3 v3, .int c4 v4][[c0, c1, c2, c3, c4].idxOf k] = true
    rw [isInt_at k hi _ hj5 hj]
    simpa using List.getElem_idxOf hj
  · intro j hjs hlt
    show isInt k [Value.int c0 v0, .int c1 v1, .int c2 v2, .int c3 v3, .int c4 v4][j] = false
    rw [isInt_at k hi j (by simpa using hjs) (by simp only [List.length_cons, List.length_nil]; omega)]
    exact ne_of_lt_idxOf hlt _
theorem elt_index {cenv : Env} {p1 p2 p3 p4 : Pos} {cR P : Addr} {c0 c1 c2 c3 c4 k : Int} {v0 v1 v2 v3 v4 t : Tok} {n : Nat} {m : PySem.Str → Option Value}
    (hline : p2.endLine = p4.line) (hk : cenv.scope.kind = .function) (hrk : cenv.kindOf (PySem.Str.ofString "ranks") = some .cell) (hrc : cenv.cells.lookup (PySem.Str.ofString "ranks") = some cR) (hR : s.heap.IsCell cR (some (.ref P)))
    (hP : s.heap.get? P = some (PySem.W.listOf #[.int c0 v0, .int c1 v1, .int c2 v2, .int c3 v3, .int c4 v4] n)) (hok : cenv.kindOf (PySem.Str.ofString "rank") = some .local) (hn : s.heap.Ns cenv.locals m) (hm : m (PySem.Str.ofString "rank") = some (.int k t))
    (hkm : k ∈ [c0, c1, c2, c3, c4]) :
    wpAny (model prog w) A (eval (.Call (.Attribute (.Name (PySem.Str.ofString "ranks") p1) (PySem.Str.ofString "index") p2) [.Name (PySem.Str.ofString "rank") p3] [] p4) cenv)
      (fun y s₃ => (∃ i u, y = .int i u ∧ (0 ≤ i ∧ i < 5) ∧ at5 c0 c1 c2 c3 c4 i = k) ∧ Keeps s s₃) E s := by
  have N : News s.heap s.heap.objs.size s.heap [] := News.nil
  refine MethodCall_ (wpAny_Name (wpAny_loadName_cell hk hrk hrc hR ?_)) (meth_nm hline)
  refine getMethod_builtin ⟨_, hP, rfl⟩ PySem.F.plainAttrs_list PySem.F.slot_list_index PySem.F.type_list_index (fun a e => by cases e; exact ⟨_, hP, rfl⟩) ?_
  w_top off
  walk1
  walk1
  refine wpAny_Name (wpAny_loadName_local hk hok hn hm ?_)
  walk1
  exact index5h hP hkm fun i hi => ⟨⟨i, _, rfl, hi⟩, s.heap, _, rfl, fun _ _ e => e⟩
theorem index_comp {h₀ : Heap} {L a : Addr} {m : PySem.Str → Option Value} {cn : PySem.Str} {cs : Scope} {ccd : Value} {cl : List (PySem.Str × Addr)} {news : List (Addr × Obj)}
  {scopeO : Scope} {p1 p2 p3 p4 p5 p6 p7 q0 q1 q2 q3 q4 : Pos} {cR P : Addr} {oC : Obj} {c0 c1 c2 c3 c4 : Int} {u0 u1 u2 u3 u4 : Tok} {n : Nat} {Q : Value → Shared → Prop}
    (hh : A.handled = none) (F : Fr h₀ L s.heap m) (N : News h₀ L s.heap news) (hline : p2.endLine = p4.line)
    (hm : (cR, oC) ∈ news) (hd : oC.data = .cell (some (.ref P))) (hP : (P, PySem.W.listOf #[.int c0 u0, .int c1 u1, .int c2 u2, .int c3 u3, .int c4 u4] n) ∈ news)
    (hk : cs.kind = .function) (hcp : cl.lookup (PySem.Str.ofString "ranks") = some cR) (hpk : (envX cn cs L a ccd cl).kindOf (PySem.Str.ofString "ranks") = some .cell)
    (hO : scopeO.names = [(PySem.Str.ofString ".0", .local), (PySem.Str.ofString "rank", .local), (PySem.Str.ofString "ranks", .free)]) (hOk : scopeO.kind = .function)
    (hM : ∀ k : Int, 0 ≤ k ∧ k ≤ 4 → k ∈ [c0, c1, c2, c3, c4])
    (h : ∀ D h' tk v0 v1 v2 v3 v4 nn i0 i1 i2 i3 i4, ((0 ≤ i0 ∧ i0 < 5) ∧ at5 c0 c1 c2 c3 c4 i0 = 4) → ((0 ≤ i1 ∧ i1 < 5) ∧ at5 c0 c1 c2 c3 c4 i1 = 3) → ((0 ≤ i2 ∧ i2 < 5) ∧ at5 c0 c1 c2 c3 c4 i2 = 2) → ((0 ≤ i3 ∧ i3 < 5) ∧ at5 c0 c1 c2 c3 c4 i3 = 1) → ((0 ≤ i4 ∧ i4 < 5) ∧ at5 c0 c1 c2 c3 c4 i4 = 0) →
      Fr h₀ L h' m → News h₀ L h' ((D, PySem.W.listOf #[.int i0 v0, .int i1 v1, .int i2 v2, .int i3 v3, .int i4 v4] nn) :: news) → @LT.lt Nat _ L D → Q (.ref D) { s with heap := h', toks := tk }) :
    wpAny (model prog w) A (eval (.ListComp (.Call (.Attribute (.Name (PySem.Str.ofString "ranks") p1) (PySem.Str.ofString "index") p2) [.Name (PySem.Str.ofString "rank") p3] [] p4)
      [⟨.Name (PySem.Str.ofString "rank") p5, .List [.Constant (.int 4) 0 q0, .Constant (.int 3) 0 q1, .Constant (.int 2) 0 q2, .Constant (.int 1) 0 q3, .Constant (.int 0) 0 q4] p6, [], 0⟩] scopeO p7) (envX cn cs L a ccd cl)) Q E s := by
  have hclos : closureFor scopeO (envX cn cs L a ccd cl) = pure [(PySem.Str.ofString "ranks", cR)] := by
    unfold closureFor
    rw [hO]
    simp only [List.forIn_cons, List.forIn_nil]
    have hco : cellOf (envX cn cs L a ccd cl) (PySem.Str.ofString "ranks") = pure cR := by
      unfold cellOf
      rw [show (envX cn cs L a ccd cl).cells.lookup (PySem.Str.ofString "ranks") = some cR from hcp]
    rw [hco]
    rfl
  have hrel : (relabel scopeO (envX cn cs L a ccd cl)).names = [(PySem.Str.ofString ".0", .local), (PySem.Str.ofString "rank", .local), (PySem.Str.ofString "ranks", .cell)] := by
    unfold relabel
    rw [hO]
    simp only [List.map_cons, List.map_nil]
    rw [show (envX cn cs L a ccd cl).scope.kind = .function from hk, hpk]
    rfl
  have hcell : s.heap.IsCell cR (some (.ref P)) := ⟨_, (N _ hm).1, hd⟩
  refine lc_list (fun v y => ∃ k t i u, v = .int k t ∧ y = .int i u ∧ (0 ≤ i ∧ i < 5) ∧ at5 c0 c1 c2 c3 c4 i = k) hh hclos (by rw [hO]; decide +kernel) hOk (by rw [hO]; decide +kernel) (by rw [hO]; decide +kernel) ?_
  w_top off
  iterate 13 walk1
  rename_i h1 F1 N1
  dsimp only at N1 ⊢
  refine ⟨_, #[.int 4 s.toks, .int 3 (s.toks + 1), .int 2 (s.toks + 1 + 1), .int 1 (s.toks + 1 + 1 + 1), .int 0 (s.toks + 1 + 1 + 1 + 1)], rfl, ⟨_, (N1 _ (.head _)).1, rfl, _, rfl⟩, by rw [sizeLine_eq]; exact Nat.le_of_ble_eq_true rfl, ?_, ?_⟩
  · intro C v s₂ m₂ E' hv hC0 hC hmv hkeep ht
    have hkv : ∃ k t, v = Value.int k t ∧ 0 ≤ k ∧ k ≤ 4 := by
      simp only [List.mem_cons, List.not_mem_nil, or_false] at hv
      rcases hv with rfl | rfl | rfl | rfl | rfl <;> exact ⟨_, _, rfl, by decide, by decide⟩
    obtain ⟨k, t, rfl, hk0, hk4⟩ := hkv
    refine wpAny_mono (elt_index (cR := cR) (P := P) (c0 := c0) (c1 := c1) (c2 := c2) (c3 := c3) (c4 := c4) (k := k) hline hOk ?_ rfl ⟨_, hkeep _ _ (N1 _ (.tail _ hm)).1, hd⟩ (hkeep _ _ (N1 _ (.tail _ hP)).1) ?_ hC hmv (hM k ⟨hk0, hk4⟩)) (fun y s₃ hy => ?_) fun _ _ e => e
    · show (relabel scopeO _).names.lookup _ = _
      rw [hrel]; rfl
    · show (relabel scopeO _).names.lookup _ = _
      rw [hrel]; rfl
    · obtain ⟨⟨i, u, rfl, hi⟩, hK⟩ := hy
      exact ⟨⟨k, t, i, u, rfl, rfl, hi⟩, hK⟩
  · intro D h' tk ys nn hD hpl hF hkeep
    rcases ys with ⟨l⟩
    rcases hF with _ | ⟨⟨k0, t0, i0, v0, e0, rfl, g0⟩, _ | ⟨⟨k1, t1, i1, v1, e1, rfl, g1⟩, _ | ⟨⟨k2, t2, i2, v2, e2, rfl, g2⟩, _ | ⟨⟨k3, t3, i3, v3, e3, rfl, g3⟩, _ | ⟨⟨k4, t4, i4, v4, e4, rfl, g4⟩, _ | _⟩⟩⟩⟩⟩
    cases e0; cases e1; cases e2; cases e3; cases e4
    refine h D h' tk v0 v1 v2 v3 v4 nn i0 i1 i2 i3 i4 g0 g1 g2 g3 g4 (F1.keeps hkeep) (fun q hq => ?_) (Nat.lt_of_lt_of_le F1.ns.lt hD)
    rcases List.mem_cons.mp hq with rfl | hq
    · refine ⟨hpl, Nat.ne_of_gt (Nat.lt_of_lt_of_le F1.ns.lt hD), ?_⟩
      cases e : h₀.get? D with
      | none => rfl
      | some o => exact absurd (Heap.lt_size (F1.keep _ _ e)) (Nat.not_lt.mpr hD)
    · exact ⟨hkeep _ _ (N1 q (.tail _ hq)).1, (N1 q (.tail _ hq)).2⟩
end
end
section
local macro_rules | `(tactic| k_room) => `(tactic| ktr_room)
local macro_rules | `(tactic| walk_at $s:str) => `(tactic| k_extra $s)
section
local macro_rules | `(tactic| k_enter) => `(tactic| first
  | (refine' enterP ?k1 ?k2 ?k3 ?k5 ?kA ?kF ?kK ?k6 ?k7 ?k8 ?k9 ?kB ?_ ?c2 ?c3 ?c4 ?c5; (case kA => exact rfl); (case kF => exact rfl); (case kK => first | exact rfl | assumption); (case k1 => k_asm); (case k2 => k_asm); (case k3 => k_asm); (case k5 => k_asm); (case k6 => k_is); (case k7 => k_is); (case k8 => ktr_room); (case k9 => first | exact BindsTo.of_eq rfl | exact binds_K (by k_in) rfl (by k_is) rfl rfl rfl | fail "k_enter: no rule for these arguments"); (case c5 => decide); (case kB => exact locs rfl); (case c2 => exact rfl); (case c3 => exact rfl); (case c4 => exact rfl); k_whole; intro L' h' F' N' B' X' T'; (try dsimp only); (try k_lift B'); (try k_fold))
  | (refine' enterPC ?k1 ?k2 ?k3 ?k5 ?kA ?kF ?kK ?k6 ?k7 ?k8 ?k9 ?kB ?kD ?_ ?c2 ?c3 ?c4; (case kA => exact rfl); (case kF => exact rfl); (case kK => first | exact rfl | assumption); (case k1 => k_asm); (case k2 => k_asm); (case k3 => k_asm); (case k5 => k_asm); (case k6 => k_is); (case k7 => k_is); (case k8 => ktr_room); (case k9 => first | exact BindsTo.of_eq rfl | exact binds_K (by k_in) rfl (by k_is) rfl rfl rfl | fail "k_enter: no rule for these arguments"); (case kB => exact rfl); (case kD => decide +kernel); (case c2 => exact rfl); (case c3 => exact rfl); (case c4 => exact rfl); k_whole; intro L' h' tk' cells' htk' F' N' Y' B' X' T'; k_cells Y'; (try simp only [List.cons_append, List.nil_append] at N'); (try dsimp only); (try k_lift B'); (try k_fold)))
/-! Q2 -/
section
open PySem.Spec PySem.Calls
variable (w : World) (mean : ExcName → Option Value) (mg mb : PySem.Str → Option Value)
/-- a QName with its text -/
def IsQ (h : Heap) (x : Addr) (y : PySem.Str) : Prop := ∃ dx hsh n t1 t2, h.get? x = some (instObj 127 dx) ∧ h.get? dx = some (dictOf [⟨hsh, .str (PySem.Str.ofString "text") t1, .str y t2⟩] n)
theorem IsQ.keeps {h h' : Heap} {x : Addr} {y : PySem.Str} (q : IsQ h x y) (k : ∀ b o, h.get? b = some o → h'.get? b = some o) : IsQ h' x y := by
  obtain ⟨dx, a, n, t1, t2, h1, h2⟩ := q
  exact ⟨dx, a, n, t1, t2, k _ _ h1, k _ _ h2⟩
theorem instAt_keeps {g h : Heap} {x C : Addr} {ox : Obj} {od : Option Obj} (I : PySem.W.InstAt g x ox C od) (k : ∀ b o, g.get? b = some o → h.get? b = some o) : PySem.W.InstAt h x ox C od := by
  obtain ⟨h1, h2, h3, h4⟩ := I
  refine ⟨k _ _ h1, h2, h3, ?_⟩
  obtain ⟨c, d, dd, sl⟩ := ox
  cases d <;> cases od <;> first | exact k _ _ h4 | exact h4
local macro_rules | `(tactic| k_inst) => `(tactic| (refine instAt_keeps (by assumption) (Fr.keep (by k_asm))))
theorem q_gt (x1 x2 : Addr) (y1 y2 : PySem.Str) : Ct w mean mg mb (richCompare .Gt (.ref x1) (.ref x2)) (fun h => IsQ h x1 y1 ∧ IsQ h x2 y2) (fun _ _ v => v = .bool (decide (y2.cps.toList < y1.cps.toList))) := by
  dsimp only [Ct]; k_fill; w_top off
  intro dp un gd cn cs a ccd cl outer A₀ base h₀ L m s Q E B F X T hk hd hu hp hq hret
  obtain ⟨⟨dx1, a1, n1, t11, t12, hx1, hd1⟩, ⟨dx2, a2, n2, t21, t22, hx2, hd2⟩⟩ := hq
  have I1 : PySem.W.InstAt s.heap x1 (instObj 127 dx1) 127 (some (dictOf [⟨a1, .str (PySem.Str.ofString "text") t11, .str y1 t12⟩] n1)) := ⟨hx1, rfl, rfl, hd1⟩
  have I2 : PySem.W.InstAt s.heap x2 (instObj 127 dx2) 127 (some (dictOf [⟨a2, .str (PySem.Str.ofString "text") t21, .str y2 t22⟩] n2)) := ⟨hx2, rfl, rfl, hd2⟩
  refine' cmp_K ?k1 ?k2 ?k3 ?k4 ?k5 ?k6 ?k7 ?k8 ?_; (case k1 => show un < cLine; omega); (case k2 => k_asm); (case k3 => k_asm); (case k4 => exact I1); (case k5 => exact InstAt.type I2); (case k6 => k_is); (case k7 => k_is); (case k8 => k_is)
  refine wpAny_call ?_
  k_enter
  k_with_none
  k_with "execs cons" => (k_here; with_reducible refine execs_pos (by first | assumption | omega) ?_; intro tk' htk'; (try dsimp only))
  k_with "TokP" => (with_reducible refine tokP_in ?_; intro htk'; (try dsimp only))
  k_steps
  exact hret _ _ _ (by with_reducible rename Fr _ _ _ _ => F3; exact F3.keep) rfl (by assumption)
end
/-! Es -/
section
open PySem.Spec PySem.Calls
variable (w : World) (mean : ExcName → Option Value) (mg mb : PySem.Str → Option Value)
section
variable {prog : Program} {A : Around} {E : Value → Shared → Prop} {s : Shared} {y z : PySem.Str} {t u v : Tok} {Q : Value → Shared → Prop}
theorem replace_rule {l r : List Nat} {c : Nat} (hy : y = ⟨#[c]⟩) (hz : z = tx r) (hyz : (y == z) = false) (hu : u ≠ 0) (hv : v ≠ 0) (huv : u ≠ v) (hl : l.length ≤ 1048576) (hr : r.length ≤ 14)
    (h : ∀ t' k, Q (.str (tx (rep1 c r l)) t') { s with toks := k }) : wpAny (model prog w) A (call (.builtin "str.replace") [.str (tx l) t, .str y u, .str z v]) Q E s := by
  refine SC.replaceW hu hv huv hyz (by rw [tx_len]; exact hl) (by rw [hz, tx_len]; exact hr) ?_
  rw [hy, hz, replace_tx]
  exact h
end
theorem meth_he {x name : PySem.Str} {q apos pos : Pos} {c1 c2 : Const} {k1 k2 : Nat} {q1 q2 : Pos} {env : Env} (hline : apos.endLine = pos.line) :
    eval (.Call (.Attribute (.Name x q) name apos) [.Constant c1 k1 q1, .Constant c2 k2 q2] [] pos) env = (do
      let ov ← eval (.Name x q) env
      standAt apos.atName
      let (f, first) ← holding [ov] (getMethod ov name (do return (← importBound (.Name x q) env).getD true))
      callWith pos f first (backTo pos (starEach [.Constant c1 k1 q1, .Constant c2 k2 q2] env)) []) := by
  have hpos : methodCallPos true (.Name x q) env apos pos = pure pos := by unfold methodCallPos; simp [hline]
  show (do
      let ov ← eval (.Name x q) env
      standAt apos.atName
      let (f, first) ← holding [ov] (calleeOf true (.Name x q) env ov name)
      let callPos ← methodCallPos true (.Name x q) env apos pos
      callWith callPos f first (backTo pos (starEach [.Constant c1 k1 q1, .Constant c2 k2 q2] env)) []) = _
  rw [hpos]; rfl
theorem esc_if {s : Shared} {A : Around} {E : Value → Shared → Prop} {name : PySem.Str} {scope : Scope} {L a : Addr} {cd : Value} {h₀ : Heap} {m : PySem.Str → Option Value} {l r : List Nat} {c : Nat} {y z : PySem.Str} {t : Tok}
    {k1 k2 k3 : Nat} {p1 p2 p3 p4 p5 p6 p7 p8 p9 p10 p11 : Pos} {Q : Flow → Shared → Prop} (F : Fr h₀ L s.heap m) (N : News h₀ L s.heap []) (hm : m (PySem.Str.ofString "text") = some (.str (tx l) t)) (hpos : 0 < s.toks)
    (hy : y = ⟨#[c]⟩) (hz : z = tx r) (hyz : (y == z) = false) {n : Nat} (hl : l.length ≤ n) (hn : n ≤ 1048576) (hr : r.length ≤ 6) (hline : p6.endLine = p9.line) (hk : scope.kind = .function) (hx : scope.names.lookup (PySem.Str.ofString "text") = some .local)
    (h : ∀ h' t' tk m', Fr h₀ L h' m' → News h₀ L h' [] → m' (PySem.Str.ofString "text") = some (.str (tx (rep1 c r l)) t') → (rep1 c r l).length ≤ 6 * n → Q .next { s with heap := h', toks := tk }) :
    wpAny (model PySem.Challenge.rw_yh0017_01.row.prog w) A (exec (.If (.Compare (.Constant (.str y) k1 p1) [.In] [.Name (PySem.Str.ofString "text") p2] p3) [.Assign [.Name (PySem.Str.ofString "text") p4] (.Call (.Attribute (.Name (PySem.Str.ofString "text") p5) (PySem.Str.ofString "replace") p6) [.Constant (.str y) k2 p7, .Constant (.str z) k3 p8] [] p9) p10] [] p11) (envOf name scope L a cd)) Q E s := by
  have hb : (rep1 c r l).length ≤ 6 * n := Nat.le_trans (rep1_le c r 6 hr (by decide) l) (Nat.mul_le_mul_left 6 hl)
  k_with_none
  k_with "execs cons" => (k_here; with_reducible refine execs_pos (by first | assumption | omega) ?_; intro tk' htk'; (try dsimp only))
  k_with "TokP" => (with_reducible refine tokP_in ?_; intro htk'; (try dsimp only))
  k_with "call builtin:str.replace" => (refine replace_rule w (by assumption) (by assumption) (by assumption) (by (show @Ne Nat _ _); omega) (by (show @Ne Nat _ _); omega) (by (show @Ne Nat _ _); omega) (by omega) (by omega) ?_; intro _ _)
  k_with "eval Name" => (refine ld (by assumption) (by assumption) ?_ (by assumption) (by assumption) (by decide))
  k_with "storeName" => (refine stN (by assumption) (by assumption) ?_ (by assumption) (by assumption); intro h' F' N')
  k_with "eval Call Attribute" => (refine MethodCall_ ?_ (meth_he (by assumption)))
  k_steps
  · have q : (Builtin.Str.occurrences (tx l) y 0 (tx l).length 1).isEmpty = true := by assumption
    rw [hy] at q
    have e := rep1_free c r l (occ_none q)
    refine h _ t _ m F N ?_ hb
    rw [e]; exact hm
  · (with_reducible rename Fr _ _ _ _ => F2); (with_reducible rename News _ _ _ _ => N2)
    exact h _ _ _ _ F2 N2 (if_pos rfl) hb
theorem s_amp : PySem.Str.ofString "&" = ⟨#[38]⟩ := by decide +kernel
theorem r_amp : PySem.Str.ofString "&amp;" = tx [38, 97, 109, 112, 59] := by decide +kernel
theorem s_lt : PySem.Str.ofString "<" = ⟨#[60]⟩ := by decide +kernel
theorem r_lt : PySem.Str.ofString "&lt;" = tx [38, 108, 116, 59] := by decide +kernel
theorem s_gt : PySem.Str.ofString ">" = ⟨#[62]⟩ := by decide +kernel
theorem r_gt : PySem.Str.ofString "&gt;" = tx [38, 103, 116, 59] := by decide +kernel
theorem s_quot : PySem.Str.ofString "\"" = ⟨#[34]⟩ := by decide +kernel
theorem r_quot : PySem.Str.ofString "&quot;" = tx [38, 113, 117, 111, 116, 59] := by decide +kernel
theorem s_cr : PySem.Str.ofString "\x0d" = ⟨#[13]⟩ := by decide +kernel
theorem r_cr : PySem.Str.ofString "&#13;" = tx [38, 35, 49, 51, 59] := by decide +kernel
theorem s_lf : PySem.Str.ofString "\n" = ⟨#[10]⟩ := by decide +kernel
theorem r_lf : PySem.Str.ofString "&#10;" = tx [38, 35, 49, 48, 59] := by decide +kernel
theorem s_tab : PySem.Str.ofString "\t" = ⟨#[9]⟩ := by decide +kernel
theorem r_tab : PySem.Str.ofString "&#09;" = tx [38, 35, 48, 57, 59] := by decide +kernel
theorem r_xd : PySem.Str.ofString "&#xD;" = tx [38, 35, 120, 68, 59] := by decide +kernel
theorem r_xa : PySem.Str.ofString "&#xA;" = tx [38, 35, 120, 65, 59] := by decide +kernel
theorem r_x9 : PySem.Str.ofString "&#x9;" = tx [38, 35, 120, 57, 59] := by decide +kernel
def esc0 (l : List Nat) : List Nat := rep1 62 [38, 103, 116, 59] (rep1 60 [38, 108, 116, 59] (rep1 38 [38, 97, 109, 112, 59] l))
def esc1 (l : List Nat) : List Nat := rep1 9 [38, 35, 48, 57, 59] (rep1 10 [38, 35, 49, 48, 59] (rep1 13 [38, 35, 49, 51, 59] (rep1 34 [38, 113, 117, 111, 116, 59] (rep1 62 [38, 103, 116, 59] (rep1 60 [38, 108, 116, 59] (rep1 38 [38, 97, 109, 112, 59] l))))))
def esc2 (l : List Nat) : List Nat := rep1 34 [38, 113, 117, 111, 116, 59] (rep1 62 [38, 103, 116, 59] (rep1 38 [38, 97, 109, 112, 59] l))
def esc3 (l : List Nat) : List Nat := rep1 13 [38, 35, 120, 68, 59] (rep1 62 [38, 103, 116, 59] (rep1 60 [38, 108, 116, 59] (rep1 38 [38, 97, 109, 112, 59] l)))
def esc4 (l : List Nat) : List Nat := rep1 13 [38, 35, 120, 68, 59] (rep1 10 [38, 35, 120, 65, 59] (rep1 9 [38, 35, 120, 57, 59] (rep1 34 [38, 113, 117, 111, 116, 59] (rep1 60 [38, 108, 116, 59] (rep1 38 [38, 97, 109, 112, 59] l)))))
theorem esc0_ct (l : List Nat) (t : Tok) (hl : l.length ≤ 5) : Ct w mean mg mb (call (.ref 145) [.str (tx l) t]) (fun _ => True) (fun _ _ v => ∃ t, v = .str (tx (esc0 l)) t) := by
  dsimp only [Ct]; k_fill; w_top off; intros; rename_i hret
  refine wpAny_call ?_
  k_enter
  k_with_none
  k_with "execs cons" => (k_here; with_reducible refine execs_pos (by first | assumption | omega) ?_; intro tk' htk'; (try dsimp only))
  k_with "TokP" => (with_reducible refine tokP_in ?_; intro htk'; (try dsimp only))
  k_with "call builtin:str.replace" => (refine replace_rule w (by assumption) (by assumption) (by assumption) (by (show @Ne Nat _ _); omega) (by (show @Ne Nat _ _); omega) (by (show @Ne Nat _ _); omega) (by omega) (by omega) ?_; intro _ _)
  k_with "eval Name" => (refine ld (by assumption) (by assumption) ?_ (by assumption) (by assumption) (by decide))
  k_with "storeName" => (refine stN (by assumption) (by assumption) ?_ (by assumption) (by assumption); intro h' F' N')
  k_with "eval Call Attribute" => (refine MethodCall_ ?_ (meth_he (by assumption)))
  k_with "exec If" => (k_dflt (refine esc_if w (by assumption) (by assumption) (by first | assumption | exact rfl) (by first | assumption | omega) (by first | exact s_amp | exact s_lt | exact s_gt | exact s_quot | exact s_cr | exact s_lf | exact s_tab) (by first | exact r_amp | exact r_lt | exact r_gt | exact r_quot | exact r_cr | exact r_lf | exact r_tab | exact r_xd | exact r_xa | exact r_x9) (by decide +kernel) (by assumption) (by decide) (by decide) rfl rfl rfl ?_); intro h' t' tk' m' F' N' hm' hb'; (try dsimp only))
  k_with "eval Name" => (k_dflt (refine ld (by assumption) (by assumption) ?_ (by rfl) (by rfl) (by decide)))
  k_steps
  exact hret _ _ _ (by with_reducible rename Fr _ _ _ _ => F2; exact F2.keep) ⟨_, rfl⟩ (by first | assumption | omega)
theorem esc1_ct (l : List Nat) (t : Tok) (hl : l.length ≤ 5) : Ct w mean mg mb (call (.ref 152) [.str (tx l) t]) (fun _ => True) (fun _ _ v => ∃ t, v = .str (tx (esc1 l)) t) := by
  dsimp only [Ct]; k_fill; w_top off; intros; rename_i hret
  refine wpAny_call ?_
  k_enter
  k_with_none
  k_with "execs cons" => (k_here; with_reducible refine execs_pos (by first | assumption | omega) ?_; intro tk' htk'; (try dsimp only))
  k_with "TokP" => (with_reducible refine tokP_in ?_; intro htk'; (try dsimp only))
  k_with "call builtin:str.replace" => (refine replace_rule w (by assumption) (by assumption) (by assumption) (by (show @Ne Nat _ _); omega) (by (show @Ne Nat _ _); omega) (by (show @Ne Nat _ _); omega) (by omega) (by omega) ?_; intro _ _)
  k_with "eval Name" => (refine ld (by assumption) (by assumption) ?_ (by assumption) (by assumption) (by decide))
  k_with "storeName" => (refine stN (by assumption) (by assumption) ?_ (by assumption) (by assumption); intro h' F' N')
  k_with "eval Call Attribute" => (refine MethodCall_ ?_ (meth_he (by assumption)))
  k_with "exec If" => (k_dflt (refine esc_if w (by assumption) (by assumption) (by first | assumption | exact rfl) (by first | assumption | omega) (by first | exact s_amp | exact s_lt | exact s_gt | exact s_quot | exact s_cr | exact s_lf | exact s_tab) (by first | exact r_amp | exact r_lt | exact r_gt | exact r_quot | exact r_cr | exact r_lf | exact r_tab | exact r_xd | exact r_xa | exact r_x9) (by decide +kernel) (by assumption) (by decide) (by decide) rfl rfl rfl ?_); intro h' t' tk' m' F' N' hm' hb'; (try dsimp only))
  k_with "eval Name" => (k_dflt (refine ld (by assumption) (by assumption) ?_ (by rfl) (by rfl) (by decide)))
  k_steps
  exact hret _ _ _ (by with_reducible rename Fr _ _ _ _ => F2; exact F2.keep) ⟨_, rfl⟩ (by first | assumption | omega)
theorem esc2_ct (l : List Nat) (t : Tok) (hl : l.length ≤ 5) : Ct w mean mg mb (call (.ref 159) [.str (tx l) t]) (fun _ => True) (fun _ _ v => ∃ t, v = .str (tx (esc2 l)) t) := by
  dsimp only [Ct]; k_fill; w_top off; intros; rename_i hret
  refine wpAny_call ?_
  k_enter
  k_with_none
  k_with "execs cons" => (k_here; with_reducible refine execs_pos (by first | assumption | omega) ?_; intro tk' htk'; (try dsimp only))
  k_with "TokP" => (with_reducible refine tokP_in ?_; intro htk'; (try dsimp only))
  k_with "call builtin:str.replace" => (refine replace_rule w (by assumption) (by assumption) (by assumption) (by (show @Ne Nat _ _); omega) (by (show @Ne Nat _ _); omega) (by (show @Ne Nat _ _); omega) (by omega) (by omega) ?_; intro _ _)
  k_with "eval Name" => (refine ld (by assumption) (by assumption) ?_ (by assumption) (by assumption) (by decide))
  k_with "storeName" => (refine stN (by assumption) (by assumption) ?_ (by assumption) (by assumption); intro h' F' N')
  k_with "eval Call Attribute" => (refine MethodCall_ ?_ (meth_he (by assumption)))
  k_with "exec If" => (k_dflt (refine esc_if w (by assumption) (by assumption) (by first | assumption | exact rfl) (by first | assumption | omega) (by first | exact s_amp | exact s_lt | exact s_gt | exact s_quot | exact s_cr | exact s_lf | exact s_tab) (by first | exact r_amp | exact r_lt | exact r_gt | exact r_quot | exact r_cr | exact r_lf | exact r_tab | exact r_xd | exact r_xa | exact r_x9) (by decide +kernel) (by assumption) (by decide) (by decide) rfl rfl rfl ?_); intro h' t' tk' m' F' N' hm' hb'; (try dsimp only))
  k_with "eval Name" => (k_dflt (refine ld (by assumption) (by assumption) ?_ (by rfl) (by rfl) (by decide)))
  k_steps
  exact hret _ _ _ (by with_reducible rename Fr _ _ _ _ => F2; exact F2.keep) ⟨_, rfl⟩ (by first | assumption | omega)
theorem esc3_ct (l : List Nat) (t : Tok) (hl : l.length ≤ 5) : Ct w mean mg mb (call (.ref 166) [.str (tx l) t]) (fun _ => True) (fun _ _ v => ∃ t, v = .str (tx (esc3 l)) t) := by
  dsimp only [Ct]; k_fill; w_top off; intros; rename_i hret
  refine wpAny_call ?_
  k_enter
  k_with_none
  k_with "execs cons" => (k_here; with_reducible refine execs_pos (by first | assumption | omega) ?_; intro tk' htk'; (try dsimp only))
  k_with "TokP" => (with_reducible refine tokP_in ?_; intro htk'; (try dsimp only))
  k_with "call builtin:str.replace" => (refine replace_rule w (by assumption) (by assumption) (by assumption) (by (show @Ne Nat _ _); omega) (by (show @Ne Nat _ _); omega) (by (show @Ne Nat _ _); omega) (by omega) (by omega) ?_; intro _ _)
  k_with "eval Name" => (refine ld (by assumption) (by assumption) ?_ (by assumption) (by assumption) (by decide))
  k_with "storeName" => (refine stN (by assumption) (by assumption) ?_ (by assumption) (by assumption); intro h' F' N')
  k_with "eval Call Attribute" => (refine MethodCall_ ?_ (meth_he (by assumption)))
  k_with "exec If" => (k_dflt (refine esc_if w (by assumption) (by assumption) (by first | assumption | exact rfl) (by first | assumption | omega) (by first | exact s_amp | exact s_lt | exact s_gt | exact s_quot | exact s_cr | exact s_lf | exact s_tab) (by first | exact r_amp | exact r_lt | exact r_gt | exact r_quot | exact r_cr | exact r_lf | exact r_tab | exact r_xd | exact r_xa | exact r_x9) (by decide +kernel) (by assumption) (by decide) (by decide) rfl rfl rfl ?_); intro h' t' tk' m' F' N' hm' hb'; (try dsimp only))
  k_with "eval Name" => (k_dflt (refine ld (by assumption) (by assumption) ?_ (by rfl) (by rfl) (by decide)))
  k_steps
  exact hret _ _ _ (by with_reducible rename Fr _ _ _ _ => F2; exact F2.keep) ⟨_, rfl⟩ (by first | assumption | omega)
theorem esc4_ct (l : List Nat) (t : Tok) (hl : l.length ≤ 5) : Ct w mean mg mb (call (.ref 173) [.str (tx l) t]) (fun _ => True) (fun _ _ v => ∃ t, v = .str (tx (esc4 l)) t) := by
  dsimp only [Ct]; k_fill; w_top off; intros; rename_i hret
  refine wpAny_call ?_
  k_enter
  k_with_none
  k_with "execs cons" => (k_here; with_reducible refine execs_pos (by first | assumption | omega) ?_; intro tk' htk'; (try dsimp only))
  k_with "TokP" => (with_reducible refine tokP_in ?_; intro htk'; (try dsimp only))
  k_with "call builtin:str.replace" => (refine replace_rule w (by assumption) (by assumption) (by assumption) (by (show @Ne Nat _ _); omega) (by (show @Ne Nat _ _); omega) (by (show @Ne Nat _ _); omega) (by omega) (by omega) ?_; intro _ _)
  k_with "eval Name" => (refine ld (by assumption) (by assumption) ?_ (by assumption) (by assumption) (by decide))
  k_with "storeName" => (refine stN (by assumption) (by assumption) ?_ (by assumption) (by assumption); intro h' F' N')
  k_with "eval Call Attribute" => (refine MethodCall_ ?_ (meth_he (by assumption)))
  k_with "exec If" => (k_dflt (refine esc_if w (by assumption) (by assumption) (by first | assumption | exact rfl) (by first | assumption | omega) (by first | exact s_amp | exact s_lt | exact s_gt | exact s_quot | exact s_cr | exact s_lf | exact s_tab) (by first | exact r_amp | exact r_lt | exact r_gt | exact r_quot | exact r_cr | exact r_lf | exact r_tab | exact r_xd | exact r_xa | exact r_x9) (by decide +kernel) (by assumption) (by decide) (by decide) rfl rfl rfl ?_); intro h' t' tk' m' F' N' hm' hb'; (try dsimp only))
  k_with "eval Name" => (k_dflt (refine ld (by assumption) (by assumption) ?_ (by rfl) (by rfl) (by decide)))
  k_steps
  exact hret _ _ _ (by with_reducible rename Fr _ _ _ _ => F2; exact F2.keep) ⟨_, rfl⟩ (by first | assumption | omega)
end
/-! P7 -/
section
open PySem.Spec PySem.Calls
variable (w : World) (mean : ExcName → Option Value) (mg mb : PySem.Str → Option Value)
theorem pins4 {h₀ h : Heap} {L : Addr} {m : PySem.Str → Option Value} {x1 x2 x3 x4 : PySem.Str} {v1 v2 v3 v4 : Value} (F : Fr h₀ L h m) (h1 : m x1 = some v1) (h2 : m x2 = some v2) (h3 : m x3 = some v3) (h4 : m x4 = some v4) :
    Fr h₀ L h (fun y => if y = x1 then some v1 else if y = x2 then some v2 else if y = x3 then some v3 else if y = x4 then some v4 else m y) := by
  have e : (fun y => if y = x1 then some v1 else if y = x2 then some v2 else if y = x3 then some v3 else if y = x4 then some v4 else m y) = m := by
    funext y
    (repeat' split) <;> simp_all
  rw [e]; exact F
theorem s03 (R : List Nat) : Txt.slice (tx ([50,53,55,32,34] ++ R)) none (some 3) = PySem.Str.ofString "257" := by
  have e := slice_to ([50,53,55,32,34] ++ R) 3 (by simp)
  exact e.trans (by show tx [50,53,55] = _; decide +kernel)
theorem s35 (R : List Nat) : Txt.slice (tx ([50,53,55,32,34] ++ R)) (some 3) (some 5) = PySem.Str.ofString " \"" := by
  have e := slice_ft ([50,53,55,32,34] ++ R) 3 5 (by decide) (by simp)
  exact e.trans (by show tx [32,34] = _; decide +kernel)
def PJ (x : PySem.Str) (R res : List Nat) (n : Nat) (m : PySem.Str → Option Value) (nx : List (Addr × Obj)) : Prop :=
  nx = [] ∧ ∃ (a d S : List Nat) (t1 t2 t3 t4 : Tok), S.length = n ∧ R = a ++ S ∧ d ++ pq S = res ∧ d.length ≤ a.length ∧ m (PySem.Str.ofString "i") = some (.int (a.length : Int) t1) ∧ m (PySem.Str.ofString "n") = some (.int (R.length : Int) t2) ∧
    m (PySem.Str.ofString "resp") = some (.str x t3) ∧ m (PySem.Str.ofString "dirname") = some (.str (tx d) t4)
theorem PJ_mk {x : PySem.Str} {R res a d S : List Nat} {n : Nat} {m : PySem.Str → Option Value} (e1 : S.length = n) (e2 : R = a ++ S) (e3 : d ++ pq S = res) (e4 : d.length ≤ a.length) {k1 k2 : Int} {y : PySem.Str} {t1 t2 t3 t4 : Tok} (h1 : m (PySem.Str.ofString "i") = some (.int k1 t1)) (h2 : m (PySem.Str.ofString "n") = some (.int k2 t2))
    (h3 : m (PySem.Str.ofString "resp") = some (.str x t3)) (h4 : m (PySem.Str.ofString "dirname") = some (.str y t4)) (q1 : k1 = (a.length : Int)) (q2 : k2 = (R.length : Int)) (q4 : y = tx d) : PJ x R res n m [] := by
  subst q1 q2 q4
  exact ⟨rfl, a, d, S, t1, t2, t3, t4, e1, e2, e3, e4, h1, h2, h3, h4⟩
section
variable {prog : Program} {A : Around} {Q : Flow → Shared → Prop} {s : Shared} {env : Env} {h₀ : Heap} {L : Addr}
theorem while_p {x : PySem.Str} {R : List Nat} {test : Expr} {body : List Stmt} {pos : Pos} {m : PySem.Str → Option Value} (he : x = tx ([50,53,55,32,34] ++ R)) (F : Fr h₀ L s.heap m) (N : News h₀ L s.heap [])
    (hJ : PJ x ([50,53,55,32,34] ++ R) (pq R) R.length m [])
    (turn : ∀ n m₁ h₁ tk₁, Fr h₀ L h₁ m₁ → News h₀ L h₁ [] → PJ x ([50,53,55,32,34] ++ R) (pq R) n m₁ [] →
      wpAny (model prog w) A (isTrue test env (eval test env)) (fun b s₂ =>
        if b = true then wpAny (model prog w) A (execs body env) (WhileStep2 h₀ L s (PJ x ([50,53,55,32,34] ++ R) (pq R)) Q n) (fun _ _ => False) s₂ else Q .next s₂) (fun _ _ => False) { s with heap := h₁, toks := tk₁ }) :
    wpAny (model prog w) A (exec (.While test body [] pos) env) Q (fun _ _ => False) s :=
  While_inv2 (PJ x ([50,53,55,32,34] ++ R) (pq R)) F N hJ (fun n m₁ nx h₁ tk₁ F₁ N₁ J₁ => by
    obtain rfl := J₁.1
    exact turn n m₁ h₁ tk₁ F₁ N₁ J₁) PassesOwn.never
end
theorem tx_post {l l' : List Nat} {t : Tok} (e : l = l') : ∃ u, Value.str (tx l) t = Value.str (tx l') u := ⟨t, by rw [e]⟩
theorem tx1_eq {c : Nat} (h : (tx [c] == PySem.Str.ofString "\"") = true) : c = 34 := by
  rw [ofString_dq] at h
  have e := tx_inj (eq_of_beq h)
  simpa using e
theorem tx1_ne {c : Nat} (h : (tx [c] == PySem.Str.ofString "\"") = false) : c ≠ 34 := by
  rintro rfl
  exact absurd h (by decide +kernel)
theorem tx1_ne' {c : Nat} (h : (tx [c] != PySem.Str.ofString "\"") = true) : c ≠ 34 := by
  rintro rfl
  exact absurd h (by decide +kernel)
theorem tx1_eq' {c : Nat} (h : (tx [c] != PySem.Str.ofString "\"") = false) : c = 34 := by
  rw [ofString_dq] at h
  have q : tx [c] = tx [34] := bne_eq_false_iff_eq.mp h
  simpa using tx_inj q
theorem p257_ct (x : PySem.Str) (R : List Nat) (t : Tok)  (hx : x.length ≤ 1048576) (he : x = tx ([50,53,55,32,34] ++ R)) : Ct w mean mg mb (call (.ref 53) [.str x t]) (fun _ => True) (fun _ _ v => ∃ t, v = .str (tx (pq R)) t) := by
  dsimp only [Ct]; k_fill; w_top off; intros
  rename_i hret
  refine wpAny_call ?_
  k_enter
  k_with_none
  k_with "execs cons" => (k_here; with_reducible refine execs_pos (by first | assumption | omega) ?_; intro tk' htk'; (try dsimp only))
  k_with "TokP" => (with_reducible refine tokP_in ?_; intro htk'; (try dsimp only))
  k_with "exec While Compare cons nil" => (with_reducible refine stopG ?_)
  k_with "binaryOp Add str str" => (k_dflt (refine SB.add ?_ ?hsz); (case hsz => (rw [sizeLine_eq]; omega)); intro _ _)
  k_steps
  · exfalso
    rename (Txt.slice x none (some 3) != _) = true => hq
    rw [he, s03] at hq
    exact absurd hq (by decide +kernel)
  · exfalso
    rename (Txt.slice x (some 3) (some 5) != _) = true => hq
    rw [he, s35] at hq
    exact absurd hq (by decide +kernel)
  · unfold StopG
    have hxl : x.length = R.length + 5 := by rw [he, tx_len]; simp
    refine while_p w (by assumption) (by assumption) (by assumption) (PJ_mk (a := [50,53,55,32,34]) (d := []) rfl rfl rfl (by decide) rfl rfl rfl rfl rfl (by rw [hxl]; simp; omega) (by decide +kernel)) ?turn
    intro n m₁ h₁ tk₁ F₁ N₁ J₁
    obtain ⟨_, a, d, S, t1, t2, t3, t4, hn, hR, hd, hda, mi, mn, mr, md⟩ := J₁
    have F₂ := pins4 F₁ mi mn mr md
    clear F₁ mi mn mr md
    have hRl : R.length + 5 = a.length + S.length := by have := congrArg List.length hR; simp at this; omega
    obtain ⟨N, hN⟩ : ∃ N : Int, N = (([50,53,55,32,34] ++ R).length : Int) := ⟨_, rfl⟩
    rw [← hN] at F₂
    have hN' : N = (a.length : Int) + (S.length : Int) := by rw [hN]; simp; omega
    have hdl : (tx d).length ≤ 1048576 := by rw [tx_len]; omega
    have hxN : (x.length : Int) = N := by omega
    rw [hR] at he
    cases S with
    | nil =>
      simp only [List.length_nil] at hN' hRl
      k_steps
      refine hret _ _ _ (by with_reducible rename Fr _ _ _ _ => F3; exact F3.keep) (tx_post ?_) (by assumption)
      rw [← hd]; simp [pq]
    | cons c S =>
      have hi1 : Txt.item x (a.length : Int) = tx [c] := by rw [he]; exact item_at a c S
      cases S with
      | nil =>
        simp only [List.length_cons, List.length_nil] at hN' hRl
        k_steps
        · unfold WhileStep2
          k_steps
          rename (Txt.item x _ == _) = true => hc
          rw [hi1] at hc
          refine hret _ _ _ (by with_reducible rename Fr _ _ _ _ => F3; exact F3.keep) (tx_post ?_) (by assumption)
          rw [← hd, tx1_eq hc]; simp [pq]
        · rename (Txt.item x _ == _) = false => hc
          rw [hi1] at hc
          with_reducible rename Fr _ _ _ _ => F3
          with_reducible rename News _ _ _ _ => N3
          refine ⟨_, _, _, [], 0, rfl, F3, N3, by rw [← hn]; simp, PJ_mk (a := a ++ [c]) (d := d ++ [c]) (S := []) rfl (by rw [hR]; simp) ?_ (by simp; omega) rfl rfl rfl rfl (by simp) hN ?_⟩
          · rw [← hd, pq_other _ _ (tx1_ne hc)]; simp
          · rw [hi1, tx_append]
      | cons e S =>
        simp only [List.length_cons] at hN' hRl
        have hi2 : Txt.item x ((a.length : Int) + 1) = tx [e] := by
          have q := item_at (a ++ [c]) e S
          rw [List.append_assoc] at q
          simp only [List.length_append, List.length_cons, List.length_nil, List.cons_append, List.nil_append] at q
          rw [he]; exact q
        k_steps
        · unfold WhileStep2
          k_steps
          rename (Txt.item x _ != _) = true => he2
          rename (Txt.item x _ == _) = true => hc
          rw [hi1] at hc
          rw [hi2] at he2
          refine hret _ _ _ (by with_reducible rename Fr _ _ _ _ => F3; exact F3.keep) (tx_post ?_) (by assumption)
          rw [← hd, tx1_eq hc, pq_end]
          · simp
          · intro d' t' h'; cases h'; exact tx1_ne' he2
        · rename (Txt.item x _ == _) = true => hc
          rename (Txt.item x _ != _) = false => he2
          rw [hi1] at hc
          rw [hi2] at he2
          with_reducible rename Fr _ _ _ _ => F3
          with_reducible rename News _ _ _ _ => N3
          refine ⟨_, _, _, [], S.length, rfl, F3, N3, by rw [← hn]; simp only [List.length_cons]; omega, PJ_mk (a := a ++ [c, e]) (d := d ++ [c]) (S := S) rfl (by rw [hR]; simp) ?_ (by simp; omega) rfl rfl rfl rfl (by simp; omega) hN ?_⟩
          · rw [← hd, tx1_eq hc, tx1_eq' he2, pq_dq]; simp
          · rw [hi1, tx_append]
        · rename (Txt.item x _ == _) = false => hc
          rw [hi1] at hc
          with_reducible rename Fr _ _ _ _ => F3
          with_reducible rename News _ _ _ _ => N3
          refine ⟨_, _, _, [], S.length + 1, rfl, F3, N3, by rw [← hn]; simp, PJ_mk (a := a ++ [c]) (d := d ++ [c]) (S := e :: S) rfl (by rw [hR]; simp) ?_ (by simp; omega) rfl rfl rfl rfl (by simp) hN ?_⟩
          · rw [← hd, pq_other _ _ (tx1_ne hc)]; simp
          · rw [hi1, tx_append]
end
end
/-! Fi -/
section
open PySem.Spec PySem.Calls
theorem owner_filter : Manifest.owners.lookup (String.ofList ['r', 'e', 't', 'l', 'i', 'f'].reverse) = some Manifest.sig_filter := by kernel_rfl
theorem slot_filter_init : Slot "filter" "__init__" "object.__init__" :=
  .of (owner := "object") (n := "__init__") (by rw [typeLookup_type, builtinLookup_eq_fast]; kernel_rfl) (by decide +kernel) (by decide +kernel) (by decide +kernel)
    (by first | exact .inl (by decide +kernel) | exact .inr (by decide +kernel)) (by rw [isSubtype_type]; kernel_rfl)
theorem slot_filter_iter : Slot "filter" "__iter__" "filter.__iter__" :=
  .of (owner := "filter") (n := "__iter__") (by rw [typeLookup_type, builtinLookup_eq_fast]; kernel_rfl) (by decide +kernel) (by decide +kernel) (by decide +kernel)
    (by first | exact .inl (by decide +kernel) | exact .inr (by decide +kernel)) (by rw [isSubtype_type]; kernel_rfl)
theorem slot_filter_next : Slot "filter" "__next__" "filter.__next__" :=
  .of (owner := "filter") (n := "__next__") (by rw [typeLookup_type, builtinLookup_eq_fast]; kernel_rfl) (by decide +kernel) (by decide +kernel) (by decide +kernel)
    (by first | exact .inl (by decide +kernel) | exact .inr (by decide +kernel)) (by rw [isSubtype_type]; kernel_rfl)
theorem args_filter_iter_1 (a : Value) : argsOk "filter.__iter__" ⟨[a], []⟩ := by
  unfold argsOk; rw [signature?_of (id := "filter.__iter__") (n := ['_', '_', 'r', 'e', 't', 'i', '_', '_']) (o := ['r', 'e', 't', 'l', 'i', 'f']) (by kernel_rfl) owner_filter]; kernel_rfl
theorem args_filter_next_1 (a : Value) : argsOk "filter.__next__" ⟨[a], []⟩ := by
  unfold argsOk; rw [signature?_of (id := "filter.__next__") (n := ['_', '_', 't', 'x', 'e', 'n', '_', '_']) (o := ['r', 'e', 't', 'l', 'i', 'f']) (by kernel_rfl) owner_filter]; kernel_rfl
theorem entry_filter_iter : entryFor table "filter.__iter__" = some Builtin.«dict_keyiterator.__iter__» :=
  entryFor_alias (id' := "dict_keyiterator.__iter__") (by kernel_rfl) (by first | rfl | decide +kernel | (unfold String.splitOn; simp +decide [String.splitOnAux])) (by decide +kernel) (by kernel_rfl)
theorem entry_filter_next : entryFor table "filter.__next__" = some Builtin.«filter.__next__» := entryFor_of_tree (by kernel_rfl)
theorem entry_filter_new : entryFor table "filter.__new__" = some Builtin.«filter.__new__» := entryFor_of_tree (by kernel_rfl)
theorem mro_filter : mroOf (.type "filter") = pure [.type "filter", .type "object"] := by rw [mroOf_type]; kernel_rfl
theorem lookup_filter_new : typeLookup (.type "filter") "__new__" = pure (some (.builtin "filter.__new__")) := by rw [typeLookup_type, builtinLookup_eq_fast]; kernel_rfl
theorem called_filter : TypeCalled "filter" "filter.__new__" "object.__init__" :=
  ⟨by decide +kernel, by decide +kernel, ⟨_, _, mro_filter⟩, madeBy_type mro_filter lookup_filter_new (by decide +kernel), by decide +kernel, by rw [isSubtype_type]; kernel_rfl, slot_filter_init⟩
theorem typeCall_filter_2 (a b : Value) : checkTypeCall "filter" ⟨[a, b], []⟩ = pure () := by kernel_rfl
theorem newCall_filter_2 (a b : Value) : checkBuiltinCall "filter.__new__" ⟨[.type "filter", a, b], []⟩ = pure () := by kernel_rfl
theorem plain_filter_next : plainId "filter.__next__" = true := by decide +kernel
theorem plain_filter_new : plainId "filter.__new__" = true := by decide +kernel
end
/-! Fi2 -/
section
open PySem.Spec PySem.Calls
abbrev filtObj (I : Addr) : Obj := { cls := .type "filter", data := .fields #[.none, .ref I] }
abbrev valIt (d : Addr) (i n ep : Nat) : Obj := { cls := .type "dict_valueiterator", data := .fields #[.ref d, .int i 0, .int n 0, .int ep 0] }
theorem sub_filter : isSubtype (.type "filter") (.type "filter") = pure true := by rw [isSubtype_type]; kernel_rfl
section
variable {prog : Program} {w : World} {K : Type} [DecidableEq K] {knd : KeyKind prog w K} {A : Around} {E : Value → Shared → Prop} {s : Shared}
theorem call_entryA {T : String} {name : PySem.Str} {id : String} {b : Builtin} {self : Value} {rest : List Value} {R : Result → Shared → Prop} (h : Slot T name id) (hT : s.TypeIs self T) (hb : entryFor table id = some b)
    (hc : wpAny (model prog w) A.in1 (b ⟨self :: rest, []⟩) (fun fin s' => match fin with | .done f => R (.ok f) s' | .again c' => c'.quiet = true ∧ codeAny (model prog w) A c' R s') (fun e s' => R (.error e) s') s)
    (ha : argsOk id ⟨self :: rest, []⟩) : codeAny (model prog w) A (.call (.builtin id) ⟨self :: rest, []⟩) R s :=
  codeAny_call_builtin h.plain hb (h.check _ _ _ _ _ _ _ _ hT ha hc)

theorem valnext_item {it d : Addr} {i ep : Nat} {kvs : List (K × Value)} {k : K} {v : Value} {Q : Value → Shared → Prop} (hit : s.heap.IsValIter it d i kvs.length ep)
    (hm : s.heap.DictAt knd d kvs ep) (hx : kvs[i]? = some (k, v))
    (hQ : ∀ h', h'.IsValIter it d (i + 1) kvs.length ep → Heap.SameBut it s.heap h' → Q v { s with heap := h' }) :
    wpAny (model prog w) A (call (.builtin "dict_valueiterator.__next__") [.ref it]) Q E s := by
  obtain ⟨o, ho, hc, hd⟩ := id hit
  obtain ⟨od, es, hod, hcd, hdd, hk, hp, hn⟩ := id hm
  refine wpAny_call_entry PySem.F.slot_dict_valueiterator_next hit.typeIs PySem.F.entry_dict_valueiterator_next ?_ (PySem.F.args_dict_valueiterator_next_1 _)
  refine wpAny_bind (wpAny_pure ?_)
  refine wpAny_bind ?_
  refine wpAny_bind ?_
  first | refine wpAny_bind (wpAny_typeNameOfWhole_valiter hit.typeIs (wpAny_pure ?_)) | refine wpAny_bind (wpAny_typeNameOf_valiter hit.typeIs (wpAny_pure ?_))
  refine wpAny_bind (wpAny_fieldsOf ho hd ?_)
  have hown : Builtin.Dict_items.ownsTuple "dict_valueiterator" = false := by decide
  simp only [hown, Bool.false_eq_true, if_false]
  show wpAny _ _ (if (Value.ref d == Value.none) = true then _ else _) _ _ s
  rw [if_neg (show ¬ ((Value.ref d == Value.none) = true) from Bool.false_ne_true)]
  refine wpAny_bind (wpAny_pure ?_)
  refine wpAny_bind (wpAny_dictEntries hod hdd ?_)
  have hsz : es.size = kvs.length := by rw [← hp.length]; simp
  rw [if_neg (by rw [hsz]; simp)]
  refine wpAny_bind (wpAny_pure ?_)
  refine wpAny_bind (wpAny_dictEpoch hod hdd ?_)
  rw [if_neg (by simp)]
  refine wpAny_pure ?_
  have hlt : i < kvs.length := by
    rcases Nat.lt_or_ge i kvs.length with h | h
    · exact h
    · simp [List.getElem?_eq_none h] at hx
  have hlt' : i < es.size := by rw [hsz]; exact hlt
  have hval : es[i].val = v := (hp.get? (e := es[i]) (by simp [hlt']) hx).2
  simp only [show ¬ ((i : Int) < 0) from by omega, if_false, Int.toNat_natCast, Array.getElem?_eq_getElem hlt']
  refine wpAny_bind ?_
  first | refine wpAny_bind (wpAny_typeNameOfWhole_valiter hit.typeIs (wpAny_pure ?_)) | refine wpAny_bind (wpAny_typeNameOf_valiter hit.typeIs (wpAny_pure ?_))
  refine wpAny_bind (wpAny_isOneOf_valiter hit.typeIs ?_)
  show wpAny _ _ (setField (.ref it) 1 (rawInt ((i : Int) + 1)) >>= _) _ _ s
  refine wpAny_bind (wpAny_setField ho hd (by simp) ?_)
  have hit' : (s.heap.update it (Obj.mapFields (·.setIfInBounds 1 (rawInt ((i : Int) + 1))))).IsValIter it d (i + 1) kvs.length ep :=
    ⟨_, Heap.get?_update_self _ ho (Obj.isFreed_of_fields (Obj.data_mapFields hd _)), (Obj.cls_mapFields ..).trans hc, by rw [Obj.data_mapFields hd]; simp [rawInt]⟩
  refine wpAny_bind (wpAny_holding ?_)
  refine wpAny_bind (wpAny_isOneOf_valiter (s := { s with heap := s.heap.update it (Obj.mapFields (·.setIfInBounds 1 (rawInt ((i : Int) + 1)))) }) hit'.typeIs ?_)
  refine wpAny_bind (wpAny_isOneOf_valiter (s := { s with heap := s.heap.update it (Obj.mapFields (·.setIfInBounds 1 (rawInt ((i : Int) + 1)))) }) hit'.typeIs ?_)
  show wpAny _ _ (pure es[i].val) _ _ _
  exact wpAny_pure (wpAny_pure ⟨_, rfl, hval ▸ hQ _ hit' (Heap.SameBut.update ..)⟩)

theorem valnext_end {it d : Addr} {i ep : Nat} {kvs : List (K × Value)} {Q : Value → Shared → Prop} (hh : A.handled = none) (hit : s.heap.IsValIter it d i kvs.length ep)
    (hm : s.heap.DictAt knd d kvs ep) (hx : kvs[i]? = none)
    (hQ : ∀ h' ex, Heap.ExtBut it s.heap h' → ({ s with heap := h' } : Shared).TypeIs (.ref ex) "StopIteration" → E (.ref ex) { s with heap := h' }) : wpAny (model prog w) A (call (.builtin "dict_valueiterator.__next__") [.ref it]) Q E s := by
  obtain ⟨o, ho, hc, hd⟩ := id hit
  obtain ⟨od, es, hod, hcd, hdd, hk, hp, hn⟩ := id hm
  refine wpAny_call_entry PySem.F.slot_dict_valueiterator_next hit.typeIs PySem.F.entry_dict_valueiterator_next ?_ (PySem.F.args_dict_valueiterator_next_1 _)
  refine wpAny_bind (wpAny_pure ?_)
  refine wpAny_bind ?_
  refine wpAny_bind ?_
  first | refine wpAny_bind (wpAny_typeNameOfWhole_valiter hit.typeIs (wpAny_pure ?_)) | refine wpAny_bind (wpAny_typeNameOf_valiter hit.typeIs (wpAny_pure ?_))
  refine wpAny_bind (wpAny_fieldsOf ho hd ?_)
  have hown : Builtin.Dict_items.ownsTuple "dict_valueiterator" = false := by decide
  simp only [hown, Bool.false_eq_true, if_false]
  show wpAny _ _ (if (Value.ref d == Value.none) = true then _ else _) _ _ s
  rw [if_neg (show ¬ ((Value.ref d == Value.none) = true) from Bool.false_ne_true)]
  refine wpAny_bind (wpAny_pure ?_)
  refine wpAny_bind (wpAny_dictEntries hod hdd ?_)
  have hsz : es.size = kvs.length := by rw [← hp.length]; simp
  rw [if_neg (by rw [hsz]; simp)]
  refine wpAny_bind (wpAny_pure ?_)
  refine wpAny_bind (wpAny_dictEpoch hod hdd ?_)
  rw [if_neg (by simp)]
  refine wpAny_pure ?_
  have hge : es.size ≤ i := by rw [hsz]; simpa using hx
  simp only [show ¬ ((i : Int) < 0) from by omega, if_false, Int.toNat_natCast, Array.getElem?_eq_none hge]
  refine wpAny_bind ?_
  first | refine wpAny_bind (wpAny_typeNameOfWhole_valiter hit.typeIs (wpAny_pure ?_)) | refine wpAny_bind (wpAny_typeNameOf_valiter hit.typeIs (wpAny_pure ?_))
  show wpAny _ _ (setField (.ref it) 0 .none >>= _) _ _ s
  refine wpAny_bind (wpAny_setField ho hd (by simp) ?_)
  show wpAny _ _ (newExc (.type "StopIteration") [] >>= _) _ _ _
  refine wpAny_bind ?_
  simp only [newExc, newTuple]
  refine wpAny_bind (wpAny_newObj_type ?_ (by size_fits))
  refine wpAny_bind (m := firstArgMember _ _) (wpAny_of_eq (a := Value.none) (by first | rfl | (simp only [firstArgMember]; rfl)) ?_)
  refine wpAny_newObj_type ?_ (by size_fits)
  simp only [raiseNew]
  refine wpAny_bind (wpAny_handled ?_)
  rw [show A.in1.handled = none from hh]
  refine wpAny_bind (wpAny_pure (wpAny_throw ?_))
  exact hQ _ _ (((Heap.SameBut.update ..).extBut.push _).push _) ⟨_, Heap.get?_push_size _ rfl, rfl⟩

/-- one step of filter(None, values) -/
theorem filt_body {z it d : Addr} {n ep : Nat} {kvs : List (K × Value)} {b : Value → Bool} {R : Result → Shared → Prop} (hh : A.handled = none) (hn : n = kvs.length) (hzi : z ≠ it) (hdi : d ≠ it) :
    ∀ (j i : Nat) (vs : List Value) (s : Shared), kvs.length - i = j → ((kvs.drop i).map (·.2)).filter b = vs → s.heap.get? z = some (filtObj it) → s.heap.IsValIter it d i n ep → s.heap.DictAt knd d kvs ep →
      (∀ v ∈ kvs.map (·.2), ∀ (A' : Around) (s' : Shared) (Q : Bool → Shared → Prop) (E' : Value → Shared → Prop), Heap.ExtBut it s.heap s'.heap → Q (b v) s' → wpAny (model prog w) A' (truthy v) Q E' s') →
      (vs = [] → ∀ h' ex, Heap.ExtBut it s.heap h' → ({ s with heap := h' } : Shared).TypeIs (.ref ex) "StopIteration" → R (.error (.ref ex)) { s with heap := h' }) →
      (∀ v vs', vs = v :: vs' → ∀ h' i', h'.IsValIter it d i' n ep → ((kvs.drop i').map (·.2)).filter b = vs' → Heap.ExtBut it s.heap h' → R (.ok (.ret v)) { s with heap := h' }) →
      wpAny (model prog w) A.in1 (Builtin.«filter.__next__» ⟨[.ref z], []⟩) (fun fin s' => match fin with | .done f => R (.ok f) s' | .again c' => c'.quiet = true ∧ codeAny (model prog w) A c' R s') (fun e s' => R (.error e) s') s := by
  subst hn
  intro j
  induction j with
  | zero =>
    intro i vs s hj hvs hz hit hm ht h0 h1
    have hge : kvs.length ≤ i := by omega
    have hd0 : kvs.drop i = [] := List.drop_eq_nil_of_le hge
    rw [hd0] at hvs
    unfold Builtin.«filter.__next__»
    refine wpAny_bind (wpAny_pure ?_)
    show wpAny _ _ (field (.ref z) 0 >>= _) _ _ s
    refine wpAny_bind (wpAny_field hz rfl (x := .none) rfl ?_)
    refine wpAny_bind (wpAny_field hz rfl (x := .ref it) rfl ?_)
    refine wpAny_bind (wpAny_callSpecial?_slot (name := PySem.Str.ofString "__next__") hit.typeIs PySem.F.slot_dict_valueiterator_next (valnext_end hh hit hm (List.getElem?_eq_none hge) ?_))
    intro h' ex hx hT
    exact h0 hvs.symm h' ex hx hT
  | succ j ih =>
    intro i vs s hj hvs hz hit hm ht h0 h1
    have hlt : i < kvs.length := by omega
    obtain ⟨⟨k, v⟩, hkv⟩ : ∃ p, kvs[i]? = some p := ⟨kvs[i], List.getElem?_eq_getElem hlt⟩
    have hdr : kvs.drop i = (k, v) :: kvs.drop (i + 1) := by
      rw [List.drop_eq_getElem_cons hlt]
      rw [List.getElem?_eq_getElem hlt] at hkv
      rw [Option.some.inj hkv]
    have hvm : v ∈ kvs.map (·.2) := List.mem_map.mpr ⟨(k, v), List.mem_of_getElem? hkv, rfl⟩
    rw [hdr, List.map_cons] at hvs
    unfold Builtin.«filter.__next__»
    refine wpAny_bind (wpAny_pure ?_)
    show wpAny _ _ (field (.ref z) 0 >>= _) _ _ s
    refine wpAny_bind (wpAny_field hz rfl (x := .none) rfl ?_)
    refine wpAny_bind (wpAny_field hz rfl (x := .ref it) rfl ?_)
    refine wpAny_bind (wpAny_callSpecial?_slot (name := PySem.Str.ofString "__next__") hit.typeIs PySem.F.slot_dict_valueiterator_next (valnext_item hit hm hkv ?_))
    intro h' hit' hs'
    have hz' : h'.get? z = some (filtObj it) := (hs'.2 _ hzi).trans hz
    have hm' : h'.DictAt knd d kvs ep := by
      obtain ⟨od, es, hod, r⟩ := hm
      exact ⟨od, es, (hs'.2 _ hdi).trans hod, r⟩
    show wpAny _ _ (holding [v] _ >>= _) _ _ _
    refine wpAny_bind (wpAny_holding ?_)
    rw [if_pos (by rfl)]
    refine wpAny_bind (wpAny_rule ?_)
    refine ht v hvm _ { s with heap := h' } _ _ hs'.extBut ?_
    cases hb : b v with
    | false =>
      have hvs' : ((kvs.drop (i + 1)).map (·.2)).filter b = vs := by rw [← hvs, List.filter_cons_of_neg (by simp [hb])]
      rw [if_neg Bool.false_ne_true]
      refine wpAny_pure ⟨plainId_quiet plain_filter_next _, ?_⟩
      refine codeAny_builtin entry_filter_next ?_
      rw [Around.under_plainId plain_filter_next _]
      refine ih (i + 1) vs { s with heap := h' } (by omega) hvs' hz' hit' hm' (fun v' hv' A' s' Q E' hx q => ht v' hv' A' s' Q E' (fun a o ha e => hx a o ha (hs'.extBut a o ha e)) q) (fun e h'' ex hx hT => ?_) (fun v' vs' e h'' i' hi' hf hx => ?_)
      · exact h0 e h'' ex (fun a o ha e => hx a o ha (hs'.extBut a o ha e)) hT
      · exact h1 v' vs' e h'' i' hi' hf (fun a o ha e => hx a o ha (hs'.extBut a o ha e))
    | true =>
      have hvs' : v :: ((kvs.drop (i + 1)).map (·.2)).filter b = vs := by rw [← hvs, List.filter_cons_of_pos (by simp [hb])]
      rw [if_pos rfl]
      exact wpAny_pure (h1 v _ hvs'.symm h' (i + 1) hit' rfl hs'.extBut)

theorem filt_pyNext {z it d : Addr} {i n ep : Nat} {kvs : List (K × Value)} {b : Value → Bool} {vs : List Value} {Q : Option Value → Shared → Prop} (hh : A.handled = none) (hn : n = kvs.length) (hzi : z ≠ it) (hdi : d ≠ it)
    (hvs : ((kvs.drop i).map (·.2)).filter b = vs) (hz : s.heap.get? z = some (filtObj it)) (hit : s.heap.IsValIter it d i n ep) (hm : s.heap.DictAt knd d kvs ep)
    (ht : ∀ v ∈ kvs.map (·.2), ∀ (A' : Around) (s' : Shared) (Q : Bool → Shared → Prop) (E' : Value → Shared → Prop), Heap.ExtBut it s.heap s'.heap → Q (b v) s' → wpAny (model prog w) A' (truthy v) Q E' s')
    (h0 : vs = [] → ∀ h', Heap.ExtBut it s.heap h' → Q none { s with heap := h' })
    (h1 : ∀ v vs', vs = v :: vs' → ∀ h' i', h'.IsValIter it d i' n ep → ((kvs.drop i').map (·.2)).filter b = vs' → Heap.ExtBut it s.heap h' → Q (some v) { s with heap := h' }) :
    wpAny (model prog w) A (pyNext (.ref z)) Q E s := by
  have hT : s.TypeIs (.ref z) "filter" := ⟨_, hz, rfl⟩
  unfold pyNext
  refine wpAny_bind (wpAny_attempt (wpAny_callSpecial?_slot (name := PySem.Str.ofString "__next__") hT slot_filter_next (wpAny_call (call_entryA slot_filter_next hT entry_filter_next ?_ (args_filter_next_1 _)))))
  refine filt_body (A := A) (b := b) (R := fun r s' => match r with | .ok (.ret v) => wpAny (model prog w) A (match (Except.ok (some v) : Except Value (Option Value)) with
            | .ok (some v) => pure (some v)
            | .ok none => unsupported "iter:the-iterator's-class-has-lost-its-__next__-amid-the-walk"
            | .error e => do if ← isInstance e (.type "StopIteration") then pure none else throw e) Q E s' | .ok _ => False | .error e => wpAny (model prog w) A (match (Except.error e : Except Value (Option Value)) with
            | .ok (some v) => pure (some v)
            | .ok none => unsupported "iter:the-iterator's-class-has-lost-its-__next__-amid-the-walk"
            | .error e => do if ← isInstance e (.type "StopIteration") then pure none else throw e) Q E s') hh hn hzi hdi _ i vs s rfl hvs hz hit hm ht (fun e h' ex hx hT' => ?_) (fun v vs' e h' i' hi' hf hx => ?_)
  · refine wpAny_bind (wpAny_isInstance (T := "StopIteration") (b := true) hT' isSubtype_stop ?_)
    exact wpAny_pure (h0 e h' hx)
  · exact wpAny_pure (h1 v vs' e h' i' hi' hf hx)

/-- the greatest, the first of equals -/
noncomputable def best (gt : Value → Value → Bool) (dv : Value) : Option Value → List Value → Value
  | none, [] => dv
  | some o, [] => o
  | none, v :: vs => best gt dv (some v) vs
  | some o, v :: vs => best gt dv (some (if gt v o then v else o)) vs
def oldItems : Option Value → Array Value
  | none => #[]
  | some o => #[o, o]

theorem max_loop {z it d S : Addr} {n ep : Nat} {kvs : List (K × Value)} {b : Value → Bool} {gt : Value → Value → Bool} {dk : PySem.Str} {dv : Value} {R : Result → Shared → Prop} {H0 : Heap} (hh : A.handled = none) (hn : n = kvs.length) (hzi : z ≠ it) (hdi : d ≠ it) (hzS : z ≠ S) (hiS : it ≠ S)
    (h0i : H0.get? it = none) (h0S : H0.get? S = none) (hm : H0.DictAt knd d kvs ep)
    (ht : ∀ v ∈ kvs.map (·.2), ∀ (A' : Around) (s' : Shared) (Q : Bool → Shared → Prop) (E' : Value → Shared → Prop), (∀ a o, H0.get? a = some o → s'.heap.get? a = some o) → Q (b v) s' → wpAny (model prog w) A' (truthy v) Q E' s')
    (hc : ∀ x ∈ kvs.map (·.2), ∀ y ∈ kvs.map (·.2), b x = true → b y = true → ∀ (s' : Shared) (Q : Value → Shared → Prop) (E' : Value → Shared → Prop), (∀ a o, H0.get? a = some o → s'.heap.get? a = some o) → 0 < s'.toks →
      (∀ h' tk', (∀ a o, s'.heap.get? a = some o → h'.get? a = some o) → 0 < tk' → Q (.bool (gt x y)) { s' with heap := h', toks := tk' }) → wpAny (model prog w) A.in1 (richCompare .Gt x y) Q E' s') :
    ∀ (vs : List Value) (i : Nat) (s : Shared) (old : Option Value) (c : Nat), ((kvs.drop i).map (·.2)).filter b = vs → s.heap.get? z = some (filtObj it) → s.heap.IsValIter it d i n ep → (∀ a o, H0.get? a = some o → s.heap.get? a = some o) → 0 < s.toks →
      s.heap.get? S = some { cls := .type "list", data := .seq (oldItems old) c } → (∀ o, old = some o → o ∈ kvs.map (·.2) ∧ b o = true) →
      (∀ h' tk', (∀ a o, H0.get? a = some o → h'.get? a = some o) → 0 < tk' → R (.ok (.ret (best gt dv old vs))) { s with heap := h', toks := tk' }) →
      codeAny (model prog w) A (.builtin "max.loop" ⟨[.ref z, .none, .ref S], [(dk, dv)]⟩) R s := by
  have hname : (toString "max" ++ toString ".loop" : String) = "max.loop" := by decide
  intro vs
  induction vs with
  | nil =>
    intro i s old c hvs hz hit hk htk hS ho hR
    refine codeAny_builtin PySem.F.entry_max_loop ?_
    rw [Around.under_plainId PySem.F.plain_max_loop _]
    show wpAny _ A.in1 (seqItems? (.ref S) >>= _) _ _ s
    refine wpAny_bind (wpAny_seqItems hS rfl ?_)
    show wpAny _ A.in1 (tryCatch (pyNext (.ref z)) _ >>= _) _ _ s
    have hmS : s.heap.DictAt knd d kvs ep := let ⟨od, es, hod, r⟩ := hm; ⟨od, es, hk _ _ hod, r⟩
    have kx : ∀ h' : Heap, Heap.ExtBut it s.heap h' → ∀ a o, H0.get? a = some o → h'.get? a = some o := fun h' hx a o e => hx a o (fun q => by rw [q, h0i] at e; cases e) (hk a o e)
    refine wpAny_bind (wpAny_tryCatch (filt_pyNext (A := A.in1) (b := b) hh hn hzi hdi hvs hz hit hmS (fun v hv A' s' Q E' hx q => ht v hv A' s' Q E' (kx _ hx) q) (fun _ h' hx => ?_) (fun v vs' e => by cases e)))
    cases old with
    | none =>
      refine wpAny_bind (wpAny_rule (wpAny_pure ?_))
      exact hR h' s.toks (kx h' hx) htk
    | some o =>
      have hS' := hx S _ (Ne.symm hiS) hS
      show wpAny _ A.in1 (updateSeq S (fun _ => #[]) >>= _) _ _ _
      refine wpAny_bind ?_
      refine wpAny_updateSeq (hz := by rw [sizeLine_eq]; exact Nat.le_of_ble_eq_true rfl) hS' rfl (wpAny_bind (wpAny_letGo (wpAny_pure ?_)))
      exact hR _ s.toks (fun a o e => (Heap.get?_update_other _ _ (fun q : S = a => by rw [← q, h0S] at e; cases e)).trans (kx h' hx a o e)) htk
  | cons v vs ih =>
    intro i s old c hvs hz hit hk htk hS ho hR
    refine codeAny_builtin PySem.F.entry_max_loop ?_
    rw [Around.under_plainId PySem.F.plain_max_loop _]
    show wpAny _ A.in1 (seqItems? (.ref S) >>= _) _ _ s
    refine wpAny_bind (wpAny_seqItems hS rfl ?_)
    show wpAny _ A.in1 (tryCatch (pyNext (.ref z)) _ >>= _) _ _ s
    have hmS : s.heap.DictAt knd d kvs ep := let ⟨od, es, hod, r⟩ := hm; ⟨od, es, hk _ _ hod, r⟩
    have kx : ∀ h' : Heap, Heap.ExtBut it s.heap h' → ∀ a o, H0.get? a = some o → h'.get? a = some o := fun h' hx a o e => hx a o (fun q => by rw [q, h0i] at e; cases e) (hk a o e)
    have hvmem : v ∈ ((kvs.drop i).map (·.2)).filter b := by rw [hvs]; exact List.mem_cons_self
    have hv : v ∈ kvs.map (·.2) := by
      obtain ⟨p, hp, e⟩ := List.mem_map.mp (List.mem_filter.mp hvmem).1
      exact List.mem_map.mpr ⟨p, List.mem_of_mem_drop hp, e⟩
    have hbv : b v = true := (List.mem_filter.mp hvmem).2
    refine wpAny_bind (wpAny_tryCatch (filt_pyNext (A := A.in1) (b := b) hh hn hzi hdi hvs hz hit hmS (fun v hv A' s' Q E' hx q => ht v hv A' s' Q E' (kx _ hx) q) (fun e => by cases e) (fun v' vs' e h' i' hit' hf hx => ?_)))
    cases e
    have hS' := hx S _ (Ne.symm hiS) hS
    have hz' := hx z _ hzi hz
    cases old with
    | none =>
      show wpAny _ A.in1 (updateSeq S (fun _ => #[v, v]) >>= _) _ _ _
      refine wpAny_bind ?_
      refine wpAny_updateSeq hS' rfl ?_
      rw [hname]
      have s1 := Heap.SameBut.update h' S (Obj.mapSeq fun _ => (#[v, v] : Array Value))
      refine wpAny_pure ⟨plainId_quiet PySem.F.plain_max_loop _, ih i' _ (some v) _ hf ((s1.2 _ hzS).trans hz') ?_ (fun a o e => (s1.2 a (fun q => by rw [q, h0S] at e; cases e)).trans (kx h' hx a o e)) htk (Heap.get?_update_self _ hS' rfl) (fun o e => by cases e; exact ⟨hv, hbv⟩) hR⟩
      obtain ⟨oI, e1, r⟩ := hit'
      exact ⟨oI, (s1.2 _ hiS).trans e1, r⟩
    | some o =>
      obtain ⟨hom, hbo⟩ := ho o rfl
      show wpAny _ A.in1 (tryCatch (holding [v, v] (richCompare .Gt v o >>= _)) _ >>= _) _ _ _
      refine wpAny_bind (wpAny_tryCatch (wpAny_holding (wpAny_bind (hc v hv o hom hbv hbo { s with heap := h' } _ _ (kx h' hx) htk fun h2 tk2 hk2 htk2 => ?_))))
      refine wpAny_bind (wpAny_holding (wpAny_truthy_bool ?_))
      refine wpAny_bind (wpAny_letGo (wpAny_pure ?_))
      have hS2 := hk2 _ _ hS'
      have hz2 := hk2 _ _ hz'
      have hk02 : ∀ a o, H0.get? a = some o → h2.get? a = some o := fun a o e => hk2 _ _ (kx h' hx a o e)
      have hit2 : h2.IsValIter it d i' n ep := let ⟨oI, e1, r⟩ := hit'; ⟨oI, hk2 _ _ e1, r⟩
      cases hb : gt v o with
      | true =>
        simp only [if_true]
        refine wpAny_bind ?_
        refine wpAny_updateSeq (hz := by rw [sizeLine_eq]; exact Nat.le_of_ble_eq_true rfl) hS2 rfl (wpAny_bind (wpAny_letGo ?_))
        rw [hname]
        have s1 := Heap.SameBut.update h2 S (Obj.mapSeq fun _ => (#[v, v] : Array Value))
        refine wpAny_pure ⟨plainId_quiet PySem.F.plain_max_loop _, ih i' _ (some v) _ hf ((s1.2 _ hzS).trans hz2) ?_ (fun a o e => (s1.2 a (fun q => by rw [q, h0S] at e; cases e)).trans (hk02 a o e)) htk2 (Heap.get?_update_self _ hS2 rfl) (fun o e => by cases e; exact ⟨hv, hbv⟩) (fun h3 tk3 k3 t3 => ?_)⟩
        · obtain ⟨oI, e1, r⟩ := hit2
          exact ⟨oI, (s1.2 _ hiS).trans e1, r⟩
        · have := hR h3 tk3 k3 t3
          simp only [best, hb, if_true] at this
          exact this
      | false =>
        simp only [Bool.false_eq_true, if_false]
        refine wpAny_bind (wpAny_letGo ?_)
        rw [hname]
        refine wpAny_pure ⟨plainId_quiet PySem.F.plain_max_loop _, ih i' _ (some o) _ hf hz2 hit2 hk02 htk2 hS2 (fun o' e => by cases e; exact ⟨hom, hbo⟩) (fun h3 tk3 k3 t3 => ?_)⟩
        have := hR h3 tk3 k3 t3
        simp only [best, hb, Bool.false_eq_true, if_false] at this
        exact this
end
end
/-! Fi3 -/
section
open PySem.Spec PySem.Calls
section
variable {prog : Program} {w : World} {K : Type} [DecidableEq K] {knd : KeyKind prog w K} {A : Around} {E : Value → Shared → Prop} {s : Shared}
theorem filter_new_in (v d : Addr) (kvs : List (K × Value)) (ep : Nat) : MeetsIn prog w (Builtin.«filter.__new__» ⟨[.type "filter", .none, .ref v], []⟩) (fun _ R s => s.heap.IsValuesView v d ∧ s.heap.DictAt knd d kvs ep ∧
      R (.ok (.ret (.ref (s.heap.push (valIt d 0 kvs.length ep)).objs.size))) { s with heap := (s.heap.push (valIt d 0 kvs.length ep)).push (filtObj s.heap.objs.size) }) :=
  .of_wp fun A R s h => by
    obtain ⟨hp, g, d', tk, os⟩ := s; obtain ⟨hv, hm, h⟩ := h
    have hsub := sub_filter
    have hV : Heap.IsValuesView (Shared.heap ⟨hp, g, d', tk, os⟩) v d := hv
    have hM : Heap.DictAt knd (Shared.heap ⟨hp, g, d', tk, os⟩) d kvs ep := hm
    wp_walk using wpAny_pyIter_values hV hM
    exact ⟨_, rfl, h⟩
theorem call_filter {v d : Addr} {kvs : List (K × Value)} {ep : Nat} {Q : Value → Shared → Prop} (hv : s.heap.IsValuesView v d) (hm : s.heap.DictAt knd d kvs ep)
    (h : Q (.ref (s.heap.push (valIt d 0 kvs.length ep)).objs.size) { s with heap := (s.heap.push (valIt d 0 kvs.length ep)).push (filtObj s.heap.objs.size) }) :
    wpAny (model prog w) A (call (.type "filter") [.none, .ref v]) Q E s :=
  callType_newIn called_filter (by decide) (typeCall_filter_2 _ _) (newCall_filter_2 _ _) (fun obj => PySem.F.args_object_init_3 obj _ _) entry_filter_new (filter_new_in (knd := knd) v d kvs ep) ⟨hv, hm, ⟨_, Heap.get?_push_size _ rfl, rfl⟩, h⟩

theorem args_max_dflt (a v : Value) : argsOk "max" ⟨[a], [(PySem.Str.ofString "default", v)]⟩ := by unfold argsOk; kernel_rfl
theorem pyIter_filter {z I : Addr} {Q : Value → Shared → Prop} (hz : s.heap.get? z = some (filtObj I)) (h : Q (.ref z) s) : wpAny (model prog w) A (pyIter (.ref z)) Q E s := by
  have hT : s.TypeIs (.ref z) "filter" := ⟨_, hz, rfl⟩
  refine wpAny_pyIter_slot hT slot_filter_iter (wpAny_call_entry slot_filter_iter hT entry_filter_iter ?_ (args_filter_iter_1 _))
  show wpAny _ _ (ret (.ref z)) _ _ s
  exact wpAny_pure ⟨_, rfl, "filter", _, hT, slot_filter_next.lookup, h⟩
theorem call_max_filter {z it d : Addr} {ep : Nat} {kvs : List (K × Value)} {b : Value → Bool} {gt : Value → Value → Bool} {dv : Value} {Q : Value → Shared → Prop} {H0 : Heap} (hh : A.handled = none) (hzi : z ≠ it) (hdi : d ≠ it)
    (h0i : H0.get? it = none) (hk : ∀ a o, H0.get? a = some o → s.heap.get? a = some o) (hm : H0.DictAt knd d kvs ep) (htk : 0 < s.toks)
    (hz : s.heap.get? z = some (filtObj it)) (hit : s.heap.IsValIter it d 0 kvs.length ep)
    (ht : ∀ v ∈ kvs.map (·.2), ∀ (A' : Around) (s' : Shared) (Q : Bool → Shared → Prop) (E' : Value → Shared → Prop), (∀ a o, H0.get? a = some o → s'.heap.get? a = some o) → Q (b v) s' → wpAny (model prog w) A' (truthy v) Q E' s')
    (hc : ∀ x ∈ kvs.map (·.2), ∀ y ∈ kvs.map (·.2), b x = true → b y = true → ∀ (s' : Shared) (Q : Value → Shared → Prop) (E' : Value → Shared → Prop), (∀ a o, H0.get? a = some o → s'.heap.get? a = some o) → 0 < s'.toks →
      (∀ h' tk', (∀ a o, s'.heap.get? a = some o → h'.get? a = some o) → 0 < tk' → Q (.bool (gt x y)) { s' with heap := h', toks := tk' }) → wpAny (model prog w) A.in1 (richCompare .Gt x y) Q E' s')
    (hQ : ∀ h' tk', (∀ a o, H0.get? a = some o → h'.get? a = some o) → 0 < tk' → Q (best gt dv none ((kvs.map (·.2)).filter b)) { s with heap := h', toks := tk' }) :
    wpAny (model prog w) A (call (.builtin "max") [.ref z] [(PySem.Str.ofString "default", dv)]) Q E s := by
  have hname : (toString "max" ++ toString ".loop" : String) = "max.loop" := by decide
  refine kmb_tree PySem.F.kind_max PySem.F.plain_max PySem.F.entry_max (args_max_dflt _ _) ?_
  show wpAny _ A.in1 (Builtin.Builtins.bindParams "max" ["key", "default"] 0 ⟨[], [(PySem.Str.ofString "default", dv)]⟩ >>= _) _ _ s
  refine wpAny_bind (wpAny_of_eq (show Builtin.Builtins.bindParams "max" ["key", "default"] 0 ⟨[], [(PySem.Str.ofString "default", dv)]⟩ = pure [none, some dv] from rfl) ?_)
  refine wpAny_bind (wpAny_pure ?_)
  refine wpAny_bind (pyIter_filter hz ?_)
  refine wpAny_bind (wpAny_newList ?_ (Nat.zero_le _))
  rw [hname]
  have hzl := Heap.lt_size hz
  have hil : it < s.heap.objs.size := by obtain ⟨o, e, _⟩ := hit; exact Heap.lt_size e
  refine wpAny_pure ⟨plainId_quiet PySem.F.plain_max_loop _, ?_⟩
  refine max_loop (knd := knd) (b := b) (gt := gt) (H0 := H0) (ep := ep) hh rfl hzi hdi (Nat.ne_of_lt hzl) (Nat.ne_of_lt hil) h0i ?_ hm ht hc _ 0 _ none 0 (by rw [List.drop_zero]) (Heap.get?_push_of_some _ hz) ?_ (fun a o e => Heap.get?_push_of_some _ (hk a o e)) htk (Heap.get?_push_size _ rfl) (fun o e => by cases e) hQ
  · cases e : H0.get? s.heap.objs.size with
    | none => rfl
    | some o => exact absurd (Heap.lt_size (hk _ _ e)) (Nat.lt_irrefl _)
  · obtain ⟨o, e, r⟩ := hit
    exact ⟨o, Heap.get?_push_of_some _ e, r⟩
end
end
/-! Fi4 -/
section
open PySem.Spec PySem.Calls
abbrev viewObj (d : Addr) : Obj := { cls := .type "dict_values", data := .fields #[.ref d] }
section
variable {prog : Program} {w : World} {K : Type} [DecidableEq K] {knd : KeyKind prog w K} {A : Around} {E : Value → Shared → Prop} {s : Shared} {h₀ : Heap} {L : Addr} {m : PySem.Str → Option Value} {news : List (Addr × Obj)}
theorem dictOf_keep {h h' : Heap} {d : Addr} {kvs : List (K × Value)} (x : Heap.DictOf knd h d kvs) (k : ∀ b o, h.get? b = some o → h'.get? b = some o) : Heap.DictOf knd h' d kvs :=
  let ⟨o, es, ep, ho, r⟩ := x; ⟨o, es, ep, k _ _ ho, r⟩
theorem m_values {d : Addr} {kvs : List (K × Value)} {pl : Sem Bool} {Q : Value × List Value → Shared → Prop} (hD : Heap.DictOf knd s.heap d kvs) (h : Q (.builtin "dict.values", [.ref d]) s) : wpAny (model prog w) A (getMethod (.ref d) (PySem.Str.ofString "values") pl) Q E s :=
  getMethod_builtin hD.typeIs PySem.F.plainAttrs_dict PySem.F.slot_dict_values PySem.F.type_dict_values hD.mapOf.noDict h
theorem c_values {d : Addr} {kvs : List (K × Value)} {Q : Value → Shared → Prop} (F : Fr h₀ L s.heap m) (N : News h₀ L s.heap news) (hD : Heap.DictOf knd s.heap d kvs) (hds : (d == sysModules) = false)
    (h : ∀ V h', Fr h₀ L h' m → News h₀ L h' ((V, viewObj d) :: news) → (∀ p ∈ news, p.1 < V) → Q (.ref V) { s with heap := h' }) : wpAny (model prog w) A (call (.builtin "dict.values") [.ref d]) Q E s := by
  have up : ∀ b o, s.heap.get? b = some o → (s.heap.push (viewObj d)).get? b = some o := fun b o e => Heap.get?_push_of_some _ e
  refine call_meetsIn PySem.F.slot_dict_values hD.typeIs PySem.F.entry_dict_values (PySem.F.args_dict_values_1 _) (meets_dict_values knd d hds) ⟨⟨kvs, hD⟩, ?_⟩
  refine h _ _ (F.keeps up) (fun p hp => ?_) (fun p hp => Heap.lt_size (N p hp).1)
  rcases List.mem_cons.mp hp with rfl | hp
  · exact ⟨Heap.get?_push_size _ rfl, Nat.ne_of_gt F.ns.lt, next_is_new F⟩
  · exact ⟨up _ _ (N p hp).1, (N p hp).2⟩
theorem c_filter {d V : Addr} {ep : Nat} {kvs : List (K × Value)} {Q : Value → Shared → Prop} (F : Fr h₀ L s.heap m) (N : News h₀ L s.heap news) (hV : (V, viewObj d) ∈ news) (hA : Heap.DictAt knd h₀ d kvs ep)
    (h : ∀ z I h', Fr h₀ L h' m → News h₀ L h' ((z, filtObj I) :: (I, valIt d 0 kvs.length ep) :: news) → @LT.lt Nat _ I z → (∀ p ∈ news, p.1 < I) → Q (.ref z) { s with heap := h' }) : wpAny (model prog w) A (call (.type "filter") [.none, .ref V]) Q E s := by
  refine call_filter (knd := knd) (kvs := kvs) (ep := ep) ⟨_, (N _ hV).1, rfl, rfl⟩ (hA.keep F.keep) ?_
  have u1 : ∀ b o, s.heap.get? b = some o → (s.heap.push (valIt d 0 kvs.length ep)).get? b = some o := fun b o e => Heap.get?_push_of_some _ e
  have u2 : ∀ b o, (s.heap.push (valIt d 0 kvs.length ep)).get? b = some o → ((s.heap.push (valIt d 0 kvs.length ep)).push (filtObj s.heap.objs.size)).get? b = some o := fun b o e => Heap.get?_push_of_some _ e
  have hz : (s.heap.push (valIt d 0 kvs.length ep)).objs.size = s.heap.objs.size + 1 := Heap.size_push ..
  have fresh : ∀ b, @LE.le Nat _ s.heap.objs.size b → h₀.get? b = none := fun b hb => Heap.get?_none_of_le (Nat.le_trans F.above (Nat.le_trans (Nat.le_of_lt F.ns.lt) hb))
  refine h _ s.heap.objs.size _ (F.keeps fun b o e => u2 _ _ (u1 _ _ e)) (fun p hp => ?_) (by rw [hz]; exact Nat.lt_succ_self _) (fun p hp => Heap.lt_size (N p hp).1)
  rcases List.mem_cons.mp hp with rfl | hp
  · refine ⟨Heap.get?_push_size _ rfl, ?_, fresh _ (by rw [hz]; exact Nat.le_succ _)⟩
    show _ ≠ L
    rw [hz]; exact Nat.ne_of_gt (Nat.lt_succ_of_lt F.ns.lt)
  · rcases List.mem_cons.mp hp with rfl | hp
    · exact ⟨u2 _ _ (Heap.get?_push_size _ rfl), Nat.ne_of_gt F.ns.lt, fresh _ (Nat.le_refl _)⟩
    · exact ⟨u2 _ _ (u1 _ _ (N p hp).1), (N p hp).2⟩
theorem fr_hide {I : Addr} {h' : Heap} (F : Fr h₀ L s.heap m) (hL : I ≠ L) (h0 : h₀.get? I = none) (hk : ∀ a o, (hideAll s.heap [I]).get? a = some o → h'.get? a = some o) : Fr h₀ L h' m :=
  ⟨F.ns.at' fun o e => hk L o (hideAll_get _ e fun q => hL (List.mem_singleton.mp q).symm), fun b o e => hk b o (hideAll_get _ (F.keep b o e) fun q => by rw [List.mem_singleton.mp q, h0] at e; cases e), F.above⟩
theorem c_max {z I d : Addr} {ep : Nat} {kvs : List (K × Value)} {b : Value → Bool} {gt : Value → Value → Bool} {dv : Value} {Q : Value → Shared → Prop} (hh : A.handled = none) (F : Fr h₀ L s.heap m) (N : News h₀ L s.heap news) (hz : (z, filtObj I) ∈ news) (hi : (I, valIt d 0 kvs.length ep) ∈ news) (hne : @Ne Nat z I)
    (hA : Heap.DictAt knd h₀ d kvs ep) (htk : 0 < s.toks)
    (ht : ∀ v ∈ kvs.map (·.2), ∀ (A' : Around) (s' : Shared) (Q : Bool → Shared → Prop) (E' : Value → Shared → Prop), Fr h₀ L s'.heap m → Q (b v) s' → wpAny (model prog w) A' (truthy v) Q E' s')
    (hc : ∀ x ∈ kvs.map (·.2), ∀ y ∈ kvs.map (·.2), b x = true → b y = true → ∀ (s' : Shared) (Q : Value → Shared → Prop) (E' : Value → Shared → Prop), Fr h₀ L s'.heap m → 0 < s'.toks →
      (∀ h' tk', (∀ a o, s'.heap.get? a = some o → h'.get? a = some o) → 0 < tk' → Q (.bool (gt x y)) { s' with heap := h', toks := tk' }) → wpAny (model prog w) A.in1 (richCompare .Gt x y) Q E' s')
    (hQ : ∀ h' tk', Fr h₀ L h' m → News h₀ L h' [] → 0 < tk' → Q (best gt dv none ((kvs.map (·.2)).filter b)) { s with heap := h', toks := tk' }) :
    wpAny (model prog w) A (call (.builtin "max") [.ref z] [(PySem.Str.ofString "default", dv)]) Q E s := by
  have nI := N _ hi
  have fh : ∀ h' : Heap, (∀ a o, (hideAll s.heap [I]).get? a = some o → h'.get? a = some o) → Fr h₀ L h' m := fun h' hk => fr_hide F nI.2.1 nI.2.2 hk
  have hdI : d ≠ I := fun q => by
    obtain ⟨o, _, ho, _⟩ := hA
    rw [q, nI.2.2] at ho; cases ho
  have hA0 : Heap.DictAt knd (hideAll s.heap [I]) d kvs ep := by
    obtain ⟨o, es, ho, r⟩ := hA
    exact ⟨o, es, hideAll_get _ (F.keep _ _ ho) fun q => hdI (List.mem_singleton.mp q), r⟩
  exact call_max_filter (knd := knd) (H0 := hideAll s.heap [I]) (b := b) (gt := gt) (ep := ep) (kvs := kvs) hh hne hdI (hideAll_none _ (List.mem_singleton.mpr rfl)) (fun a o e => of_hideAll _ e) hA0 htk (N _ hz).1 ⟨_, nI.1, rfl, rfl⟩
    (fun v hv A' s' Q E' hk q => ht v hv A' s' Q E' (fh _ hk) q) (fun x hx y hy bx by_ s' Q E' hk t q => hc x hx y hy bx by_ s' Q E' (fh _ hk) t q) (fun h' tk' hk t => hQ h' tk' (fh _ hk) News.nil t)
end
end
/-! Fi5 -/
section
open PySem.Spec PySem.Calls
theorem values_no_contains : typeLookup (.type "dict_values") (PySem.Str.ofString "__contains__") = pure none := by rw [typeLookup_type, builtinLookup_eq_fast]; kernel_rfl
theorem entry_contains_iter : entryFor table "proto.contains_iter" = some Builtin.«proto.contains_iter» := entryFor_of_tree (by kernel_rfl)
theorem plain_contains_iter : plainId "proto.contains_iter" = true := by decide +kernel
section
variable {prog : Program} {w : World} {K : Type} [DecidableEq K] {knd : KeyKind prog w K} {A : Around} {E : Value → Shared → Prop} {s : Shared} {h₀ : Heap} {L : Addr} {m : PySem.Str → Option Value} {news : List (Addr × Obj)}
theorem eqBool_int_none {a : Int} {t : Tok} {Q : Bool → Shared → Prop} (hu : A.units + 1 < cLine) (h : Q false s) : wpAny (model prog w) A (eqBool (.int a t) .none) Q E s :=
  PySem.SeqAt.eqBoolOverData prog w A E s (.int a t) .none (.int a) .none [] [] Q (.int _ _) .none rfl rfl (by simp only [PyData.depth]; omega) h
theorem eqBool_none_none {Q : Bool → Shared → Prop} (h : Q true s) : wpAny (model prog w) A (eqBool .none .none) Q E s := by
  unfold eqBool
  refine wpAny_holding ?_
  rw [if_pos (by rfl)]
  exact wpAny_bind (wpAny_rule (wpAny_pure h))

def isNoneV : Value → Bool
  | .none => true
  | _ => false
theorem contains_iter_code {it d : Addr} {n ep : Nat} {kvs : List (K × Value)} {R : Result → Shared → Prop} (hh : A.handled = none) (hu : A.units + 2 < cLine) (hn : n = kvs.length) (hdi : d ≠ it) (hv : ∀ v ∈ kvs.map (·.2), v = .none ∨ ∃ a t, v = .int a t) {H0 : Heap} (h0i : H0.get? it = none) :
    ∀ (j i : Nat) (s : Shared), kvs.length - i = j → s.heap.IsValIter it d i n ep → s.heap.DictAt knd d kvs ep → (∀ a o, H0.get? a = some o → s.heap.get? a = some o) →
      (∀ h', (∀ a o, H0.get? a = some o → h'.get? a = some o) → R (.ok (.ret (.bool (((kvs.drop i).map (·.2)).any isNoneV)))) { s with heap := h' }) →
      codeAny (model prog w) A (.builtin "proto.contains_iter" ⟨[.ref it, .none], []⟩) R s := by
  subst hn
  intro j
  induction j with
  | zero =>
    intro i s hj hit hm hk hR
    have hge : kvs.length ≤ i := by omega
    rw [List.drop_eq_nil_of_le hge] at hR
    refine codeAny_builtin entry_contains_iter ?_
    rw [Around.under_plainId plain_contains_iter _]
    show wpAny _ _ (pyNext (.ref it) >>= _) _ _ s
    refine wpAny_bind (wpAny_pyNext_values_end (A := A.in1) hh hit hm (List.getElem?_eq_none hge) fun h' hx => ?_)
    refine wpAny_bind (wpAny_rule (wpAny_pure ?_))
    exact hR h' fun a o e => hx a o (fun q => by rw [q, h0i] at e; cases e) (hk a o e)
  | succ j ih =>
    intro i s hj hit hm hk hR
    have hlt : i < kvs.length := by omega
    obtain ⟨⟨k, v⟩, hkv⟩ : ∃ p, kvs[i]? = some p := ⟨kvs[i], List.getElem?_eq_getElem hlt⟩
    have hdr : kvs.drop i = (k, v) :: kvs.drop (i + 1) := by
      rw [List.drop_eq_getElem_cons hlt]
      rw [List.getElem?_eq_getElem hlt] at hkv
      rw [Option.some.inj hkv]
    rw [hdr, List.map_cons, List.any_cons] at hR
    refine codeAny_builtin entry_contains_iter ?_
    rw [Around.under_plainId plain_contains_iter _]
    show wpAny _ _ (pyNext (.ref it) >>= _) _ _ s
    refine wpAny_bind (wpAny_pyNext_values_item hit hm hkv fun h' hit' hs' => ?_)
    have hm' : h'.DictAt knd d kvs ep := by
      obtain ⟨od, es, hod, r⟩ := hm
      exact ⟨od, es, (hs'.2 _ hdi).trans hod, r⟩
    have hk' : ∀ a o, H0.get? a = some o → h'.get? a = some o := fun a o e => (hs'.2 a (fun q => by rw [q, h0i] at e; cases e)).trans (hk a o e)
    rcases hv v (List.mem_map.mpr ⟨(k, v), List.mem_of_getElem? hkv, rfl⟩) with rfl | ⟨a, t, rfl⟩
    · refine wpAny_bind (eqBool_none_none ?_)
      rw [if_pos rfl]
      exact wpAny_bind (wpAny_rule (wpAny_pure (hR h' hk')))
    · refine wpAny_bind (eqBool_int_none (by show A.units + 1 + 1 < cLine; omega) ?_)
      rw [if_neg Bool.false_ne_true]
      refine wpAny_pure ⟨plainId_quiet plain_contains_iter _, ih (i + 1) { s with heap := h' } (by omega) hit' hm' hk' fun h'' hk'' => ?_⟩
      have := hR h'' hk''
      rw [show isNoneV (.int a t) = false from rfl, Bool.false_or] at this
      exact this
/-- None in d.values() -/
theorem in_values {b : Bool} {V d : Addr} {ep : Nat} {kvs : List (K × Value)} {Q : Value → Shared → Prop} (hh : A.handled = none) (hu : A.units + 2 < cLine) (F : Fr h₀ L s.heap m) (N : News h₀ L s.heap news) (hV : (V, viewObj d) ∈ news) (hA : Heap.DictAt knd h₀ d kvs ep) (hv : ∀ v ∈ kvs.map (·.2), v = .none ∨ ∃ a t, v = .int a t)
    (hb : (kvs.map (·.2)).any isNoneV = b) (h : ∀ h', Fr h₀ L h' m → News h₀ L h' news → Q (.bool b) { s with heap := h' }) : wpAny (model prog w) A (compareOp .In .none (.ref V)) Q E s := by
  have hVw : s.heap.IsValuesView V d := ⟨_, (N _ hV).1, rfl, rfl⟩
  have hAs := hA.keep F.keep
  show wpAny _ _ (contains (.ref V) .none >>= _) _ _ s
  refine wpAny_bind ?_
  unfold contains
  refine wpAny_holding ?_
  rw [stdlibNamesSay?_ref]
  show wpAny _ _ (specialOf (.ref V) (PySem.Str.ofString "__contains__") >>= _) _ _ s
  refine wpAny_bind (wpAny_specialOf hVw.typeIs values_no_contains ?_)
  rw [if_neg (by decide)]
  refine wpAny_bind (m := callSpecialUnlessNone? _ _ _ _) (wpAny_callSpecialUnlessNone?_none hVw.typeIs values_no_contains ?_)
  refine wpAny_bind (wpAny_rule ?_)
  refine wpAny_bind (wpAny_tryCatch (wpAny_pyIter_values hVw hAs ?_))
  have dlt := hAs.lt_size
  have fresh : h₀.get? s.heap.objs.size = none := Heap.get?_none_of_le (Nat.le_trans F.above (Nat.le_of_lt F.ns.lt))
  have up : ∀ b o, s.heap.get? b = some o → (s.heap.push (valIt d 0 kvs.length ep)).get? b = some o := fun b o e => Heap.get?_push_of_some _ e
  refine wpAny_bind (wpAny_runValue ?_)
  refine contains_iter_code (knd := knd) (H0 := s.heap) (ep := ep) hh hu rfl (Nat.ne_of_lt dlt) hv ?_ _ 0 _ rfl ⟨_, Heap.get?_push_size _ rfl, rfl, rfl⟩ (hAs.push _) up fun h' hk => ?_
  · cases e : s.heap.get? s.heap.objs.size with
    | none => rfl
    | some o => exact absurd (Heap.lt_size e) (Nat.lt_irrefl _)
  · rw [List.drop_zero, hb]
    exact wpAny_pure (wpAny_pure (h h' (F.keeps hk) (N.grown hk)))
end
end
section
local macro_rules | `(tactic| k_enter) => `(tactic| (refine' code_def ?k1 ?k2 ?k3 ?k4 ?k5 ?kA ?kF ?kK ?k6 ?k7 ?k8 ?k9 ?kB ?_ ?c2 ?c3 ?c4 ?c5; (case kA => exact rfl); (case kF => exact rfl); (case kK => first | exact rfl | assumption); (case k1 => k_asm); (case k2 => k_asm); (case k3 => k_asm); (case k4 => k_asm); (case k5 => k_asm); (case k6 => k_is); (case k7 => k_is); (case k8 => ktr_room); (case k9 => first | exact BindsTo.of_eq rfl | exact binds_K (by k_in) rfl (by k_is) rfl rfl rfl | fail "k_enter: no rule for these arguments"); (case c5 => decide); (case kB => exact locs rfl); (case c2 => exact rfl); (case c3 => exact rfl); (case c4 => exact rfl); k_whole; intro g' L' h' FG' F' N' B' X' T'; (try dsimp only); (try k_lift B'); (try k_fold)))
local macro_rules | `(tactic| k_units) => `(tactic| ktr_units)
/-! Q1 -/
section
open PySem.Spec PySem.Calls
variable (w : World) (mean : ExcName → Option Value) (mg mb : PySem.Str → Option Value)
theorem news_join {h₀ h1 h' g : Heap} {L L' x dx : Addr} {m' : PySem.Str → Option Value} {o1 o2 o3 o4 : Obj} {news : List (Addr × Obj)} (N1 : News h₀ L h1 ((x, o1) :: (dx, o2) :: news)) (N3 : News h₀ L h' [(x, o3), (dx, o4)])
    (G : GSub h1 g [x, dx]) (F' : Fr g L' h' m') (l1 : ∀ p ∈ news, p.1 < dx) (l2 : dx < x) : News h₀ L h' ((x, o3) :: (dx, o4) :: news) := by
  intro p hp
  rcases List.mem_cons.mp hp with rfl | hp
  · exact N3 _ (.head _)
  · rcases List.mem_cons.mp hp with rfl | hp
    · exact N3 _ (.tail _ (.head _))
    · have a := N1 p (.tail _ (.tail _ hp))
      have l := l1 p hp
      refine ⟨F'.keep _ _ (G _ _ a.1 ?_), a.2⟩
      intro q
      rcases List.mem_cons.mp q with q | q
      · exact Nat.ne_of_lt (Nat.lt_trans l l2) q
      · rcases List.mem_cons.mp q with q | q
        · exact Nat.ne_of_lt l q
        · cases q
theorem ofString_u : PySem.Str.ofString "{u}" = tx [123,117,125] := by decide +kernel
theorem q1_ct (l : List Nat) (t u : Tok) (hl : l.length ≤ 100) (h0 : l ≠ []) : 
  ∀ (dp un : Nat) (gd : Option (List Code)) (cn : PySem.Str) (cs : Scope) (a : Addr) (ccd : Value) (cl : List (PySem.Str × Addr)) (outer : List Env) (A₀ : Around) (base h₀ : Heap) (L : Addr) (m : PySem.Str → Option Value) (s : Shared) (Q E : Value → Shared → Prop) (news : List (Addr × Obj)),
    Below A₀ base outer h₀ → Fr h₀ L s.heap m → News h₀ L s.heap news → (hd.heap_1 w.params).In h₀ → Top hd.view_1 (looseW hd.view_1 []) mean mg mb h₀ → cs.kind = .function →
    dp + 20 < recursionLimit → un + 100 < cLine → 0 < s.toks → 
    (∀ x dx hsh n t1 t2 h' tk', Fr h₀ L h' m → News h₀ L h' ((x, instObj 127 dx) :: (dx, dictOf [⟨hsh, .str (PySem.Str.ofString "text") t1, .str (tx ([123,117,125] ++ l)) t2⟩] n) :: news) → (∀ p ∈ news, p.1 < dx) → dx < x → 0 < tk' → Q (.ref x) { s with heap := h', toks := tk' }) →
      wpAny (model PySem.Challenge.rw_yh0017_01.row.prog w) (ktrTop dp un gd cn cs L a ccd cl outer) (call (.ref 127) [.str (PySem.Str.ofString "u") t, .str (tx l) u]) Q E s := by
  k_fill; w_top off
  intro dp un gd cn cs a ccd cl outer A₀ base h₀ L m s Q E news B F N X T hk hd hu hp hret
  have hx : (tx l).length ≤ 100 := by rw [tx_len]; exact hl
  have hx0 : 0 < (tx l).length := by rw [tx_len]; exact List.length_pos_iff.mpr h0
  refine any_pos hp ?_
  refine' call_cls ?k1 ?k2 ?k3 ?k4 ?k5 ?k6 ?_; (case k1 => k_asm); (case k2 => k_asm); (case k3 => exact N); (case k4 => k_is); (case k5 => k_is); (case k6 => k_is)
  intro x' dx' h1 F1 N1 l1 l2
  have l2' := l2
  (try k_lt2 l2)
  have N2 : News h₀ L h1 [(x', instObj 127 dx'), (dx', dictOf [] 0)] := fun p hp => N1 p (by
    rcases List.mem_cons.mp hp with rfl | hp
    · exact .head _
    · rcases List.mem_cons.mp hp with rfl | hp
      · exact .tail _ (.head _)
      · cases hp)
  (refine' code_defG (env := envX cn cs L a ccd cl) (outer := outer) ?k1 ?k2 ?k3 N2 ?k5 ?kA ?kF ?kK ?k6 ?k7 ?k8 ?k9 ?kB ?_ ?c2 ?c3 ?c4 ?c5; (case kA => exact rfl); (case kF => exact rfl); (case kK => assumption); (case k1 => k_asm); (case k2 => k_asm); (case k3 => k_asm); (case k5 => k_asm); (case k6 => k_is); (case k7 => k_is); (case k8 => ktr_room); (case k9 => first | exact BindsTo.of_eq rfl | exact binds_K (by k_in) rfl (by k_is) rfl rfl rfl | fail "k_enter: no rule for these arguments"); (case c5 => decide); (case kB => exact locs rfl); (case c2 => exact rfl); (case c3 => exact rfl); (case c4 => exact rfl); k_whole; intro g' L' h' FG' F' N' B' X' T' kG'; (try dsimp only); (try k_lift B'); (try k_fold))
  k_with_none
  k_with "execs cons" => (k_here; with_reducible refine execs_pos (by first | assumption | omega) ?_; intro tk' htk'; (try dsimp only))
  k_with "TokP" => (with_reducible refine tokP_in ?_; intro htk'; (try dsimp only))
  k_steps
  · (with_reducible rename News h₀ L _ _ => N3)
    (with_reducible rename Fr h₀ L _ _ => F3)
    (with_reducible rename Fr g' _ _ _ => F4)
    rw [ofString_u, tx_append] at N3
    exact hret _ _ _ _ _ _ _ _ F3 (news_join N1 N3 kG' F4 l1 l2') l1 l2' (by assumption)
  · exfalso
    omega
end
/-! Gw -/
section
open PySem.Spec PySem.Calls
variable (w : World) (mean : ExcName → Option Value) (mg mb : PySem.Str → Option Value)
def truthV : Value → Bool
  | .none => false
  | .int n _ => n != 0
  | _ => true
def gtV (τ : Addr → PySem.Str) : Value → Value → Bool
  | .ref x, .ref y => decide ((τ y).cps.toList < (τ x).cps.toList)
  | _, _ => false
abbrev ik (w : World) := PySem.intKind pg w
/-- what the values of a table of names may be -/
def QVals (τ : Addr → PySem.Str) (h : Heap) (vs : List Value) : Prop := ∀ v ∈ vs, v = .none ∨ ∃ x, v = .ref x ∧ IsQ h x (τ x) ∧ 4 ≤ (τ x).length ∧ (τ x).length ≤ 1000
/-- the width of such a table -/
def WQ (τ : Addr → PySem.Str) (vs : List Value) (n : Int) : Prop := (vs.filter truthV = [] ∧ n = 0) ∨ ∃ x t, best (gtV τ) (.int (-1) t) none (vs.filter truthV) = .ref x ∧ n = (τ x).length
theorem best_mem (gt : Value → Value → Bool) (dv : Value) : ∀ (vs : List Value) (o : Option Value), best gt dv o vs = dv ∧ o = none ∧ vs = [] ∨ (o = some (best gt dv o vs) ∨ best gt dv o vs ∈ vs)
  | [], none => .inl ⟨rfl, rfl, rfl⟩
  | [], some o => .inr (.inl rfl)
  | v :: vs, none => by
    rcases best_mem gt dv vs (some v) with ⟨_, h, _⟩ | h | h
    · cases h
    · exact .inr (.inr (by show best gt dv (some v) vs ∈ _; rw [← Option.some.inj h]; exact List.mem_cons_self))
    · exact .inr (.inr (List.mem_cons_of_mem _ h))
  | v :: vs, some o => by
    rcases best_mem gt dv vs (some (if gt v o then v else o)) with ⟨_, h, _⟩ | h | h
    · cases h
    · have h' := Option.some.inj h
      by_cases q : gt v o = true
      · rw [if_pos q] at h'
        exact .inr (.inr (by show best gt dv (some (if gt v o then v else o)) vs ∈ _; rw [if_pos q, ← h']; exact List.mem_cons_self))
      · rw [if_neg q] at h'
        exact .inr (.inl (by show some o = some (best gt dv (some (if gt v o then v else o)) vs); rw [if_neg q, ← h']))
    · exact .inr (.inr (List.mem_cons_of_mem _ h))
local macro_rules | `(tactic| k_inst) => `(tactic| first | (refine instAt_keeps (by assumption) (Fr.keep (by k_asm))) | (refine' instAt_keeps (instAt_keeps ?kiI ?kiK) (Fr.keep ?kiF); (case kiF => k_asm); (case kiI => assumption); (case kiK => exact Fr.keep (by k_asm))))
theorem width_ct (d : Addr) (kvs : List (Int × Value)) (τ : Addr → PySem.Str) : Ct40 w mean mg mb (call (.ref 21) [.ref d]) (fun h => Heap.DictOf (ik w) h d kvs ∧ (d == sysModules) = false ∧ QVals τ h (kvs.map (·.2)))
    (fun _ _ v => ∃ n t, v = .int n t ∧ WQ τ (kvs.map (·.2)) n) := by
  dsimp only [Ct40]; k_fill; w_top off
  intro dp un gd cn cs a ccd cl outer A₀ base h₀ L m s Q E B F X T hk hd hu hp hpre hret
  obtain ⟨hD, hds, hvals⟩ := hpre
  obtain ⟨ep, hA⟩ := hD.dictAt
  refine wpAny_call ?_
  (refine' enterP ?k1 ?k2 ?k3 ?k5 ?kA ?kF ?kK ?k6 ?k7 ?k8 ?k9 ?kB ?_ ?c2 ?c3 ?c4 ?c5; (case kA => exact rfl); (case kF => exact rfl); (case kK => first | exact rfl | assumption); (case k1 => k_asm); (case k2 => k_asm); (case k3 => k_asm); (case k5 => k_asm); (case k6 => k_is); (case k7 => k_is); (case k8 => ktr_room); (case k9 => first | exact BindsTo.of_eq rfl | exact binds_K (by k_in) rfl (by k_is) rfl rfl rfl | fail "k_enter: no rule for these arguments"); (case c5 => decide); (case kB => exact locs rfl); (case c2 => exact rfl); (case c3 => exact rfl); (case c4 => exact rfl); k_whole; intro L' h' F' N' B' X' T'; (try dsimp only); (try k_lift B'); (try k_fold))
  k_with_none
  k_with "execs cons" => (k_here; with_reducible refine execs_pos (by first | assumption | omega) ?_; intro tk' htk'; (try dsimp only))
  k_with "TokP" => (with_reducible refine tokP_in ?_; intro htk'; (try dsimp only); (try dsimp only at htk'))
  k_with "eval Name" => (k_here; k_dflt (first | ( (with_reducible rename Fr _ _ _ _ => F9); refine nameX_L F9 (by rfl) ?_ (by rfl) (by rfl); k_whole) | ( (with_reducible rename News _ _ _ _ => N9); refine nameX_C N9 (by rfl) (by k_mem) (by k_asm) ?_ (by rfl) (by rfl); k_whole) | ( (with_reducible rename Fr _ _ _ _ => F9); refine nameX_K F9 (by k_asm) (by k_asm) (by k_is) ?_ (by rfl) (by rfl); k_whole) | ( (with_reducible rename Fr _ _ _ _ => F9); refine nameX_B F9 (by k_asm) (by k_asm) (by k_is) (by boot_fast) (by decide) ?_ (by rfl) (by rfl); k_whole)))
  k_with "storeName" => (k_here; k_dflt (first | ( (with_reducible rename Fr _ _ _ _ => F9); (with_reducible rename News _ _ _ _ => N9); refine storeX_L F9 N9 ?_ (by rfl) (by rfl); k_whole; intro h' F' N'; (try k_sweep)) | ( (with_reducible rename Fr _ _ _ _ => F9); (with_reducible rename News _ _ _ _ => N9); refine storeX_C F9 N9 (by rfl) (by k_updF) (by k_asm) ?_ (by rfl) (by rfl); k_whole; intro h' o' F' N' d'; (try dsimp only at N'); (try k_sweep))))
  k_with "call builtin:list.append" => (k_here; (with_reducible show wpAny _ _ (call (Value.builtin _) [Value.ref _, _]) _ _ _); k_dflt ( refine append_K (by k_asm) (by k_asm) (by k_upd) ?_ (by first | (rw [sizeLine_eq]; exact Nat.le_of_ble_eq_true rfl)); k_whole); intro h' F' N'; (try k_sweep))
  k_with "getMethod ref" => (k_here; k_dflt (refine m_values (knd := ik _) (dictOf_keep (by assumption) (Fr.keep (by k_asm))) ?_))
  k_with "call builtin:dict.values" => (k_here; k_dflt ( (with_reducible rename Fr _ _ _ _ => F9); refine c_values (knd := ik _) F9 (by first | k_asm | exact News.nil) (by exact dictOf_keep (by assumption) (Fr.keep (by k_asm))) (by assumption) ?_; k_whole); intro V' h' F' N' l1; (try k_lt l1))
  k_with "call type:filter" => (k_here; k_dflt ( (with_reducible rename Fr _ _ _ _ => F9); (with_reducible rename News _ _ _ _ => N9); refine c_filter (knd := ik _) F9 N9 (by k_mem) (by assumption) ?_; k_whole); intro z' I' h' F' N' lz l1; (try k_lt l1))
  k_with "compareOp Eq ref" => (k_here; (refine cmp_ofEq ?_); k_dflt ( refine cmp_K (by ktr_units) (by k_asm) (by k_asm) (by k_inst) (by k_typeOf) (by k_is) (by k_is) (by k_is) ?_; k_whole))
  k_with "CmpBack" => (k_here; dsimp only [PySem.W.CmpBack])
  k_with "StrBack" => (k_here; dsimp only [PySem.W.StrBack])
  k_steps
  rename Fr _ _ _ _ => F4
  rename News _ _ _ _ => N4
  rename Below _ _ _ _ => B4
  refine c_max (knd := ik w) (kvs := kvs) (ep := ep) (b := truthV) (gt := gtV τ) rfl F4 N4 (by k_mem) (by k_mem) (by show @Ne Nat _ _; omega) hA (by dsimp only; omega) ?_ ?_ ?_
  · intro v hv A' s' Q' E' F5 q
    rcases hvals v hv with rfl | ⟨x, rfl, hx, _⟩
    · exact truthy_none q
    · obtain ⟨dx, a1, n1, t1, t2, h1, h2⟩ := hx
      have I1 : PySem.W.InstAt s'.heap x (instObj 127 dx) 127 (some (dictOf [⟨a1, .str (PySem.Str.ofString "text") t1, .str (τ x) t2⟩] n1)) := ⟨F5.keep _ _ h1, rfl, rfl, F5.keep _ _ h2⟩
      refine' truthy_K0 F5 ?X I1 ?h1 ?h2 q
      case X => k_asm
      case h1 => k_is
      case h2 => k_is
  · intro x hx y hy bx by_ s' Q' E' F5 t5 q
    rcases hvals x hx with rfl | ⟨x', rfl, hqx, _⟩
    · cases bx
    rcases hvals y hy with rfl | ⟨y', rfl, hqy, _⟩
    · cases by_
    refine q_gt w mean mg mb x' y' (τ x') (τ y') (dp + 1) (un + 4) _ _ _ _ _ _ _ _ _ _ _ _ s' Q' E' B4 F5 (by k_asm) (by k_asm) ?kk (by omega) (by omega) t5 ⟨hqx.keeps F5.keep, hqy.keeps F5.keep⟩ ?_
    case kk => rfl
    intro v h' tk' hkeep hv t6
    rw [hv]
    exact q h' tk' hkeep t6
  · intro h' tk' F5 N5 t5
    clear F4 N4
    generalize hbv : best (gtV τ) _ none (List.filter truthV (List.map (fun x => x.snd) kvs)) = bv
    rcases best_mem (gtV τ) _ _ none with ⟨e1, _, e3⟩ | e1 | e1
    case inl =>
      rw [hbv] at e1
      subst e1
      k_steps
      (with_reducible rename Fr s.heap _ _ _ => F9)
      exact hret _ _ _ F9.keep ⟨_, _, rfl, .inl ⟨e3, rfl⟩⟩ (by first | assumption | omega)
    case inr.inl => cases e1
    case inr.inr =>
      rw [hbv] at e1
      obtain ⟨e2, e3⟩ := List.mem_filter.mp e1
      rcases hvals bv e2 with rfl | ⟨x, rfl, hx, hx4, hxm⟩
      · cases e3
      obtain ⟨dx, a1, n1, t1, t2, h1, h2⟩ := hx
      have I1 : PySem.W.InstAt s.heap x (instObj 127 dx) 127 (some (dictOf [⟨a1, .str (PySem.Str.ofString "text") t1, .str (τ x) t2⟩] n1)) := ⟨h1, rfl, rfl, h2⟩
      k_steps
      (with_reducible rename Fr s.heap _ _ _ => F9)
      exact hret _ _ _ F9.keep ⟨_, _, rfl, .inr ⟨x, _, hbv, if_pos (by omega)⟩⟩ (by first | assumption | omega)

end
section
open PySem.Spec PySem.Calls

end
/-! Gi -/
section
open PySem.Spec PySem.Calls
variable (w : World) (mean : ExcName → Option Value) (mg mb : PySem.Str → Option Value)
local macro_rules | `(tactic| k_inst) => `(tactic| first | (refine instAt_keeps (by assumption) (Fr.keep (by k_asm))) | (refine' instAt_keeps (instAt_keeps ?kiI ?kiK) (Fr.keep ?kiF); (case kiF => k_asm); (case kiI => assumption); (case kiK => exact Fr.keep (by k_asm))))
theorem int_eq {a b : Int} {t : Tok} (h : a = b) : Value.int a t = .int b t := by rw [h]
theorem width_i1 (d : Addr) (line : Int) (tl : Tok) (hl : 1 ≤ line ∧ line < 100000000) : Ct40 w mean mg mb (call (.ref 21) [.ref d]) (fun h => Heap.DictOf (ik w) h d [((0 : Int), Value.int line tl)] ∧ (d == sysModules) = false)
    (fun _ _ v => ∃ t, v = .int (if ((PySem.Str.ofString (toString line)).length : Int) > 3 then ((PySem.Str.ofString (toString line)).length : Int) else 3) t) := by
  dsimp only [Ct40]; k_fill; w_top off
  intro dp un gd cn cs a ccd cl outer A₀ base h₀ L m s Q E B F X T hk hd hu hp hpre hret
  obtain ⟨hD, hds⟩ := hpre
  obtain ⟨ep, hA⟩ := hD.dictAt
  have hv0 : ∀ v ∈ List.map (fun x => x.2) [((0 : Int), Value.int line tl)], v = .none ∨ ∃ a t, v = .int a t := by
    intro v hv
    simp at hv
    subst hv; exact .inr ⟨_, _, rfl⟩
  refine wpAny_call ?_
  (refine' enterP ?k1 ?k2 ?k3 ?k5 ?kA ?kF ?kK ?k6 ?k7 ?k8 ?k9 ?kB ?_ ?c2 ?c3 ?c4 ?c5; (case kA => exact rfl); (case kF => exact rfl); (case kK => first | exact rfl | assumption); (case k1 => k_asm); (case k2 => k_asm); (case k3 => k_asm); (case k5 => k_asm); (case k6 => k_is); (case k7 => k_is); (case k8 => ktr_room); (case k9 => first | exact BindsTo.of_eq rfl | exact binds_K (by k_in) rfl (by k_is) rfl rfl rfl | fail "k_enter: no rule for these arguments"); (case c5 => decide); (case kB => exact locs rfl); (case c2 => exact rfl); (case c3 => exact rfl); (case c4 => exact rfl); k_whole; intro L' h' F' N' B' X' T'; (try dsimp only); (try k_lift B'); (try k_fold))
  k_with_none
  k_with "execs cons" => (k_here; with_reducible refine execs_pos (by first | assumption | omega) ?_; intro tk' htk'; (try dsimp only))
  k_with "TokP" => (with_reducible refine tokP_in ?_; intro htk'; (try dsimp only); (try dsimp only at htk'))
  k_with "eval Name" => (k_here; k_dflt (first | ( (with_reducible rename Fr _ _ _ _ => F9); refine nameX_L F9 (by rfl) ?_ (by rfl) (by rfl); k_whole) | ( (with_reducible rename News _ _ _ _ => N9); refine nameX_C N9 (by rfl) (by k_mem) (by k_asm) ?_ (by rfl) (by rfl); k_whole) | ( (with_reducible rename Fr _ _ _ _ => F9); refine nameX_K F9 (by k_asm) (by k_asm) (by k_is) ?_ (by rfl) (by rfl); k_whole) | ( (with_reducible rename Fr _ _ _ _ => F9); refine nameX_B F9 (by k_asm) (by k_asm) (by k_is) (by boot_fast) (by decide) ?_ (by rfl) (by rfl); k_whole)))
  k_with "storeName" => (k_here; k_dflt (first | ( (with_reducible rename Fr _ _ _ _ => F9); (with_reducible rename News _ _ _ _ => N9); refine storeX_L F9 N9 ?_ (by rfl) (by rfl); k_whole; intro h' F' N'; (try k_sweep)) | ( (with_reducible rename Fr _ _ _ _ => F9); (with_reducible rename News _ _ _ _ => N9); refine storeX_C F9 N9 (by rfl) (by k_updF) (by k_asm) ?_ (by rfl) (by rfl); k_whole; intro h' o' F' N' d'; (try dsimp only at N'); (try k_sweep))))
  k_with "call builtin:list.append" => (k_here; (with_reducible show wpAny _ _ (call (Value.builtin _) [Value.ref _, _]) _ _ _); k_dflt ( refine append_K (by k_asm) (by k_asm) (by k_upd) ?_ (by first | (rw [sizeLine_eq]; exact Nat.le_of_ble_eq_true rfl)); k_whole); intro h' F' N'; (try k_sweep))
  k_with "getMethod ref" => (k_here; k_dflt (refine m_values (knd := ik _) (dictOf_keep (by assumption) (Fr.keep (by k_asm))) ?_))
  k_with "call builtin:dict.values" => (k_here; k_dflt ( (with_reducible rename Fr _ _ _ _ => F9); refine c_values (knd := ik _) F9 (by first | k_asm | exact News.nil) (by exact dictOf_keep (by assumption) (Fr.keep (by k_asm))) (by assumption) ?_; k_whole); intro V' h' F' N' l1; (try k_lt l1))
  k_with "call type:filter" => (k_here; k_dflt ( (with_reducible rename Fr _ _ _ _ => F9); (with_reducible rename News _ _ _ _ => N9); refine c_filter (knd := ik _) F9 N9 (by k_mem) (by assumption) ?_; k_whole); intro z' I' h' F' N' lz l1; (try k_lt l1))
  k_with "compareOp Eq ref" => (k_here; (refine cmp_ofEq ?_); k_dflt ( refine cmp_K (by ktr_units) (by k_asm) (by k_asm) (by k_inst) (by k_typeOf) (by k_is) (by k_is) (by k_is) ?_; k_whole))
  k_with "CmpBack" => (k_here; dsimp only [PySem.W.CmpBack])
  k_with "StrBack" => (k_here; dsimp only [PySem.W.StrBack])
  k_with "compareOp In none ref" => (k_here; k_dflt (first | ( (with_reducible rename Fr _ _ _ _ => F9); (with_reducible rename News _ _ _ _ => N9); refine in_values (b := true) (knd := ik _) (by rfl) (by ktr_units) F9 N9 (by k_mem) (by assumption) (by assumption) (by rfl) ?_; k_whole) | ( (with_reducible rename Fr _ _ _ _ => F9); (with_reducible rename News _ _ _ _ => N9); refine in_values (b := false) (knd := ik _) (by rfl) (by ktr_units) F9 N9 (by k_mem) (by assumption) (by assumption) (by rfl) ?_; k_whole)); intro h' F' N')
  k_steps
  rename Fr _ _ _ _ => F4
  rename News _ _ _ _ => N4
  rename Below _ _ _ _ => B4
  refine c_max (knd := ik w) (kvs := [((0 : Int), Value.int line tl)]) (ep := ep) (b := truthV) (gt := gtV fun _ => PySem.Str.ofString "") rfl F4 N4 (by k_mem) (by k_mem) (by show @Ne Nat _ _; omega) hA (by dsimp only; omega) ?_ ?_ ?_
  · intro v hv A' s' Q' E' F5 q
    simp at hv
    subst hv; exact truthy_int q
  · intro x hx y hy bx by_ s' Q' E' F5 t5 q
    simp at hx hy
    subst hx; subst hy
    exact gt_int (by
      have := q s'.heap s'.toks (fun _ _ e => e) t5
      rw [show decide (line > line) = false by simp]
      exact this)
  · intro h' tk' F5 N5 t5
    clear F4 N4
    have hb : ∀ dv, best (gtV fun _ => PySem.Str.ofString "") dv none (List.filter truthV (List.map (fun x => x.snd) [((0 : Int), Value.int line tl)])) = .int line tl := fun dv => by
      have : truthV (.int line tl) = true := by simp only [truthV]; simp; omega
      rw [List.map_cons, List.filter_cons_of_pos this]
      rfl
    rw [hb]
    k_steps
    all_goals first
      | (exfalso; omega)
      | ((with_reducible rename Fr s.heap _ _ _ => F9); refine hret _ _ _ F9.keep ⟨_, int_eq ?_⟩ (by first | assumption | omega); omega)
      | ((with_reducible rename Fr s.heap _ _ _ => F9); refine hret _ _ _ F9.keep ⟨_, int_eq ?_⟩ (by first | assumption | omega); split <;> split <;> omega)
      | ((with_reducible rename Fr s.heap _ _ _ => F9); refine hret _ _ _ F9.keep ⟨_, int_eq ?_⟩ (by first | assumption | omega); omega)
theorem width_i2 (d : Addr) (line : Int) (tl : Tok) (hl : 1 ≤ line ∧ line < 100000000) : Ct40 w mean mg mb (call (.ref 21) [.ref d]) (fun h => Heap.DictOf (ik w) h d [((0 : Int), Value.int line tl), (1, Value.none)] ∧ (d == sysModules) = false)
    (fun _ _ v => ∃ t, v = .int (if ((PySem.Str.ofString (toString line)).length : Int) > 4 then ((PySem.Str.ofString (toString line)).length : Int) else 4) t) := by
  dsimp only [Ct40]; k_fill; w_top off
  intro dp un gd cn cs a ccd cl outer A₀ base h₀ L m s Q E B F X T hk hd hu hp hpre hret
  obtain ⟨hD, hds⟩ := hpre
  obtain ⟨ep, hA⟩ := hD.dictAt
  have hv0 : ∀ v ∈ List.map (fun x => x.2) [((0 : Int), Value.int line tl), (1, Value.none)], v = .none ∨ ∃ a t, v = .int a t := by
    intro v hv
    simp at hv
    rcases hv with rfl | rfl; exact .inr ⟨_, _, rfl⟩; exact .inl rfl
  refine wpAny_call ?_
  (refine' enterP ?k1 ?k2 ?k3 ?k5 ?kA ?kF ?kK ?k6 ?k7 ?k8 ?k9 ?kB ?_ ?c2 ?c3 ?c4 ?c5; (case kA => exact rfl); (case kF => exact rfl); (case kK => first | exact rfl | assumption); (case k1 => k_asm); (case k2 => k_asm); (case k3 => k_asm); (case k5 => k_asm); (case k6 => k_is); (case k7 => k_is); (case k8 => ktr_room); (case k9 => first | exact BindsTo.of_eq rfl | exact binds_K (by k_in) rfl (by k_is) rfl rfl rfl | fail "k_enter: no rule for these arguments"); (case c5 => decide); (case kB => exact locs rfl); (case c2 => exact rfl); (case c3 => exact rfl); (case c4 => exact rfl); k_whole; intro L' h' F' N' B' X' T'; (try dsimp only); (try k_lift B'); (try k_fold))
  k_with_none
  k_with "execs cons" => (k_here; with_reducible refine execs_pos (by first | assumption | omega) ?_; intro tk' htk'; (try dsimp only))
  k_with "TokP" => (with_reducible refine tokP_in ?_; intro htk'; (try dsimp only); (try dsimp only at htk'))
  k_with "eval Name" => (k_here; k_dflt (first | ( (with_reducible rename Fr _ _ _ _ => F9); refine nameX_L F9 (by rfl) ?_ (by rfl) (by rfl); k_whole) | ( (with_reducible rename News _ _ _ _ => N9); refine nameX_C N9 (by rfl) (by k_mem) (by k_asm) ?_ (by rfl) (by rfl); k_whole) | ( (with_reducible rename Fr _ _ _ _ => F9); refine nameX_K F9 (by k_asm) (by k_asm) (by k_is) ?_ (by rfl) (by rfl); k_whole) | ( (with_reducible rename Fr _ _ _ _ => F9); refine nameX_B F9 (by k_asm) (by k_asm) (by k_is) (by boot_fast) (by decide) ?_ (by rfl) (by rfl); k_whole)))
  k_with "storeName" => (k_here; k_dflt (first | ( (with_reducible rename Fr _ _ _ _ => F9); (with_reducible rename News _ _ _ _ => N9); refine storeX_L F9 N9 ?_ (by rfl) (by rfl); k_whole; intro h' F' N'; (try k_sweep)) | ( (with_reducible rename Fr _ _ _ _ => F9); (with_reducible rename News _ _ _ _ => N9); refine storeX_C F9 N9 (by rfl) (by k_updF) (by k_asm) ?_ (by rfl) (by rfl); k_whole; intro h' o' F' N' d'; (try dsimp only at N'); (try k_sweep))))
  k_with "call builtin:list.append" => (k_here; (with_reducible show wpAny _ _ (call (Value.builtin _) [Value.ref _, _]) _ _ _); k_dflt ( refine append_K (by k_asm) (by k_asm) (by k_upd) ?_ (by first | (rw [sizeLine_eq]; exact Nat.le_of_ble_eq_true rfl)); k_whole); intro h' F' N'; (try k_sweep))
  k_with "getMethod ref" => (k_here; k_dflt (refine m_values (knd := ik _) (dictOf_keep (by assumption) (Fr.keep (by k_asm))) ?_))
  k_with "call builtin:dict.values" => (k_here; k_dflt ( (with_reducible rename Fr _ _ _ _ => F9); refine c_values (knd := ik _) F9 (by first | k_asm | exact News.nil) (by exact dictOf_keep (by assumption) (Fr.keep (by k_asm))) (by assumption) ?_; k_whole); intro V' h' F' N' l1; (try k_lt l1))
  k_with "call type:filter" => (k_here; k_dflt ( (with_reducible rename Fr _ _ _ _ => F9); (with_reducible rename News _ _ _ _ => N9); refine c_filter (knd := ik _) F9 N9 (by k_mem) (by assumption) ?_; k_whole); intro z' I' h' F' N' lz l1; (try k_lt l1))
  k_with "compareOp Eq ref" => (k_here; (refine cmp_ofEq ?_); k_dflt ( refine cmp_K (by ktr_units) (by k_asm) (by k_asm) (by k_inst) (by k_typeOf) (by k_is) (by k_is) (by k_is) ?_; k_whole))
  k_with "CmpBack" => (k_here; dsimp only [PySem.W.CmpBack])
  k_with "StrBack" => (k_here; dsimp only [PySem.W.StrBack])
  k_with "compareOp In none ref" => (k_here; k_dflt (first | ( (with_reducible rename Fr _ _ _ _ => F9); (with_reducible rename News _ _ _ _ => N9); refine in_values (b := true) (knd := ik _) (by rfl) (by ktr_units) F9 N9 (by k_mem) (by assumption) (by assumption) (by rfl) ?_; k_whole) | ( (with_reducible rename Fr _ _ _ _ => F9); (with_reducible rename News _ _ _ _ => N9); refine in_values (b := false) (knd := ik _) (by rfl) (by ktr_units) F9 N9 (by k_mem) (by assumption) (by assumption) (by rfl) ?_; k_whole)); intro h' F' N')
  k_steps
  rename Fr _ _ _ _ => F4
  rename News _ _ _ _ => N4
  rename Below _ _ _ _ => B4
  refine c_max (knd := ik w) (kvs := [((0 : Int), Value.int line tl), (1, Value.none)]) (ep := ep) (b := truthV) (gt := gtV fun _ => PySem.Str.ofString "") rfl F4 N4 (by k_mem) (by k_mem) (by show @Ne Nat _ _; omega) hA (by dsimp only; omega) ?_ ?_ ?_
  · intro v hv A' s' Q' E' F5 q
    simp at hv
    rcases hv with rfl | rfl; exact truthy_int q; exact truthy_none q
  · intro x hx y hy bx by_ s' Q' E' F5 t5 q
    simp at hx hy
    rcases hx with rfl | rfl <;> rcases hy with rfl | rfl <;> first | (cases bx; done) | (cases by_; done) | skip
    exact gt_int (by
      have := q s'.heap s'.toks (fun _ _ e => e) t5
      rw [show decide (line > line) = false by simp]
      exact this)
  · intro h' tk' F5 N5 t5
    clear F4 N4
    have hb : ∀ dv, best (gtV fun _ => PySem.Str.ofString "") dv none (List.filter truthV (List.map (fun x => x.snd) [((0 : Int), Value.int line tl), (1, Value.none)])) = .int line tl := fun dv => by
      have : truthV (.int line tl) = true := by simp only [truthV]; simp; omega
      rw [List.map_cons, List.filter_cons_of_pos this]
      rfl
    rw [hb]
    k_steps
    all_goals first
      | (exfalso; omega)
      | ((with_reducible rename Fr s.heap _ _ _ => F9); refine hret _ _ _ F9.keep ⟨_, int_eq ?_⟩ (by first | assumption | omega); omega)
      | ((with_reducible rename Fr s.heap _ _ _ => F9); refine hret _ _ _ F9.keep ⟨_, int_eq ?_⟩ (by first | assumption | omega); split <;> split <;> omega)
      | ((with_reducible rename Fr s.heap _ _ _ => F9); refine hret _ _ _ F9.keep ⟨_, int_eq ?_⟩ (by first | assumption | omega); omega)

end
/-! Gn -/
section
open PySem.Spec PySem.Calls
variable (w : World) (mean : ExcName → Option Value) (mg mb : PySem.Str → Option Value)
local macro_rules | `(tactic| k_inst) => `(tactic| first | (refine instAt_keeps (by assumption) (Fr.keep (by k_asm))) | (refine' instAt_keeps (instAt_keeps ?kiI ?kiK) (Fr.keep ?kiF); (case kiF => k_asm); (case kiI => assumption); (case kiK => exact Fr.keep (by k_asm))))
/-- the width where there is no table -/
theorem width_i0 : Ct40 w mean mg mb (call (.ref 21) [.none]) (fun _ => True) (fun _ _ v => ∃ t, v = .int 0 t) := by
  dsimp only [Ct40]; k_fill; w_top off
  intro dp un gd cn cs a ccd cl outer A₀ base h₀ L m s Q E B F X T hk hd hu hp hpre hret
  refine wpAny_call ?_
  (refine' enterP ?k1 ?k2 ?k3 ?k5 ?kA ?kF ?kK ?k6 ?k7 ?k8 ?k9 ?kB ?_ ?c2 ?c3 ?c4 ?c5; (case kA => exact rfl); (case kF => exact rfl); (case kK => first | exact rfl | assumption); (case k1 => k_asm); (case k2 => k_asm); (case k3 => k_asm); (case k5 => k_asm); (case k6 => k_is); (case k7 => k_is); (case k8 => ktr_room); (case k9 => first | exact BindsTo.of_eq rfl | exact binds_K (by k_in) rfl (by k_is) rfl rfl rfl | fail "k_enter: no rule for these arguments"); (case c5 => decide); (case kB => exact locs rfl); (case c2 => exact rfl); (case c3 => exact rfl); (case c4 => exact rfl); k_whole; intro L' h' F' N' B' X' T'; (try dsimp only); (try k_lift B'); (try k_fold))
  k_with_none
  k_with "execs cons" => (k_here; with_reducible refine execs_pos (by first | assumption | omega) ?_; intro tk' htk'; (try dsimp only))
  k_with "TokP" => (with_reducible refine tokP_in ?_; intro htk'; (try dsimp only); (try dsimp only at htk'))
  k_with "eval Name" => (k_here; k_dflt (first | ( (with_reducible rename Fr _ _ _ _ => F9); refine nameX_L F9 (by rfl) ?_ (by rfl) (by rfl); k_whole) | ( (with_reducible rename News _ _ _ _ => N9); refine nameX_C N9 (by rfl) (by k_mem) (by k_asm) ?_ (by rfl) (by rfl); k_whole) | ( (with_reducible rename Fr _ _ _ _ => F9); refine nameX_K F9 (by k_asm) (by k_asm) (by k_is) ?_ (by rfl) (by rfl); k_whole) | ( (with_reducible rename Fr _ _ _ _ => F9); refine nameX_B F9 (by k_asm) (by k_asm) (by k_is) (by boot_fast) (by decide) ?_ (by rfl) (by rfl); k_whole)))
  k_with "storeName" => (k_here; k_dflt (first | ( (with_reducible rename Fr _ _ _ _ => F9); (with_reducible rename News _ _ _ _ => N9); refine storeX_L F9 N9 ?_ (by rfl) (by rfl); k_whole; intro h' F' N'; (try k_sweep)) | ( (with_reducible rename Fr _ _ _ _ => F9); (with_reducible rename News _ _ _ _ => N9); refine storeX_C F9 N9 (by rfl) (by k_updF) (by k_asm) ?_ (by rfl) (by rfl); k_whole; intro h' o' F' N' d'; (try dsimp only at N'); (try k_sweep))))
  k_with "call builtin:list.append" => (k_here; (with_reducible show wpAny _ _ (call (Value.builtin _) [Value.ref _, _]) _ _ _); k_dflt ( refine append_K (by k_asm) (by k_asm) (by k_upd) ?_ (by first | (rw [sizeLine_eq]; exact Nat.le_of_ble_eq_true rfl)); k_whole); intro h' F' N'; (try k_sweep))
  k_with "getMethod ref" => (k_here; k_dflt (refine m_values (knd := ik _) (dictOf_keep (by assumption) (Fr.keep (by k_asm))) ?_))
  k_with "call builtin:dict.values" => (k_here; k_dflt ( (with_reducible rename Fr _ _ _ _ => F9); refine c_values (knd := ik _) F9 (by first | k_asm | exact News.nil) (by exact dictOf_keep (by assumption) (Fr.keep (by k_asm))) (by assumption) ?_; k_whole); intro V' h' F' N' l1; (try k_lt l1))
  k_with "call type:filter" => (k_here; k_dflt ( (with_reducible rename Fr _ _ _ _ => F9); (with_reducible rename News _ _ _ _ => N9); refine c_filter (knd := ik _) F9 N9 (by k_mem) (by assumption) ?_; k_whole); intro z' I' h' F' N' lz l1; (try k_lt l1))
  k_with "compareOp Eq ref" => (k_here; (refine cmp_ofEq ?_); k_dflt ( refine cmp_K (by ktr_units) (by k_asm) (by k_asm) (by k_inst) (by k_typeOf) (by k_is) (by k_is) (by k_is) ?_; k_whole))
  k_with "CmpBack" => (k_here; dsimp only [PySem.W.CmpBack])
  k_with "StrBack" => (k_here; dsimp only [PySem.W.StrBack])
  k_with "compareOp In none ref" => (k_here; k_dflt (first | ( (with_reducible rename Fr _ _ _ _ => F9); (with_reducible rename News _ _ _ _ => N9); refine in_values (b := true) (knd := ik _) (by rfl) (by ktr_units) F9 N9 (by k_mem) (by assumption) (by assumption) (by rfl) ?_; k_whole) | ( (with_reducible rename Fr _ _ _ _ => F9); (with_reducible rename News _ _ _ _ => N9); refine in_values (b := false) (knd := ik _) (by rfl) (by ktr_units) F9 N9 (by k_mem) (by assumption) (by assumption) (by rfl) ?_; k_whole)); intro h' F' N')
  k_steps
  all_goals ((with_reducible rename Fr s.heap _ _ _ => F9); refine hret _ _ _ F9.keep ⟨_, rfl⟩ (by first | assumption | omega))
end
end
/-! Ks -/
section
open PySem.Spec PySem.Calls
/-- the eight signs of an escape, by their numbers -/
def sgs : Nat → List Nat
  | 0 => [9, 10, 13, 34, 38, 62, 60, 97]
  | 1 => [9, 10, 13, 38, 62, 60, 34, 97]
  | 2 => [9, 10, 13, 38, 62, 34, 60, 97]
  | 3 => [9, 10, 34, 13, 38, 62, 60, 97]
  | _ => [9, 10, 13, 38, 60, 34, 62, 97]
/-- how the escape spells them -/
def spls : Nat → List (List Nat)
  | 0 => [[9], [10], [13], [34], [38, 97, 109, 112, 59], [38, 103, 116, 59], [38, 108, 116, 59], [97]]
  | 1 => [[38, 35, 48, 57, 59], [38, 35, 49, 48, 59], [38, 35, 49, 51, 59], [38, 97, 109, 112, 59], [38, 103, 116, 59], [38, 108, 116, 59], [38, 113, 117, 111, 116, 59], [97]]
  | 2 => [[9], [10], [13], [38, 97, 109, 112, 59], [38, 103, 116, 59], [38, 113, 117, 111, 116, 59], [60], [97]]
  | 3 => [[9], [10], [34], [38, 35, 120, 68, 59], [38, 97, 109, 112, 59], [38, 103, 116, 59], [38, 108, 116, 59], [97]]
  | _ => [[38, 35, 120, 57, 59], [38, 35, 120, 65, 59], [38, 35, 120, 68, 59], [38, 97, 109, 112, 59], [38, 108, 116, 59], [38, 113, 117, 111, 116, 59], [62], [97]]
def wK : Nat → Addr
  | 0 => 145
  | 1 => 152
  | 2 => 159
  | 3 => 166
  | _ => 173
def escK : Nat → List Nat → List Nat
  | 0 => esc0
  | 1 => esc1
  | 2 => esc2
  | 3 => esc3
  | _ => esc4
def sgK (k : Nat) (r : Int) : Nat := (sgs k).getD r.toNat 0
def spK (k : Nat) (r : Int) : List Nat := (spls k).getD r.toNat []
def R8 (r : Int) : Prop := 0 ≤ r ∧ r < 8
theorem k5 {k : Nat} (h : k < 5) : k = 0 ∨ k = 1 ∨ k = 2 ∨ k = 3 ∨ k = 4 := by omega
theorem flat_one (f : List Nat → List Nat) (g : Nat → List Nat) (hg : ∀ l, f l = l.flatMap g) (l : List Nat) : f l = l.flatMap fun c => f [c] := by
  rw [hg]
  congr 1
  funext c
  rw [hg]; simp
theorem esc_flat (k : Nat) (hk : k < 5) (l : List Nat) : escK k l = l.flatMap fun c => escK k [c] := by
  rcases k5 hk with rfl | rfl | rfl | rfl | rfl
  · refine flat_one esc0 (fun c => ((sub1 38 [38, 97, 109, 112, 59] c).flatMap (sub1 60 [38, 108, 116, 59])).flatMap (sub1 62 [38, 103, 116, 59])) (fun l => ?_) l
    simp only [esc0, rep1, List.flatMap_assoc]
  · refine flat_one esc1 (fun c => ((((((sub1 38 [38, 97, 109, 112, 59] c).flatMap (sub1 60 [38, 108, 116, 59])).flatMap (sub1 62 [38, 103, 116, 59])).flatMap (sub1 34 [38, 113, 117, 111, 116, 59])).flatMap (sub1 13 [38, 35, 49, 51, 59])).flatMap (sub1 10 [38, 35, 49, 48, 59])).flatMap (sub1 9 [38, 35, 48, 57, 59])) (fun l => ?_) l
    simp only [esc1, rep1, List.flatMap_assoc]
  · refine flat_one esc2 (fun c => ((sub1 38 [38, 97, 109, 112, 59] c).flatMap (sub1 62 [38, 103, 116, 59])).flatMap (sub1 34 [38, 113, 117, 111, 116, 59])) (fun l => ?_) l
    simp only [esc2, rep1, List.flatMap_assoc]
  · refine flat_one esc3 (fun c => (((sub1 38 [38, 97, 109, 112, 59] c).flatMap (sub1 60 [38, 108, 116, 59])).flatMap (sub1 62 [38, 103, 116, 59])).flatMap (sub1 13 [38, 35, 120, 68, 59])) (fun l => ?_) l
    simp only [esc3, rep1, List.flatMap_assoc]
  · refine flat_one esc4 (fun c => (((((sub1 38 [38, 97, 109, 112, 59] c).flatMap (sub1 60 [38, 108, 116, 59])).flatMap (sub1 34 [38, 113, 117, 111, 116, 59])).flatMap (sub1 9 [38, 35, 120, 57, 59])).flatMap (sub1 10 [38, 35, 120, 65, 59])).flatMap (sub1 13 [38, 35, 120, 68, 59])) (fun l => ?_) l
    simp only [esc4, rep1, List.flatMap_assoc]
theorem esc_sign : ∀ k : Fin 5, ∀ i : Fin 8, escK k [(sgs k).getD i 0] = (spls k).getD i [] := by decide +kernel
theorem esc_rank {k : Nat} (hk : k < 5) {r : Int} (h : R8 r) : escK k [sgK k r] = spK k r := esc_sign ⟨k, hk⟩ ⟨r.toNat, by have := h.1; have := h.2; omega⟩
/-- the writing of a text of signs is the signs' spellings end to end -/
theorem esc_text {k : Nat} (hk : k < 5) : ∀ rs : List Int, (∀ r ∈ rs, R8 r) → escK k (rs.map (sgK k)) = rs.flatMap (spK k) := by
  intro rs h
  rw [esc_flat k hk, List.flatMap_map]
  induction rs with
  | nil => rfl
  | cons r rs ih =>
    rw [List.flatMap_cons, List.flatMap_cons, ih fun x hx => h x (List.mem_cons_of_mem _ hx), esc_rank hk (h r List.mem_cons_self)]
/-- lower at the first sign in which they part -/
noncomputable def sl : List Nat → List Nat → Bool
  | a :: x, b :: y => decide (a < b) || (decide (a = b) && sl x y)
  | _, _ => false
theorem sl_lt : ∀ {a b : List Nat}, sl a b = true → ∀ x y, a ++ x < b ++ y
  | [], _, h, _, _ => by simp [sl] at h
  | _ :: _, [], h, _, _ => by simp [sl] at h
  | a :: u, b :: v, h, x, y => by
    simp only [sl, Bool.or_eq_true, Bool.and_eq_true, decide_eq_true_eq] at h
    show a :: (u ++ x) < b :: (v ++ y)
    rw [List.cons_lt_cons_iff]
    rcases h with h | ⟨h, h'⟩
    · exact .inl h
    · exact .inr ⟨h, sl_lt h' x y⟩
theorem app_lt : ∀ (a : List Nat) {x y : List Nat}, x < y → a ++ x < a ++ y
  | [], _, _, h => h
  | a :: u, x, y, h => by
    show a :: (u ++ x) < a :: (u ++ y)
    rw [List.cons_lt_cons_iff]
    exact .inr ⟨rfl, app_lt u h⟩
theorem spl_sl : ∀ k : Fin 5, ∀ i j : Fin 8, i < j → sl ((spls k).getD i []) ((spls k).getD j []) = true := by decide +kernel
theorem spl_len : ∀ k : Fin 5, ∀ i : Fin 8, ((spls k).getD i []) ≠ [] ∧ ((spls k).getD i []).length ≤ 6 := by decide +kernel
theorem sp_sl {k : Nat} (hk : k < 5) {a b : Int} (ha : R8 a) (hb : R8 b) (h : a < b) : sl (spK k a) (spK k b) = true :=
  spl_sl ⟨k, hk⟩ ⟨a.toNat, by have := ha.1; have := ha.2; omega⟩ ⟨b.toNat, by have := hb.1; have := hb.2; omega⟩ (by have := ha.1; have := hb.1; show a.toNat < b.toNat; omega)
theorem sp_ne {k : Nat} (hk : k < 5) {a : Int} (ha : R8 a) : spK k a ≠ [] := (spl_len ⟨k, hk⟩ ⟨a.toNat, by have := ha.1; have := ha.2; omega⟩).1
theorem sp_le {k : Nat} (hk : k < 5) {a : Int} (ha : R8 a) : (spK k a).length ≤ 6 := (spl_len ⟨k, hk⟩ ⟨a.toNat, by have := ha.1; have := ha.2; omega⟩).2
/-- an end's number -/
noncomputable def kv : Nat → List Int → Int
  | 0, _ => 0
  | _ + 1, [] => 0
  | n + 1, r :: rs => (r + 1) * (9 ^ n : Nat) + kv n rs
theorem kv_bounds : ∀ (n : Nat) (rs : List Int), (∀ r ∈ rs, R8 r) → 0 ≤ kv n rs ∧ kv n rs < (9 ^ n : Nat)
  | 0, rs, _ => ⟨Int.le_refl _, by show (0 : Int) < ((9 ^ 0 : Nat) : Int); decide⟩
  | n + 1, [], _ => ⟨Int.le_refl _, by show (0 : Int) < ((9 ^ (n + 1) : Nat) : Int); have : 0 < 9 ^ (n + 1) := Nat.pow_pos (by decide); omega⟩
  | n + 1, r :: rs, h => by
    have ih := kv_bounds n rs fun x hx => h x (List.mem_cons_of_mem _ hx)
    have hr := h r List.mem_cons_self
    obtain ⟨h0, h1⟩ := hr
    show 0 ≤ (r + 1) * (9 ^ n : Nat) + kv n rs ∧ (r + 1) * (9 ^ n : Nat) + kv n rs < (9 ^ (n + 1) : Nat)
    rw [Nat.pow_succ]
    generalize 9 ^ n = w at *
    generalize kv n rs = u at *
    have e1 : (r + 1) * (w : Int) ≤ 8 * (w : Int) := Int.mul_le_mul_of_nonneg_right (by omega) (by omega)
    have e2 : 0 ≤ (r + 1) * (w : Int) := Int.mul_nonneg (by omega) (by omega)
    omega
/-- ends stand as their numbers do -/
theorem kv_lt {k : Nat} (hk : k < 5) : ∀ (n : Nat) (xs ys : List Int), (∀ r ∈ xs, R8 r) → (∀ r ∈ ys, R8 r) → kv n xs < kv n ys → xs.flatMap (spK k) < ys.flatMap (spK k)
  | 0, _, _, _, _, h => absurd h (Int.lt_irrefl _)
  | n + 1, [], [], _, _, h => absurd h (Int.lt_irrefl _)
  | n + 1, [], b :: ys, _, hy, _ => by
    rw [List.flatMap_cons]
    have := sp_ne hk (hy b List.mem_cons_self)
    cases hs : spK k b with
    | nil => exact absurd hs this
    | cons c t => exact List.nil_lt_cons _ _
  | n + 1, a :: xs, [], hx, _, h => by
    have := (kv_bounds (n + 1) (a :: xs) hx).1
    exact absurd h (Int.not_lt.mpr this)
  | n + 1, a :: xs, b :: ys, hx, hy, h => by
    rw [List.flatMap_cons, List.flatMap_cons]
    have hx' : ∀ r ∈ xs, R8 r := fun x h => hx x (List.mem_cons_of_mem _ h)
    have hy' : ∀ r ∈ ys, R8 r := fun x h => hy x (List.mem_cons_of_mem _ h)
    have bx := kv_bounds n xs hx'
    have byy := kv_bounds n ys hy'
    have h' : (a + 1) * (9 ^ n : Nat) + kv n xs < (b + 1) * (9 ^ n : Nat) + kv n ys := h
    rcases Int.lt_trichotomy a b with q | q | q
    · exact sl_lt (sp_sl hk (hx a List.mem_cons_self) (hy b List.mem_cons_self) q) _ _
    · subst q
      refine app_lt _ (kv_lt hk n xs ys hx' hy' (by omega))
    · exfalso
      generalize 9 ^ n = w at *
      generalize kv n xs = u at *
      generalize kv n ys = v at *
      have e1 : (b + 1 + 1) * (w : Int) ≤ (a + 1) * (w : Int) := Int.mul_le_mul_of_nonneg_right (by omega) (by omega)
      rw [Int.add_mul (b + 1) 1, Int.one_mul] at e1
      omega
end
/-! Kt -/
section
open PySem.Spec PySem.Calls
theorem sg_a : PySem.Str.ofString "\t\n\x0d\"&><a" = tx (sgs 0) := by decide +kernel
theorem sp_a : [PySem.Str.ofString "\t", PySem.Str.ofString "\n", PySem.Str.ofString "\x0d", PySem.Str.ofString "\"", PySem.Str.ofString "&amp;", PySem.Str.ofString "&gt;", PySem.Str.ofString "&lt;", PySem.Str.ofString "a"] = (spls 0).map tx := by decide +kernel
theorem sg_b : PySem.Str.ofString "\t\n\x0d&><\"a" = tx (sgs 1) := by decide +kernel
theorem sp_b : [PySem.Str.ofString "&#09;", PySem.Str.ofString "&#10;", PySem.Str.ofString "&#13;", PySem.Str.ofString "&amp;", PySem.Str.ofString "&gt;", PySem.Str.ofString "&lt;", PySem.Str.ofString "&quot;", PySem.Str.ofString "a"] = (spls 1).map tx := by decide +kernel
theorem sg_c : PySem.Str.ofString "\t\n\x0d&>\"<a" = tx (sgs 2) := by decide +kernel
theorem sp_c : [PySem.Str.ofString "\t", PySem.Str.ofString "\n", PySem.Str.ofString "\x0d", PySem.Str.ofString "&amp;", PySem.Str.ofString "&gt;", PySem.Str.ofString "&quot;", PySem.Str.ofString "<", PySem.Str.ofString "a"] = (spls 2).map tx := by decide +kernel
theorem sg_d : PySem.Str.ofString "\t\n\"\x0d&><a" = tx (sgs 3) := by decide +kernel
theorem sp_d : [PySem.Str.ofString "\t", PySem.Str.ofString "\n", PySem.Str.ofString "\"", PySem.Str.ofString "&#xD;", PySem.Str.ofString "&amp;", PySem.Str.ofString "&gt;", PySem.Str.ofString "&lt;", PySem.Str.ofString "a"] = (spls 3).map tx := by decide +kernel
theorem sg_e : PySem.Str.ofString "\t\n\x0d&<\">a" = tx (sgs 4) := by decide +kernel
theorem sp_e : [PySem.Str.ofString "&#x9;", PySem.Str.ofString "&#xA;", PySem.Str.ofString "&#xD;", PySem.Str.ofString "&amp;", PySem.Str.ofString "&lt;", PySem.Str.ofString "&quot;", PySem.Str.ofString ">", PySem.Str.ofString "a"] = (spls 4).map tx := by decide +kernel
theorem str8 {x0 x1 x2 x3 x4 x5 x6 x7 : PySem.Str} {u0 u1 u2 u3 u4 u5 u6 u7 : Tok} {l : List (List Nat)} (h : [x0, x1, x2, x3, x4, x5, x6, x7] = l.map tx) :
    ∀ i < 8, ∃ u, (#[Value.str x0 u0, .str x1 u1, .str x2 u2, .str x3 u3, .str x4 u4, .str x5 u5, .str x6 u6, .str x7 u7] : Array Value)[i]? = some (.str (tx (l.getD i [])) u) := by
  have hl : l.length = 8 := by rw [← List.length_map (f := tx), ← h]; rfl
  have key : ∀ (i : Nat) (x : PySem.Str), [x0, x1, x2, x3, x4, x5, x6, x7][i]? = some x → x = tx (l.getD i []) := fun i x e => by
    rw [h, List.getElem?_map] at e
    cases q : l[i]? with
    | none => rw [q] at e; cases e
    | some y =>
      rw [q] at e
      rw [List.getD_eq_getElem?_getD, q]
      exact (Option.some.inj e).symm
  intro i hi
  have : i = 0 ∨ i = 1 ∨ i = 2 ∨ i = 3 ∨ i = 4 ∨ i = 5 ∨ i = 6 ∨ i = 7 := by omega
  rcases this with rfl | rfl | rfl | rfl | rfl | rfl | rfl | rfl
  · exact ⟨u0, by rw [← key 0 x0 rfl]; rfl⟩
  · exact ⟨u1, by rw [← key 1 x1 rfl]; rfl⟩
  · exact ⟨u2, by rw [← key 2 x2 rfl]; rfl⟩
  · exact ⟨u3, by rw [← key 3 x3 rfl]; rfl⟩
  · exact ⟨u4, by rw [← key 4 x4 rfl]; rfl⟩
  · exact ⟨u5, by rw [← key 5 x5 rfl]; rfl⟩
  · exact ⟨u6, by rw [← key 6 x6 rfl]; rfl⟩
  · exact ⟨u7, by rw [← key 7 x7 rfl]; rfl⟩
theorem news4 {h₀ h : Heap} {L : Addr} {p1 p2 p3 p4 : Addr × Obj} {news : List (Addr × Obj)} (N : News h₀ L h news) (h1 : p1 ∈ news) (h2 : p2 ∈ news) (h3 : p3 ∈ news) (h4 : p4 ∈ news) : News h₀ L h [p1, p2, p3, p4] := by
  intro p hp
  simp only [List.mem_cons, List.not_mem_nil, or_false] at hp
  rcases hp with rfl | rfl | rfl | rfl
  · exact N _ h1
  · exact N _ h2
  · exact N _ h3
  · exact N _ h4
end
/-! St -/
section
open PySem.Spec PySem.Calls
theorem paired_strs {R : Value → Value → Prop} {f : Int → PySem.Str} (hR : ∀ v y, R v y → ∃ r t u, v = .int r t ∧ y = .str (f r) u) : ∀ {vs ys : List Value} {rs : List Int}, IntsAre vs rs → Paired R vs ys → ∃ l : List (PySem.Str × Tok), ys = strValues l ∧ l.map (·.1) = rs.map f
  | _, _, _, .nil, .nil => ⟨[], rfl, rfl⟩
  | _, _, _, .cons n t h, .cons hp hq => by
    obtain ⟨l, rfl, hl⟩ := paired_strs hR h hq
    obtain ⟨r, t', u, e, rfl⟩ := hR _ _ hp
    cases e
    exact ⟨(f n, u) :: l, rfl, by rw [List.map_cons, List.map_cons, hl]⟩
theorem ints_mem : ∀ {vs : List Value} {rs : List Int}, IntsAre vs rs → ∀ v ∈ vs, ∃ r t, v = .int r t ∧ r ∈ rs
  | _, _, .nil, v, hv => by cases hv
  | _, _, .cons n t h, v, hv => by
    rcases List.mem_cons.mp hv with rfl | hv
    · exact ⟨n, t, rfl, List.mem_cons_self⟩
    · obtain ⟨r, u, e, hr⟩ := ints_mem h v hv
      exact ⟨r, u, e, List.mem_cons_of_mem _ hr⟩
section
variable {prog : Program} {w : World} {A : Around} {E : Value → Shared → Prop} {s : Shared} {env : Env}
/-- what the walk must show of the source of a comprehension that makes texts of ranks -/
def SrcS (prog : Program) (w : World) (A : Around) (env : Env) (scope : Scope) (cl : List (PySem.Str × Addr)) (elt : Expr) (f : Int → List Nat) (Q : Value → Shared → Prop) (xv : Value) (s₁ : Shared) : Prop :=
  ∃ (ax : Addr) (items : Array Value) (n : Nat) (rs : List Int), xv = .ref ax ∧ s₁.heap.get? ax = some (PySem.W.listOf items n) ∧ items.size ≤ 100 ∧ IntsAre items.toList rs ∧ (∀ r ∈ rs, R8 r) ∧
    (∀ C s₂ m₂ E' r t, R8 r → (∀ b o, s₁.heap.get? b = some o → s₂.heap.get? b = some o) → s₂.heap.Ns C m₂ → m₂ (PySem.Str.ofString "rank") = some (.int r t) →
      wpAny (model prog w) A (eval elt (compEnvC scope cl C env)) (fun y s₃ => (∃ u, y = .str (tx (f r)) u) ∧ Keeps s₂ s₃) E' s₂) ∧
    (∀ D h' tk l nn, s₁.heap.objs.size ≤ D → h'.get? D = some (PySem.W.listOf (strValues l).toArray nn) → l.map (·.1) = rs.map (fun r => tx (f r)) → (∀ b o, s₁.heap.get? b = some o → h'.get? b = some o) → Q (.ref D) { s₁ with heap := h', toks := tk })
theorem str_comp {elt iter : Expr} {px pos : Pos} {scope : Scope} {cl : List (PySem.Str × Addr)} {Q : Value → Shared → Prop} (f : Int → List Nat)
    (hh : A.handled = none) (hclos : closureFor scope env = pure cl) (hcell : ∀ y ∈ scope.names, y.2 ≠ .cell) (hkind : scope.kind = .function)
    (hnames : ∀ y ∈ scope.names, y.2 = .local → scope.names.lookup y.1 = some .local) (hx : scope.names.lookup (PySem.Str.ofString "rank") = some .local)
    (h : wpAny (model prog w) A (eval iter env) (SrcS prog w A env scope cl elt f Q) E s)
    (hs : ∀ x, foldedSetIterable iter env x = pure x := by intro _; rfl) :
    wpAny (model prog w) A (eval (.ListComp elt [⟨.Name (PySem.Str.ofString "rank") px, iter, [], 0⟩] scope pos) env) Q E s := by
  refine lc_list (fun v y => ∃ r t u, v = .int r t ∧ y = .str (tx (f r)) u) hh hclos hcell hkind hnames hx (wpAny_mono h (fun xv s₁ h₁ => ?_) fun _ _ e => e) hs
  obtain ⟨ax, items, n, rs, rfl, ha, hsz, hi, h8, helt, hQ⟩ := h₁
  refine ⟨ax, items, rfl, ⟨_, ha, rfl, _, rfl⟩, by rw [sizeLine_eq]; omega, ?_, ?_⟩
  · intro C v s₂ m₂ E' hv hC0 hC hmv hkeep ht
    obtain ⟨r, t, rfl, hr⟩ := ints_mem hi v hv
    refine wpAny_mono (helt C s₂ m₂ E' r t (h8 r hr) hkeep hC hmv) (fun y s₃ hy => ?_) fun _ _ e => e
    obtain ⟨⟨u, rfl⟩, hK⟩ := hy
    exact ⟨⟨r, t, u, rfl, rfl⟩, hK⟩
  · intro D h' tk ys nn hD hpl hF hkeep
    obtain ⟨l, hl, hl'⟩ := paired_strs (f := fun r => tx (f r)) (fun _ _ h => h) hi hF
    refine hQ D h' tk l nn hD ?_ hl' hkeep
    rw [← hl, Array.toArray_toList]; exact hpl
theorem elt_sign {cenv : Env} {p1 p2 p3 : Pos} {c : Addr} {k : Nat} {r : Int} {t u : Tok} {m : PySem.Str → Option Value} (hk5 : k < 5) (h8 : R8 r)
    (hk : cenv.scope.kind = .function) (hsk : cenv.kindOf (PySem.Str.ofString "signs") = some .cell) (hsc : cenv.cells.lookup (PySem.Str.ofString "signs") = some c) (hS : s.heap.IsCell c (some (.str (tx (sgs k)) u)))
    (hok : cenv.kindOf (PySem.Str.ofString "rank") = some .local) (hn : s.heap.Ns cenv.locals m) (hm : m (PySem.Str.ofString "rank") = some (.int r t)) :
    wpAny (model prog w) A (eval (.Subscript (.Name (PySem.Str.ofString "signs") p1) (.Name (PySem.Str.ofString "rank") p2) p3) cenv) (fun y s₃ => (∃ u, y = .str (tx [sgK k r]) u) ∧ Keeps s s₃) E s := by
  refine Subscript_Name (wpAny_Name (wpAny_loadName_cell hk hsk hsc hS (wpAny_Name (wpAny_loadName_local hk hok hn hm ?_))))
  have hlen : (sgs k).length = 8 := by rcases k5 hk5 with rfl | rfl | rfl | rfl | rfl <;> rfl
  obtain ⟨h0, h1⟩ := h8
  have hat : (tx (sgs k)).cps[r.toNat]? = some (sgK k r) := by
    show (sgs k).toArray[r.toNat]? = _
    rw [List.getElem?_toArray, sgK, List.getD_eq_getElem?_getD]
    rw [List.getElem?_eq_getElem (by omega)]; rfl
  have hit := item_meets (x := tx (sgs k)) h0 hat
  refine ⟨"str", _, PySem.F.slot_str_getitem.lookup, typeIs_str _ _ _, SB.getItem ?_ (charAt_isSome ?_ ?_) ?_⟩
  · have : r = 0 ∨ r = 1 ∨ r = 2 ∨ r = 3 ∨ r = 4 ∨ r = 5 ∨ r = 6 ∨ r = 7 := by omega
    rcases this with rfl | rfl | rfl | rfl | rfl | rfl | rfl | rfl <;> decide
  · rw [tx_len]; omega
  · rw [tx_len]; omega
  · rw [hit]
    exact ⟨⟨_, rfl⟩, s.heap, _, rfl, fun _ _ e => e⟩
theorem elt_spell {cenv : Env} {p1 p2 p3 : Pos} {c S : Addr} {k n : Nat} {its : Array Value} {r : Int} {t : Tok} {m : PySem.Str → Option Value} (h8 : R8 r) (hits : ∀ i < 8, ∃ u, its[i]? = some (.str (tx ((spls k).getD i [])) u)) (hS : s.heap.get? S = some (PySem.W.listOf its n))
    (hk : cenv.scope.kind = .function) (hsk : cenv.kindOf (PySem.Str.ofString "spellings") = some .cell) (hsc : cenv.cells.lookup (PySem.Str.ofString "spellings") = some c) (hc : s.heap.IsCell c (some (.ref S)))
    (hok : cenv.kindOf (PySem.Str.ofString "rank") = some .local) (hn : s.heap.Ns cenv.locals m) (hm : m (PySem.Str.ofString "rank") = some (.int r t)) :
    wpAny (model prog w) A (eval (.Subscript (.Name (PySem.Str.ofString "spellings") p1) (.Name (PySem.Str.ofString "rank") p2) p3) cenv) (fun y s₃ => (∃ u, y = .str (tx (spK k r)) u) ∧ Keeps s s₃) E s := by
  refine Subscript_Name (wpAny_Name (wpAny_loadName_cell hk hsk hsc hc (wpAny_Name (wpAny_loadName_local hk hok hn hm ?_))))
  obtain ⟨h0, h1⟩ := h8
  obtain ⟨u, hu⟩ := hits r.toNat (by omega)
  have hl : s.heap.IsList S its := ⟨_, hS, rfl, _, rfl⟩
  exact ⟨"list", _, slot_list_getitem.lookup, hl.typeIs, wpAny_getItem_list hl h0 (by omega) hu ⟨⟨_, rfl⟩, s.heap, _, rfl, fun _ _ e => e⟩⟩
end
section
variable {prog : Program} {w : World} {A : Around} {E : Value → Shared → Prop} {s : Shared} {h₀ : Heap} {L a : Addr} {m : PySem.Str → Option Value} {cn : PySem.Str} {cs : Scope} {ccd : Value} {cl : List (PySem.Str × Addr)} {news : List (Addr × Obj)} {scopeO : Scope} {p1 p2 p3 px pos : Pos}
theorem closure_one {nm : PySem.Str} {c : Addr} (hcp : cl.lookup nm = some c) (hO : scopeO.names = [(PySem.Str.ofString ".0", .local), (PySem.Str.ofString "rank", .local), (nm, .free)]) : closureFor scopeO (envX cn cs L a ccd cl) = pure [(nm, c)] := by
  unfold closureFor
  rw [hO]
  simp only [List.forIn_cons, List.forIn_nil]
  have hco : cellOf (envX cn cs L a ccd cl) nm = pure c := by
    unfold cellOf
    rw [show (envX cn cs L a ccd cl).cells.lookup nm = some c from hcp]
  rw [hco]
  rfl
theorem relabel_one {nm : PySem.Str} (hk : cs.kind = .function) (hpk : (envX cn cs L a ccd cl).kindOf nm = some .cell) (hO : scopeO.names = [(PySem.Str.ofString ".0", .local), (PySem.Str.ofString "rank", .local), (nm, .free)]) :
    (relabel scopeO (envX cn cs L a ccd cl)).names = [(PySem.Str.ofString ".0", .local), (PySem.Str.ofString "rank", .local), (nm, .cell)] := by
  unfold relabel
  rw [hO]
  simp only [List.map_cons, List.map_nil]
  rw [show (envX cn cs L a ccd cl).scope.kind = .function from hk, hpk]
  rfl
theorem sign_comp {iter : Expr} {Q : Value → Shared → Prop} {k : Nat} {c : Addr} (_hk5 : k < 5) (hh : A.handled = none) (hcp : cl.lookup (PySem.Str.ofString "signs") = some c)
    (hO : scopeO.names = [(PySem.Str.ofString ".0", .local), (PySem.Str.ofString "rank", .local), (PySem.Str.ofString "signs", .free)]) (hOk : scopeO.kind = .function)
    (h : wpAny (model prog w) A (eval iter (envX cn cs L a ccd cl)) (SrcS prog w A (envX cn cs L a ccd cl) scopeO [(PySem.Str.ofString "signs", c)] (.Subscript (.Name (PySem.Str.ofString "signs") p1) (.Name (PySem.Str.ofString "rank") p2) p3) (fun r => [sgK k r]) Q) E s)
    (hs : ∀ x, foldedSetIterable iter (envX cn cs L a ccd cl) x = pure x := by intro _; rfl) :
    wpAny (model prog w) A (eval (.ListComp (.Subscript (.Name (PySem.Str.ofString "signs") p1) (.Name (PySem.Str.ofString "rank") p2) p3) [⟨.Name (PySem.Str.ofString "rank") px, iter, [], 0⟩] scopeO pos) (envX cn cs L a ccd cl)) Q E s :=
  str_comp _ hh (closure_one hcp hO) (by rw [hO]; decide +kernel) hOk (by rw [hO]; decide +kernel) (by rw [hO]; decide +kernel) h hs
theorem spell_comp {iter : Expr} {Q : Value → Shared → Prop} {k : Nat} {c : Addr} (_hk5 : k < 5) (hh : A.handled = none) (hcp : cl.lookup (PySem.Str.ofString "spellings") = some c)
    (hO : scopeO.names = [(PySem.Str.ofString ".0", .local), (PySem.Str.ofString "rank", .local), (PySem.Str.ofString "spellings", .free)]) (hOk : scopeO.kind = .function)
    (h : wpAny (model prog w) A (eval iter (envX cn cs L a ccd cl)) (SrcS prog w A (envX cn cs L a ccd cl) scopeO [(PySem.Str.ofString "spellings", c)] (.Subscript (.Name (PySem.Str.ofString "spellings") p1) (.Name (PySem.Str.ofString "rank") p2) p3) (spK k) Q) E s)
    (hs : ∀ x, foldedSetIterable iter (envX cn cs L a ccd cl) x = pure x := by intro _; rfl) :
    wpAny (model prog w) A (eval (.ListComp (.Subscript (.Name (PySem.Str.ofString "spellings") p1) (.Name (PySem.Str.ofString "rank") p2) p3) [⟨.Name (PySem.Str.ofString "rank") px, iter, [], 0⟩] scopeO pos) (envX cn cs L a ccd cl)) Q E s :=
  str_comp _ hh (closure_one hcp hO) (by rw [hO]; decide +kernel) hOk (by rw [hO]; decide +kernel) (by rw [hO]; decide +kernel) h hs
/-- a list of texts made behind what stands -/
theorem news_texts {h' : Heap} {D : Addr} {o : Obj} (F : Fr h₀ L s.heap m) (N : News h₀ L s.heap news) (hD : s.heap.objs.size ≤ D) (hpl : h'.get? D = some o) (hkeep : ∀ b o, s.heap.get? b = some o → h'.get? b = some o) :
    Fr h₀ L h' m ∧ News h₀ L h' ((D, o) :: news) ∧ (∀ q ∈ news, q.1 < D) := by
  refine ⟨F.keeps hkeep, fun q hq => ?_, fun q hq => Nat.lt_of_lt_of_le (Heap.lt_size (N q hq).1) hD⟩
  rcases List.mem_cons.mp hq with rfl | hq
  · refine ⟨hpl, Nat.ne_of_gt (Nat.lt_of_lt_of_le F.ns.lt hD), ?_⟩
    cases e : h₀.get? D with
    | none => rfl
    | some o => exact absurd (Heap.lt_size (F.keep _ _ e)) (Nat.not_lt.mpr hD)
  · exact ⟨hkeep _ _ (N q hq).1, (N q hq).2⟩
theorem srcS_sign {Q : Value → Shared → Prop} {k n : Nat} {c ax : Addr} {oc : Obj} {u : Tok} {items : Array Value} {rs : List Int} (F : Fr h₀ L s.heap m) (N : News h₀ L s.heap news) (hm : (ax, PySem.W.listOf items n) ∈ news) (hsz : items.size ≤ 100) (hi : IntsAre items.toList rs) (h8 : ∀ r ∈ rs, R8 r)
    (hk5 : k < 5) (hc : (c, oc) ∈ news) (hd : oc.data = .cell (some (.str (tx (sgs k)) u))) (hk : cs.kind = .function) (hpk : (envX cn cs L a ccd cl).kindOf (PySem.Str.ofString "signs") = some .cell)
    (hO : scopeO.names = [(PySem.Str.ofString ".0", .local), (PySem.Str.ofString "rank", .local), (PySem.Str.ofString "signs", .free)]) (hOk : scopeO.kind = .function)
    (h : ∀ D h' tk l nn, l.map (·.1) = rs.map (fun r => tx [sgK k r]) → Fr h₀ L h' m → News h₀ L h' ((D, PySem.W.listOf (strValues l).toArray nn) :: news) → (∀ q ∈ news, q.1 < D) → Q (.ref D) { s with heap := h', toks := tk }) :
    SrcS prog w A (envX cn cs L a ccd cl) scopeO [(PySem.Str.ofString "signs", c)] (.Subscript (.Name (PySem.Str.ofString "signs") p1) (.Name (PySem.Str.ofString "rank") p2) p3) (fun r => [sgK k r]) Q (.ref ax) s := by
  refine ⟨ax, items, n, rs, rfl, (N _ hm).1, hsz, hi, h8, ?_, ?_⟩
  · intro C s₂ m₂ E' r t hr hkeep hn hmr
    refine elt_sign hk5 hr hOk ?_ rfl ⟨_, hkeep _ _ (N _ hc).1, hd⟩ ?_ hn hmr
    · show (relabel scopeO _).names.lookup _ = _
      rw [relabel_one hk hpk hO]; rfl
    · show (relabel scopeO _).names.lookup _ = _
      rw [relabel_one hk hpk hO]; rfl
  · intro D h' tk l nn hD hpl hl hkeep
    obtain ⟨F', N', l1⟩ := news_texts F N hD hpl hkeep
    exact h D h' tk l nn hl F' N' l1
theorem srcS_spell {Q : Value → Shared → Prop} {k n nS : Nat} {c ax S : Addr} {oc : Obj} {items its : Array Value} {rs : List Int} (F : Fr h₀ L s.heap m) (N : News h₀ L s.heap news) (hm : (ax, PySem.W.listOf items n) ∈ news) (hsz : items.size ≤ 100) (hi : IntsAre items.toList rs) (h8 : ∀ r ∈ rs, R8 r)
    (hc : (c, oc) ∈ news) (hd : oc.data = .cell (some (.ref S))) (hS : (S, PySem.W.listOf its nS) ∈ news) (hits : ∀ i < 8, ∃ u, its[i]? = some (.str (tx ((spls k).getD i [])) u)) (hk : cs.kind = .function) (hpk : (envX cn cs L a ccd cl).kindOf (PySem.Str.ofString "spellings") = some .cell)
    (hO : scopeO.names = [(PySem.Str.ofString ".0", .local), (PySem.Str.ofString "rank", .local), (PySem.Str.ofString "spellings", .free)]) (hOk : scopeO.kind = .function)
    (h : ∀ D h' tk l nn, l.map (·.1) = rs.map (fun r => tx (spK k r)) → Fr h₀ L h' m → News h₀ L h' ((D, PySem.W.listOf (strValues l).toArray nn) :: news) → (∀ q ∈ news, q.1 < D) → Q (.ref D) { s with heap := h', toks := tk }) :
    SrcS prog w A (envX cn cs L a ccd cl) scopeO [(PySem.Str.ofString "spellings", c)] (.Subscript (.Name (PySem.Str.ofString "spellings") p1) (.Name (PySem.Str.ofString "rank") p2) p3) (spK k) Q (.ref ax) s := by
  refine ⟨ax, items, n, rs, rfl, (N _ hm).1, hsz, hi, h8, ?_, ?_⟩
  · intro C s₂ m₂ E' r t hr hkeep hn hmr
    refine elt_spell hr hits (hkeep _ _ (N _ hS).1) hOk ?_ rfl ⟨_, hkeep _ _ (N _ hc).1, hd⟩ ?_ hn hmr
    · show (relabel scopeO _).names.lookup _ = _
      rw [relabel_one hk hpk hO]; rfl
    · show (relabel scopeO _).names.lookup _ = _
      rw [relabel_one hk hpk hO]; rfl
  · intro D h' tk l nn hD hpl hl hkeep
    obtain ⟨F', N', l1⟩ := news_texts F N hD hpl hkeep
    exact h D h' tk l nn hl F' N' l1
theorem join_tx : ∀ ls : List (List Nat), Txt.join (PySem.Str.ofString "") (ls.map tx) = tx ls.flatten := by
  have e : ∀ ls : List (List Nat), PySem.Str.join (PySem.Str.ofString "") (ls.map tx) = tx ls.flatten := by
    intro ls
    induction ls with
    | nil => rfl
    | cons a t ih =>
      cases t with
      | nil => simp [PySem.Str.join]
      | cons b t =>
        have e1 : PySem.Str.join (PySem.Str.ofString "") ((a :: b :: t).map tx) = tx a ++ PySem.Str.ofString "" ++ PySem.Str.join (PySem.Str.ofString "") ((b :: t).map tx) := rfl
        rw [e1, ih, show PySem.Str.ofString "" = tx [] from by decide +kernel, tx_append, tx_append]
        simp
  exact fun ls => (StrLaws.glued_eq_join _ _).trans (e ls)
theorem join_rule {B : Addr} {l : List (PySem.Str × Tok)} {rs : List Int} {f : Int → List Nat} {nn : Nat} {t : Tok} {Q : Value → Shared → Prop} (N : News h₀ L s.heap ((B, PySem.W.listOf (strValues l).toArray nn) :: news)) (hl : l.map (·.1) = rs.map (fun r => tx (f r))) (h6 : ∀ r ∈ rs, (f r).length ≤ 6) (h5 : rs.length ≤ 5)
    (h : News h₀ L s.heap news → ∀ t' k, Q (.str (tx (rs.flatMap f)) t') { s with toks := k }) : wpAny (model prog w) A (call (.builtin "str.join") [.str (PySem.Str.ofString "") t, .ref B]) Q E s := by
  refine SC.join (texts := rs.map (fun r => tx (f r))) ⟨_, (N _ (.head _)).1, rfl, _, rfl⟩ hl (joinOk_of_weight ?_ (by decide +kernel)) ?_
  · have : ∀ rs : List Int, (∀ r ∈ rs, (f r).length ≤ 6) → ((rs.map (fun r => tx (f r))).map (·.length)).sum ≤ 6 * rs.length := by
      intro rs h
      induction rs with
      | nil => exact Nat.le_refl _
      | cons r rs ih =>
        have e1 := ih fun x hx => h x (List.mem_cons_of_mem _ hx)
        have e2 := h r List.mem_cons_self
        simp only [List.map_cons, List.sum_cons, List.length_cons, tx_len] at e1 ⊢
        omega
    have := this rs h6
    rw [List.length_map]
    omega
  · have e : Txt.join (PySem.Str.ofString "") (rs.map (fun r => tx (f r))) = tx (rs.flatMap f) := by
      have := join_tx (rs.map f)
      rw [List.map_map] at this
      rw [List.flatMap_def]; exact this
    rw [e]
    exact h (fun q hq => N q (.tail _ hq))
end
end
/-! Su -/
section
open PySem.Spec PySem.Calls
variable (w : World) (mean : ExcName → Option Value) (mg mb : PySem.Str → Option Value)
theorem writer_ct (k : Nat) (hk5 : k < 5) (l : List Nat) (t : Tok) (hl : l.length ≤ 5) : Ct w mean mg mb (call (.ref (wK k)) [.str (tx l) t]) (fun _ => True) (fun _ _ v => ∃ t, v = .str (tx (escK k l)) t) := by
  rcases k5 hk5 with rfl | rfl | rfl | rfl | rfl
  · exact esc0_ct w mean mg mb l t hl
  · exact esc1_ct w mean mg mb l t hl
  · exact esc2_ct w mean mg mb l t hl
  · exact esc3_ct w mean mg mb l t hl
  · exact esc4_ct w mean mg mb l t hl
theorem keep_wK {k : Nat} (hk5 : k < 5) : keepIn (hd.heap_1 w.params) (.ref (wK k)) = true := by
  rcases k5 hk5 with rfl | rfl | rfl | rfl | rfl <;> rfl
section
variable {w : World} {mean : ExcName → Option Value} {mg mb : PySem.Str → Option Value} {dp un : Nat} {gd : Option (List Code)} {cn : PySem.Str} {cs : Scope} {a : Addr} {ccd : Value} {cl : List (PySem.Str × Addr)} {outer : List Env} {A₀ : Around} {base h₀ : Heap} {L : Addr} {m : PySem.Str → Option Value} {s : Shared} {Q E : Value → Shared → Prop} {news : List (Addr × Obj)}
theorem news_keeps {h h' : Heap} (N : News h₀ L h news) (hk : ∀ b o, h.get? b = some o → h'.get? b = some o) : News h₀ L h' news := fun q hq => ⟨hk _ _ (N q hq).1, (N q hq).2⟩
theorem callWith_Kp {K : Frag} {prog : Program} {A : Around} {env : Env} {pos : Pos} {f : Value} {first : List Value} {e : Expr} {rest : List Expr} (hp : 0 < s.toks) (X : K.In h₀) (hk : keepIn K f = true)
    (h : wpAny (model prog w) A (spliced (backTo pos (starEach (e :: rest) env))) (fun vs s₁ => TokP s₁ (K.In s₁.heap ∧ wpAny (model prog w) A (call f (first ++ vs)) Q E s₁)) E s)
    (he : starEach (e :: rest) env = (false, eval e env) :: starEach rest env := by rfl) (hplain : (backTo pos (starEach rest env)).any (·.1) = false := by rfl) :
    wpAny (model prog w) A (callWith pos f first (backTo pos (starEach (e :: rest) env)) []) Q E s := callWith_K X hk (any_pos hp h) he hplain
/-- a contract in use, the ledger carried along -/
theorem Ct.use {c : Sem Value} {pre : Heap → Prop} {post : Heap → Heap → Value → Prop} (C : Ct w mean mg mb c pre post) (B : Below A₀ base outer h₀) (F : Fr h₀ L s.heap m) (N : News h₀ L s.heap news) (X : (hd.heap_1 w.params).In h₀) (T : Top hd.view_1 (looseW hd.view_1 []) mean mg mb h₀) (hk : cs.kind = .function)
    (hd' : dp + 20 < recursionLimit) (hu : un + 100 < cLine) (hp : 0 < s.toks) (hpre : pre s.heap)
    (h : ∀ v h' tk', Fr h₀ L h' m → News h₀ L h' news → post s.heap h' v → 0 < tk' → Q v { s with heap := h', toks := tk' }) : wpAny (model PySem.Challenge.rw_yh0017_01.row.prog w) (ktrTop dp un gd cn cs L a ccd cl outer) c Q E s :=
  C dp un gd cn cs a ccd cl outer A₀ base h₀ L m s Q E B F X T hk hd' hu hp hpre fun v h' tk' hkeep hpost ht => h v h' tk' (F.keeps hkeep) (news_keeps N hkeep) hpost ht
/-- the escape's writing of an end -/
theorem use_writer {k : Nat} {rs rs' : List Int} {i : Nat} {p : Int} {t : Tok} (hk5 : k < 5) (hpr : p = (i : Int) ∧ rs.drop i = rs') (hi : i ≤ rs.length) (h5 : rs.length ≤ 5) (h8 : ∀ r ∈ rs, R8 r)
    (B : Below A₀ base outer h₀) (F : Fr h₀ L s.heap m) (N : News h₀ L s.heap news) (X : (hd.heap_1 w.params).In h₀) (T : Top hd.view_1 (looseW hd.view_1 []) mean mg mb h₀) (hk : cs.kind = .function)
    (hd' : dp + 20 < recursionLimit) (hu : un + 100 < cLine) (hp : 0 < s.toks)
    (h : ∀ t' h' tk', Fr h₀ L h' m → News h₀ L h' news → 0 < tk' → Q (.str (tx (rs'.flatMap (spK k))) t') { s with heap := h', toks := tk' }) : wpAny (model PySem.Challenge.rw_yh0017_01.row.prog w) (ktrTop dp un gd cn cs L a ccd cl outer) (call (.ref (wK k)) [.str (Txt.slice (tx (rs.flatMap fun r => [sgK k r])) (some p) none) t]) Q E s := by
  obtain ⟨rfl, rfl⟩ := hpr
  have e1 : ∀ rs : List Int, (rs.flatMap fun r => [sgK k r]) = rs.map (sgK k) := fun rs => by rw [← List.map_eq_flatMap]
  have e2 : Txt.slice (tx (rs.flatMap fun r => [sgK k r])) (some (i : Int)) none = tx ((rs.drop i).map (sgK k)) := by
    rw [e1, slice_from _ i (by rw [List.length_map]; exact hi), List.map_drop]
  rw [e2]
  refine Ct.use (writer_ct w mean mg mb k hk5 ((rs.drop i).map (sgK k)) t (by rw [List.length_map, List.length_drop]; omega)) B F N X T hk hd' hu hp trivial fun v h' tk' F' N' hv ht => ?_
  obtain ⟨u, rfl⟩ := hv
  rw [esc_text hk5 _ fun r hr => h8 r (List.mem_of_mem_drop hr)]
  exact h u h' tk' F' N' ht
theorem flat_le {k : Nat} (hk5 : k < 5) : ∀ rs : List Int, (∀ r ∈ rs, R8 r) → (rs.flatMap (spK k)).length ≤ 6 * rs.length
  | [], _ => Nat.le_refl _
  | r :: rs, h => by
    have e1 := flat_le hk5 rs fun x hx => h x (List.mem_cons_of_mem _ hx)
    have e2 := sp_le hk5 (h r List.mem_cons_self)
    rw [List.flatMap_cons, List.length_append, List.length_cons]
    omega
theorem s_dq2 : PySem.Str.ofString "\"\"" = tx [34, 34] := by decide +kernel
theorem s_257 : PySem.Str.ofString "257 \"" = tx [50, 53, 55, 32, 34] := by decide +kernel
def tailL : List Nat := [32, 105, 115, 32, 34, 116, 104, 101, 114, 101, 34]
theorem s_tail : PySem.Str.ofString "\" is \"there\"" = tx (34 :: tailL) := by decide +kernel
section
variable {prog : Program} {A : Around} {t u v : Tok}
theorem use_replace {k : Nat} {rs : List Int} (hk5 : k < 5) (h8 : ∀ r ∈ rs, R8 r) (h5 : rs.length ≤ 5) (hu : u ≠ 0) (hv : v ≠ 0) (huv : u ≠ v) (h : ∀ t' k', Q (.str (tx (rep1 34 [34, 34] (rs.flatMap (spK k)))) t') { s with toks := k' }) :
    wpAny (model prog w) A (call (.builtin "str.replace") [.str (tx (rs.flatMap (spK k))) t, .str (PySem.Str.ofString "\"") u, .str (PySem.Str.ofString "\"\"") v]) Q E s :=
  replace_rule w s_quot s_dq2 (by decide +kernel) hu hv huv (by have := flat_le hk5 rs h8; omega) (by decide) h
theorem add_front {k : Nat} {rs : List Int} (hk5 : k < 5) (h8 : ∀ r ∈ rs, R8 r) (h5 : rs.length ≤ 5) (h : ∀ t' k', Q (.str (tx ([50, 53, 55, 32, 34] ++ rep1 34 [34, 34] (rs.flatMap (spK k)))) t') { s with toks := k' }) :
    wpAny (model prog w) A (binaryOp .Add (.str (PySem.Str.ofString "257 \"") t) (.str (tx (rep1 34 [34, 34] (rs.flatMap (spK k)))) u)) Q E s := by
  have l1 := flat_le hk5 rs h8
  have l2 := rep1_le 34 [34, 34] 2 (by decide) (by decide) (rs.flatMap (spK k))
  refine SB.add ?_ (by rw [s_257, tx_len, tx_len, sizeLine_eq]; simp only [List.length_cons, List.length_nil]; omega)
  rw [s_257, tx_append]
  exact h
theorem add_back {k : Nat} {rs : List Int} (hk5 : k < 5) (h8 : ∀ r ∈ rs, R8 r) (h5 : rs.length ≤ 5) (h : ∀ t' k', Q (.str (tx ([50, 53, 55, 32, 34] ++ (rep1 34 [34, 34] (rs.flatMap (spK k)) ++ 34 :: tailL))) t') { s with toks := k' }) :
    wpAny (model prog w) A (binaryOp .Add (.str (tx ([50, 53, 55, 32, 34] ++ rep1 34 [34, 34] (rs.flatMap (spK k)))) t) (.str (PySem.Str.ofString "\" is \"there\"") u)) Q E s := by
  have l1 := flat_le hk5 rs h8
  have l2 := rep1_le 34 [34, 34] 2 (by decide) (by decide) (rs.flatMap (spK k))
  refine SB.add ?_ (by rw [s_tail, tx_len, tx_len, sizeLine_eq]; simp only [List.length_append, List.length_cons, List.length_nil, tailL]; omega)
  rw [s_tail, tx_append, List.append_assoc]
  exact h
theorem ne_same {x y : PySem.Str} (hxy : x = y) (h : Q (.bool false) s) : wpAny (model prog w) A (compareOp .NotEq (.str x t) (.str y u)) Q E s := by
  subst hxy
  refine PyProof.Rows.ne_str ?_
  rw [bne_self_eq_false]
  exact h
end
/-- the reply told -/
theorem use_parse {k : Nat} {rs : List Int} {t : Tok} (hk5 : k < 5) (h8 : ∀ r ∈ rs, R8 r) (h5 : rs.length ≤ 5)
    (B : Below A₀ base outer h₀) (F : Fr h₀ L s.heap m) (N : News h₀ L s.heap news) (X : (hd.heap_1 w.params).In h₀) (T : Top hd.view_1 (looseW hd.view_1 []) mean mg mb h₀) (hk : cs.kind = .function)
    (hd' : dp + 20 < recursionLimit) (hu : un + 100 < cLine) (hp : 0 < s.toks)
    (h : ∀ t' h' tk', Fr h₀ L h' m → News h₀ L h' news → 0 < tk' → Q (.str (tx (rs.flatMap (spK k))) t') { s with heap := h', toks := tk' }) :
    wpAny (model PySem.Challenge.rw_yh0017_01.row.prog w) (ktrTop dp un gd cn cs L a ccd cl outer) (call (.ref 53) [.str (tx ([50, 53, 55, 32, 34] ++ (rep1 34 [34, 34] (rs.flatMap (spK k)) ++ 34 :: tailL))) t]) Q E s := by
  have l1 := flat_le hk5 rs h8
  have l2 := rep1_le 34 [34, 34] 2 (by decide) (by decide) (rs.flatMap (spK k))
  refine Ct.use (p257_ct w mean mg mb _ _ t (by rw [tx_len]; simp only [List.length_append, List.length_cons, List.length_nil, tailL]; omega) rfl) B F N X T hk hd' hu hp trivial fun v h' tk' F' N' hv ht => ?_
  obtain ⟨u, rfl⟩ := hv
  rw [pq_back _ _ (fun d t e => by unfold tailL at e; cases e; decide)]
  exact h u h' tk' F' N' ht
theorem flat_ne {k : Nat} (hk5 : k < 5) {r : Int} {rs : List Int} (h : R8 r) : (r :: rs).flatMap (spK k) ≠ [] := by
  rw [List.flatMap_cons]
  exact fun e => sp_ne hk5 h (List.append_eq_nil_iff.mp e).1
theorem flat_lt {k : Nat} (hk5 : k < 5) {r : Int} {rs : List Int} (h : R8 r) : (tx (rs.flatMap (spK k))).length < (tx ((r :: rs).flatMap (spK k))).length := by
  rw [tx_len, tx_len, List.flatMap_cons, List.length_append]
  have := List.length_pos_iff.mpr (sp_ne hk5 h)
  omega
theorem use_qname {k : Nat} {r : Int} {rs : List Int} {t u : Tok} (hk5 : k < 5) (h8 : ∀ x ∈ r :: rs, R8 x) (h5 : rs.length ≤ 4)
    (B : Below A₀ base outer h₀) (F : Fr h₀ L s.heap m) (N : News h₀ L s.heap news) (X : (hd.heap_1 w.params).In h₀) (T : Top hd.view_1 (looseW hd.view_1 []) mean mg mb h₀) (hk : cs.kind = .function)
    (hd' : dp + 20 < recursionLimit) (hu : un + 100 < cLine) (hp : 0 < s.toks)
    (h : ∀ x dx hsh n t1 t2 h' tk', Fr h₀ L h' m → News h₀ L h' ((x, instObj 127 dx) :: (dx, dictOf [⟨hsh, .str (PySem.Str.ofString "text") t1, .str (tx ([123,117,125] ++ (r :: rs).flatMap (spK k))) t2⟩] n) :: news) → (∀ p ∈ news, p.1 < dx) → dx < x → 0 < tk' → Q (.ref x) { s with heap := h', toks := tk' }) :
    wpAny (model PySem.Challenge.rw_yh0017_01.row.prog w) (ktrTop dp un gd cn cs L a ccd cl outer) (call (.ref 127) [.str (PySem.Str.ofString "u") t, .str (tx ((r :: rs).flatMap (spK k))) u]) Q E s :=
  q1_ct w mean mg mb _ t u (by have := flat_le hk5 _ h8; rw [List.length_cons] at this; omega) (flat_ne hk5 (h8 r List.mem_cons_self)) dp un gd cn cs a ccd cl outer A₀ base h₀ L m s Q E news B F N X T hk hd' hu hp h
theorem kda_put {prog : Program} {A : Around} {d : Addr} {o : Obj} {g : Obj → List (Addr × Obj)} {kvs : List (Int × Value)} {k : Int} {t : Tok} {v : Value} {Q : Unit → Shared → Prop} (F : Fr h₀ L s.heap m) (N : News h₀ L s.heap news) (U : UpdF d o news g) (hd : o.IsDictOf (PySem.intKind prog w) kvs) (hnew : ∀ p ∈ kvs, p.1 ≠ k) (hsz : kvs.length ≤ 100)
    (h : ∀ h' o', Fr h₀ L h' m → News h₀ L h' (g o') → o'.IsDictOf (PySem.intKind prog w) (kvs ++ [(k, v)]) → Q () { s with heap := h', toks := s.toks + 1 }) : wpAny (model prog w) A (setItem (.ref d) (.int k t) v) Q E s := by
  refine kda_set (knd := PySem.intKind prog w) (k := k) F N U hd (intKind_is _ _ _ _) (by rw [sizeLine_eq]; omega) fun h' o' F' N' hd' => h h' o' F' N' ?_
  have hn : ¬ (kvs.any fun kv => decide (kv.1 = k)) = true := by
    rw [List.any_eq_true]
    rintro ⟨p, hp, e⟩
    exact hnew p hp (of_decide_eq_true e)
  rw [stored, if_neg hn] at hd'
  exact hd'
end
end
/-! Rp -/
section
open PySem.Spec PySem.Calls
section
variable {prog : Program} {w : World} {A : Around} {E : Value → Shared → Prop} {s : Shared} {env : Env} {h₀ : Heap} {x : PySem.Str} {body : List Stmt} {Q : Flow → Shared → Prop}
end
section
variable {prog : Program} {w : World} {A : Around} {E : Value → Shared → Prop} {s : Shared} {h₀ : Heap} {L : Addr} {news : List (Addr × Obj)}
theorem join_sign {B : Addr} {l : List (PySem.Str × Tok)} {rs : List Int} {k nn : Nat} {t : Tok} {Q : Value → Shared → Prop} (N : News h₀ L s.heap ((B, PySem.W.listOf (strValues l).toArray nn) :: news)) (hl : l.map (·.1) = rs.map (fun r => tx [sgK k r])) (h5 : rs.length ≤ 5)
    (h : News h₀ L s.heap news → ∀ t' k', Q (.str (tx (rs.flatMap fun r => [sgK k r])) t') { s with toks := k' }) : wpAny (model prog w) A (call (.builtin "str.join") [.str (PySem.Str.ofString "") t, .ref B]) Q E s :=
  join_rule N hl (fun _ _ => Nat.le_of_ble_eq_true rfl) h5 h
theorem join_spell {B : Addr} {l : List (PySem.Str × Tok)} {rs : List Int} {k nn : Nat} {t : Tok} {Q : Value → Shared → Prop} (N : News h₀ L s.heap ((B, PySem.W.listOf (strValues l).toArray nn) :: news)) (hl : l.map (·.1) = rs.map (fun r => tx (spK k r))) (hk5 : k < 5) (h8 : ∀ r ∈ rs, R8 r) (h5 : rs.length ≤ 5)
    (h : News h₀ L s.heap news → ∀ t' k', Q (.str (tx (rs.flatMap (spK k))) t') { s with toks := k' }) : wpAny (model prog w) A (call (.builtin "str.join") [.str (PySem.Str.ofString "") t, .ref B]) Q E s :=
  join_rule N hl (fun r hr => sp_le hk5 (h8 r hr)) h5 h
theorem use_len {rs : List Int} {k : Nat} {t : Tok} {Q : Value → Shared → Prop} (hk5 : k < 5) (h8 : ∀ r ∈ rs, R8 r) (h5 : rs.length ≤ 5) (h : Q (.int (tx (rs.flatMap (spK k))).length (s.toks + 1)) { s with toks := s.toks + 1 + 1 }) :
    wpAny (model prog w) A (call (.builtin "len") [.str (tx (rs.flatMap (spK k))) t]) Q E s :=
  PyProof.Rows.len_str (by have := flat_le hk5 rs h8; rw [tx_len]; omega) h
end
end
/-! Fl -/
section
open PySem.Spec PySem.Calls
section
variable {prog : Program} {w : World} {A : Around} {E : Value → Shared → Prop} {s : Shared} {env : Env} {x : PySem.Str} {body : List Stmt} {Q : Flow → Shared → Prop}
/-- what must be told for a loop over a list by an invariant -/
def LoopL (prog : Program) (w : World) (A : Around) (env : Env) (x : PySem.Str) (px : Pos) (body : List Stmt) (Q : Flow → Shared → Prop) (xv : Value) (s₁ : Shared) : Prop :=
  ∃ (ax : Addr) (es : Array Value) (Inv : Addr → Obj → Heap → Prop), xv = .ref ax ∧ 0 < s₁.toks ∧ s₁.heap.IsList ax es ∧
    (∀ h oI, h.get? s₁.heap.objs.size = some oI → (∀ b o, s₁.heap.get? b = some o → h.get? b = some o) → Inv s₁.heap.objs.size oI h) ∧
    (∀ I oI h, Inv I oI h → h.IsList ax es ∧ h.get? I = some oI) ∧
    (∀ I oI oI' h h', Inv I oI h → h'.get? I = some oI' → (∀ b o, b ≠ I → h.get? b = some o → h'.get? b = some o) → Inv I oI' h') ∧
    (∀ v ∈ es.toList, ∀ I oI h tk E', 0 < tk → Inv I oI h → wpAny (model prog w) A (assign (.Name x px) env v) (fun _ s' => TokP s' (wpAny (model prog w) A (execs body env) (fun f s₃ => match f with
      | .ret v => Q (.ret v) s₃
      | .brk => Q .next s₃
      | _ => ∃ h' tk', s₃ = { s₁ with heap := h', toks := tk' } ∧ Inv I oI h') E' s')) E' { s₁ with heap := h, toks := tk }) ∧
    (∀ I oI h h' tk, 0 < tk → Inv I oI h → (∀ b o, b ≠ I → h.get? b = some o → h'.get? b = some o) → Q .next { s₁ with heap := h', toks := tk })
theorem for_listI {px pos : Pos} {iter : Expr} (hh : A.handled = none) (hpos : 0 < s.toks)
    (h : wpAny (model prog w) A (eval iter env) (fun xv s₁ => TokP s₁ (LoopL prog w A env x px body Q xv s₁)) E s)
    (hs : ∀ x, foldedSetIterable iter env x = pure x := by intro _; rfl) :
    wpAny (model prog w) A (exec (.For (.Name x px) iter body [] pos) env) Q E s := by
  refine wpAny_For (wpAny_mono (any_pos hpos h) (fun xv s₁ h₁ => ?_) fun _ _ e => e) hs
  obtain ⟨ax, es, Inv, rfl, hp1, hl, hst, hget, hmv, hbody, hdone⟩ := h₁
  refine wpAny_pyIter_list hl ?_
  have hax : @LT.lt Nat _ ax s₁.heap.objs.size := by obtain ⟨_, e, _⟩ := hl; exact Heap.lt_size e
  generalize hI : s₁.heap.objs.size = I at *
  refine codeAny_forLoop
    (fun j s' => ∃ h' tk i oI, s' = { s₁ with heap := h', toks := tk } ∧ 0 < tk ∧ h'.IsListIter I ax i ∧ Inv I oI h' ∧ i ≤ es.size ∧ j = es.size + 1 - i) ?_ (es.size + 1)
    ⟨_, _, 0, _, rfl, hp1, ⟨_, (by rw [← hI]; exact Heap.get?_push_size _ rfl), rfl, rfl⟩, hst _ _ (by rw [← hI]; exact Heap.get?_push_size _ rfl) (fun b o e => Heap.get?_push_of_some _ e), Nat.zero_le _, rfl⟩
  rintro j s' ⟨h', tk, i, oI, rfl, hp', hit, inv, hi, rfl⟩
  by_cases hlt : i < es.size
  · refine wpAny_pyNext_list_item hit (hget _ _ _ inv).1 (x := es[i]) (by simp [hlt]) fun h₁ hit₁ hs₁ => ?_
    obtain ⟨oI', hgI', _⟩ := id hit₁
    have inv₁ : Inv I oI' h₁ := hmv _ _ _ _ _ inv hgI' fun b o hb e => hs₁.extBut b o hb e
    dsimp only
    refine any_pos hp' (wpAny_mono (hbody es[i] (by simp) I oI' h₁ tk _ hp' inv₁) (fun _ s₂ h₂ hp₂ => ?_) fun _ _ e => e)
    refine any_pos hp₂ (wpAny_mono (h₂ hp₂) (fun f s₃ h₃ hp₃ => ?_) fun _ _ e => e)
    have fin : (∃ h'' tk', s₃ = { s₁ with heap := h'', toks := tk' } ∧ Inv I oI' h'') → ∃ j', j' < es.size + 1 - i ∧ ∃ h' tk i oI, s₃ = { s₁ with heap := h', toks := tk } ∧ 0 < tk ∧ h'.IsListIter I ax i ∧ Inv I oI h' ∧ i ≤ es.size ∧ j' = es.size + 1 - i := by
      rintro ⟨h₄, tk₄, rfl, inv₄⟩
      refine ⟨es.size + 1 - (i + 1), by omega, h₄, tk₄, i + 1, oI', rfl, hp₃, ?_, inv₄, hlt, rfl⟩
      obtain ⟨o, e, r⟩ := hit₁
      rw [hgI'] at e
      cases e
      exact ⟨oI', (hget _ _ _ inv₄).2, r⟩
    cases f with
    | ret v => exact h₃
    | brk => exact h₃
    | next => exact fin h₃
    | cont => exact fin h₃
  · have hin : i = es.size := by omega
    subst hin
    refine wpAny_pyNext_list_end hh hit (hget _ _ _ inv).1 (by simp) fun h₁ he₁ => wpAny_execs_nil ?_
    exact hdone I oI h' h₁ tk hp' inv fun b o hb e => he₁ b o hb e
end
end
/-! Fr2 -/
section
open PySem.Spec PySem.Calls
section
variable {prog : Program} {w : World} {A : Around} {E : Value → Shared → Prop} {s : Shared} {env : Env} {x : PySem.Str} {body : List Stmt} {Q : Flow → Shared → Prop}
/-- one turn of a loop, between two states of its invariant -/
def TurnI (prog : Program) (w : World) (A : Around) (env : Env) (x : PySem.Str) (px : Pos) (body : List Stmt) (Q : Flow → Shared → Prop) (s₁ : Shared) (v : Value) (I : Addr) (oI : Obj) (J J' : Heap → Prop) : Prop :=
  ∀ h tk E', 0 < tk → J h → wpAny (model prog w) A (assign (.Name x px) env v) (fun _ s' => TokP s' (wpAny (model prog w) A (execs body env) (fun f s₃ => match f with
      | .ret v => Q (.ret v) s₃
      | .brk => Q .next s₃
      | _ => ∃ h' tk', s₃ = { s₁ with heap := h', toks := tk' } ∧ J' h') E' s')) E' { s₁ with heap := h, toks := tk }
/-- a loop over a list by an invariant that knows how many turns were made -/
def LoopI (prog : Program) (w : World) (A : Around) (env : Env) (x : PySem.Str) (px : Pos) (body : List Stmt) (Q : Flow → Shared → Prop) (xv : Value) (s₁ : Shared) : Prop :=
  ∃ (ax : Addr) (es : Array Value) (Inv : Nat → Addr → Obj → Heap → Prop), xv = .ref ax ∧ 0 < s₁.toks ∧ s₁.heap.IsList ax es ∧
    (∀ h oI, h.get? s₁.heap.objs.size = some oI → (∀ b o, s₁.heap.get? b = some o → h.get? b = some o) → Inv 0 s₁.heap.objs.size oI h) ∧
    (∀ i I oI h, Inv i I oI h → h.IsList ax es ∧ h.get? I = some oI) ∧
    (∀ i I oI oI' h h', Inv i I oI h → h'.get? I = some oI' → (∀ b o, b ≠ I → h.get? b = some o → h'.get? b = some o) → Inv i I oI' h') ∧
    (∀ i v, es[i]? = some v → ∀ I oI, TurnI prog w A env x px body Q s₁ v I oI (Inv i I oI) (Inv (i + 1) I oI)) ∧
    (∀ I oI h h' tk, 0 < tk → Inv es.size I oI h → (∀ b o, b ≠ I → h.get? b = some o → h'.get? b = some o) → Q .next { s₁ with heap := h', toks := tk })
theorem for_listN {px pos : Pos} {iter : Expr} (hh : A.handled = none) (hpos : 0 < s.toks)
    (h : wpAny (model prog w) A (eval iter env) (fun xv s₁ => TokP s₁ (LoopI prog w A env x px body Q xv s₁)) E s)
    (hs : ∀ x, foldedSetIterable iter env x = pure x := by intro _; rfl) :
    wpAny (model prog w) A (exec (.For (.Name x px) iter body [] pos) env) Q E s := by
  refine wpAny_For (wpAny_mono (any_pos hpos h) (fun xv s₁ h₁ => ?_) fun _ _ e => e) hs
  obtain ⟨ax, es, Inv, rfl, hp1, hl, hst, hget, hmv, hbody, hdone⟩ := h₁
  refine wpAny_pyIter_list hl ?_
  generalize hI : s₁.heap.objs.size = I at *
  refine codeAny_forLoop
    (fun j s' => ∃ h' tk i oI, s' = { s₁ with heap := h', toks := tk } ∧ 0 < tk ∧ h'.IsListIter I ax i ∧ Inv i I oI h' ∧ i ≤ es.size ∧ j = es.size + 1 - i) ?_ (es.size + 1)
    ⟨_, _, 0, _, rfl, hp1, ⟨_, (by rw [← hI]; exact Heap.get?_push_size _ rfl), rfl, rfl⟩, hst _ _ (by rw [← hI]; exact Heap.get?_push_size _ rfl) (fun b o e => Heap.get?_push_of_some _ e), Nat.zero_le _, rfl⟩
  rintro j s' ⟨h', tk, i, oI, rfl, hp', hit, inv, hi, rfl⟩
  by_cases hlt : i < es.size
  · refine wpAny_pyNext_list_item hit (hget _ _ _ _ inv).1 (x := es[i]) (by simp [hlt]) fun h₁ hit₁ hs₁ => ?_
    obtain ⟨oI', hgI', _⟩ := id hit₁
    have inv₁ : Inv i I oI' h₁ := hmv _ _ _ _ _ _ inv hgI' fun b o hb e => hs₁.extBut b o hb e
    dsimp only
    refine any_pos hp' (wpAny_mono (hbody i es[i] (by simp [hlt]) I oI' h₁ tk _ hp' inv₁) (fun _ s₂ h₂ hp₂ => ?_) fun _ _ e => e)
    refine any_pos hp₂ (wpAny_mono (h₂ hp₂) (fun f s₃ h₃ hp₃ => ?_) fun _ _ e => e)
    have fin : (∃ h'' tk', s₃ = { s₁ with heap := h'', toks := tk' } ∧ Inv (i + 1) I oI' h'') → ∃ j', j' < es.size + 1 - i ∧ ∃ h' tk i oI, s₃ = { s₁ with heap := h', toks := tk } ∧ 0 < tk ∧ h'.IsListIter I ax i ∧ Inv i I oI h' ∧ i ≤ es.size ∧ j' = es.size + 1 - i := by
      rintro ⟨h₄, tk₄, rfl, inv₄⟩
      refine ⟨es.size + 1 - (i + 1), by omega, h₄, tk₄, i + 1, oI', rfl, hp₃, ?_, inv₄, hlt, rfl⟩
      obtain ⟨o, e, r⟩ := hit₁
      rw [hgI'] at e
      cases e
      exact ⟨oI', (hget _ _ _ _ inv₄).2, r⟩
    cases f with
    | ret v => exact h₃
    | brk => exact h₃
    | next => exact fin h₃
    | cont => exact fin h₃
  · have hin : i = es.size := by omega
    subst hin
    refine wpAny_pyNext_list_end hh hit (hget _ _ _ _ inv).1 (by simp) fun h₁ he₁ => wpAny_execs_nil ?_
    exact hdone I oI h' h₁ tk hp' inv fun b o hb e => he₁ b o hb e
/-- the same over a range from nought -/
def LoopR (prog : Program) (w : World) (A : Around) (env : Env) (x : PySem.Str) (px : Pos) (body : List Stmt) (Q : Flow → Shared → Prop) (xv : Value) (s₁ : Shared) : Prop :=
  ∃ (r : Addr) (n : Nat) (t u v : Tok) (Inv : Nat → Addr → Obj → Heap → Prop), xv = .ref r ∧ 0 < s₁.toks ∧ IsRange s₁.heap r 0 (n : Int) 1 t u v ∧ Builtin.Range.small 0 (n : Int) 1 = true ∧ Builtin.Range.rangeSize 0 (n : Int) 1 = (n : Int) ∧
    (∀ h oI, h.get? s₁.heap.objs.size = some oI → (∀ b o, s₁.heap.get? b = some o → h.get? b = some o) → Inv 0 s₁.heap.objs.size oI h) ∧
    (∀ i I oI h, Inv i I oI h → h.get? I = some oI) ∧
    (∀ i I oI oI' h h', Inv i I oI h → h'.get? I = some oI' → (∀ b o, b ≠ I → h.get? b = some o → h'.get? b = some o) → Inv i I oI' h') ∧
    (∀ i tv, i < n → ∀ I oI, TurnI prog w A env x px body Q s₁ (.int (i : Int) tv) I oI (Inv i I oI) (Inv (i + 1) I oI)) ∧
    (∀ I oI h h' tk, 0 < tk → Inv n I oI h → (∀ b o, b ≠ I → h.get? b = some o → h'.get? b = some o) → Q .next { s₁ with heap := h', toks := tk })
theorem for_rangeN {px pos : Pos} {iter : Expr} (hh : A.handled = none) (hpos : 0 < s.toks)
    (h : wpAny (model prog w) A (eval iter env) (fun xv s₁ => TokP s₁ (LoopR prog w A env x px body Q xv s₁)) E s)
    (hs : ∀ x, foldedSetIterable iter env x = pure x := by intro _; rfl) :
    wpAny (model prog w) A (exec (.For (.Name x px) iter body [] pos) env) Q E s := by
  refine wpAny_For (wpAny_mono (any_pos hpos h) (fun xv s₁ h₁ => ?_) fun _ _ e => e) hs
  obtain ⟨r, n, t, u, v, Inv, rfl, hp1, hr, hsm, hn, hst, hget, hmv, hbody, hdone⟩ := h₁
  refine wpAny_pyIter_range hr hsm ?_
  generalize hI : s₁.heap.objs.size = I at *
  have hit0 : ∀ H : Heap, H = s₁.heap.push { cls := .type "range_iterator", data := .fields #[rawInt 0, rawInt (Builtin.Range.rangeSize 0 (n : Int) 1), rawInt 1] } → IsRangeIter H I (0 + ((0 : Nat) : Int)) ((n : Int) - ((0 : Nat) : Int)) 1 := by
    rintro _ rfl
    rw [hn, ← hI]
    show IsRangeIter _ _ _ _ _
    simpa [IsRangeIter] using Heap.get?_push_size _ rfl
  refine codeAny_forLoop
    (fun j s' => ∃ h' tk i oI, s' = { s₁ with heap := h', toks := tk } ∧ 0 < tk ∧ IsRangeIter h' I (0 + (i : Nat)) ((n : Int) - (i : Nat)) 1 ∧ Inv i I oI h' ∧ i ≤ n ∧ j = n + 1 - i) ?_ (n + 1)
    ⟨_, _, 0, _, rfl, hp1, hit0 _ rfl, hst _ _ (by rw [← hI]; exact Heap.get?_push_size _ rfl) (fun b o e => Heap.get?_push_of_some _ e), Nat.zero_le _, rfl⟩
  rintro j s' ⟨h', tk, i, oI, rfl, hp', hit, inv, hi, rfl⟩
  by_cases hlt : i < n
  · refine wpAny_pyNext_range_item hit (by omega) fun h₁ hit₁ hs₁ => ?_
    have e1 : (0 : Int) + (i : Int) + 1 = 0 + ((i + 1 : Nat) : Int) := by omega
    have e2 : (n : Int) - (i : Int) - 1 = (n : Int) - ((i + 1 : Nat) : Int) := by omega
    have e3 : (0 : Int) + (i : Int) = (i : Int) := by omega
    rw [e1, e2] at hit₁
    rw [e3]
    obtain ⟨oI', hgI'⟩ : ∃ oI', h₁.get? I = some oI' := ⟨_, hit₁⟩
    have inv₁ : Inv i I oI' h₁ := hmv _ _ _ _ _ _ inv hgI' fun b o hb e => hs₁.extBut b o hb e
    dsimp only
    refine any_pos (Nat.succ_pos _) (wpAny_mono (hbody i _ hlt I oI' h₁ _ _ (Nat.succ_pos _) inv₁) (fun _ s₂ h₂ hp₂ => ?_) fun _ _ e => e)
    refine any_pos hp₂ (wpAny_mono (h₂ hp₂) (fun f s₃ h₃ hp₃ => ?_) fun _ _ e => e)
    have fin : (∃ h'' tk', s₃ = { s₁ with heap := h'', toks := tk' } ∧ Inv (i + 1) I oI' h'') → ∃ j', j' < n + 1 - i ∧ ∃ h' tk i oI, s₃ = { s₁ with heap := h', toks := tk } ∧ 0 < tk ∧ IsRangeIter h' I (0 + (i : Nat)) ((n : Int) - (i : Nat)) 1 ∧ Inv i I oI h' ∧ i ≤ n ∧ j' = n + 1 - i := by
      rintro ⟨h₄, tk₄, rfl, inv₄⟩
      refine ⟨n + 1 - (i + 1), by omega, h₄, tk₄, i + 1, oI', rfl, hp₃, ?_, inv₄, hlt, rfl⟩
      have := hget _ _ _ _ inv₄
      rw [← hgI', hit₁] at this
      exact this
    cases f with
    | ret v => exact h₃
    | brk => exact h₃
    | next => exact fin h₃
    | cont => exact fin h₃
  · have hin : i = n := by omega
    subst hin
    refine wpAny_pyNext_range_end hh hit (by omega) fun h₁ he₁ => wpAny_execs_nil ?_
    exact hdone I oI h' h₁ tk hp' inv fun b o hb e => he₁ b o hb e
end
end
/-! LeP -/
section
open PySem.Spec PySem.Calls
abbrev standX (o0 o1 o2 o3 o4 i : Int) : Int := at6 (up o4 0 (4 - (0 + ((0 + 1 + 1 + 1 + 1 : Nat) : Int))) (up o3 0 (4 - (0 + ((0 + 1 + 1 + 1 : Nat) : Int))) (up o2 0 (4 - (0 + ((0 + 1 + 1 : Nat) : Int))) (up o1 0 (4 - (0 + ((0 + 1 : Nat) : Int))) (up o0 0 (4 - (0 + ((0 : Nat) : Int))) 0))))) (up o4 1 (4 - (0 + ((0 + 1 + 1 + 1 + 1 : Nat) : Int))) (up o3 1 (4 - (0 + ((0 + 1 + 1 + 1 : Nat) : Int))) (up o2 1 (4 - (0 + ((0 + 1 + 1 : Nat) : Int))) (up o1 1 (4 - (0 + ((0 + 1 : Nat) : Int))) (up o0 1 (4 - (0 + ((0 : Nat) : Int))) 0))))) (up o4 2 (4 - (0 + ((0 + 1 + 1 + 1 + 1 : Nat) : Int))) (up o3 2 (4 - (0 + ((0 + 1 + 1 + 1 : Nat) : Int))) (up o2 2 (4 - (0 + ((0 + 1 + 1 : Nat) : Int))) (up o1 2 (4 - (0 + ((0 + 1 : Nat) : Int))) (up o0 2 (4 - (0 + ((0 : Nat) : Int))) 0))))) (up o4 3 (4 - (0 + ((0 + 1 + 1 + 1 + 1 : Nat) : Int))) (up o3 3 (4 - (0 + ((0 + 1 + 1 + 1 : Nat) : Int))) (up o2 3 (4 - (0 + ((0 + 1 + 1 : Nat) : Int))) (up o1 3 (4 - (0 + ((0 + 1 : Nat) : Int))) (up o0 3 (4 - (0 + ((0 : Nat) : Int))) 0))))) (up o4 4 (4 - (0 + ((0 + 1 + 1 + 1 + 1 : Nat) : Int))) (up o3 4 (4 - (0 + ((0 + 1 + 1 + 1 : Nat) : Int))) (up o2 4 (4 - (0 + ((0 + 1 + 1 : Nat) : Int))) (up o1 4 (4 - (0 + ((0 + 1 : Nat) : Int))) (up o0 4 (4 - (0 + ((0 : Nat) : Int))) 0))))) (-1) i
def incB (b : Bool) (x : Int) : Int := bif b then x + 1 else x
def risesB (b3 b2 b1 b0 : Bool) : List Int := (bif b3 then [3] else []) ++ ((bif b2 then [2] else []) ++ ((bif b1 then [1] else []) ++ (bif b0 then [0] else [])))
def lsAt (o0 o1 o2 o3 : Int) (b3 b2 b1 b0 : Bool) (j : Int) : Int := up o0 j (incB b0 (incB b1 (incB b2 (incB b3 3)))) (up o1 j (incB b1 (incB b2 (incB b3 3))) (up o2 j (incB b2 (incB b3 3)) (up o3 j (incB b3 3) 3)))
structure LeastPost (o0 o1 o2 o3 o4 : Int) (h h' : Heap) (v : Value) : Prop where
  ex : ∃ (b3 b2 b1 b0 : Bool) (T Dl Dr : Addr) (es : Array Value) (n1 n2 : Nat) (w0 w1 w2 w3 w4 : Tok),
    (b3 = true ↔ standX o0 o1 o2 o3 o4 (o4 + 1) > standX o0 o1 o2 o3 o4 (o3 + 1)) ∧ (b2 = true ↔ standX o0 o1 o2 o3 o4 (o3 + 1) > standX o0 o1 o2 o3 o4 (o2 + 1)) ∧ (b1 = true ↔ standX o0 o1 o2 o3 o4 (o2 + 1) > standX o0 o1 o2 o3 o4 (o1 + 1)) ∧ (b0 = true ↔ standX o0 o1 o2 o3 o4 (o1 + 1) > standX o0 o1 o2 o3 o4 (o0 + 1)) ∧
    v = .ref T ∧ h'.get? T = some { cls := .type "tuple", data := .seq #[.ref Dl, .ref Dr] } ∧ h'.get? Dr = some (listOf es n2) ∧ IntsAre es.toList (risesB b3 b2 b1 b0) ∧
    h'.get? Dl = some (listOf #[.int (lsAt o0 o1 o2 o3 b3 b2 b1 b0 0) w0, .int (lsAt o0 o1 o2 o3 b3 b2 b1 b0 1) w1, .int (lsAt o0 o1 o2 o3 b3 b2 b1 b0 2) w2, .int (lsAt o0 o1 o2 o3 b3 b2 b1 b0 3) w3, .int (lsAt o0 o1 o2 o3 b3 b2 b1 b0 4) w4] n1) ∧
    h.get? Dl = none ∧ h.get? Dr = none ∧ h.get? T = none ∧ @LT.lt Nat _ Dl Dr ∧ @LT.lt Nat _ Dr T
theorem bT {P : Prop} (h : P) : (true = true ↔ P) := ⟨fun _ => h, fun _ => rfl⟩
theorem bF {P : Prop} (h : ¬ P) : (false = true ↔ P) := ⟨fun e => Bool.noConfusion e, fun e => absurd e h⟩
theorem news_at {h₀ h : Heap} {L x : Addr} {o : Obj} {news : List (Addr × Obj)} (N : News h₀ L h news) (hm : (x, o) ∈ news) : h.get? x = some o := (N _ hm).1
theorem news_fresh {H g h : Heap} {L x D : Addr} {o : Obj} {news : List (Addr × Obj)} (G : GSub H g [D]) (N : News g L h news) (hm : (x, o) ∈ news) (hx : x ≠ D) : H.get? x = none := by
  cases e : H.get? x with
  | none => rfl
  | some o' => exact absurd (G _ _ e (fun hb => hx (List.mem_singleton.mp hb))) (by rw [(N _ hm).2.2]; simp)
end
/-! Lm -/
section
open PySem.Spec PySem.Calls
theorem at5_up {k v x0 x1 x2 x3 x4 : Int} (hk : 0 ≤ k ∧ k < 5) : at5 (up k 0 v x0) (up k 1 v x1) (up k 2 v x2) (up k 3 v x3) (up k 4 v x4) k = v := by
  rcases five hk with rfl | rfl | rfl | rfl | rfl <;> rfl
/-- the running value of the least text -/
def curI (b3 b2 b1 b0 : Bool) : Nat → Int
  | 0 => 3
  | 1 => incB b3 3
  | 2 => incB b2 (incB b3 3)
  | 3 => incB b1 (incB b2 (incB b3 3))
  | _ => incB b0 (incB b1 (incB b2 (incB b3 3)))
def lsI (o0 o1 o2 o3 : Int) (b3 b2 b1 b0 : Bool) (j : Int) : Nat → Int
  | 0 => 3
  | 1 => up o3 j (curI b3 b2 b1 b0 1) 3
  | 2 => up o2 j (curI b3 b2 b1 b0 2) (up o3 j (curI b3 b2 b1 b0 1) 3)
  | 3 => up o1 j (curI b3 b2 b1 b0 3) (up o2 j (curI b3 b2 b1 b0 2) (up o3 j (curI b3 b2 b1 b0 1) 3))
  | _ => up o0 j (curI b3 b2 b1 b0 4) (up o1 j (curI b3 b2 b1 b0 3) (up o2 j (curI b3 b2 b1 b0 2) (up o3 j (curI b3 b2 b1 b0 1) 3)))
def rsI (b3 b2 b1 b0 : Bool) : Nat → List Int
  | 0 => []
  | 1 => (bif b3 then [3] else [])
  | 2 => (bif b3 then [3] else []) ++ (bif b2 then [2] else [])
  | 3 => (bif b3 then [3] else []) ++ (bif b2 then [2] else []) ++ (bif b1 then [1] else [])
  | _ => (bif b3 then [3] else []) ++ (bif b2 then [2] else []) ++ (bif b1 then [1] else []) ++ (bif b0 then [0] else [])
def cdI (c3 c2 c1 c0 : Prop) (b3 b2 b1 b0 : Bool) (i : Nat) : Prop := (0 < i → (b3 = true ↔ c3)) ∧ (1 < i → (b2 = true ↔ c2)) ∧ (2 < i → (b1 = true ↔ c1)) ∧ (3 < i → (b0 = true ↔ c0))
theorem rsI_len (b3 b2 b1 b0 : Bool) (i : Nat) : (rsI b3 b2 b1 b0 i).length ≤ 4 := by
  rcases i with _ | _ | _ | _ | i
  · exact Nat.zero_le _
  · exact (show ∀ b : Bool, (bif b then [(3 : Int)] else []).length ≤ 4 by decide) b3
  all_goals (revert b3 b2 b1 b0; first | decide | (intro b3 b2 b1 b0; exact (show ∀ b3 b2 b1 b0 : Bool, ((bif b3 then [(3 : Int)] else []) ++ (bif b2 then [2] else []) ++ (bif b1 then [1] else []) ++ (bif b0 then [0] else [])).length ≤ 4 by decide) b3 b2 b1 b0))
/-- the frame of the second loop of _law_least -/
def frL (Dr Dl Ds D : Addr) (mm : PySem.Str → Option Value) : PySem.Str → Option Value := fun y => if y = PySem.Str.ofString "rises" then some (.ref Dr) else if y = PySem.Str.ofString "least" then some (.ref Dl) else if y = PySem.Str.ofString "standing" then some (.ref Ds) else if y = PySem.Str.ofString "order" then some (.ref D) else mm y
theorem frL_of {m : PySem.Str → Option Value} {Dr Dl Ds D : Addr} (f1 : m (PySem.Str.ofString "rises") = some (.ref Dr)) (f2 : m (PySem.Str.ofString "least") = some (.ref Dl)) (f3 : m (PySem.Str.ofString "standing") = some (.ref Ds)) (f4 : m (PySem.Str.ofString "order") = some (.ref D)) : m = frL Dr Dl Ds D m := funext fun y => by
  unfold frL
  split
  · rename_i e; rw [e, f1]
  split
  · rename_i e; rw [e, f2]
  split
  · rename_i e; rw [e, f3]
  split
  · rename_i e; rw [e, f4]
  · rfl
abbrev li5 (x0 x1 x2 x3 x4 : Int) (w0 w1 w2 w3 w4 : Tok) (n : Nat) : Obj := PySem.W.listOf #[.int x0 w0, .int x1 w1, .int x2 w2, .int x3 w3, .int x4 w4] n
abbrev li6 (x0 x1 x2 x3 x4 x5 : Int) (w0 w1 w2 w3 w4 w5 : Tok) (n : Nat) : Obj := PySem.W.listOf #[.int x0 w0, .int x1 w1, .int x2 w2, .int x3 w3, .int x4 w4, .int x5 w5] n
/-- what one turn gives -/
def TurnL (g : Heap) (L : Addr) (Dr Dl Ds D ax : Addr) (oE oS oD : Obj) (I : Addr) (oI : Obj) (k upr xl sl su x0 x1 x2 x3 x4 : Int) (rs : List Int) (h : Heap) : Prop :=
  ∃ (b : Bool) (mm : PySem.Str → Option Value) (es : Array Value) (n1 n2 : Nat) (w0 w1 w2 w3 w4 : Tok), (b = true ↔ sl > su) ∧ IntsAre es.toList (rs ++ bif b then [k] else []) ∧ Fr g L h (frL Dr Dl Ds D mm) ∧
    News g L h [(I, oI), (Dr, PySem.W.listOf es n2), (Dl, li5 (up upr 0 (incB b xl) x0) (up upr 1 (incB b xl) x1) (up upr 2 (incB b xl) x2) (up upr 3 (incB b xl) x3) (up upr 4 (incB b xl) x4) w0 w1 w2 w3 w4 n1), (Ds, oS), (ax, oE), (D, oD)]
def InvLe (g : Heap) (L : Addr) (Dr Dl Ds D ax : Addr) (oE oS oD : Obj) (o0 o1 o2 o3 : Int) (c3 c2 c1 c0 : Prop) (i : Nat) (I : Addr) (oI : Obj) (h : Heap) : Prop :=
  ∃ (b3 b2 b1 b0 : Bool) (mm : PySem.Str → Option Value) (es : Array Value) (n1 n2 : Nat) (w0 w1 w2 w3 w4 : Tok), cdI c3 c2 c1 c0 b3 b2 b1 b0 i ∧ IntsAre es.toList (rsI b3 b2 b1 b0 i) ∧ (@Ne Nat Dr I ∧ @Ne Nat Dl I ∧ @Ne Nat Ds I ∧ @Ne Nat ax I ∧ @Ne Nat D I) ∧ Fr g L h (frL Dr Dl Ds D mm) ∧
    News g L h [(I, oI), (Dr, PySem.W.listOf es n2), (Dl, li5 (lsI o0 o1 o2 o3 b3 b2 b1 b0 0 i) (lsI o0 o1 o2 o3 b3 b2 b1 b0 1 i) (lsI o0 o1 o2 o3 b3 b2 b1 b0 2 i) (lsI o0 o1 o2 o3 b3 b2 b1 b0 3 i) (lsI o0 o1 o2 o3 b3 b2 b1 b0 4 i) w0 w1 w2 w3 w4 n1), (Ds, oS), (ax, oE), (D, oD)]
end
/-! Lm2 -/
section
open PySem.Spec PySem.Calls
theorem fr_frL {g h : Heap} {L Dr Dl Ds D : Addr} {m : PySem.Str → Option Value} (F : Fr g L h m) (f1 : m (PySem.Str.ofString "rises") = some (.ref Dr)) (f2 : m (PySem.Str.ofString "least") = some (.ref Dl)) (f3 : m (PySem.Str.ofString "standing") = some (.ref Ds)) (f4 : m (PySem.Str.ofString "order") = some (.ref D)) : Fr g L h (frL Dr Dl Ds D m) := by
  rw [← frL_of f1 f2 f3 f4]
  exact F
theorem news_of2 {g h : Heap} {L : Addr} {l news : List (Addr × Obj)} (N : News g L h news) (hs : ∀ p ∈ l, p ∈ news) : News g L h l := fun p hp => N p (hs p hp)
theorem ints_snoc : ∀ {l : List Value} {ns : List Int} (k : Int) (t : Tok), IntsAre l ns → IntsAre (l ++ [.int k t]) (ns ++ [k])
  | _, _, k, t, .nil => .cons _ _ .nil
  | _, _, k, t, .cons a u h => .cons a u (ints_snoc k t h)
theorem ints_push {es : Array Value} {ns : List Int} (k : Int) (t : Tok) (h : IntsAre es.toList ns) : IntsAre (es.push (.int k t)).toList (ns ++ [k]) := by
  rw [Array.toList_push]
  exact ints_snoc k t h
theorem ints_nil {l : List Value} {ns : List Int} (h : IntsAre l ns) : IntsAre l (ns ++ []) := by
  rw [List.append_nil]
  exact h
section
variable {prog : Program} {w : World} {A : Around} {env : Env} {x : PySem.Str} {px : Pos} {body : List Stmt} {Q : Flow → Shared → Prop} {s₁ : Shared}
theorem TurnI.mono {v : Value} {I : Addr} {oI : Obj} {J J' K K' : Heap → Prop} (t : TurnI prog w A env x px body Q s₁ v I oI J J') (hk : ∀ h, K h → J h) (hj : ∀ h, J' h → K' h) : TurnI prog w A env x px body Q s₁ v I oI K K' := fun h tk E' hp hK =>
  wpAny_mono (t h tk E' hp (hk h hK)) (fun _ s' hb ht => wpAny_mono (hb ht) (fun f s₃ h₃ => by
    cases f with
    | ret v => exact h₃
    | brk => exact h₃
    | next => obtain ⟨h', tk', e, j⟩ := h₃; exact ⟨h', tk', e, hj _ j⟩
    | cont => obtain ⟨h', tk', e, j⟩ := h₃; exact ⟨h', tk', e, hj _ j⟩) fun _ _ e => e) fun _ _ e => e
/-- what the walk must show of the turn of _law_least's second loop -/
def BodyLe (prog : Program) (w : World) (A : Around) (env : Env) (x : PySem.Str) (px : Pos) (body : List Stmt) (Q : Flow → Shared → Prop) (s₁ : Shared) (g : Heap) (L : Addr) (Dr Dl Ds D ax : Addr) (oE oD : Obj) (o0 o1 o2 o3 o4 s0 s1 s2 s3 s4 s5 : Int) (v0 v1 v2 v3 v4 v5 : Tok) (n3 : Nat) : Prop :=
  ∀ (k lo upr xl sl su x0 x1 x2 x3 x4 : Int) (kt : Tok) (rs : List Int) (es : Array Value) (n1 n2 : Nat) (w0 w1 w2 w3 w4 : Tok) (mm : PySem.Str → Option Value) (I : Addr) (oI : Obj),
    0 ≤ k → k ≤ 3 → at5 o0 o1 o2 o3 o4 (k + 1) = lo → at5 o0 o1 o2 o3 o4 k = upr → at5 x0 x1 x2 x3 x4 lo = xl → at6 s0 s1 s2 s3 s4 s5 (lo + 1) = sl → at6 s0 s1 s2 s3 s4 s5 (upr + 1) = su → 0 ≤ lo ∧ lo < 5 → 0 ≤ upr ∧ upr < 5 → IntsAre es.toList rs → es.size + 1 ≤ sizeLine → @Ne Nat Dr I → @Ne Nat Dl I →
    TurnI prog w A env x px body Q s₁ (.int k kt) I oI (fun h => Fr g L h (frL Dr Dl Ds D mm) ∧ News g L h [(I, oI), (Dr, PySem.W.listOf es n2), (Dl, li5 x0 x1 x2 x3 x4 w0 w1 w2 w3 w4 n1), (Ds, li6 s0 s1 s2 s3 s4 s5 v0 v1 v2 v3 v4 v5 n3), (ax, oE), (D, oD)])
      (TurnL g L Dr Dl Ds D ax oE (li6 s0 s1 s2 s3 s4 s5 v0 v1 v2 v3 v4 v5 n3) oD I oI k upr xl sl su x0 x1 x2 x3 x4 rs)
theorem ints_len : ∀ {l : List Value} {ns : List Int}, IntsAre l ns → l.length = ns.length
  | _, _, .nil => rfl
  | _, _, .cons _ _ h => congrArg Nat.succ (ints_len h)
theorem size_ok {es : Array Value} {b3 b2 b1 b0 : Bool} {i : Nat} (h : IntsAre es.toList (rsI b3 b2 b1 b0 i)) : es.size + 1 ≤ sizeLine := by
  have a := ints_len h
  have b := rsI_len b3 b2 b1 b0 i
  rw [sizeLine_eq]
  have : es.toList.length = es.size := by simp
  have c : (100 : Nat) ≤ 9223372036854775807 := Nat.le_of_ble_eq_true rfl
  omega
variable {g : Heap} {L : Addr} {m : PySem.Str → Option Value} {news : List (Addr × Obj)} {Dr Dl Ds D ax : Addr} {oE oD : Obj} {o0 o1 o2 o3 o4 s0 s1 s2 s3 s4 s5 : Int} {v0 v1 v2 v3 v4 v5 : Tok} {n3 : Nat}
theorem step_le {c3 c2 c1 c0 : Prop} (h0 : 0 ≤ o0 ∧ o0 < 5) (h1 : 0 ≤ o1 ∧ o1 < 5) (h2 : 0 ≤ o2 ∧ o2 < 5) (h3 : 0 ≤ o3 ∧ o3 < 5) (h4 : 0 ≤ o4 ∧ o4 < 5)
    (e3 : c3 ↔ at6 s0 s1 s2 s3 s4 s5 (o4 + 1) > at6 s0 s1 s2 s3 s4 s5 (o3 + 1)) (e2 : c2 ↔ at6 s0 s1 s2 s3 s4 s5 (o3 + 1) > at6 s0 s1 s2 s3 s4 s5 (o2 + 1)) (e1 : c1 ↔ at6 s0 s1 s2 s3 s4 s5 (o2 + 1) > at6 s0 s1 s2 s3 s4 s5 (o1 + 1)) (e0 : c0 ↔ at6 s0 s1 s2 s3 s4 s5 (o1 + 1) > at6 s0 s1 s2 s3 s4 s5 (o0 + 1))
    (hb : BodyLe prog w A env x px body Q s₁ g L Dr Dl Ds D ax oE oD o0 o1 o2 o3 o4 s0 s1 s2 s3 s4 s5 v0 v1 v2 v3 v4 v5 n3) (i : Nat) (hi : i < 4) (k : Int) (hk : k = 3 - (i : Int)) (kt : Tok) (I : Addr) (oI : Obj) :
    TurnI prog w A env x px body Q s₁ (.int k kt) I oI (InvLe g L Dr Dl Ds D ax oE (li6 s0 s1 s2 s3 s4 s5 v0 v1 v2 v3 v4 v5 n3) oD o0 o1 o2 o3 c3 c2 c1 c0 i I oI) (InvLe g L Dr Dl Ds D ax oE (li6 s0 s1 s2 s3 s4 s5 v0 v1 v2 v3 v4 v5 n3) oD o0 o1 o2 o3 c3 c2 c1 c0 (i + 1) I oI) := by
  intro h tk E' hp inv
  obtain ⟨b3, b2, b1, b0, mm, es, n1, n2, w0, w1, w2, w3, w4, hc, hes, ne, F, N⟩ := inv
  have hsz := size_ok hes
  have ci : i = 0 ∨ i = 1 ∨ i = 2 ∨ i = 3 := by omega
  rcases ci with rfl | rfl | rfl | rfl
  · subst hk
    refine (hb 3 o4 o3 3 _ _ _ _ _ _ _ kt _ es n1 n2 w0 w1 w2 w3 w4 mm I oI (by decide) (by decide) rfl rfl (by simp only [lsI]; unfold at5; repeat (first | rfl | split)) rfl rfl h4 h3 hes hsz ne.1 ne.2.1).mono (K' := InvLe g L Dr Dl Ds D ax oE (li6 s0 s1 s2 s3 s4 s5 v0 v1 v2 v3 v4 v5 n3) oD o0 o1 o2 o3 c3 c2 c1 c0 1 I oI) (fun _ x => x) ?_ h tk E' hp ⟨F, N⟩
    rintro h' ⟨b, mm', es', m1, m2, y0, y1, y2, y3, y4, hbb, hes', F', N'⟩
    exact ⟨b, b2, b1, b0, mm', es', m1, m2, y0, y1, y2, y3, y4, ⟨fun _ => hbb.trans e3.symm, fun q => absurd q (by decide), fun q => absurd q (by decide), fun q => absurd q (by decide)⟩, hes', ne, F', N'⟩
  · subst hk
    refine (hb 2 o3 o2 (curI b3 b2 b1 b0 1) _ _ _ _ _ _ _ kt _ es n1 n2 w0 w1 w2 w3 w4 mm I oI (by decide) (by decide) rfl rfl (at5_up h3) rfl rfl h3 h2 hes hsz ne.1 ne.2.1).mono (K' := InvLe g L Dr Dl Ds D ax oE (li6 s0 s1 s2 s3 s4 s5 v0 v1 v2 v3 v4 v5 n3) oD o0 o1 o2 o3 c3 c2 c1 c0 2 I oI) (fun _ x => x) ?_ h tk E' hp ⟨F, N⟩
    rintro h' ⟨b, mm', es', m1, m2, y0, y1, y2, y3, y4, hbb, hes', F', N'⟩
    exact ⟨b3, b, b1, b0, mm', es', m1, m2, y0, y1, y2, y3, y4, ⟨fun _ => hc.1 (by decide), fun _ => hbb.trans e2.symm, fun q => absurd q (by decide), fun q => absurd q (by decide)⟩, hes', ne, F', N'⟩
  · subst hk
    refine (hb 1 o2 o1 (curI b3 b2 b1 b0 2) _ _ _ _ _ _ _ kt _ es n1 n2 w0 w1 w2 w3 w4 mm I oI (by decide) (by decide) rfl rfl (at5_up h2) rfl rfl h2 h1 hes hsz ne.1 ne.2.1).mono (K' := InvLe g L Dr Dl Ds D ax oE (li6 s0 s1 s2 s3 s4 s5 v0 v1 v2 v3 v4 v5 n3) oD o0 o1 o2 o3 c3 c2 c1 c0 3 I oI) (fun _ x => x) ?_ h tk E' hp ⟨F, N⟩
    rintro h' ⟨b, mm', es', m1, m2, y0, y1, y2, y3, y4, hbb, hes', F', N'⟩
    exact ⟨b3, b2, b, b0, mm', es', m1, m2, y0, y1, y2, y3, y4, ⟨fun _ => hc.1 (by decide), fun _ => hc.2.1 (by decide), fun _ => hbb.trans e1.symm, fun q => absurd q (by decide)⟩, hes', ne, F', N'⟩
  · subst hk
    refine (hb 0 o1 o0 (curI b3 b2 b1 b0 3) _ _ _ _ _ _ _ kt _ es n1 n2 w0 w1 w2 w3 w4 mm I oI (by decide) (by decide) rfl rfl (at5_up h1) rfl rfl h1 h0 hes hsz ne.1 ne.2.1).mono (K' := InvLe g L Dr Dl Ds D ax oE (li6 s0 s1 s2 s3 s4 s5 v0 v1 v2 v3 v4 v5 n3) oD o0 o1 o2 o3 c3 c2 c1 c0 4 I oI) (fun _ x => x) ?_ h tk E' hp ⟨F, N⟩
    rintro h' ⟨b, mm', es', m1, m2, y0, y1, y2, y3, y4, hbb, hes', F', N'⟩
    exact ⟨b3, b2, b1, b, mm', es', m1, m2, y0, y1, y2, y3, y4, ⟨fun _ => hc.1 (by decide), fun _ => hc.2.1 (by decide), fun _ => hc.2.2.1 (by decide), fun _ => hbb.trans e0.symm⟩, hes', ne, F', N'⟩
theorem loopI_least {e3' e2' e1' e0' : Tok} {ne n n1 n2 : Nat} {t0 t1 t2 t3 t4 u0 u1 u2 u3 u4 : Tok} (h0 : 0 ≤ o0 ∧ o0 < 5) (h1 : 0 ≤ o1 ∧ o1 < 5) (h2 : 0 ≤ o2 ∧ o2 < 5) (h3 : 0 ≤ o3 ∧ o3 < 5) (h4 : 0 ≤ o4 ∧ o4 < 5)
    (F : Fr g L s₁.heap m) (N : News g L s₁.heap news) (mE : (ax, PySem.W.listOf #[.int 3 e3', .int 2 e2', .int 1 e1', .int 0 e0'] ne) ∈ news) (f1 : m (PySem.Str.ofString "rises") = some (.ref Dr)) (f2 : m (PySem.Str.ofString "least") = some (.ref Dl)) (f3 : m (PySem.Str.ofString "standing") = some (.ref Ds)) (f4 : m (PySem.Str.ofString "order") = some (.ref D))
    (mR : (Dr, PySem.W.listOf #[] n2) ∈ news) (mL : (Dl, li5 3 3 3 3 3 u0 u1 u2 u3 u4 n1) ∈ news) (mS : (Ds, li6 s0 s1 s2 s3 s4 s5 v0 v1 v2 v3 v4 v5 n3) ∈ news) (mD : (D, li5 o0 o1 o2 o3 o4 t0 t1 t2 t3 t4 n) ∈ news) (hp : 0 < s₁.toks)
    (hb : BodyLe prog w A env x px body Q s₁ g L Dr Dl Ds D ax (PySem.W.listOf #[.int 3 e3', .int 2 e2', .int 1 e1', .int 0 e0'] ne) (li5 o0 o1 o2 o3 o4 t0 t1 t2 t3 t4 n) o0 o1 o2 o3 o4 s0 s1 s2 s3 s4 s5 v0 v1 v2 v3 v4 v5 n3)
    (hd : ∀ (b3 b2 b1 b0 : Bool) (mm : PySem.Str → Option Value) (es : Array Value) (m1 m2 : Nat) (w0 w1 w2 w3 w4 : Tok) h' tk, (b3 = true ↔ at6 s0 s1 s2 s3 s4 s5 (o4 + 1) > at6 s0 s1 s2 s3 s4 s5 (o3 + 1)) → (b2 = true ↔ at6 s0 s1 s2 s3 s4 s5 (o3 + 1) > at6 s0 s1 s2 s3 s4 s5 (o2 + 1)) → (b1 = true ↔ at6 s0 s1 s2 s3 s4 s5 (o2 + 1) > at6 s0 s1 s2 s3 s4 s5 (o1 + 1)) → (b0 = true ↔ at6 s0 s1 s2 s3 s4 s5 (o1 + 1) > at6 s0 s1 s2 s3 s4 s5 (o0 + 1)) →
      IntsAre es.toList (risesB b3 b2 b1 b0) → 0 < tk → Fr g L h' (frL Dr Dl Ds D mm) → News g L h' [(Dr, PySem.W.listOf es m2), (Dl, li5 (lsAt o0 o1 o2 o3 b3 b2 b1 b0 0) (lsAt o0 o1 o2 o3 b3 b2 b1 b0 1) (lsAt o0 o1 o2 o3 b3 b2 b1 b0 2) (lsAt o0 o1 o2 o3 b3 b2 b1 b0 3) (lsAt o0 o1 o2 o3 b3 b2 b1 b0 4) w0 w1 w2 w3 w4 m1), (D, li5 o0 o1 o2 o3 o4 t0 t1 t2 t3 t4 n)] → Q .next { s₁ with heap := h', toks := tk }) : LoopI prog w A env x px body Q (.ref ax) s₁ := by
  have gt : ∀ (h' : Heap) {p : Addr × Obj} {l : List (Addr × Obj)}, News g L h' l → p ∈ l → h'.get? p.1 = some p.2 := fun h' p l N hp => (N p hp).1
  have hlt : ∀ p ∈ news, p.1 ≠ s₁.heap.objs.size := fun p hp => Nat.ne_of_lt (Heap.lt_size (N p hp).1)
  refine ⟨ax, #[.int 3 e3', .int 2 e2', .int 1 e1', .int 0 e0'], InvLe g L Dr Dl Ds D ax (PySem.W.listOf #[.int 3 e3', .int 2 e2', .int 1 e1', .int 0 e0'] ne) (li6 s0 s1 s2 s3 s4 s5 v0 v1 v2 v3 v4 v5 n3) (li5 o0 o1 o2 o3 o4 t0 t1 t2 t3 t4 n) o0 o1 o2 o3
    (at6 s0 s1 s2 s3 s4 s5 (o4 + 1) > at6 s0 s1 s2 s3 s4 s5 (o3 + 1)) (at6 s0 s1 s2 s3 s4 s5 (o3 + 1) > at6 s0 s1 s2 s3 s4 s5 (o2 + 1)) (at6 s0 s1 s2 s3 s4 s5 (o2 + 1) > at6 s0 s1 s2 s3 s4 s5 (o1 + 1)) (at6 s0 s1 s2 s3 s4 s5 (o1 + 1) > at6 s0 s1 s2 s3 s4 s5 (o0 + 1)), rfl, hp, ⟨_, (N _ mE).1, rfl, _, rfl⟩, ?_, ?_, ?_, ?_, ?_⟩
  · intro h' oI e hk
    refine ⟨false, false, false, false, m, #[], n1, n2, u0, u1, u2, u3, u4, ⟨fun q => absurd q (by decide), fun q => absurd q (by decide), fun q => absurd q (by decide), fun q => absurd q (by decide)⟩, .nil, ⟨hlt _ mR, hlt _ mL, hlt _ mS, hlt _ mE, hlt _ mD⟩, ?_, ?_⟩
    · rw [← frL_of f1 f2 f3 f4]
      exact F.keeps hk
    · intro p hp
      have K : ∀ q ∈ news, h'.get? q.1 = some q.2 ∧ q.1 ≠ L ∧ g.get? q.1 = none := fun q hq => ⟨hk _ _ (N q hq).1, (N q hq).2⟩
      rcases List.mem_cons.mp hp with rfl | hp
      · exact ⟨e, Nat.ne_of_gt F.ns.lt, next_is_new F⟩
      rcases List.mem_cons.mp hp with rfl | hp
      · exact K _ mR
      rcases List.mem_cons.mp hp with rfl | hp
      · exact K _ mL
      rcases List.mem_cons.mp hp with rfl | hp
      · exact K _ mS
      rcases List.mem_cons.mp hp with rfl | hp
      · exact K _ mE
      rcases List.mem_cons.mp hp with rfl | hp
      · exact K _ mD
      · cases hp
  · rintro i I oI h' ⟨b3, b2, b1, b0, mm, es, n1, n2, w0, w1, w2, w3, w4, hc, hes, ne, F, N⟩
    exact ⟨⟨_, (N _ (.tail _ (.tail _ (.tail _ (.tail _ (.head _)))))).1, rfl, _, rfl⟩, (N _ (.head _)).1⟩
  · rintro i I oI oI' h' h'' ⟨b3, b2, b1, b0, mm, es, n1, n2, w0, w1, w2, w3, w4, hc, hes, ne, F, N⟩ e hk
    have hI := (N _ (.head _)).2
    refine ⟨b3, b2, b1, b0, mm, es, n1, n2, w0, w1, w2, w3, w4, hc, hes, ne, ⟨F.ns.at' fun o e => hk L o (Ne.symm hI.1) e, fun b o e => hk b o (fun hb => by rw [hb, hI.2] at e; cases e) (F.keep b o e), F.above⟩, ?_⟩
    intro p hp
    rcases List.mem_cons.mp hp with rfl | hp
    · exact ⟨e, hI⟩
    · have q := N p (.tail _ hp)
      refine ⟨hk _ _ ?_ q.1, q.2⟩
      rcases List.mem_cons.mp hp with rfl | hp
      · exact ne.1
      rcases List.mem_cons.mp hp with rfl | hp
      · exact ne.2.1
      rcases List.mem_cons.mp hp with rfl | hp
      · exact ne.2.2.1
      rcases List.mem_cons.mp hp with rfl | hp
      · exact ne.2.2.2.1
      rcases List.mem_cons.mp hp with rfl | hp
      · exact ne.2.2.2.2
      · cases hp
  · intro i v hv I oI
    rcases i with _ | _ | _ | _ | i
    · cases hv; exact step_le h0 h1 h2 h3 h4 Iff.rfl Iff.rfl Iff.rfl Iff.rfl hb 0 (by decide) 3 rfl e3' I oI
    · cases hv; exact step_le h0 h1 h2 h3 h4 Iff.rfl Iff.rfl Iff.rfl Iff.rfl hb 1 (by decide) 2 rfl e2' I oI
    · cases hv; exact step_le h0 h1 h2 h3 h4 Iff.rfl Iff.rfl Iff.rfl Iff.rfl hb 2 (by decide) 1 rfl e1' I oI
    · cases hv; exact step_le h0 h1 h2 h3 h4 Iff.rfl Iff.rfl Iff.rfl Iff.rfl hb 3 (by decide) 0 rfl e0' I oI
    · cases hv
  · rintro I oI h' h'' tk htk ⟨b3, b2, b1, b0, mm, es, n1, n2, w0, w1, w2, w3, w4, hc, hes, ne, F, N⟩ hk
    have hI := (N _ (.head _)).2
    refine hd b3 b2 b1 b0 mm es n1 n2 w0 w1 w2 w3 w4 h'' tk (hc.1 (Nat.le_of_ble_eq_true rfl)) (hc.2.1 (Nat.le_of_ble_eq_true rfl)) (hc.2.2.1 (Nat.le_of_ble_eq_true rfl)) (hc.2.2.2 (Nat.le_of_ble_eq_true rfl)) (by simpa [rsI, risesB, List.append_assoc] using hes) htk ⟨F.ns.at' fun o e => hk L o (Ne.symm hI.1) e, fun b o e => hk b o (fun hb => by rw [hb, hI.2] at e; cases e) (F.keep b o e), F.above⟩ ?_
    intro p hp
    rcases List.mem_cons.mp hp with rfl | hp
    · exact ⟨hk _ _ ne.1 (N _ (.tail _ (.head _))).1, (N _ (.tail _ (.head _))).2⟩
    rcases List.mem_cons.mp hp with rfl | hp
    · exact ⟨hk _ _ ne.2.1 (N _ (.tail _ (.tail _ (.head _)))).1, (N _ (.tail _ (.tail _ (.head _)))).2⟩
    rcases List.mem_cons.mp hp with rfl | hp
    · exact ⟨hk _ _ ne.2.2.2.2 (N _ (.tail _ (.tail _ (.tail _ (.tail _ (.tail _ (.head _))))))).1, (N _ (.tail _ (.tail _ (.tail _ (.tail _ (.tail _ (.head _))))))).2⟩
    · cases hp
end
end
section
local macro_rules | `(tactic| k_steps) => `(tactic| repeat' (first | (k_unfold; (try dsimp only)) | walk1 | (dsimp only; walk1) | (leave1; walk_say "STEP leave1"; (try dsimp only)) | fail "no step"))
/-! Le -/
section
open PySem.Spec PySem.Calls
section
variable {prog : Program} {w : World} {A : Around} {E : Value → Shared → Prop} {s : Shared} {h₀ : Heap} {L D : Addr} {m : PySem.Str → Option Value} {news : List (Addr × Obj)}
theorem sub5v {value slice : PySem.Expr} {x0 x1 x2 x3 x4 v : Int} {u0 u1 u2 u3 u4 : Tok} {n : Nat} {k : Int} {u : Tok} {Q : Value → Shared → Prop} (N : News h₀ L s.heap news) (hm : (D, PySem.W.listOf #[.int x0 u0, .int x1 u1, .int x2 u2, .int x3 u3, .int x4 u4] n) ∈ news) (hk : 0 ≤ k ∧ k < 5) (hv : at5 x0 x1 x2 x3 x4 k = v)
    (h : ∀ t, Q (.int v t) s)
    (hs : subscripted slice false (.ref D) (.int k u) = operate [.ref D, .int k u] (getItem (.ref D) (.int k u))) (ht : ∀ r, letTemporaryGo value (.ref D) r = pure ()) :
    wpAny (model prog w) A (subscriptTail value slice (.ref D) (.int k u)) Q E s := sub5s N hm hk (by rw [hv]; exact h) hs ht
theorem sub6v {value slice : PySem.Expr} {x0 x1 x2 x3 x4 x5 v : Int} {u0 u1 u2 u3 u4 u5 : Tok} {n : Nat} {k : Int} {u : Tok} {Q : Value → Shared → Prop} (N : News h₀ L s.heap news) (hm : (D, PySem.W.listOf #[.int x0 u0, .int x1 u1, .int x2 u2, .int x3 u3, .int x4 u4, .int x5 u5] n) ∈ news) (hk : 0 ≤ k ∧ k < 6) (hv : at6 x0 x1 x2 x3 x4 x5 k = v)
    (h : ∀ t, Q (.int v t) s)
    (hs : subscripted slice false (.ref D) (.int k u) = operate [.ref D, .int k u] (getItem (.ref D) (.int k u))) (ht : ∀ r, letTemporaryGo value (.ref D) r = pure ()) :
    wpAny (model prog w) A (subscriptTail value slice (.ref D) (.int k u)) Q E s := sub6s N hm hk (by rw [hv]; exact h) hs ht
end
variable (w : World) (mean : ExcName → Option Value) (mg mb : PySem.Str → Option Value)
theorem least_ct (D : Addr) (o0 o1 o2 o3 o4 : Int) (t0 t1 t2 t3 t4 : Tok) (n : Nat) (h0 : 0 ≤ o0 ∧ o0 < 5) (h1 : 0 ≤ o1 ∧ o1 < 5) (h2 : 0 ≤ o2 ∧ o2 < 5) (h3 : 0 ≤ o3 ∧ o3 < 5) (h4 : 0 ≤ o4 ∧ o4 < 5) :
   CtL w mean mg mb D (listOf #[.int o0 t0, .int o1 t1, .int o2 t2, .int o3 t3, .int o4 t4] n) (call (.ref 190) [.ref D]) (fun h h' v => LeastPost o0 o1 o2 o3 o4 h h' v) := by
  dsimp only [CtL]; k_fill; w_top off
  intro dp un gd cn cs a ccd cl outer A₀ base h₀ L m s Q E B F N X T hk hd hu hp hret
  have hL := Heap.lt_size (N _ (.head _)).1
  refine wpAny_call ?_
  (refine' enterG ?k1 ?k2 ?k3 ?kN ?k5 ?kA ?kF ?kK ?k6 ?k7 ?k8 ?k9 ?kB ?_ ?c2 ?c3 ?c4 ?c5; (case kA => exact rfl); (case kF => exact rfl); (case kK => first | exact rfl | assumption); (case k1 => k_asm); (case k2 => k_asm); (case k3 => k_asm); (case kN => assumption); (case k5 => k_asm); (case k6 => k_is); (case k7 => k_is); (case k8 => ktr_room); (case k9 => first | exact BindsTo.of_eq rfl | exact binds_K (by k_in) rfl (by k_is) rfl rfl rfl | fail "k_enter: no rule for these arguments"); (case c5 => decide); (case kB => exact locs rfl); (case c2 => exact rfl); (case c3 => exact rfl); (case c4 => exact rfl); k_whole)
  intro g' L' h' hsz' G' F' N' B' X' T' l1'; k_lt l1'; (try dsimp only); (try k_lift B'); (try k_fold)
  k_with_none
  k_with "execs cons" => (k_here; with_reducible refine execs_pos (by first | assumption | exact Nat.succ_pos _ | omega) ?_; intro tk' htk'; (try dsimp only))
  k_with "TokP" => (with_reducible refine tokP_in ?_; (try ((with_reducible rename (0 < _) => hold'); clear hold')); intro htk'; (try dsimp only); (try dsimp only at htk'))
  k_with "eval Name" => (k_here; k_dflt (first
    | (refine nameL rfl (by rfl) (by decide) (by k_asm) (by rfl) ?_; k_whole)
    | (refine nameC rfl (by rfl) (by decide) (by rfl) (by k_asm) (by k_mem) (by k_asm) ?_; k_whole)
    | (refine nameK rfl (by rfl) (by decide) (by k_asm) (by k_asm) (by k_asm) (by k_is) ?_; k_whole)
    | (refine nameB rfl (by rfl) (by decide) (by k_asm) (by k_asm) (by k_asm) (by k_is) (by boot_fast) (by decide) ?_; k_whole)))
  k_with "storeName" => (k_here; k_dflt (first
    | (refine storeL rfl (by rfl) (by k_asm) (by k_asm) ?_; k_whole; intro h' F' N'; (try k_sweep))
    | (refine storeC rfl (by rfl) (by rfl) (by k_asm) (by k_asm) (by k_updF) (by k_asm) ?_; k_whole; intro h' o' F' N' d'; (try dsimp only at N'); (try k_sweep))))
  k_with "call builtin:list.append" => (k_here; (with_reducible show wpAny _ _ (call (Value.builtin _) [Value.ref _, _]) _ _ _); k_dflt (refine append_K (by k_asm) (by k_asm) (by k_upd) ?_ (by first | assumption | (rw [sizeLine_eq]; exact Nat.le_of_ble_eq_true rfl)); k_whole); intro h' F' N'; (try k_sweep))
  k_with "subscriptTail Name Name ref int" => (k_here; (with_reducible rename News _ _ _ _ => N9); k_dflt (first | (refine sub5v N9 (by k_mem) (by first | assumption | omega) (by with_reducible assumption) ?_ (by with_unfolding_all rfl) (by intro _; with_unfolding_all rfl); k_whole; intro t') | (refine sub5 N9 (by k_mem) (by decide) (by decide) (by rfl) ?_ (by with_unfolding_all rfl) (by intro _; with_unfolding_all rfl); k_whole)))
  k_with "subscriptTail Name BinOp ref int" => (k_here; (with_reducible rename News _ _ _ _ => N9); k_dflt (first | (refine sub5v N9 (by k_mem) (by omega) (by with_reducible assumption) ?_ (by with_unfolding_all rfl) (by intro _; with_unfolding_all rfl); k_whole; intro t') | (refine sub6v N9 (by k_mem) (by omega) (by with_reducible assumption) ?_ (by with_unfolding_all rfl) (by intro _; with_unfolding_all rfl); k_whole; intro t')))
  k_with "getItem ref int" => (k_here; (with_reducible rename News _ _ _ _ => N9); k_dflt (refine get5l N9 (by k_mem) (by assumption) ?_; k_whole; intro t'))
  k_with "setItem ref int" => (k_here; (with_reducible rename News _ _ _ _ => N9); (with_reducible rename Fr _ _ _ _ => F9); k_dflt (first | (refine set6s F9 N9 (by k_updF) (by first | assumption | omega) ?_; k_whole; intro w0 w1 w2 w3 w4 w5 h' F' N') | (with_reducible (refine set5l F9 N9 (by k_updF) (by first | assumption | omega) ?_); k_whole; intro w0 w1 w2 w3 w4 h' F' N') | (refine set5s F9 N9 (by k_updF) (by first | assumption | omega) ?_; k_whole; intro w0 w1 w2 w3 w4 h' F' N')); (try dsimp only at N'); (try k_sweep))
  k_with "exec For Name List cons nil" => (k_here; k_dflt (refine for_listN rfl (by first | assumption | exact Nat.succ_pos _ | omega) ?_ (by intro _; rfl); k_whole))
  k_with "LoopI" => (k_here; (with_reducible rename News _ _ _ _ => N9); (with_reducible rename Fr _ _ _ _ => F9); k_dflt (refine loopI_least h0 h1 h2 h3 h4 F9 N9 (by k_mem) (by rfl) (by rfl) (by rfl) (by rfl) (by k_mem) (by k_mem) (by k_mem) (by k_mem) (by first | assumption | exact Nat.succ_pos _ | omega) ?_ ?_; k_whole))
  k_with "BodyLe" => (unfold BodyLe TurnI; intro kk lo upr xl sl su x0 x1 x2 x3 x4 kt rs es n1' n2' w0 w1 w2 w3 w4 mm I' oI' hk0 hk3 e1 e2 e3 e4 e5 hlo hup hes hsz nR nL h' tk' E' htk' hFN; obtain ⟨F', N'⟩ := hFN; unfold frL at F'; (try dsimp only))
  k_steps
  · (with_reducible rename News _ _ _ _ => N9)
    (with_reducible rename Fr _ _ _ _ => F9)
    refine' ⟨true, _, _, _, _, _, _, _, _, _, bT (by assumption), ?ints1, fr_frL F9 rfl rfl rfl rfl, news_of2 N9 ?nw1⟩
    case nw1 =>
      intro p hp
      rcases List.mem_cons.mp hp with rfl | hp
      · k_mem
      rcases List.mem_cons.mp hp with rfl | hp
      · k_mem
      rcases List.mem_cons.mp hp with rfl | hp
      · k_mem
      rcases List.mem_cons.mp hp with rfl | hp
      · k_mem
      rcases List.mem_cons.mp hp with rfl | hp
      · k_mem
      rcases List.mem_cons.mp hp with rfl | hp
      · k_mem
      · cases hp
    case ints1 => exact ints_push _ _ hes
  · (with_reducible rename News _ _ _ _ => N9)
    (with_reducible rename Fr _ _ _ _ => F9)
    refine' ⟨false, _, _, _, _, _, _, _, _, _, bF (by assumption), ?ints2, fr_frL F9 rfl rfl rfl rfl, news_of2 N9 ?nw2⟩
    case nw2 =>
      intro p hp
      rcases List.mem_cons.mp hp with rfl | hp
      · k_mem
      rcases List.mem_cons.mp hp with rfl | hp
      · k_mem
      rcases List.mem_cons.mp hp with rfl | hp
      · k_mem
      rcases List.mem_cons.mp hp with rfl | hp
      · k_mem
      rcases List.mem_cons.mp hp with rfl | hp
      · k_mem
      rcases List.mem_cons.mp hp with rfl | hp
      · k_mem
      · cases hp
    case ints2 => exact ints_nil hes
  · (with_reducible rename News _ _ _ _ => N9)
    (with_reducible rename Fr g' _ _ _ => F9)
    refine hret _ _ _ (keep_of G' (N _ (.head _)).1 F9 N9 (by k_mem)) ?_ (by first | assumption | exact Nat.succ_pos _ | omega)
    refine' ⟨⟨_, _, _, _, _, _, _, _, _, _, _, _, _, _, _, ?c3, ?c2, ?c1, ?c0, rfl, news_at N9 (.head _), ?m2, ?es0, ?m1, ?f1, ?f2, ?f3, ?l2, ?l3⟩⟩
    case c3 => with_reducible assumption
    case c2 => with_reducible assumption
    case c1 => with_reducible assumption
    case c0 => with_reducible assumption
    case m2 => exact news_at N9 (by k_mem)
    case m1 => exact news_at N9 (by k_mem)
    case es0 => with_reducible assumption
    case f1 => exact news_fresh (D := D) G' N9 (by k_mem) (by (show @Ne Nat _ _); omega)
    case f2 => exact news_fresh (D := D) G' N9 (by k_mem) (by (show @Ne Nat _ _); omega)
    case f3 => exact news_fresh (D := D) G' N9 (.head _) (by (show @Ne Nat _ _); omega)
    case l2 => omega
    case l3 => omega
end
/-! Or -/
section
open PySem.Spec PySem.Calls
/-- what is left of the table, and what has been taken out of it in falling order -/
structure Left (K : Int → Int) (base : List (Int × Addr)) (c : List Int) (xs : List (Int × Addr)) : Prop where
  sub : ∀ q ∈ xs, q ∈ base
  nd : (xs.map (·.1)).Nodup
  len : xs.length + c.length = 5
  cb : ∀ p ∈ c, 0 ≤ p ∧ p < 5
  low : ∀ q ∈ xs, ∀ p ∈ c, K q.1 < K p
  fall : c.Pairwise fun a b => K b < K a
theorem filter_len {p : Int} : ∀ {xs : List (Int × Addr)}, (xs.map (·.1)).Nodup → (∃ x, (p, x) ∈ xs) → (xs.filter fun q => decide (q.1 ≠ p)).length + 1 = xs.length
  | [], _, ⟨x, h⟩ => by cases h
  | (a, b) :: xs, nd, ⟨x, h⟩ => by
    rw [List.map_cons, List.nodup_cons] at nd
    by_cases e : a = p
    · subst e
      have hf : (xs.filter fun q => decide (q.1 ≠ a)) = xs := by
        rw [List.filter_eq_self]
        intro q hq
        exact decide_eq_true fun e => nd.1 (List.mem_map.mpr ⟨q, hq, e⟩)
      rw [List.filter_cons_of_neg (by simp), hf, List.length_cons]
    · rw [List.filter_cons_of_pos (by simpa using e), List.length_cons, List.length_cons]
      rcases List.mem_cons.mp h with h | h
      · cases h; exact absurd rfl e
      · rw [filter_len nd.2 ⟨x, h⟩]
theorem Left.step {K : Int → Int} {base : List (Int × Addr)} {c : List Int} {xs : List (Int × Addr)} (h : Left K base c xs) {p : Int} {x : Addr} (hp : (p, x) ∈ xs) (hb : 0 ≤ p ∧ p < 5) (hmax : ∀ q ∈ xs, q.1 ≠ p → K q.1 < K p) :
    Left K base (c ++ [p]) (xs.filter fun q => decide (q.1 ≠ p)) := by
  refine ⟨fun q hq => h.sub q (List.mem_filter.mp hq).1, ?_, ?_, ?_, ?_, ?_⟩
  · exact List.Nodup.sublist (List.Sublist.map _ List.filter_sublist) h.nd
  · have := filter_len h.nd ⟨x, hp⟩
    have := h.len
    rw [List.length_append, List.length_singleton]
    omega
  · intro a ha
    rcases List.mem_append.mp ha with ha | ha
    · exact h.cb a ha
    · rw [List.mem_singleton.mp ha]; exact hb
  · intro q hq a ha
    obtain ⟨h1, h2⟩ := List.mem_filter.mp hq
    rcases List.mem_append.mp ha with ha | ha
    · exact h.low q h1 a ha
    · rw [List.mem_singleton.mp ha]; exact hmax q h1 (of_decide_eq_true h2)
  · rw [List.pairwise_append]
    refine ⟨h.fall, List.pairwise_singleton _ _, fun a ha b hb => ?_⟩
    rw [List.mem_singleton.mp hb]
    exact h.low _ hp a ha
theorem Left.done {r0 r1 r2 r3 r4 p0 p1 p2 p3 p4 : Int} {base xs : List (Int × Addr)} (h : Left (Key r0 r1 r2 r3 r4) base [p0, p1, p2, p3, p4] xs) : IsFall r0 r1 r2 r3 r4 p0 p1 p2 p3 p4 ∧ xs = [] := by
  have f := h.fall
  simp only [List.pairwise_cons, List.mem_cons, List.not_mem_nil, or_false, forall_eq_or_imp, forall_eq] at f
  have b := h.cb
  have hl := h.len
  refine ⟨⟨b _ (by simp), b _ (by simp), b _ (by simp), b _ (by simp), b _ (by simp), f.1.1, f.2.1.1, f.2.2.1.1, f.2.2.2.1⟩, ?_⟩
  simp only [List.length_cons, List.length_nil] at hl
  exact List.eq_nil_of_length_eq_zero (by omega)
/-- an end's spelling, by its place -/
def endT (k : Nat) (r0 r1 r2 r3 r4 : Int) (p : Int) : List Nat := (List.drop p.toNat [r0, r1, r2, r3, r4]).flatMap (spK k)
theorem key_kv {r0 r1 r2 r3 r4 p : Int} (hp : 0 ≤ p ∧ p < 5) : Key r0 r1 r2 r3 r4 p = kv 5 (List.drop p.toNat [r0, r1, r2, r3, r4]) := by
  rcases five hp with rfl | rfl | rfl | rfl | rfl
  · show key0 r0 r1 r2 r3 r4 = (r0 + 1) * ((9 ^ 4 : Nat) : Int) + ((r1 + 1) * ((9 ^ 3 : Nat) : Int) + ((r2 + 1) * ((9 ^ 2 : Nat) : Int) + ((r3 + 1) * ((9 ^ 1 : Nat) : Int) + ((r4 + 1) * ((9 ^ 0 : Nat) : Int) + 0))))
    unfold key0; omega
  · show key1 r1 r2 r3 r4 = (r1 + 1) * ((9 ^ 4 : Nat) : Int) + ((r2 + 1) * ((9 ^ 3 : Nat) : Int) + ((r3 + 1) * ((9 ^ 2 : Nat) : Int) + ((r4 + 1) * ((9 ^ 1 : Nat) : Int) + 0)))
    unfold key1; omega
  · show key2 r2 r3 r4 = (r2 + 1) * ((9 ^ 4 : Nat) : Int) + ((r3 + 1) * ((9 ^ 3 : Nat) : Int) + ((r4 + 1) * ((9 ^ 2 : Nat) : Int) + 0))
    unfold key2; omega
  · show key3 r3 r4 = (r3 + 1) * ((9 ^ 4 : Nat) : Int) + ((r4 + 1) * ((9 ^ 3 : Nat) : Int) + 0)
    unfold key3; omega
  · show key4 r4 = (r4 + 1) * ((9 ^ 4 : Nat) : Int) + 0
    unfold key4; omega
theorem mem_drop8 {r0 r1 r2 r3 r4 : Int} (h8 : In8 r0 r1 r2 r3 r4) (n : Nat) : ∀ r ∈ List.drop n [r0, r1, r2, r3, r4], R8 r := by
  intro r hr
  have := List.mem_of_mem_drop hr
  obtain ⟨h0, h1, h2, h3, h4⟩ := h8
  simp only [List.mem_cons, List.not_mem_nil, or_false] at this
  rcases this with rfl | rfl | rfl | rfl | rfl <;> assumption
theorem key_inj {r0 r1 r2 r3 r4 p q : Int} (h8 : In8 r0 r1 r2 r3 r4) (hp : 0 ≤ p ∧ p < 5) (hq : 0 ≤ q ∧ q < 5) (hne : p ≠ q) : Key r0 r1 r2 r3 r4 p ≠ Key r0 r1 r2 r3 r4 q := by
  obtain ⟨n01, n02, n03, n04, n12, n13, n14, n23, n24, n34⟩ := key_ne h8
  rcases five hp with rfl | rfl | rfl | rfl | rfl <;> rcases five hq with rfl | rfl | rfl | rfl | rfl <;>
    first
    | exact absurd rfl hne
    | assumption
    | (apply Ne.symm; assumption)
/-- texts stand as the ends' numbers do -/
theorem end_lt {k : Nat} {r0 r1 r2 r3 r4 p q : Int} (hk5 : k < 5) (h8 : In8 r0 r1 r2 r3 r4) (hp : 0 ≤ p ∧ p < 5) (hq : 0 ≤ q ∧ q < 5) (h : Key r0 r1 r2 r3 r4 p < Key r0 r1 r2 r3 r4 q) : endT k r0 r1 r2 r3 r4 p < endT k r0 r1 r2 r3 r4 q := by
  rw [key_kv hp, key_kv hq] at h
  exact kv_lt hk5 5 _ _ (mem_drop8 h8 _) (mem_drop8 h8 _) h
theorem end_lt_iff {k : Nat} {r0 r1 r2 r3 r4 p q : Int} (hk5 : k < 5) (h8 : In8 r0 r1 r2 r3 r4) (hp : 0 ≤ p ∧ p < 5) (hq : 0 ≤ q ∧ q < 5) : endT k r0 r1 r2 r3 r4 p < endT k r0 r1 r2 r3 r4 q ↔ Key r0 r1 r2 r3 r4 p < Key r0 r1 r2 r3 r4 q := by
  refine ⟨fun h => ?_, end_lt hk5 h8 hp hq⟩
  by_cases e : p = q
  · subst e; exact absurd h (List.lt_irrefl _)
  · rcases Int.lt_trichotomy (Key r0 r1 r2 r3 r4 p) (Key r0 r1 r2 r3 r4 q) with g | g | g
    · exact g
    · exact absurd g (key_inj h8 hp hq e)
    · exact absurd h (List.lt_asymm (end_lt hk5 h8 hq hp g))
/-- the table of what is left: a None at -1, a name at each place -/
def linesOf (xs : List (Int × Addr)) : List (Int × Value) := (-1, .none) :: xs.map fun q => (q.1, .ref q.2)
theorem lines_vals (xs : List (Int × Addr)) : ((linesOf xs).map (·.2)).filter truthV = xs.map fun q => .ref q.2 := by
  unfold linesOf
  rw [List.map_cons, List.map_map]
  show List.filter truthV (.none :: xs.map (fun q => Value.ref q.2)) = _
  rw [List.filter_cons_of_neg (by decide), List.filter_eq_self]
  intro v hv
  obtain ⟨q, _, rfl⟩ := List.mem_map.mp hv
  rfl
theorem lines_at {xs : List (Int × Addr)} {p : Int} {x : Addr} (h : (p, x) ∈ xs) (hp : 0 ≤ p) : (valueAt (linesOf xs) p).isSome = true := by
  unfold valueAt linesOf
  rw [List.find?_cons_of_neg (by simp; omega), Option.isSome_map, List.find?_isSome]
  exact ⟨(p, .ref x), List.mem_map.mpr ⟨(p, x), h, rfl⟩, by simp⟩
theorem lines_without {xs : List (Int × Addr)} {p : Int} (hp : 0 ≤ p) : without (linesOf xs) p = linesOf (xs.filter fun q => decide (q.1 ≠ p)) := by
  unfold PySem.without linesOf
  rw [List.filter_cons_of_pos (by simp; omega), List.filter_map]
  rfl
/-- the greatest of the names, by any numbers that order them -/
theorem best_max {gt : Value → Value → Bool} {κ : Value → Int} : ∀ (vs : List Value) (o : Value), (∀ a ∈ o :: vs, ∀ b ∈ o :: vs, gt a b = decide (κ b < κ a)) → ∀ dv, best gt dv (some o) vs ∈ o :: vs ∧ ∀ b ∈ o :: vs, κ b ≤ κ (best gt dv (some o) vs)
  | [], o, h, dv => ⟨List.mem_cons_self, fun b hb => by rw [List.mem_singleton.mp hb]; exact Int.le_refl _⟩
  | v :: vs, o, h, dv => by
    show best gt dv (some (if gt v o then v else o)) vs ∈ _ ∧ ∀ b ∈ _, κ b ≤ κ (best gt dv (some (if gt v o then v else o)) vs)
    rw [h v (by simp) o (by simp)]
    by_cases q : κ o < κ v
    · simp only [q, decide_true, if_true]
      obtain ⟨h1, h2⟩ := best_max vs v (fun a ha b hb => h a (by simp at ha ⊢; exact .inr ha) b (by simp at hb ⊢; exact .inr hb)) dv
      refine ⟨List.mem_cons_of_mem _ h1, fun b hb => ?_⟩
      rcases List.mem_cons.mp hb with rfl | hb
      · have := h2 v List.mem_cons_self; omega
      · exact h2 b hb
    · simp only [q, decide_false, Bool.false_eq_true, if_false]
      obtain ⟨h1, h2⟩ := best_max vs o (fun a ha b hb => h a (by simp at ha ⊢; rcases ha with ha | ha; exact .inl ha; exact .inr (.inr ha)) b (by simp at hb ⊢; rcases hb with hb | hb; exact .inl hb; exact .inr (.inr hb))) dv
      refine ⟨?_, fun b hb => ?_⟩
      · rcases List.mem_cons.mp h1 with e | h1
        · rw [e]; exact List.mem_cons_self
        · exact List.mem_cons_of_mem _ (List.mem_cons_of_mem _ h1)
      · rcases List.mem_cons.mp hb with rfl | hb
        · exact h2 _ List.mem_cons_self
        · rcases List.mem_cons.mp hb with rfl | hb
          · have := h2 o List.mem_cons_self; omega
          · exact h2 b (List.mem_cons_of_mem _ hb)
theorem pre_lt (a : List Nat) (x y : List Nat) : a ++ x < a ++ y ↔ x < y := by
  induction a with
  | nil => exact Iff.rfl
  | cons b a ih =>
    show b :: (a ++ x) < b :: (a ++ y) ↔ _
    rw [List.cons_lt_cons_iff]
    exact ⟨fun h => h.elim (fun h => absurd h (Nat.lt_irrefl _)) fun h => ih.mp h.2, fun h => .inr ⟨rfl, ih.mpr h⟩⟩
/-- the width names an end -/
theorem width_left {k : Nat} {r0 r1 r2 r3 r4 n : Int} {τ : Addr → PySem.Str} {pl : Addr → Int} {base xs : List (Int × Addr)} {c : List Int} (hk5 : k < 5) (h8 : In8 r0 r1 r2 r3 r4)
    (hb : ∀ q ∈ base, (0 ≤ q.1 ∧ q.1 < 5) ∧ pl q.2 = q.1 ∧ τ q.2 = tx ([123, 117, 125] ++ endT k r0 r1 r2 r3 r4 q.1)) (L : Left (Key r0 r1 r2 r3 r4) base c xs) (hc : c.length < 5) (hW : WQ τ ((linesOf xs).map (·.2)) n) :
    ∃ p x, (p, x) ∈ xs ∧ n = 3 + ((tx (endT k r0 r1 r2 r3 r4 p)).length : Int) ∧ (0 ≤ p ∧ p < 5) ∧ Left (Key r0 r1 r2 r3 r4) base (c ++ [p]) (xs.filter fun q => decide (q.1 ≠ p)) := by
  have hlen := L.len
  unfold WQ at hW
  rw [lines_vals] at hW
  let κ : Value → Int := fun v => match v with | .ref x => Key r0 r1 r2 r3 r4 (pl x) | _ => 0
  have hgt : ∀ a ∈ xs.map (fun q => Value.ref q.2), ∀ b ∈ xs.map (fun q => Value.ref q.2), gtV τ a b = decide (κ b < κ a) := by
    intro a ha b hb'
    obtain ⟨q, hq, rfl⟩ := List.mem_map.mp ha
    obtain ⟨q', hq', rfl⟩ := List.mem_map.mp hb'
    obtain ⟨b1, p1, t1⟩ := hb q (L.sub q hq)
    obtain ⟨b2, p2, t2⟩ := hb q' (L.sub q' hq')
    show decide ((τ q'.2).cps.toList < (τ q.2).cps.toList) = decide (Key r0 r1 r2 r3 r4 (pl q'.2) < Key r0 r1 r2 r3 r4 (pl q.2))
    rw [t1, t2, p1, p2]
    refine decide_eq_decide.mpr ?_
    show [123, 117, 125] ++ endT k r0 r1 r2 r3 r4 q'.1 < [123, 117, 125] ++ endT k r0 r1 r2 r3 r4 q.1 ↔ _
    rw [pre_lt]
    exact end_lt_iff hk5 h8 b2 b1
  cases xs with
  | nil => simp only [List.length_nil] at hlen; omega
  | cons q0 rest =>
    rcases hW with ⟨h, _⟩ | ⟨x, t, hbest, hn⟩
    · cases h
    · obtain ⟨h1, h2⟩ := best_max (gt := gtV τ) (κ := κ) (rest.map fun q : Int × Addr => Value.ref q.2) (.ref q0.2) hgt (.int (-1) t)
      have hbest' : best (gtV τ) (.int (-1) t) (some (.ref q0.2)) (rest.map fun q => Value.ref q.2) = .ref x := hbest
      rw [hbest'] at h1 h2
      obtain ⟨q, hq, e⟩ := List.mem_map.mp (show Value.ref x ∈ (q0 :: rest).map fun q => Value.ref q.2 from h1)
      have ex : q.2 = x := by cases e; rfl
      obtain ⟨b1, p1, t1⟩ := hb q (L.sub q hq)
      refine ⟨q.1, q.2, hq, ?_, b1, L.step hq b1 fun q' hq' hne => ?_⟩
      · rw [hn, ← ex, t1, tx_len, tx_len, List.length_append]
        simp only [List.length_cons, List.length_nil]
        omega
      · obtain ⟨b2, p2, t2⟩ := hb q' (L.sub q' hq')
        have h3 : κ (.ref q'.2) ≤ κ (.ref x) := h2 (.ref q'.2) (show Value.ref q'.2 ∈ (q0 :: rest).map fun q : Int × Addr => Value.ref q.2 from List.mem_map.mpr ⟨q', hq', rfl⟩)
        have h4 : Key r0 r1 r2 r3 r4 q'.1 ≤ Key r0 r1 r2 r3 r4 q.1 := by
          have : Key r0 r1 r2 r3 r4 (pl q'.2) ≤ Key r0 r1 r2 r3 r4 (pl x) := h3
          rw [p2, ← ex, p1] at this
          exact this
        have := key_inj h8 b2 b1 hne
        omega
theorem width_none {τ : Addr → PySem.Str} {n : Int} (hW : WQ τ ((linesOf []).map (·.2)) n) : n = 0 := by
  unfold WQ at hW
  rw [lines_vals] at hW
  rcases hW with ⟨_, h⟩ | ⟨x, t, h, _⟩
  · exact h
  · cases h
def LN (k : Nat) (r0 r1 r2 r3 r4 : Int) (p : Int) : Int := 3 + ((tx (endT k r0 r1 r2 r3 r4 p)).length : Int)
def dueOf (k : Nat) (r0 r1 r2 r3 r4 : Int) (t0 t1 t2 t3 t4 : Tok) : List (Int × Value) := [(LN k r0 r1 r2 r3 r4 0, .int 0 t0), (LN k r0 r1 r2 r3 r4 1, .int 1 t1), (LN k r0 r1 r2 r3 r4 2, .int 2 t2), (LN k r0 r1 r2 r3 r4 3, .int 3 t3), (LN k r0 r1 r2 r3 r4 4, .int 4 t4)]
theorem due_at {k : Nat} {r0 r1 r2 r3 r4 p : Int} {t0 t1 t2 t3 t4 : Tok} (hk5 : k < 5) (h8 : In8 r0 r1 r2 r3 r4) (hp : 0 ≤ p ∧ p < 5) : ∃ t, valueAt (dueOf k r0 r1 r2 r3 r4 t0 t1 t2 t3 t4) (LN k r0 r1 r2 r3 r4 p) = some (.int p t) := by
  obtain ⟨h0, h1, h2, h3, h4⟩ := h8
  have l0 : LN k r0 r1 r2 r3 r4 1 < LN k r0 r1 r2 r3 r4 0 := by
    have : (tx (List.flatMap (spK k) [r1, r2, r3, r4])).length < (tx (List.flatMap (spK k) [r0, r1, r2, r3, r4])).length := flat_lt hk5 h0
    show 3 + ((tx (List.flatMap (spK k) [r1, r2, r3, r4])).length : Int) < 3 + ((tx (List.flatMap (spK k) [r0, r1, r2, r3, r4])).length : Int)
    omega
  have l1 : LN k r0 r1 r2 r3 r4 2 < LN k r0 r1 r2 r3 r4 1 := by
    have : (tx (List.flatMap (spK k) [r2, r3, r4])).length < (tx (List.flatMap (spK k) [r1, r2, r3, r4])).length := flat_lt hk5 h1
    show 3 + ((tx (List.flatMap (spK k) [r2, r3, r4])).length : Int) < 3 + ((tx (List.flatMap (spK k) [r1, r2, r3, r4])).length : Int)
    omega
  have l2 : LN k r0 r1 r2 r3 r4 3 < LN k r0 r1 r2 r3 r4 2 := by
    have : (tx (List.flatMap (spK k) [r3, r4])).length < (tx (List.flatMap (spK k) [r2, r3, r4])).length := flat_lt hk5 h2
    show 3 + ((tx (List.flatMap (spK k) [r3, r4])).length : Int) < 3 + ((tx (List.flatMap (spK k) [r2, r3, r4])).length : Int)
    omega
  have l3 : LN k r0 r1 r2 r3 r4 4 < LN k r0 r1 r2 r3 r4 3 := by
    have : (tx (List.flatMap (spK k) [r4])).length < (tx (List.flatMap (spK k) [r3, r4])).length := flat_lt hk5 h3
    show 3 + ((tx (List.flatMap (spK k) [r4])).length : Int) < 3 + ((tx (List.flatMap (spK k) [r3, r4])).length : Int)
    omega
  unfold valueAt dueOf
  rcases five hp with rfl | rfl | rfl | rfl | rfl
  · exact ⟨t0, by simp⟩
  · exact ⟨t1, by rw [List.find?_cons_of_neg (by simp; omega)]; simp⟩
  · exact ⟨t2, by rw [List.find?_cons_of_neg (by simp; omega), List.find?_cons_of_neg (by simp; omega)]; simp⟩
  · exact ⟨t3, by rw [List.find?_cons_of_neg (by simp; omega), List.find?_cons_of_neg (by simp; omega), List.find?_cons_of_neg (by simp; omega)]; simp⟩
  · exact ⟨t4, by rw [List.find?_cons_of_neg (by simp; omega), List.find?_cons_of_neg (by simp; omega), List.find?_cons_of_neg (by simp; omega), List.find?_cons_of_neg (by simp; omega)]; simp⟩
end
/-! Tn -/
section
open PySem.Spec PySem.Calls
section
variable {w : World} {mean : ExcName → Option Value} {mg mb : PySem.Str → Option Value} {dp un : Nat} {gd : Option (List Code)} {cn : PySem.Str} {cs : Scope} {a : Addr} {ccd : Value} {cl : List (PySem.Str × Addr)} {outer : List Env} {A₀ : Around} {base h₀ : Heap} {L : Addr} {m : PySem.Str → Option Value} {s : Shared} {Q E : Value → Shared → Prop} {news : List (Addr × Obj)}
theorem Ct40.use {c : Sem Value} {pre : Heap → Prop} {post : Heap → Heap → Value → Prop} (C : Ct40 w mean mg mb c pre post) (B : Below A₀ base outer h₀) (F : Fr h₀ L s.heap m) (N : News h₀ L s.heap news) (X : (hd.heap_1 w.params).In h₀) (T : Top hd.view_1 (looseW hd.view_1 []) mean mg mb h₀) (hk : cs.kind = .function)
    (hd' : dp + 40 < recursionLimit) (hu : un + 200 < cLine) (hp : 0 < s.toks) (hpre : pre s.heap)
    (h : ∀ v h' tk', Fr h₀ L h' m → News h₀ L h' news → post s.heap h' v → 0 < tk' → Q v { s with heap := h', toks := tk' }) : wpAny (model PySem.Challenge.rw_yh0017_01.row.prog w) (ktrTop dp un gd cn cs L a ccd cl outer) c Q E s :=
  C dp un gd cn cs a ccd cl outer A₀ base h₀ L m s Q E B F X T hk hd' hu hp hpre fun v h' tk' hkeep hpost ht => h v h' tk' (F.keeps hkeep) (news_keeps N hkeep) hpost ht
theorem qvals_of {k : Nat} {r0 r1 r2 r3 r4 : Int} {τ : Addr → PySem.Str} {bs xs : List (Int × Addr)} {h : Heap} (hk5 : k < 5) (h8 : In8 r0 r1 r2 r3 r4) (hb : ∀ q ∈ bs, (0 ≤ q.1 ∧ q.1 < 5) ∧ τ q.2 = tx ([123, 117, 125] ++ endT k r0 r1 r2 r3 r4 q.1)) (hq : ∀ q ∈ bs, IsQ h q.2 (τ q.2)) (hsub : ∀ q ∈ xs, q ∈ bs) : QVals τ h ((linesOf xs).map (·.2)) := by
  intro v hv
  unfold linesOf at hv
  rw [List.map_cons, List.map_map] at hv
  rcases List.mem_cons.mp hv with rfl | hv
  · exact .inl rfl
  · obtain ⟨q, hq', rfl⟩ := List.mem_map.mp hv
    obtain ⟨b1, t1⟩ := hb q (hsub q hq')
    have hlen : (endT k r0 r1 r2 r3 r4 q.1).length ≤ 6 * 5 ∧ 0 < (endT k r0 r1 r2 r3 r4 q.1).length := by
      refine ⟨Nat.le_trans (flat_le hk5 _ (mem_drop8 h8 _)) (Nat.mul_le_mul_left 6 ?_), List.length_pos_iff.mpr ?_⟩
      · rw [List.length_drop]; simp only [List.length_cons, List.length_nil]; omega
      · obtain ⟨h0, h1, h2, h3, h4⟩ := h8
        rcases five b1 with e | e | e | e | e <;> rw [e]
        · exact flat_ne hk5 h0
        · exact flat_ne hk5 h1
        · exact flat_ne hk5 h2
        · exact flat_ne hk5 h3
        · exact flat_ne (rs := []) hk5 h4
    refine .inr ⟨q.2, rfl, hq q (hsub q hq'), ?_, ?_⟩
    · rw [t1, tx_len, List.length_append]; simp only [List.length_cons, List.length_nil]; omega
    · rw [t1, tx_len, List.length_append]; simp only [List.length_cons, List.length_nil]; omega
theorem use_width {k : Nat} {r0 r1 r2 r3 r4 : Int} {τ : Addr → PySem.Str} {pl : Addr → Int} {bs xs : List (Int × Addr)} {c : List Int} {d : Addr} {o : Obj} (hk5 : k < 5) (h8 : In8 r0 r1 r2 r3 r4)
    (Lf : Left (Key r0 r1 r2 r3 r4) bs c xs) (hc : c.length < 5) (hb : ∀ q ∈ bs, (0 ≤ q.1 ∧ q.1 < 5) ∧ pl q.2 = q.1 ∧ τ q.2 = tx ([123, 117, 125] ++ endT k r0 r1 r2 r3 r4 q.1)) (hq : ∀ q ∈ bs, IsQ s.heap q.2 (τ q.2))
    (hm : (d, o) ∈ news) (hdo : o.IsDictOf (PySem.intKind pg w) (linesOf xs)) (lo : (d == sysModules) = false)
    (B : Below A₀ base outer h₀) (F : Fr h₀ L s.heap m) (N : News h₀ L s.heap news) (X : (hd.heap_1 w.params).In h₀) (T : Top hd.view_1 (looseW hd.view_1 []) mean mg mb h₀) (hk : cs.kind = .function)
    (hd' : dp + 40 < recursionLimit) (hu : un + 200 < cLine) (hp : 0 < s.toks)
    (h : ∀ p t h' tk', (0 ≤ p ∧ p < 5) → xs.length ≤ 5 → (valueAt (linesOf xs) p).isSome = true → Left (Key r0 r1 r2 r3 r4) bs (c ++ [p]) (xs.filter fun q => decide (q.1 ≠ p)) → Fr h₀ L h' m → News h₀ L h' news → 0 < tk' → Q (.int (LN k r0 r1 r2 r3 r4 p) t) { s with heap := h', toks := tk' }) :
    wpAny (model PySem.Challenge.rw_yh0017_01.row.prog w) (ktrTop dp un gd cn cs L a ccd cl outer) (call (.ref 21) [.ref d]) Q E s := by
  refine Ct40.use (width_ct w mean mg mb d (linesOf xs) τ) B F N X T hk hd' hu hp ⟨Heap.dictOf_iff.mpr ⟨o, (N _ hm).1, hdo⟩, lo, qvals_of hk5 h8 (fun q hq => ⟨(hb q hq).1, (hb q hq).2.2⟩) hq Lf.sub⟩ fun v h' tk' F' N' hv ht => ?_
  obtain ⟨n, t, rfl, hW⟩ := hv
  obtain ⟨p, x, hp', rfl, hpb, L'⟩ := width_left hk5 h8 hb Lf hc hW
  exact h p t h' tk' hpb (by have := Lf.len; omega) (lines_at hp' hpb.1) L' F' N' ht
theorem use_width0 {K : Int → Int} {bs xs : List (Int × Addr)} {c : List Int} {d : Addr} {o : Obj} (Lf : Left K bs c xs) (hc : c.length = 5) (hm : (d, o) ∈ news) (hdo : o.IsDictOf (PySem.intKind pg w) (linesOf xs)) (lo : (d == sysModules) = false)
    (B : Below A₀ base outer h₀) (F : Fr h₀ L s.heap m) (N : News h₀ L s.heap news) (X : (hd.heap_1 w.params).In h₀) (T : Top hd.view_1 (looseW hd.view_1 []) mean mg mb h₀) (hk : cs.kind = .function)
    (hd' : dp + 40 < recursionLimit) (hu : un + 200 < cLine) (hp : 0 < s.toks)
    (h : ∀ t h' tk', Fr h₀ L h' m → News h₀ L h' news → 0 < tk' → Q (.int 0 t) { s with heap := h', toks := tk' }) :
    wpAny (model PySem.Challenge.rw_yh0017_01.row.prog w) (ktrTop dp un gd cn cs L a ccd cl outer) (call (.ref 21) [.ref d]) Q E s := by
  have hx : xs = [] := List.eq_nil_of_length_eq_zero (by have := Lf.len; omega)
  subst hx
  refine Ct40.use (width_ct w mean mg mb d (linesOf []) (fun _ => PySem.Str.ofString "")) B F N X T hk hd' hu hp ⟨Heap.dictOf_iff.mpr ⟨o, (N _ hm).1, hdo⟩, lo, fun v hv => ?_⟩ fun v h' tk' F' N' hv ht => ?_
  · rcases List.mem_cons.mp hv with rfl | hv
    · exact .inl rfl
    · cases hv
  · obtain ⟨n, t, rfl, hW⟩ := hv
    rw [width_none hW]
    exact h t h' tk' F' N' ht
section
variable {prog : Program} {A : Around}
theorem due_notin {k : Nat} {r0 r1 r2 r3 r4 p : Int} {t0 t1 t2 t3 t4 t : Tok} {d : Addr} {o : Obj} (hk5 : k < 5) (h8 : In8 r0 r1 r2 r3 r4) (hp : 0 ≤ p ∧ p < 5) (N : News h₀ L s.heap news) (hm : (d, o) ∈ news) (hdo : o.IsDictOf (PySem.intKind prog w) (dueOf k r0 r1 r2 r3 r4 t0 t1 t2 t3 t4)) (lo : (d == sysModules) = false)
    (h : Q (.bool false) { s with toks := s.toks + 1 }) : wpAny (model prog w) A (compareOp .NotIn (.int (LN k r0 r1 r2 r3 r4 p) t) (.ref d)) Q E s := by
  obtain ⟨u, hu⟩ := due_at (t0 := t0) (t1 := t1) (t2 := t2) (t3 := t3) (t4 := t4) hk5 h8 hp
  exact kdg_notin (knd := PySem.intKind prog w) N hm hdo lo (intKind_is _ _ _ _) true (by rw [hu]; rfl) h
theorem due_item {value slice : PySem.Expr} {k : Nat} {r0 r1 r2 r3 r4 p : Int} {t0 t1 t2 t3 t4 t : Tok} {d : Addr} {o : Obj} (hk5 : k < 5) (h8 : In8 r0 r1 r2 r3 r4) (hp : 0 ≤ p ∧ p < 5) (N : News h₀ L s.heap news) (hm : (d, o) ∈ news) (hdo : o.IsDictOf (PySem.intKind prog w) (dueOf k r0 r1 r2 r3 r4 t0 t1 t2 t3 t4))
    (h : ∀ u, Q (.int p u) { s with toks := s.toks + 1 })
    (hs : subscripted slice false (.ref d) (.int (LN k r0 r1 r2 r3 r4 p) t) = operate [.ref d, .int (LN k r0 r1 r2 r3 r4 p) t] (getItem (.ref d) (.int (LN k r0 r1 r2 r3 r4 p) t)) := by with_unfolding_all rfl) (hg : ∀ r, letTemporaryGo value (.ref d) r = pure () := by intro _; with_unfolding_all rfl) :
    wpAny (model prog w) A (subscriptTail value slice (.ref d) (.int (LN k r0 r1 r2 r3 r4 p) t)) Q E s := by
  obtain ⟨u, hu⟩ := due_at (t0 := t0) (t1 := t1) (t2 := t2) (t3 := t3) (t4 := t4) hk5 h8 hp
  exact kda_item (knd := PySem.intKind prog w) N hm hdo (intKind_is _ _ _ _) hu (h u) hs hg
theorem lines_notin {xs : List (Int × Addr)} {p : Int} {t : Tok} {d : Addr} {o : Obj} (hv : (valueAt (linesOf xs) p).isSome = true) (N : News h₀ L s.heap news) (hm : (d, o) ∈ news) (hdo : o.IsDictOf (PySem.intKind prog w) (linesOf xs)) (lo : (d == sysModules) = false)
    (h : Q (.bool false) { s with toks := s.toks + 1 }) : wpAny (model prog w) A (compareOp .NotIn (.int p t) (.ref d)) Q E s :=
  kdg_notin (knd := PySem.intKind prog w) N hm hdo lo (intKind_is _ _ _ _) true hv h
theorem lines_del {xs : List (Int × Addr)} {p : Int} {t : Tok} {d : Addr} {o : Obj} {g : Obj → List (Addr × Obj)} {Q : Unit → Shared → Prop} (hv : (valueAt (linesOf xs) p).isSome = true) (hp : 0 ≤ p) (hlen : xs.length ≤ 5) (F : Fr h₀ L s.heap m) (N : News h₀ L s.heap news) (U : UpdF d o news g) (hdo : o.IsDictOf (PySem.intKind prog w) (linesOf xs))
    (h : ∀ h' o', Fr h₀ L h' m → News h₀ L h' (g o') → o'.IsDictOf (PySem.intKind prog w) (linesOf (xs.filter fun q => decide (q.1 ≠ p))) → Q () { s with heap := h', toks := s.toks + 1 }) : wpAny (model prog w) A (delItem (.ref d) (.int p t)) Q E s :=
  kob_del (knd := PySem.intKind prog w) (k := p) F N U hdo (intKind_is _ _ _ _) hv (by rw [sizeLine_eq]; unfold linesOf; rw [List.length_cons, List.length_map]; omega) fun h' o' F' N' hd' => h h' o' F' N' (lines_without hp ▸ hd')
end
end
section
variable {w : World} {h₀ : Heap} {L : Addr} {news : List (Addr × Obj)}
theorem fr_pin2 {h : Heap} {m : PySem.Str → Option Value} {y1 y2 : PySem.Str} {v1 v2 : Value} (F : Fr h₀ L h m) (h1 : m y1 = some v1) (h2 : m y2 = some v2) : Fr h₀ L h (fun y => if y = y1 then some v1 else if y = y2 then some v2 else m y) := by
  have : (fun y => if y = y1 then some v1 else if y = y2 then some v2 else m y) = m := funext fun y => by
    by_cases e1 : y = y1
    · rw [if_pos e1, e1, h1]
    · rw [if_neg e1]
      by_cases e2 : y = y2
      · rw [if_pos e2, e2, h2]
      · rw [if_neg e2]
  rw [this]
  exact F
end
end
/-! Fu -/
section
open PySem.Spec PySem.Calls
theorem same_self (c0 c1 c2 c3 c4 : Int) : Same c0 c1 c2 c3 c4 c0 c1 c2 c3 c4 := by constructor <;> exact Iff.rfl
theorem fall_ne {r0 r1 r2 r3 r4 o0 o1 o2 o3 o4 : Int} (h : IsFall r0 r1 r2 r3 r4 o0 o1 o2 o3 o4) : o0 ≠ o1 ∧ o0 ≠ o2 ∧ o0 ≠ o3 ∧ o0 ≠ o4 ∧ o1 ≠ o2 ∧ o1 ≠ o3 ∧ o1 ≠ o4 ∧ o2 ≠ o3 ∧ o2 ≠ o4 ∧ o3 ≠ o4 := by
  have k1 := h.k01
  have k2 := h.k12
  have k3 := h.k23
  have k4 := h.k34
  refine ⟨?_, ?_, ?_, ?_, ?_, ?_, ?_, ?_, ?_, ?_⟩ <;> (intro e; subst e; omega)
theorem fall_all {r0 r1 r2 r3 r4 o0 o1 o2 o3 o4 k : Int} (h : IsFall r0 r1 r2 r3 r4 o0 o1 o2 o3 o4) (hk : 0 ≤ k ∧ k < 5) : ∃ f, (0 ≤ f ∧ f < 5) ∧ k = at5 o0 o1 o2 o3 o4 f := by
  have b0 := h.b0
  have b1 := h.b1
  have b2 := h.b2
  have b3 := h.b3
  have b4 := h.b4
  have hm := (same_self o0 o1 o2 o3 o4).mem ⟨by omega, by omega, by omega, by omega, by omega⟩ (fall_ne h) (k := k) (by omega)
  simp only [List.mem_cons, List.not_mem_nil, or_false] at hm
  rcases hm with e | e | e | e | e
  · exact ⟨0, by decide, e⟩
  · exact ⟨1, by decide, e⟩
  · exact ⟨2, by decide, e⟩
  · exact ⟨3, by decide, e⟩
  · exact ⟨4, by decide, e⟩
theorem fall_anti {r0 r1 r2 r3 r4 o0 o1 o2 o3 o4 f g : Int} (h : IsFall r0 r1 r2 r3 r4 o0 o1 o2 o3 o4) (hf : 0 ≤ f ∧ f < 5) (hg : 0 ≤ g ∧ g < 5) (k : Key r0 r1 r2 r3 r4 (at5 o0 o1 o2 o3 o4 g) < Key r0 r1 r2 r3 r4 (at5 o0 o1 o2 o3 o4 f)) : f < g := by
  have k1 := h.k01
  have k2 := h.k12
  have k3 := h.k23
  have k4 := h.k34
  have e0 : at5 o0 o1 o2 o3 o4 0 = o0 := rfl
  have e1 : at5 o0 o1 o2 o3 o4 1 = o1 := rfl
  have e2 : at5 o0 o1 o2 o3 o4 2 = o2 := rfl
  have e3 : at5 o0 o1 o2 o3 o4 3 = o3 := rfl
  have e4 : at5 o0 o1 o2 o3 o4 4 = o4 := rfl
  rcases five hf with rfl | rfl | rfl | rfl | rfl <;> rcases five hg with rfl | rfl | rfl | rfl | rfl <;> simp only [e0, e1, e2, e3, e4] at k <;> first | decide | (exfalso; omega)
/-- the falling order is one alone -/
theorem fall_unique {r0 r1 r2 r3 r4 o0 o1 o2 o3 o4 q0 q1 q2 q3 q4 : Int} (h : IsFall r0 r1 r2 r3 r4 o0 o1 o2 o3 o4) (h' : IsFall r0 r1 r2 r3 r4 q0 q1 q2 q3 q4) : q0 = o0 ∧ q1 = o1 ∧ q2 = o2 ∧ q3 = o3 ∧ q4 = o4 := by
  obtain ⟨f0, b0, rfl⟩ := fall_all h h'.b0
  obtain ⟨f1, b1, rfl⟩ := fall_all h h'.b1
  obtain ⟨f2, b2, rfl⟩ := fall_all h h'.b2
  obtain ⟨f3, b3, rfl⟩ := fall_all h h'.b3
  obtain ⟨f4, b4, rfl⟩ := fall_all h h'.b4
  have a1 := fall_anti h b0 b1 h'.k01
  have a2 := fall_anti h b1 b2 h'.k12
  have a3 := fall_anti h b2 b3 h'.k23
  have a4 := fall_anti h b3 b4 h'.k34
  have e0 : f0 = 0 := by omega
  have e1 : f1 = 1 := by omega
  have e2 : f2 = 2 := by omega
  have e3 : f3 = 3 := by omega
  have e4 : f4 = 4 := by omega
  subst e0 e1 e2 e3 e4
  exact ⟨rfl, rfl, rfl, rfl, rfl⟩
abbrev okL (L0 L1 L2 L3 L4 o0 o1 o2 o3 o4 : Int) : Prop := (3 ≤ L0 ∧ L0 < 8) ∧ (3 ≤ L1 ∧ L1 < 8) ∧ (3 ≤ L2 ∧ L2 < 8) ∧ (3 ≤ L3 ∧ L3 < 8) ∧ (3 ≤ L4 ∧ L4 < 8) ∧
  Key L0 L1 L2 L3 L4 o1 < Key L0 L1 L2 L3 L4 o0 ∧ Key L0 L1 L2 L3 L4 o2 < Key L0 L1 L2 L3 L4 o1 ∧ Key L0 L1 L2 L3 L4 o3 < Key L0 L1 L2 L3 L4 o2 ∧ Key L0 L1 L2 L3 L4 o4 < Key L0 L1 L2 L3 L4 o3
def chkL (o0 o1 o2 o3 o4 : Int) : Bool :=
  let b3 := decide (standX o0 o1 o2 o3 o4 (o4 + 1) > standX o0 o1 o2 o3 o4 (o3 + 1))
  let b2 := decide (standX o0 o1 o2 o3 o4 (o3 + 1) > standX o0 o1 o2 o3 o4 (o2 + 1))
  let b1 := decide (standX o0 o1 o2 o3 o4 (o2 + 1) > standX o0 o1 o2 o3 o4 (o1 + 1))
  let b0 := decide (standX o0 o1 o2 o3 o4 (o1 + 1) > standX o0 o1 o2 o3 o4 (o0 + 1))
  decide (okL (lsAt o0 o1 o2 o3 b3 b2 b1 b0 0) (lsAt o0 o1 o2 o3 b3 b2 b1 b0 1) (lsAt o0 o1 o2 o3 b3 b2 b1 b0 2) (lsAt o0 o1 o2 o3 b3 b2 b1 b0 3) (lsAt o0 o1 o2 o3 b3 b2 b1 b0 4) o0 o1 o2 o3 o4)
def apart (a b c d e : Nat) : Bool := a != b && a != c && a != d && a != e && b != c && b != d && b != e && c != d && c != e && d != e
def chkD (a b c d e : Nat) : Bool := !(apart a b c d e) || chkL a b c d e
theorem chk_dec : (List.range 5).all (fun a => (List.range 5).all fun b => (List.range 5).all fun c => (List.range 5).all fun d => (List.range 5).all fun e => chkD a b c d e) = true := by decide +kernel
theorem chk_all {a b c d e : Nat} (ha : a < 5) (hb : b < 5) (hc : c < 5) (hd : d < 5) (he : e < 5) (h : apart a b c d e = true) : chkL a b c d e = true := by
  have k := chk_dec
  rw [List.all_eq_true] at k
  have k1 := k a (List.mem_range.mpr ha)
  rw [List.all_eq_true] at k1
  have k2 := k1 b (List.mem_range.mpr hb)
  rw [List.all_eq_true] at k2
  have k3 := k2 c (List.mem_range.mpr hc)
  rw [List.all_eq_true] at k3
  have k4 := k3 d (List.mem_range.mpr hd)
  rw [List.all_eq_true] at k4
  have k5 := k4 e (List.mem_range.mpr he)
  unfold chkD at k5
  rw [h] at k5
  exact k5
theorem int_fin {x : Int} (h : 0 ≤ x ∧ x < 5) : ∃ a : Nat, a < 5 ∧ x = (a : Int) := ⟨x.toNat, by omega, by omega⟩
/-- the least text has that order, and its ranks are three at least -/
theorem least_ok {r0 r1 r2 r3 r4 o0 o1 o2 o3 o4 : Int} {b3 b2 b1 b0 : Bool} (h : IsFall r0 r1 r2 r3 r4 o0 o1 o2 o3 o4) (c3 : b3 = true ↔ standX o0 o1 o2 o3 o4 (o4 + 1) > standX o0 o1 o2 o3 o4 (o3 + 1)) (c2 : b2 = true ↔ standX o0 o1 o2 o3 o4 (o3 + 1) > standX o0 o1 o2 o3 o4 (o2 + 1))
    (c1 : b1 = true ↔ standX o0 o1 o2 o3 o4 (o2 + 1) > standX o0 o1 o2 o3 o4 (o1 + 1)) (c0 : b0 = true ↔ standX o0 o1 o2 o3 o4 (o1 + 1) > standX o0 o1 o2 o3 o4 (o0 + 1)) :
    okL (lsAt o0 o1 o2 o3 b3 b2 b1 b0 0) (lsAt o0 o1 o2 o3 b3 b2 b1 b0 1) (lsAt o0 o1 o2 o3 b3 b2 b1 b0 2) (lsAt o0 o1 o2 o3 b3 b2 b1 b0 3) (lsAt o0 o1 o2 o3 b3 b2 b1 b0 4) o0 o1 o2 o3 o4 := by
  have n := fall_ne h
  obtain ⟨a, ha, rfl⟩ := int_fin h.b0
  obtain ⟨b, hb, rfl⟩ := int_fin h.b1
  obtain ⟨c, hc, rfl⟩ := int_fin h.b2
  obtain ⟨d, hd, rfl⟩ := int_fin h.b3
  obtain ⟨e, he, rfl⟩ := int_fin h.b4
  have ne : ∀ {x y : Nat}, (x : Int) ≠ (y : Int) → (x != y) = true := fun h => by
    rw [bne_iff_ne]
    exact fun e => h (by rw [e])
  obtain ⟨n1, n2, n3, n4, n5, n6, n7, n8, n9, n10⟩ := n
  have k := chk_all ha hb hc hd he (by unfold apart; rw [ne n1, ne n2, ne n3, ne n4, ne n5, ne n6, ne n7, ne n8, ne n9, ne n10]; rfl)
  have t : ∀ {b : Bool} {P : Prop} [Decidable P], (b = true ↔ P) → b = decide P := fun {b P _} h => by
    cases b with
    | true => exact (decide_eq_true (h.mp rfl)).symm
    | false => exact (decide_eq_false fun p => by cases h.mpr p).symm
  rw [t c3, t c2, t c1, t c0]
  exact of_decide_eq_true k
theorem okL_fall {L0 L1 L2 L3 L4 r0 r1 r2 r3 r4 o0 o1 o2 o3 o4 : Int} (h : IsFall r0 r1 r2 r3 r4 o0 o1 o2 o3 o4) (k : okL L0 L1 L2 L3 L4 o0 o1 o2 o3 o4) : In8 L0 L1 L2 L3 L4 ∧ IsFall L0 L1 L2 L3 L4 o0 o1 o2 o3 o4 := by
  obtain ⟨k0, k1, k2, k3, k4, e1, e2, e3, e4⟩ := k
  exact ⟨⟨⟨by omega, k0.2⟩, ⟨by omega, k1.2⟩, ⟨by omega, k2.2⟩, ⟨by omega, k3.2⟩, ⟨by omega, k4.2⟩⟩, ⟨h.b0, h.b1, h.b2, h.b3, h.b4, e1, e2, e3, e4⟩⟩
end
/-! La -/
section
open PySem.Spec PySem.Calls
theorem ints_drop : ∀ {vs : List Value} {ns : List Int}, IntsAre vs ns → ∀ a, IntsAre (vs.drop a) (ns.drop a)
  | _, _, h, 0 => h
  | _, _, .nil, _ + 1 => .nil
  | _, _, .cons _ _ h, a + 1 => ints_drop h a
section
variable {prog : Program} {w : World} {A : Around} {E : Value → Shared → Prop} {s : Shared} {h₀ : Heap} {L l : Addr} {m : PySem.Str → Option Value} {news : List (Addr × Obj)}
/-- the tail of a written list of five ints -/
theorem slice_tail {value slice : PySem.Expr} {c0 c1 c2 c3 c4 j : Int} {u0 u1 u2 u3 u4 tj : Tok} {n : Nat} {Q : Value → Shared → Prop} (F : Fr h₀ L s.heap m) (N : News h₀ L s.heap news) (hm : (l, PySem.W.listOf #[.int c0 u0, .int c1 u1, .int c2 u2, .int c3 u3, .int c4 u4] n) ∈ news) (hj : 0 ≤ j ∧ j ≤ 5)
    (h : ∀ D ws h', Fr h₀ L h' m → News h₀ L h' ((D, PySem.W.listOf (List.toArray ws) 0) :: news) → (∀ p ∈ news, p.1 < D) → IntsAre ws ([c0, c1, c2, c3, c4].drop j.toNat) → Q (.ref D) { s with heap := h' })
    (hs : subscripted slice false (.ref l) (.ref s.heap.objs.size) = operate [.ref s.heap.objs.size, .ref l] (getItem (.ref l) (.ref s.heap.objs.size))) (ht : ∀ r, letTemporaryGo value (.ref l) r = pure ()) :
    wpAny (model prog w) A (subscriptTail value slice (.ref l) (.ref s.heap.objs.size)) Q E { s with heap := s.heap.push { cls := .type "slice", data := .fields #[.int j tj, .none, .none] } } := by
  have hl : s.heap.IsList l [.int c0 u0, .int c1 u1, .int c2 u2, .int c3 u3, .int c4 u4].toArray := ⟨_, (N _ hm).1, rfl, _, rfl⟩
  have hi : IntsAre [.int c0 u0, .int c1 u1, .int c2 u2, .int c3 u3, .int c4 u4] [c0, c1, c2, c3, c4] := .cons _ _ (.cons _ _ (.cons _ _ (.cons _ _ (.cons _ _ .nil))))
  have hz : [Value.int c0 u0, .int c1 u1, .int c2 u2, .int c3 u3, .int c4 u4].toArray.size ≤ sizeLine := by rw [sizeLine_eq]; exact Nat.le_of_ble_eq_true rfl
  obtain ⟨a, rfl⟩ : ∃ a : Nat, j = (a : Int) := ⟨j.toNat, by omega⟩
  refine kmk_slice_ints (ms := [c0, c1, c2, c3, c4].drop a) (c := ([c0, c1, c2, c3, c4].drop a).length) F N hl (IsPart.int _ _) IsPart.none hi ?_ rfl (fun D ws h' F' N' l1 hw _ _ => h D ws h' F' N' l1 hw) hs ht hz
  rw [slicePick_from']
  exact ints_drop hi a
theorem slice_tailT {value slice : PySem.Expr} {c0 c1 c2 c3 c4 j : Int} {u0 u1 u2 u3 u4 tj : Tok} {n : Nat} {Q : Value → Shared → Prop} (F : Fr h₀ L s.heap m) (N : News h₀ L s.heap news) (hm : (l, PySem.W.listOf #[.int c0 u0, .int c1 u1, .int c2 u2, .int c3 u3, .int c4 u4] n) ∈ news) (hj : 0 ≤ j ∧ j ≤ 5)
    (h : ∀ D ws h', Fr h₀ L h' m → News h₀ L h' ((D, PySem.W.listOf (List.toArray ws) 0) :: news) → (∀ p ∈ news, p.1 < D) → IntsAre ws ([c0, c1, c2, c3, c4].drop j.toNat) → Q (.ref D) { s with heap := h' })
    (hs : subscripted slice false (.ref l) (.ref s.heap.objs.size) = operate [.ref s.heap.objs.size, .ref l] (getItem (.ref l) (.ref s.heap.objs.size))) :
    wpAny (model prog w) A (subscriptTail value slice (.ref l) (.ref s.heap.objs.size)) Q E { s with heap := s.heap.push { cls := .type "slice", data := .fields #[.int j tj, .none, .none] } } :=
  kba_turn (value' := PySem.Expr.Name (PySem.Str.ofString "_") ⟨0, 0, 0, 0⟩) (fun _ => rfl) (slice_tail F N hm hj h hs fun _ => rfl)
end
theorem drawn_five : ∀ ns : List Int, ∃ x0 x1 x2 x3 x4 : Int, List.take 5 ns ++ List.drop (((List.take 5 ns).length : Nat) : Int).toNat [1, 2, 0, 2, 0] = [x0, x1, x2, x3, x4]
  | [] => ⟨_, _, _, _, _, rfl⟩
  | [_] => ⟨_, _, _, _, _, rfl⟩
  | [_, _] => ⟨_, _, _, _, _, rfl⟩
  | [_, _, _] => ⟨_, _, _, _, _, rfl⟩
  | [_, _, _, _] => ⟨_, _, _, _, _, rfl⟩
  | a :: b :: c :: d :: e :: r => ⟨a, b, c, d, e, by simp⟩
theorem ys_five {ys : List Value} {r0 r1 r2 r3 r4 : Int} (h : IntsAre ys [r0, r1, r2, r3, r4]) : ∃ t0 t1 t2 t3 t4, ys = [.int r0 t0, .int r1 t1, .int r2 t2, .int r3 t3, .int r4 t4] := by
  rcases h with _ | ⟨_, t0, _ | ⟨_, t1, _ | ⟨_, t2, _ | ⟨_, t3, _ | ⟨_, t4, _ | _⟩⟩⟩⟩⟩
  exact ⟨t0, t1, t2, t3, t4, rfl⟩
theorem rank_bounds (S x : Int) : R8 (((S + 18).fdiv 15).fmod 2 + (1 + ((S + 18).fdiv 5).fmod 3) * x.fmod 3) := by
  have a0 := Int.fmod_nonneg_of_pos ((S + 18).fdiv 15) (b := 2) (by decide)
  have a1 := Int.fmod_lt_of_pos ((S + 18).fdiv 15) (b := 2) (by decide)
  have b0 := Int.fmod_nonneg_of_pos ((S + 18).fdiv 5) (b := 3) (by decide)
  have b1 := Int.fmod_lt_of_pos ((S + 18).fdiv 5) (b := 3) (by decide)
  have c0 := Int.fmod_nonneg_of_pos x (b := 3) (by decide)
  have c1 := Int.fmod_lt_of_pos x (b := 3) (by decide)
  generalize ((S + 18).fdiv 15).fmod 2 = a at *
  generalize ((S + 18).fdiv 5).fmod 3 = b at *
  generalize x.fmod 3 = c at *
  have eb : b = 0 ∨ b = 1 ∨ b = 2 := by omega
  have ec : c = 0 ∨ c = 1 ∨ c = 2 := by omega
  unfold R8
  rcases eb with rfl | rfl | rfl <;> rcases ec with rfl | rfl | rfl <;> omega
end
/-! Fm -/
section
open PySem.Spec PySem.Calls
/-- what stands behind a place, told a step further on -/
def bhF (r0 r1 r2 r3 r4 sz j : Int) : Int := if j + sz < 5 then at5 r0 r1 r2 r3 r4 (j + sz) + 1 else 0
def pairF (r0 r1 r2 r3 r4 sz j : Int) : Int := 64 * at5 r0 r1 r2 r3 r4 j + bhF r0 r1 r2 r3 r4 sz j
noncomputable def pairsF (r0 r1 r2 r3 r4 sz : Int) : Nat → List Int
  | 0 => []
  | i + 1 => pairsF r0 r1 r2 r3 r4 sz i ++ [pairF r0 r1 r2 r3 r4 sz (i : Int)]
def frF (sz : Int) (tz : Tok) (mm : PySem.Str → Option Value) : PySem.Str → Option Value := fun y => if y = PySem.Str.ofString "size" then some (.int sz tz) else mm y
theorem fr_frF {g h : Heap} {L : Addr} {sz : Int} {tz : Tok} {m : PySem.Str → Option Value} (F : Fr g L h m) (f2 : m (PySem.Str.ofString "size") = some (.int sz tz)) : Fr g L h (frF sz tz m) := by
  have e : m = frF sz tz m := funext fun y => by
    unfold frF
    split
    · rename_i e; rw [e, f2]
    · rfl
  rw [← e]
  exact F
def TurnF (g : Heap) (L : Addr) (Dp cP cR Dr D : Addr) (oC oQ oR oD : Obj) (sz : Int) (tz : Tok) (I : Addr) (oI : Obj) (p : Int) (ns : List Int) (h : Heap) : Prop :=
  ∃ (mm : PySem.Str → Option Value) (es : Array Value) (n1 : Nat), IntsAre es.toList (ns ++ [p]) ∧ Fr g L h (frF sz tz mm) ∧ News g L h [(I, oI), (Dp, PySem.W.listOf es n1), (cP, oC), (cR, oQ), (Dr, oR), (D, oD)]
def InvFa (g : Heap) (L : Addr) (Dp cP cR Dr D : Addr) (oC oQ oR oD : Obj) (r0 r1 r2 r3 r4 sz : Int) (tz : Tok) (i : Nat) (I : Addr) (oI : Obj) (h : Heap) : Prop :=
  ∃ (mm : PySem.Str → Option Value) (es : Array Value) (n1 : Nat), IntsAre es.toList (pairsF r0 r1 r2 r3 r4 sz i) ∧ (@Ne Nat Dp I ∧ @Ne Nat cP I ∧ @Ne Nat cR I ∧ @Ne Nat Dr I ∧ @Ne Nat D I) ∧ Fr g L h (frF sz tz mm) ∧ News g L h [(I, oI), (Dp, PySem.W.listOf es n1), (cP, oC), (cR, oQ), (Dr, oR), (D, oD)]
theorem ints_pushE {es : Array Value} {ns : List Int} {p q : Int} {t : Tok} (h : IntsAre es.toList ns) (e : p = q) : IntsAre (es.push (.int p t)).toList (ns ++ [q]) := e ▸ ints_push p t h
section
variable {prog : Program} {w : World} {A : Around} {env : Env} {x : PySem.Str} {px : Pos} {body : List Stmt} {Q : Flow → Shared → Prop} {s₁ : Shared}
def BodyFa (prog : Program) (w : World) (A : Around) (env : Env) (x : PySem.Str) (px : Pos) (body : List Stmt) (Q : Flow → Shared → Prop) (s₁ : Shared) (g : Heap) (L : Addr) (Dp cP cR Dr D : Addr) (oC oQ oR oD : Obj) (r0 r1 r2 r3 r4 sz : Int) (tz : Tok) : Prop :=
  ∀ (k rk : Int) (kt : Tok) (ns : List Int) (mm : PySem.Str → Option Value) (es : Array Value) (n1 : Nat) (I : Addr) (oI : Obj), 0 ≤ k → k < 5 → at5 r0 r1 r2 r3 r4 k = rk → IntsAre es.toList ns → es.size + 1 ≤ sizeLine → @Ne Nat Dp I →
    TurnI prog w A env x px body Q s₁ (.int k kt) I oI (fun h => Fr g L h (frF sz tz mm) ∧ News g L h [(I, oI), (Dp, PySem.W.listOf es n1), (cP, oC), (cR, oQ), (Dr, oR), (D, oD)])
      (TurnF g L Dp cP cR Dr D oC oQ oR oD sz tz I oI (64 * rk + bhF r0 r1 r2 r3 r4 sz k) ns)
theorem pairs_len (r0 r1 r2 r3 r4 sz : Int) : ∀ i, (pairsF r0 r1 r2 r3 r4 sz i).length = i
  | 0 => rfl
  | i + 1 => by rw [pairsF, List.length_append, pairs_len r0 r1 r2 r3 r4 sz i]; rfl
theorem size_le {es : Array Value} {ns : List Int} (h : IntsAre es.toList ns) (hl : ns.length ≤ 5) : es.size + 1 ≤ sizeLine := by
  have a := ints_len h
  rw [sizeLine_eq]
  have : es.toList.length = es.size := by simp
  have c : (100 : Nat) ≤ 9223372036854775807 := Nat.le_of_ble_eq_true rfl
  omega
variable {g : Heap} {L : Addr} {m : PySem.Str → Option Value} {news : List (Addr × Obj)} {Dp cP cR Dr D ra : Addr} {oC oQ oR oD : Obj} {r0 r1 r2 r3 r4 sz : Int} {tz t' u' v' : Tok} {n0 : Nat}
theorem loopR_fall (hr : IsRange s₁.heap ra 0 5 1 t' u' v') (F : Fr g L s₁.heap m) (N : News g L s₁.heap news) (f2 : m (PySem.Str.ofString "size") = some (.int sz tz)) (mC : (cP, oC) ∈ news) (hC : oC.data = .cell (some (.ref Dp))) (mQ : (cR, oQ) ∈ news) (hQ : oQ.data = .cell (some (.ref Dr))) (mP : (Dp, PySem.W.listOf #[] n0) ∈ news) {a0 a1 a2 a3 a4 : Tok} {nR : Nat} (mR : (Dr, oR) ∈ news) (eR : oR = li5 r0 r1 r2 r3 r4 a0 a1 a2 a3 a4 nR) (mD : (D, oD) ∈ news) (hp : 0 < s₁.toks)
    (hb : BodyFa prog w A env x px body Q s₁ g L Dp cP cR Dr D oC oQ oR oD r0 r1 r2 r3 r4 sz tz)
    (hd : ∀ (mm : PySem.Str → Option Value) (y0 y1 y2 y3 y4 : Tok) (n1 : Nat) h' tk, 0 < tk → Fr g L h' (frF sz tz mm) → News g L h' [(Dp, PySem.W.listOf #[.int (pairF r0 r1 r2 r3 r4 sz 0) y0, .int (pairF r0 r1 r2 r3 r4 sz 1) y1, .int (pairF r0 r1 r2 r3 r4 sz 2) y2, .int (pairF r0 r1 r2 r3 r4 sz 3) y3, .int (pairF r0 r1 r2 r3 r4 sz 4) y4] n1), (cP, oC), (cR, oQ), (Dr, oR), (D, oD)] → Q .next { s₁ with heap := h', toks := tk }) :
    LoopR prog w A env x px body Q (.ref ra) s₁ := by
  have hlt : ∀ p ∈ news, p.1 ≠ s₁.heap.objs.size := fun p hp => Nat.ne_of_lt (Heap.lt_size (N p hp).1)
  refine ⟨ra, 5, t', u', v', InvFa g L Dp cP cR Dr D oC oQ oR oD r0 r1 r2 r3 r4 sz tz, rfl, hp, hr, rfl, rfl, ?_, ?_, ?_, ?_, ?_⟩
  · intro h' oI e hk
    refine ⟨m, #[], n0, .nil, ⟨hlt _ mP, hlt _ mC, hlt _ mQ, hlt _ mR, hlt _ mD⟩, fr_frF (F.keeps hk) f2, ?_⟩
    intro p hp
    have K : ∀ q ∈ news, h'.get? q.1 = some q.2 ∧ q.1 ≠ L ∧ g.get? q.1 = none := fun q hq => ⟨hk _ _ (N q hq).1, (N q hq).2⟩
    rcases List.mem_cons.mp hp with rfl | hp
    · exact ⟨e, Nat.ne_of_gt F.ns.lt, next_is_new F⟩
    rcases List.mem_cons.mp hp with rfl | hp
    · exact K _ mP
    rcases List.mem_cons.mp hp with rfl | hp
    · exact K _ mC
    rcases List.mem_cons.mp hp with rfl | hp
    · exact K _ mQ
    rcases List.mem_cons.mp hp with rfl | hp
    · exact K _ mR
    rcases List.mem_cons.mp hp with rfl | hp
    · exact K _ mD
    · cases hp
  · rintro i I oI h' ⟨mm, es, n1, hes, ne, F, N⟩
    exact (N _ (.head _)).1
  · rintro i I oI oI' h' h'' ⟨mm, es, n1, hes, ne, F, N⟩ e hk
    have hI := (N _ (.head _)).2
    refine ⟨mm, es, n1, hes, ne, ⟨F.ns.at' fun o e => hk L o (Ne.symm hI.1) e, fun b o e => hk b o (fun hb => by rw [hb, hI.2] at e; cases e) (F.keep b o e), F.above⟩, ?_⟩
    intro p hp
    rcases List.mem_cons.mp hp with rfl | hp
    · exact ⟨e, hI⟩
    · have q := N p (.tail _ hp)
      refine ⟨hk _ _ ?_ q.1, q.2⟩
      rcases List.mem_cons.mp hp with rfl | hp
      · exact ne.1
      rcases List.mem_cons.mp hp with rfl | hp
      · exact ne.2.1
      rcases List.mem_cons.mp hp with rfl | hp
      · exact ne.2.2.1
      rcases List.mem_cons.mp hp with rfl | hp
      · exact ne.2.2.2.1
      rcases List.mem_cons.mp hp with rfl | hp
      · exact ne.2.2.2.2
      · cases hp
  · intro i tv hi I oI h' tk E' htk inv
    obtain ⟨mm, es, n1, hes, ne, F, N⟩ := inv
    refine (hb (i : Int) _ tv _ mm es n1 I oI (by omega) (by omega) rfl hes (size_le hes (by rw [pairs_len]; omega)) ne.1).mono (K' := InvFa g L Dp cP cR Dr D oC oQ oR oD r0 r1 r2 r3 r4 sz tz (i + 1) I oI) (fun _ x => x) ?_ h' tk E' htk ⟨F, N⟩
    rintro h'' ⟨mm', es', m1, hes', F', N'⟩
    exact ⟨mm', es', m1, hes', ne, F', N'⟩
  · rintro I oI h' h'' tk htk ⟨mm, es, n1, hes, ne, F, N⟩ hk
    have hI := (N _ (.head _)).2
    obtain ⟨l⟩ := es
    obtain ⟨y0, y1, y2, y3, y4, rfl⟩ := ys_five (r0 := pairF r0 r1 r2 r3 r4 sz 0) (r1 := pairF r0 r1 r2 r3 r4 sz 1) (r2 := pairF r0 r1 r2 r3 r4 sz 2) (r3 := pairF r0 r1 r2 r3 r4 sz 3) (r4 := pairF r0 r1 r2 r3 r4 sz 4) hes
    refine hd mm y0 y1 y2 y3 y4 n1 h'' tk htk ⟨F.ns.at' fun o e => hk L o (Ne.symm hI.1) e, fun b o e => hk b o (fun hb => by rw [hb, hI.2] at e; cases e) (F.keep b o e), F.above⟩ ?_
    intro p hp
    have q := N p (.tail _ hp)
    refine ⟨hk _ _ ?_ q.1, q.2⟩
    rcases List.mem_cons.mp hp with rfl | hp
    · exact ne.1
    rcases List.mem_cons.mp hp with rfl | hp
    · exact ne.2.1
    rcases List.mem_cons.mp hp with rfl | hp
    · exact ne.2.2.1
    rcases List.mem_cons.mp hp with rfl | hp
    · exact ne.2.2.2.1
    rcases List.mem_cons.mp hp with rfl | hp
    · exact ne.2.2.2.2
    · cases hp
end
end
/-! Fa -/
section
open PySem.Spec PySem.Calls
variable (w : World) (mean : ExcName → Option Value) (mg mb : PySem.Str → Option Value)
def FallM (c0 c1 c2 c3 c4 : Int) : Prop := ∀ k, 0 ≤ k ∧ k ≤ 4 → k ∈ [c0, c1, c2, c3, c4]
def FallPost (r0 r1 r2 r3 r4 : Int) (h h' : Heap) (v : Value) : Prop := ∃ (T : Addr) (o0 o1 o2 o3 o4 : Int) (w0 w1 w2 w3 w4 : Tok) (nn : Nat), v = .ref T ∧ @LE.le Nat _ h.objs.size T ∧ h'.get? T = some (listOf #[.int o0 w0, .int o1 w1, .int o2 w2, .int o3 w3, .int o4 w4] nn) ∧ IsFall r0 r1 r2 r3 r4 o0 o1 o2 o3 o4
theorem fall_ct (D : Addr) (r0 r1 r2 r3 r4 : Int) (t0 t1 t2 t3 t4 : Tok) (n : Nat) (h8 : In8 r0 r1 r2 r3 r4) :
   CtL w mean mg mb D (listOf #[.int r0 t0, .int r1 t1, .int r2 t2, .int r3 t3, .int r4 t4] n) (call (.ref 183) [.ref D]) (fun h h' v => FallPost r0 r1 r2 r3 r4 h h' v) := by
  dsimp only [CtL]; k_fill; w_top off
  intro dp un gd cn cs a ccd cl outer A₀ base h₀ L m s Q E B F N X T hk hd hu hp hret
  have hL := Heap.lt_size (N _ (.head _)).1
  refine wpAny_call ?_
  (refine' enterGC ?k1 ?k2 ?k3 ?kN ?k5 ?kA ?kF ?kK ?k6 ?k7 ?k8 ?k9 ?kB ?kD ?_ ?c2 ?c3 ?c4; (case kA => exact rfl); (case kF => exact rfl); (case kK => first | exact rfl | assumption); (case k1 => k_asm); (case k2 => k_asm); (case k3 => k_asm); (case kN => assumption); (case k5 => k_asm); (case k6 => k_is); (case k7 => k_is); (case k8 => ktr_room); (case k9 => first | exact BindsTo.of_eq rfl | exact binds_K (by k_in) rfl (by k_is) rfl rfl rfl | fail "k_enter: no rule for these arguments"); (case kB => exact rfl); (case kD => decide +kernel); (case c2 => exact rfl); (case c3 => exact rfl); (case c4 => exact rfl); k_whole)
  intro g' L' h' tk' cells' htk' hsz' G' F' N' Y' B' X' T' l1'; k_lt l1'; k_cells Y'; (try simp only [List.cons_append, List.nil_append] at N'); (try dsimp only); (try k_lift B'); (try k_fold)
  k_with_none
  k_with "execs cons" => (k_here; with_reducible refine execs_pos (by first | assumption | exact Nat.succ_pos _ | omega) ?_; intro tk' htk'; (try dsimp only))
  k_with "TokP" => (with_reducible refine tokP_in ?_; (try ((with_reducible rename (0 < _) => hold'); clear hold')); intro htk'; (try dsimp only); (try dsimp only at htk'))
  k_with "eval Name" => (k_here; k_dflt (first
    | (refine nameL rfl (by rfl) (by decide) (by k_asm) (by rfl) ?_; k_whole)
    | (refine nameC rfl (by rfl) (by decide) (by rfl) (by k_asm) (by k_mem) (by k_asm) ?_; k_whole)
    | (refine nameK rfl (by rfl) (by decide) (by k_asm) (by k_asm) (by k_asm) (by k_is) ?_; k_whole)
    | (refine nameB rfl (by rfl) (by decide) (by k_asm) (by k_asm) (by k_asm) (by k_is) (by boot_fast) (by decide) ?_; k_whole)))
  k_with "storeName" => (k_here; k_dflt (first
    | (refine storeL rfl (by rfl) (by k_asm) (by k_asm) ?_; k_whole; intro h' F' N'; (try k_sweep))
    | (refine storeC rfl (by rfl) (by rfl) (by k_asm) (by k_asm) (by k_updF) (by k_asm) ?_; k_whole; intro h' o' F' N' d'; (try dsimp only at N'); (try k_sweep))))
  k_with "call builtin:list.append" => (k_here; (with_reducible show wpAny _ _ (call (Value.builtin _) [Value.ref _, _]) _ _ _); k_dflt (refine append_K (by k_asm) (by k_asm) (by k_upd) ?_ (by first | assumption | (rw [sizeLine_eq]; exact Nat.le_of_ble_eq_true rfl)); k_whole); intro h' F' N'; (try k_sweep))
  k_with "exec While Compare" => (k_here; k_dflt (refine whl_start 100 ?_))
  k_with "eval ListComp" => (k_here; k_dflt ( refine rank_comp2 (loose := _) (p := _) (by rfl) (by k_asm) (by k_asm) (by k_asm) (by k_asm) (by k_is) (by rfl) (by rfl) (by rfl) (by k_mem) (by k_asm) (by k_mem) (by rfl) (by rfl) (by rfl) (by rfl) ?_; k_whole); intro d' h' tk' v0 v1 v2 v3 v4 nn' c0 c1 c2 c3 c4 hRS' F' N' l1; (try k_lt l1); (try k_sweep))
  k_with "exec Return some" => (k_here; (fail_if_success (with_reducible rename FallM _ _ _ _ _ => hMM)); with_reducible refine stopG ?_)
  k_with "subscriptTail Name Name ref int" => (k_here; (with_reducible rename News _ _ _ _ => N9); k_dflt (refine sub5v N9 (by k_mem) (by first | assumption | omega) (by with_reducible assumption) ?_ (by with_unfolding_all rfl) (by intro _; with_unfolding_all rfl); k_whole; intro t'))
  k_with "subscriptTail Name BinOp ref int" => (k_here; (with_reducible rename News _ _ _ _ => N9); k_dflt (refine sub5s N9 (by k_mem) (by omega) ?_ (by with_unfolding_all rfl) (by intro _; with_unfolding_all rfl); k_whole; intro t'))
  k_with "exec For Name Call cons nil" => (k_here; k_dflt (refine for_rangeN rfl (by first | assumption | exact Nat.succ_pos _ | omega) ?_ (by intro _; rfl); k_whole))
  k_with "LoopR" => (k_here; (with_reducible rename IsRange _ _ _ _ _ _ _ _ => hRg); (with_reducible rename News _ _ _ _ => N9); (with_reducible rename Fr _ _ _ _ => F9); k_dflt (refine loopR_fall (D := D) (cP := L' + 1 + 1) (cR := L' + 1) hRg F9 N9 (by rfl) (by k_mem) (by k_asm) (by k_mem) (by k_asm) (by k_mem) (by k_mem) (by rfl) (by k_mem) (by first | assumption | exact Nat.succ_pos _ | omega) ?_ ?_; k_whole); clear hRg)
  k_with "BodyFa" => (unfold BodyFa TurnI; intro kk rk kt ns mm es n1' I' oI' hk0 hk5 e1 hes hsz nP h' tk' E' htk' hFN; obtain ⟨F', N'⟩ := hFN; unfold frF at F'; (try dsimp only))
  k_steps
  · (with_reducible rename News _ _ _ _ => N9)
    (with_reducible rename Fr _ _ _ _ => F9)
    refine' ⟨_, _, _, ?ints1, fr_frF F9 rfl, news_of2 N9 ?nw1⟩
    case nw1 =>
      intro p hp
      rcases List.mem_cons.mp hp with rfl | hp
      · k_mem
      rcases List.mem_cons.mp hp with rfl | hp
      · k_mem
      rcases List.mem_cons.mp hp with rfl | hp
      · k_mem
      rcases List.mem_cons.mp hp with rfl | hp
      · k_mem
      rcases List.mem_cons.mp hp with rfl | hp
      · k_mem
      rcases List.mem_cons.mp hp with rfl | hp
      · k_mem
      · cases hp
    case ints1 => exact ints_pushE hes (by first | rw [bhF, if_pos (by assumption)] | rw [bhF, if_neg (by assumption)])
  · (with_reducible rename News _ _ _ _ => N9)
    (with_reducible rename Fr _ _ _ _ => F9)
    refine' ⟨_, _, _, ?ints2, fr_frF F9 rfl, news_of2 N9 ?nw2⟩
    case nw2 =>
      intro p hp
      rcases List.mem_cons.mp hp with rfl | hp
      · k_mem
      rcases List.mem_cons.mp hp with rfl | hp
      · k_mem
      rcases List.mem_cons.mp hp with rfl | hp
      · k_mem
      rcases List.mem_cons.mp hp with rfl | hp
      · k_mem
      rcases List.mem_cons.mp hp with rfl | hp
      · k_mem
      rcases List.mem_cons.mp hp with rfl | hp
      · k_mem
      · cases hp
    case ints2 => exact ints_pushE hes (by first | rw [bhF, if_pos (by assumption)] | rw [bhF, if_neg (by assumption)])
  · (with_reducible rename News _ _ _ _ => N9)
    (with_reducible rename Fr _ _ _ _ => F9)
    refine' ⟨_, _, _, ?ints3, fr_frF F9 rfl, news_of2 N9 ?nw3⟩
    case nw3 =>
      intro p hp
      rcases List.mem_cons.mp hp with rfl | hp
      · k_mem
      rcases List.mem_cons.mp hp with rfl | hp
      · k_mem
      rcases List.mem_cons.mp hp with rfl | hp
      · k_mem
      rcases List.mem_cons.mp hp with rfl | hp
      · k_mem
      rcases List.mem_cons.mp hp with rfl | hp
      · k_mem
      rcases List.mem_cons.mp hp with rfl | hp
      · k_mem
      · cases hp
    case ints3 => exact ints_pushE hes (by first | rw [bhF, if_pos (by assumption)] | rw [bhF, if_neg (by assumption)])
  · (with_reducible rename News _ _ _ _ => N9)
    (with_reducible rename Fr _ _ _ _ => F9)
    refine' ⟨_, _, _, ?ints4, fr_frF F9 rfl, news_of2 N9 ?nw4⟩
    case nw4 =>
      intro p hp
      rcases List.mem_cons.mp hp with rfl | hp
      · k_mem
      rcases List.mem_cons.mp hp with rfl | hp
      · k_mem
      rcases List.mem_cons.mp hp with rfl | hp
      · k_mem
      rcases List.mem_cons.mp hp with rfl | hp
      · k_mem
      rcases List.mem_cons.mp hp with rfl | hp
      · k_mem
      rcases List.mem_cons.mp hp with rfl | hp
      · k_mem
      · cases hp
    case ints4 => exact ints_pushE hes (by first | rw [bhF, if_pos (by assumption)] | rw [bhF, if_neg (by assumption)])
  · (with_reducible rename News _ _ _ _ => N9)
    (with_reducible rename Fr _ _ _ _ => F9)
    refine' ⟨_, _, _, ?ints5, fr_frF F9 rfl, news_of2 N9 ?nw5⟩
    case nw5 =>
      intro p hp
      rcases List.mem_cons.mp hp with rfl | hp
      · k_mem
      rcases List.mem_cons.mp hp with rfl | hp
      · k_mem
      rcases List.mem_cons.mp hp with rfl | hp
      · k_mem
      rcases List.mem_cons.mp hp with rfl | hp
      · k_mem
      rcases List.mem_cons.mp hp with rfl | hp
      · k_mem
      rcases List.mem_cons.mp hp with rfl | hp
      · k_mem
      · cases hp
    case ints5 => exact ints_pushE hes (by first | rw [bhF, if_pos (by assumption)] | rw [bhF, if_neg (by assumption)])
  · (with_reducible rename News _ _ _ _ => N9)
    (with_reducible rename Fr _ _ _ _ => F9)
    refine' ⟨_, _, _, ?ints6, fr_frF F9 rfl, news_of2 N9 ?nw6⟩
    case nw6 =>
      intro p hp
      rcases List.mem_cons.mp hp with rfl | hp
      · k_mem
      rcases List.mem_cons.mp hp with rfl | hp
      · k_mem
      rcases List.mem_cons.mp hp with rfl | hp
      · k_mem
      rcases List.mem_cons.mp hp with rfl | hp
      · k_mem
      rcases List.mem_cons.mp hp with rfl | hp
      · k_mem
      rcases List.mem_cons.mp hp with rfl | hp
      · k_mem
      · cases hp
    case ints6 => exact ints_pushE hes (by first | rw [bhF, if_pos (by assumption)] | rw [bhF, if_neg (by assumption)])
  unfold StopG
  (with_reducible rename RankStep (pairF _ _ _ _ _ 1 _) _ _ _ _ _ _ _ _ _ => hA1)
  (with_reducible rename RankStep (pairF _ _ _ _ _ (1 * 2) _) _ _ _ _ _ _ _ _ _ => hB1)
  (with_reducible rename RankStep (pairF _ _ _ _ _ (1 * 2 * 2) _) _ _ _ _ _ _ _ _ _ => hC1)
  have hM : FallM _ _ _ _ _ := fun k hk => fall_mem h8 hA1 hB1 hC1 hk
  iterate 1 walk1
  (with_reducible rename FallM _ _ _ _ _ => hMM)
  refine' index_comp ?h1 ?h2 ?h3 ?hl ?h7 ?h8 ?h9 ?h10 ?h11 ?h12 ?h13 ?h14 ?hM ?_
  case h1 => rfl
  case h2 => k_asm
  case h3 => k_asm
  case hl => rfl
  case h10 => rfl
  case h11 => rfl
  case h7 => k_mem
  case h8 => k_asm
  case h9 => k_mem
  case h12 => rfl
  case h13 => rfl
  case h14 => rfl
  case hM => exact hMM
  intro d' h' tk' v0 v1 v2 v3 v4 nn' i0 i1 i2 i3 i4 g0 g1 g2 g3 g4 F' N' hLd
  k_steps
  (with_reducible rename Fr g' _ _ _ => F9)
  refine hret _ _ _ (keep_of G' (N _ (.head _)).1 F9 N' (by k_mem)) ⟨d', i0, i1, i2, i3, i4, v0, v1, v2, v3, v4, nn', rfl, Nat.le_of_lt (Nat.lt_of_le_of_lt hsz' hLd), (N' _ (.head _)).1, fall_done h8 hA1 hB1 hC1 g0 g1 g2 g3 g4⟩ (by first | assumption | omega)

end
/-! Sy -/
section
open PySem.Spec PySem.Calls
section
variable {g h h' : Heap} {L I : Addr} {oI oI' : Obj} {m : PySem.Str → Option Value} {news : List (Addr × Obj)}
theorem fr_but (F : Fr g L h m) (hI : I ≠ L ∧ g.get? I = none) (hk : ∀ b o, b ≠ I → h.get? b = some o → h'.get? b = some o) : Fr g L h' m :=
  ⟨F.ns.at' fun o e => hk L o (Ne.symm hI.1) e, fun b o e => hk b o (fun hb => by rw [hb, hI.2] at e; cases e) (F.keep b o e), F.above⟩
theorem news_but (N : News g L h news) (hne : ∀ p ∈ news, p.1 ≠ I) (hk : ∀ b o, b ≠ I → h.get? b = some o → h'.get? b = some o) : News g L h' news :=
  fun p hp => ⟨hk _ _ (hne p hp) (N p hp).1, (N p hp).2⟩
theorem news_tl {p : Addr × Obj} (N : News g L h (p :: news)) : News g L h news := fun q hq => N q (.tail _ hq)
theorem news_butc (N : News g L h ((I, oI) :: news)) (hne : ∀ p ∈ news, p.1 ≠ I) (e : h'.get? I = some oI') (hk : ∀ b o, b ≠ I → h.get? b = some o → h'.get? b = some o) : News g L h' ((I, oI') :: news) := by
  intro p hp
  rcases List.mem_cons.mp hp with rfl | hp
  · exact ⟨e, (N _ (.head _)).2⟩
  · exact news_but (news_tl N) hne hk p hp
theorem news_start (F : Fr g L h m) (N : News g L h news) (e : h'.get? h.objs.size = some oI) (hk : ∀ b o, h.get? b = some o → h'.get? b = some o) : News g L h' ((h.objs.size, oI) :: news) := by
  intro p hp
  rcases List.mem_cons.mp hp with rfl | hp
  · exact ⟨e, Nat.ne_of_gt F.ns.lt, next_is_new F⟩
  · exact ⟨hk _ _ (N p hp).1, (N p hp).2⟩
theorem news_sub {ns : List (Addr × Obj)} (N : News g L h news) (hs : ∀ p ∈ ns, p ∈ news) : News g L h ns := fun p hp => N p (hs p hp)
theorem all_cons {P : Addr × Obj → Prop} {p : Addr × Obj} {l : List (Addr × Obj)} (a : P p) (b : ∀ q ∈ l, P q) : ∀ q ∈ p :: l, P q := List.forall_mem_cons.mpr ⟨a, b⟩
end
/-- the place of a name, by its address -/
def plF (bs : List (Int × Addr)) (x : Addr) : Int := ((bs.find? fun q => decide (q.2 = x)).map (·.1)).getD 0
theorem plF_at : ∀ {bs : List (Int × Addr)}, (bs.map (·.2)).Nodup → ∀ q ∈ bs, plF bs q.2 = q.1
  | [], _, q, hq => by cases hq
  | b :: bs, nd, q, hq => by
    rw [List.map_cons, List.nodup_cons] at nd
    unfold plF
    rcases List.mem_cons.mp hq with rfl | hq
    · rw [List.find?_cons_of_pos (by simp)]; rfl
    · rw [List.find?_cons_of_neg (by
        have : b.2 ≠ q.2 := fun e => nd.1 (e ▸ List.mem_map_of_mem hq)
        simpa using this)]
      exact plF_at nd.2 q hq
def tauF (k : Nat) (r0 r1 r2 r3 r4 : Int) (bs : List (Int × Addr)) (x : Addr) : PySem.Str := tx ([123, 117, 125] ++ endT k r0 r1 r2 r3 r4 (plF bs x))
/-- the names stand among what was made -/
def NamesIn (k : Nat) (r0 r1 r2 r3 r4 : Int) (bs : List (Int × Addr)) (qs : List (Addr × Obj)) : Prop :=
  ∀ q ∈ bs, (0 ≤ q.1 ∧ q.1 < 5) ∧ ∃ dx hs n a b, (q.2, instObj 127 dx) ∈ qs ∧ (dx, dictOf [⟨hs, .str (PySem.Str.ofString "text") a, .str (tx ([123, 117, 125] ++ endT k r0 r1 r2 r3 r4 q.1)) b⟩] n) ∈ qs
section
variable {w : World} {mean : ExcName → Option Value} {mg mb : PySem.Str → Option Value} {dp un : Nat} {gd : Option (List Code)} {cn : PySem.Str} {cs : Scope} {a : Addr} {ccd : Value} {cl : List (PySem.Str × Addr)} {outer : List Env} {A₀ : Around} {base h₀ : Heap} {L : Addr} {m : PySem.Str → Option Value} {s : Shared} {Q E : Value → Shared → Prop} {news : List (Addr × Obj)}
theorem use_widthF {k : Nat} {r0 r1 r2 r3 r4 : Int} {bs xs : List (Int × Addr)} {qs : List (Addr × Obj)} {c : List Int} {d : Addr} {o : Obj} (hk5 : k < 5) (h8 : In8 r0 r1 r2 r3 r4)
    (Lf : Left (Key r0 r1 r2 r3 r4) bs c xs) (hc : c.length < 5) (hN : NamesIn k r0 r1 r2 r3 r4 bs qs) (nd : (bs.map (·.2)).Nodup) (hqs : ∀ p ∈ qs, p ∈ news)
    (hm : (d, o) ∈ news) (hdo : o.IsDictOf (PySem.intKind pg w) (linesOf xs)) (lo : (d == sysModules) = false)
    (B : Below A₀ base outer h₀) (F : Fr h₀ L s.heap m) (N : News h₀ L s.heap news) (X : (hd.heap_1 w.params).In h₀) (T : Top hd.view_1 (looseW hd.view_1 []) mean mg mb h₀) (hk : cs.kind = .function)
    (hd' : dp + 40 < recursionLimit) (hu : un + 200 < cLine) (hp : 0 < s.toks)
    (h : ∀ p t h' tk', (0 ≤ p ∧ p < 5) → xs.length ≤ 5 → (valueAt (linesOf xs) p).isSome = true → Left (Key r0 r1 r2 r3 r4) bs (c ++ [p]) (xs.filter fun q => decide (q.1 ≠ p)) → Fr h₀ L h' m → News h₀ L h' news → 0 < tk' → Q (.int (LN k r0 r1 r2 r3 r4 p) t) { s with heap := h', toks := tk' }) :
    wpAny (model PySem.Challenge.rw_yh0017_01.row.prog w) (ktrTop dp un gd cn cs L a ccd cl outer) (call (.ref 21) [.ref d]) Q E s :=
  use_width (τ := tauF k r0 r1 r2 r3 r4 bs) (pl := plF bs) hk5 h8 Lf hc (fun q hq => ⟨(hN q hq).1, plF_at nd q hq, by unfold tauF; rw [plF_at nd q hq]⟩)
    (fun q hq => by
      obtain ⟨_, dx, hs, n, a', b', h1, h2⟩ := hN q hq
      unfold tauF
      rw [plF_at nd q hq]
      exact ⟨dx, hs, n, a', b', (N _ (hqs _ h1)).1, (N _ (hqs _ h2)).1⟩) hm hdo lo B F N X T hk hd' hu hp h
end
def frT (dl dd O : Addr) (mm : PySem.Str → Option Value) : PySem.Str → Option Value := fun y => if y = PySem.Str.ofString "lines" then some (.ref dl) else if y = PySem.Str.ofString "due" then some (.ref dd) else if y = PySem.Str.ofString "order" then some (.ref O) else mm y
theorem fr_frT {g h : Heap} {L dl dd O : Addr} {m : PySem.Str → Option Value} (F : Fr g L h m) (f1 : m (PySem.Str.ofString "lines") = some (.ref dl)) (f2 : m (PySem.Str.ofString "due") = some (.ref dd)) (f3 : m (PySem.Str.ofString "order") = some (.ref O)) : Fr g L h (frT dl dd O m) := by
  have e : m = frT dl dd O m := funext fun y => by
    unfold frT
    split
    · rename_i e; rw [e, f1]
    · split
      · rename_i e; rw [e, f2]
      · split
        · rename_i e; rw [e, f3]
        · rfl
  rw [← e]
  exact F
def TurnT (w : World) (g : Heap) (L dl dd O : Addr) (od : Obj) (bs : List (Int × Addr)) (qs : List (Addr × Obj)) (K : Int → Int) (I : Addr) (oI : Obj) (c : List Int) (h : Heap) : Prop :=
  ∃ (p : Int) (mm : PySem.Str → Option Value) (xs : List (Int × Addr)) (ol : Obj) (es : Array Value) (n1 : Nat), IntsAre es.toList (c ++ [p]) ∧ Left K bs (c ++ [p]) xs ∧ ol.IsDictOf (PySem.intKind pg w) (linesOf xs) ∧ Fr g L h (frT dl dd O mm) ∧ News g L h ((I, oI) :: (O, PySem.W.listOf es n1) :: (dl, ol) :: (dd, od) :: qs)
def InvT (w : World) (g : Heap) (L dl dd O : Addr) (od : Obj) (bs : List (Int × Addr)) (qs : List (Addr × Obj)) (K : Int → Int) (i : Nat) (I : Addr) (oI : Obj) (h : Heap) : Prop :=
  ∃ (mm : PySem.Str → Option Value) (c : List Int) (xs : List (Int × Addr)) (ol : Obj) (es : Array Value) (n1 : Nat), c.length = i ∧ IntsAre es.toList c ∧ Left K bs c xs ∧ ol.IsDictOf (PySem.intKind pg w) (linesOf xs) ∧
    (@Ne Nat O I ∧ @Ne Nat dl I ∧ @Ne Nat dd I ∧ ∀ p ∈ qs, p.1 ≠ I) ∧ Fr g L h (frT dl dd O mm) ∧ News g L h ((I, oI) :: (O, PySem.W.listOf es n1) :: (dl, ol) :: (dd, od) :: qs)
section
variable {w : World} {A : Around} {env : Env} {x : PySem.Str} {px : Pos} {body : List Stmt} {Q : Flow → Shared → Prop} {s₁ : Shared}
/-- what the walk shows of a turn that takes out a name -/
def BodyT (w : World) (A : Around) (env : Env) (x : PySem.Str) (px : Pos) (body : List Stmt) (Q : Flow → Shared → Prop) (s₁ : Shared) (g : Heap) (L dl dd O : Addr) (od : Obj) (bs : List (Int × Addr)) (qs : List (Addr × Obj)) (K : Int → Int) : Prop :=
  ∀ (i : Int) (tt : Tok) (mm : PySem.Str → Option Value) (c : List Int) (xs : List (Int × Addr)) (ol : Obj) (es : Array Value) (n1 : Nat) (I : Addr) (oI : Obj), c.length < 5 → IntsAre es.toList c → es.size ≤ sizeLine → Left K bs c xs → ol.IsDictOf (PySem.intKind pg w) (linesOf xs) → I ≠ O → I ≠ dl →
    TurnI PySem.Challenge.rw_yh0017_01.row.prog w A env x px body Q s₁ (.int i tt) I oI (fun h => Fr g L h (frT dl dd O mm) ∧ News g L h ((I, oI) :: (O, PySem.W.listOf es n1) :: (dl, ol) :: (dd, od) :: qs)) (TurnT w g L dl dd O od bs qs K I oI c)
variable {g : Heap} {L dl dd O ra : Addr} {ol od : Obj} {m : PySem.Str → Option Value} {news qs : List (Addr × Obj)} {bs : List (Int × Addr)} {K : Int → Int} {t' u' v' : Tok} {n0 : Nat}
theorem loopR_turn (hr : IsRange s₁.heap ra 0 5 1 t' u' v') (F : Fr g L s₁.heap m) (N : News g L s₁.heap news) (f1 : m (PySem.Str.ofString "lines") = some (.ref dl)) (f2 : m (PySem.Str.ofString "due") = some (.ref dd)) (f3 : m (PySem.Str.ofString "order") = some (.ref O))
    (mO : (O, PySem.W.listOf #[] n0) ∈ news) (ml : (dl, ol) ∈ news) (md : (dd, od) ∈ news) (mq : ∀ p ∈ qs, p ∈ news) (hol : ol.IsDictOf (PySem.intKind pg w) (linesOf bs)) (Lf : Left K bs [] bs) (hp : 0 < s₁.toks)
    (hb : BodyT w A env x px body Q s₁ g L dl dd O od bs qs K)
    (hd : ∀ (mm : PySem.Str → Option Value) (c : List Int) (xs : List (Int × Addr)) (ol' : Obj) (es : Array Value) (n1 : Nat) h' tk, 0 < tk → c.length = 5 → IntsAre es.toList c → Left K bs c xs → ol'.IsDictOf (PySem.intKind pg w) (linesOf xs) → Fr g L h' (fun y => if y = PySem.Str.ofString "lines" then some (.ref dl) else if y = PySem.Str.ofString "due" then some (.ref dd) else if y = PySem.Str.ofString "order" then some (.ref O) else mm y) → News g L h' ((O, PySem.W.listOf es n1) :: (dl, ol') :: (dd, od) :: qs) → Q .next { s₁ with heap := h', toks := tk }) :
    LoopR PySem.Challenge.rw_yh0017_01.row.prog w A env x px body Q (.ref ra) s₁ := by
  have hlt : ∀ p ∈ news, p.1 ≠ s₁.heap.objs.size := fun p hp => Nat.ne_of_lt (Heap.lt_size (N p hp).1)
  refine ⟨ra, 5, t', u', v', InvT w g L dl dd O od bs qs K, rfl, hp, hr, rfl, rfl, ?_, ?_, ?_, ?_, ?_⟩
  · intro h' oI e hk
    exact ⟨m, [], bs, ol, #[], n0, rfl, .nil, Lf, hol, ⟨hlt _ mO, hlt _ ml, hlt _ md, fun p hp => hlt p (mq p hp)⟩, fr_frT (F.keeps hk) f1 f2 f3,
      news_start F (news_sub N (all_cons mO (all_cons ml (all_cons md mq)))) e hk⟩
  · rintro i I oI h' ⟨mm, c, xs, ol, es, n1, hc, hes, Lf, hol, ne, F, N⟩
    exact (N _ (.head _)).1
  · rintro i I oI oI' h' h'' ⟨mm, c, xs, ol, es, n1, hc, hes, Lf, hol, ne, F, N⟩ e hk
    exact ⟨mm, c, xs, ol, es, n1, hc, hes, Lf, hol, ne, fr_but F (N _ (.head _)).2 hk, news_butc N (all_cons ne.1 (all_cons ne.2.1 (all_cons ne.2.2.1 ne.2.2.2))) e hk⟩
  · intro i tv hi I oI h' tk E' htk inv
    obtain ⟨mm, c, xs, ol, es, n1, hc, hes, Lf, hol, ne, F, N⟩ := inv
    refine (hb (i : Int) tv mm c xs ol es n1 I oI (by omega) hes (Nat.le_of_succ_le (size_le hes (by omega))) Lf hol (Ne.symm ne.1) (Ne.symm ne.2.1)).mono (K' := InvT w g L dl dd O od bs qs K (i + 1) I oI) (fun _ x => x) ?_ h' tk E' htk ⟨F, N⟩
    rintro h'' ⟨p, mm', xs', ol', es', m1, hes', Lf', hol', F', N'⟩
    exact ⟨mm', c ++ [p], xs', ol', es', m1, by rw [List.length_append, hc]; rfl, hes', Lf', hol', ne, F', N'⟩
  · rintro I oI h' h'' tk htk ⟨mm, c, xs, ol, es, n1, hc, hes, Lf, hol, ne, F, N⟩ hk
    exact hd mm c xs ol es n1 h'' tk htk hc hes Lf hol (fr_but F (N _ (.head _)).2 hk) (news_but (news_tl N) (all_cons ne.1 (all_cons ne.2.1 (all_cons ne.2.2.1 ne.2.2.2))) hk)
end
end
/-! Sz -/
section
open PySem.Spec PySem.Calls
/-- what stands when the five names are in the table -/
structure Mid3 (w : World) (g : Heap) (L : Addr) (D : Addr) (oD : Obj) (k : Nat) (r0 r1 r2 r3 r4 : Int) (s s' : Shared) : Prop where
  ex : ∃ (h' : Heap) (tk : Nat) (mm : PySem.Str → Option Value) (dl dd : Addr) (ol od : Obj) (t0 t1 t2 t3 t4 : Tok) (bs : List (Int × Addr)) (qs : List (Addr × Obj)), s' = { s with heap := h', toks := tk } ∧ 0 < tk ∧
    Fr g L h' (fun y => if y = PySem.Str.ofString "lines" then some (.ref dl) else if y = PySem.Str.ofString "due" then some (.ref dd) else mm y) ∧
    News g L h' ((dl, ol) :: (dd, od) :: qs) ∧ ol.IsDictOf (PySem.intKind pg w) (linesOf bs) ∧ od.IsDictOf (PySem.intKind pg w) (dueOf k r0 r1 r2 r3 r4 t0 t1 t2 t3 t4) ∧ (dl == sysModules) = false ∧ (dd == sysModules) = false ∧
    (∀ p ∈ (dd, od) :: qs, p.1 ≠ dl) ∧ Left (Key r0 r1 r2 r3 r4) bs [] bs ∧ NamesIn k r0 r1 r2 r3 r4 bs qs ∧ (bs.map (·.2)).Nodup ∧ (D, oD) ∈ qs
end
/-! Sb -/
section
open PySem.Spec PySem.Calls
section
variable {prog : Program} {w : World} {A : Around} {E : Value → Shared → Prop} {s : Shared} {h₀ : Heap} {L l : Addr} {m : PySem.Str → Option Value} {news : List (Addr × Obj)}
/-- a list of ints from a place on -/
theorem slice_ranks {value slice : PySem.Expr} {vs : List Value} {ns ms : List Int} {i : Nat} {tj : Tok} {n : Nat} {Q : Value → Shared → Prop} (F : Fr h₀ L s.heap m) (N : News h₀ L s.heap news) (hm : (l, PySem.W.listOf vs.toArray n) ∈ news) (hi : IntsAre vs ns) (hdr : ns.drop i = ms) (hz : vs.toArray.size ≤ sizeLine)
    (h : ∀ D ws h', Fr h₀ L h' m → News h₀ L h' ((D, PySem.W.listOf (List.toArray ws) 0) :: news) → IntsAre ws ms → Q (.ref D) { s with heap := h' })
    (hs : subscripted slice false (.ref l) (.ref s.heap.objs.size) = operate [.ref s.heap.objs.size, .ref l] (getItem (.ref l) (.ref s.heap.objs.size)) := by with_unfolding_all rfl) (ht : ∀ r, letTemporaryGo value (.ref l) r = pure () := by intro _; with_unfolding_all rfl) :
    wpAny (model prog w) A (subscriptTail value slice (.ref l) (.ref s.heap.objs.size)) Q E { s with heap := s.heap.push { cls := .type "slice", data := .fields #[.int (i : Int) tj, .none, .none] } } := by
  have hl : s.heap.IsList l vs.toArray := ⟨_, (N _ hm).1, rfl, _, rfl⟩
  refine kmk_slice_ints (ms := ms) (c := ms.length) F N hl (IsPart.int _ _) IsPart.none hi ?_ rfl (fun D ws h' F' N' l1 hw _ _ => h D ws h' F' N' hw) hs ht hz
  rw [slicePick_from']
  exact hdr ▸ ints_drop hi i
theorem news_tl2 {p q : Addr × Obj} {h : Heap} (N : News h₀ L h (p :: q :: news)) : News h₀ L h (p :: news) := fun x hx => by
  rcases List.mem_cons.mp hx with rfl | hx
  · exact N _ (.head _)
  · exact N _ (.tail _ (.tail _ hx))
end
section
variable {prog : Program} {w : World} {A : Around} {E : Value → Shared → Prop} {s : Shared} {h₀ : Heap} {L a : Addr} {m : PySem.Str → Option Value} {cn : PySem.Str} {cs : Scope} {ccd : Value} {cl : List (PySem.Str × Addr)} {news : List (Addr × Obj)} {scopeO : Scope} {p1 p2 p3 px pos : Pos}
theorem srcS_spellW {Q : Value → Shared → Prop} {k n nS : Nat} {c ax S : Addr} {oc : Obj} {ws : List Value} {its : Array Value} {rs : List Int} (F : Fr h₀ L s.heap m) (N : News h₀ L s.heap ((ax, PySem.W.listOf ws.toArray n) :: news)) (hw : IntsAre ws rs) (h5 : rs.length ≤ 5) (h8 : ∀ r ∈ rs, R8 r)
    (hc : (c, oc) ∈ news) (hd : oc.data = .cell (some (.ref S))) (hS : (S, PySem.W.listOf its nS) ∈ news) (hits : ∀ i < 8, ∃ u, its[i]? = some (.str (tx ((spls k).getD i [])) u)) (hk : cs.kind = .function) (hpk : (envX cn cs L a ccd cl).kindOf (PySem.Str.ofString "spellings") = some .cell)
    (hO : scopeO.names = [(PySem.Str.ofString ".0", .local), (PySem.Str.ofString "rank", .local), (PySem.Str.ofString "spellings", .free)]) (hOk : scopeO.kind = .function)
    (h : ∀ D h' tk l nn, l.map (·.1) = rs.map (fun r => tx (spK k r)) → Fr h₀ L h' m → News h₀ L h' ((D, PySem.W.listOf (strValues l).toArray nn) :: news) → Q (.ref D) { s with heap := h', toks := tk }) :
    SrcS prog w A (envX cn cs L a ccd cl) scopeO [(PySem.Str.ofString "spellings", c)] (.Subscript (.Name (PySem.Str.ofString "spellings") p1) (.Name (PySem.Str.ofString "rank") p2) p3) (spK k) Q (.ref ax) s :=
  srcS_spell F N (.head _) (by have := ints_len hw; rw [List.size_toArray]; omega) hw h8 (.tail _ hc) hd (.tail _ hS) hits hk hpk hO hOk fun D h' tk l nn hl F' N' _ => h D h' tk l nn hl F' (news_tl2 N')
end
/-! the numbers of the ends -/
noncomputable def DueIs (k : Nat) (r0 r1 r2 r3 r4 : Int) : Nat → List (Int × Value) → Prop
  | 0, ds => ds = []
  | i + 1, ds => ∃ ds' t, DueIs k r0 r1 r2 r3 r4 i ds' ∧ ds = ds' ++ [(LN k r0 r1 r2 r3 r4 (i : Int), .int (i : Int) t)]
section
variable {k : Nat} {r0 r1 r2 r3 r4 : Int}
theorem due_five {ds : List (Int × Value)} (h : DueIs k r0 r1 r2 r3 r4 5 ds) : ∃ t0 t1 t2 t3 t4, ds = dueOf k r0 r1 r2 r3 r4 t0 t1 t2 t3 t4 := by
  obtain ⟨_, t4, ⟨_, t3, ⟨_, t2, ⟨_, t1, ⟨_, t0, rfl, rfl⟩, rfl⟩, rfl⟩, rfl⟩, rfl⟩ := h
  exact ⟨t0, t1, t2, t3, t4, rfl⟩
theorem due_len : ∀ {i : Nat} {ds : List (Int × Value)}, DueIs k r0 r1 r2 r3 r4 i ds → ds.length = i
  | 0, _, h => by rw [show _ = [] from h]; rfl
  | i + 1, _, ⟨ds', t, h, e⟩ => by rw [e, List.length_append, due_len h]; rfl
theorem due_mem : ∀ {i : Nat} {ds : List (Int × Value)}, DueIs k r0 r1 r2 r3 r4 i ds → ∀ p ∈ ds, ∃ j : Nat, j < i ∧ p.1 = LN k r0 r1 r2 r3 r4 (j : Int)
  | 0, _, h, p, hp => by rw [show _ = [] from h] at hp; cases hp
  | i + 1, _, ⟨ds', t, h, e⟩, p, hp => by
    rw [e] at hp
    rcases List.mem_append.mp hp with hp | hp
    · obtain ⟨j, hj, e⟩ := due_mem h p hp
      exact ⟨j, Nat.lt_succ_of_lt hj, e⟩
    · rw [List.mem_singleton.mp hp]; exact ⟨i, Nat.lt_succ_self i, rfl⟩
theorem LN_of {i : Nat} {rs : List Int} (hdr : List.drop i [r0, r1, r2, r3, r4] = rs) : LN k r0 r1 r2 r3 r4 (i : Int) = 3 + ((tx (rs.flatMap (spK k))).length : Int) := by
  subst hdr; rfl
theorem LN_succ (hk5 : k < 5) (h8 : In8 r0 r1 r2 r3 r4) {j : Nat} (hj : j < 5) : LN k r0 r1 r2 r3 r4 ((j + 1 : Nat) : Int) < LN k r0 r1 r2 r3 r4 (j : Int) := by
  have e : List.drop j [r0, r1, r2, r3, r4] = [r0, r1, r2, r3, r4][j] :: List.drop (j + 1) [r0, r1, r2, r3, r4] := List.drop_eq_getElem_cons hj
  rw [LN_of e, LN_of rfl]
  have hr : R8 [r0, r1, r2, r3, r4][j] := mem_drop8 h8 j _ (by rw [e]; exact List.mem_cons_self)
  have := flat_lt hk5 (rs := List.drop (j + 1) [r0, r1, r2, r3, r4]) hr
  omega
theorem LN_lt (hk5 : k < 5) (h8 : In8 r0 r1 r2 r3 r4) {j : Nat} : ∀ {i : Nat}, j < i → i ≤ 5 → LN k r0 r1 r2 r3 r4 (i : Int) < LN k r0 r1 r2 r3 r4 (j : Int)
  | 0, h, _ => absurd h (Nat.not_lt_zero _)
  | i + 1, h, h5 => by
    have a := LN_succ hk5 h8 (j := i) h5
    rcases Nat.lt_or_eq_of_le (Nat.le_of_lt_succ h) with q | rfl
    · exact Int.lt_trans a (LN_lt hk5 h8 q (Nat.le_of_succ_le h5))
    · exact a
theorem due_ne (hk5 : k < 5) (h8 : In8 r0 r1 r2 r3 r4) {i : Nat} {ds : List (Int × Value)} {rs : List Int} (hi : i < 5) (h : DueIs k r0 r1 r2 r3 r4 i ds) (hdr : List.drop i [r0, r1, r2, r3, r4] = rs) : ∀ p ∈ ds, p.1 ≠ 3 + ((tx (rs.flatMap (spK k))).length : Int) := by
  intro p hp e
  obtain ⟨j, hj, e'⟩ := due_mem h p hp
  have := LN_lt hk5 h8 hj (Nat.le_of_lt hi)
  rw [e, ← LN_of hdr] at e'
  exact absurd e' (Int.ne_of_lt this)
end
/-- the places told so far -/
def Places (i : Nat) (bs : List (Int × Addr)) : Prop := bs.map (·.1) = (List.range i).map Int.ofNat
theorem places_succ {i : Nat} {bs : List (Int × Addr)} {x : Addr} (h : Places i bs) : Places (i + 1) (bs ++ [((i : Int), x)]) := by
  unfold Places at h ⊢
  rw [List.map_append, h, List.range_succ, List.map_append]
  rfl
theorem places_len {i : Nat} {bs : List (Int × Addr)} (h : Places i bs) : bs.length = i := by
  have := congrArg List.length h
  rwa [List.length_map, List.length_map, List.length_range] at this
theorem places_ne {i : Nat} {bs : List (Int × Addr)} (h : Places i bs) : ∀ p ∈ linesOf bs, p.1 ≠ (i : Int) := by
  intro p hp
  unfold linesOf at hp
  rcases List.mem_cons.mp hp with rfl | hp
  · show (-1 : Int) ≠ _
    omega
  · obtain ⟨q, hq, rfl⟩ := List.mem_map.mp hp
    have : q.1 ∈ (List.range i).map Int.ofNat := h ▸ List.mem_map_of_mem hq
    obtain ⟨j, hj, e⟩ := List.mem_map.mp this
    have := List.mem_range.mp hj
    show q.1 ≠ _
    rw [← e]
    show (j : Int) ≠ _
    omega
theorem lines_app {bs : List (Int × Addr)} {p : Int} {x : Addr} : linesOf bs ++ [(p, .ref x)] = linesOf (bs ++ [(p, x)]) := by
  unfold linesOf
  rw [List.map_append]; rfl
theorem left_places {K : Int → Int} {bs : List (Int × Addr)} (h : Places 5 bs) : Left K bs [] bs :=
  ⟨fun _ h => h, by rw [show bs.map (·.1) = _ from h]; decide, by rw [places_len h]; rfl, (fun _ h => by cases h), (fun _ _ _ h => by cases h), List.Pairwise.nil⟩
def frB (D dl dd : Addr) (k : Nat) (rs : List Int) (tt : Tok) (mm : PySem.Str → Option Value) : PySem.Str → Option Value := fun y => if y = PySem.Str.ofString "ranks" then some (.ref D) else if y = PySem.Str.ofString "writer" then some (.ref (wK k)) else if y = PySem.Str.ofString "text" then some (.str (tx (rs.flatMap fun r => [sgK k r])) tt) else if y = PySem.Str.ofString "lines" then some (.ref dl) else if y = PySem.Str.ofString "due" then some (.ref dd) else mm y
theorem fr_frB {g h : Heap} {L D dl dd : Addr} {k : Nat} {rs : List Int} {tt : Tok} {m : PySem.Str → Option Value} (F : Fr g L h m) (f0 : m (PySem.Str.ofString "ranks") = some (.ref D)) (f1 : m (PySem.Str.ofString "writer") = some (.ref (wK k))) (f2 : m (PySem.Str.ofString "text") = some (.str (tx (rs.flatMap fun r => [sgK k r])) tt))
    (f3 : m (PySem.Str.ofString "lines") = some (.ref dl)) (f4 : m (PySem.Str.ofString "due") = some (.ref dd)) : Fr g L h (frB D dl dd k rs tt m) := by
  have e : m = frB D dl dd k rs tt m := funext fun y => by
    unfold frB
    repeat' split
    · rename_i e; rw [e, f0]
    · rename_i e; rw [e, f1]
    · rename_i e; rw [e, f2]
    · rename_i e; rw [e, f3]
    · rename_i e; rw [e, f4]
    · rfl
  rw [← e]
  exact F
/-- a name and what holds its text -/
abbrev nameOf (k : Nat) (rs : List Int) (x dx : Addr) (hs : Int) (n : Nat) (a b : Tok) (qs : List (Addr × Obj)) : List (Addr × Obj) := (x, instObj 127 dx) :: (dx, dictOf [⟨hs, .str (PySem.Str.ofString "text") a, .str (tx ([123, 117, 125] ++ rs.flatMap (spK k))) b⟩] n) :: qs
section
variable {w : World} {A : Around} {env : Env} {x : PySem.Str} {px : Pos} {body : List Stmt} {Q : Flow → Shared → Prop} {s₁ : Shared}
def TurnB (w : World) (g : Heap) (L D dl dd : Addr) (k : Nat) (tl : List (Addr × Obj)) (rs0 : List Int) (tt : Tok) (i : Nat) (rs : List Int) (ol od : Obj) (ls ds : List (Int × Value)) (qs : List (Addr × Obj)) (I : Addr) (oI : Obj) (h : Heap) : Prop :=
  ∃ (mm : PySem.Str → Option Value) (ol' od' : Obj) (x dx : Addr) (hs : Int) (n : Nat) (a b t : Tok), ol'.IsDictOf (PySem.intKind pg w) (ls ++ [((i : Int), .ref x)]) ∧ od'.IsDictOf (PySem.intKind pg w) (ds ++ [(3 + ((tx (rs.flatMap (spK k))).length : Int), .int (i : Int) t)]) ∧
    (∀ p ∈ (I, oI) :: (dd, od) :: (dl, ol) :: (tl ++ qs), p.1 < dx) ∧ dx < x ∧ Fr g L h (frB D dl dd k rs0 tt mm) ∧ News g L h (nameOf k rs x dx hs n a b ((I, oI) :: (dd, od') :: (dl, ol') :: (tl ++ qs)))
/-- what the walk shows of a turn that tells an end -/
def BodyB (w : World) (A : Around) (env : Env) (x : PySem.Str) (px : Pos) (body : List Stmt) (Q : Flow → Shared → Prop) (s₁ : Shared) (g : Heap) (L D dl dd : Addr) (k : Nat) (r0 r1 r2 r3 r4 : Int) (tl : List (Addr × Obj)) (tt : Tok) : Prop :=
  ∀ (i : Nat) (tv : Tok) (mm : PySem.Str → Option Value) (r : Int) (rs : List Int) (ol od : Obj) (ls ds : List (Int × Value)) (qs : List (Addr × Obj)) (I : Addr) (oI : Obj), i ≤ 5 → List.drop i [r0, r1, r2, r3, r4] = r :: rs → (∀ x ∈ r :: rs, R8 x) → (r :: rs).length ≤ 5 → rs.length ≤ 4 →
    ol.IsDictOf (PySem.intKind pg w) ls → (∀ p ∈ ls, p.1 ≠ (i : Int)) → ls.length ≤ 100 → od.IsDictOf (PySem.intKind pg w) ds → (∀ p ∈ ds, p.1 ≠ 3 + ((tx ((r :: rs).flatMap (spK k))).length : Int)) → ds.length ≤ 100 → I ≠ dl → I ≠ dd → (∀ p ∈ tl ++ qs, p.1 ≠ dl) → (∀ p ∈ tl ++ qs, p.1 ≠ dd) →
    TurnI PySem.Challenge.rw_yh0017_01.row.prog w A env x px body Q s₁ (.int (i : Int) tv) I oI (fun h => Fr g L h (frB D dl dd k [r0, r1, r2, r3, r4] tt mm) ∧ News g L h ((I, oI) :: (dd, od) :: (dl, ol) :: (tl ++ qs)))
      (TurnB w g L D dl dd k tl [r0, r1, r2, r3, r4] tt i (r :: rs) ol od ls ds qs I oI)
def InvB (w : World) (g : Heap) (L D dl dd : Addr) (k : Nat) (r0 r1 r2 r3 r4 : Int) (tl : List (Addr × Obj)) (tt : Tok) (i : Nat) (I : Addr) (oI : Obj) (h : Heap) : Prop :=
  ∃ (mm : PySem.Str → Option Value) (ol od : Obj) (bs : List (Int × Addr)) (ds : List (Int × Value)) (qs : List (Addr × Obj)), Places i bs ∧ DueIs k r0 r1 r2 r3 r4 i ds ∧ ol.IsDictOf (PySem.intKind pg w) (linesOf bs) ∧ od.IsDictOf (PySem.intKind pg w) ds ∧ NamesIn k r0 r1 r2 r3 r4 bs qs ∧ (bs.map (·.2)).Nodup ∧
    (dd ≠ I ∧ dl ≠ I ∧ ∀ p ∈ tl ++ qs, p.1 ≠ I) ∧ (∀ p ∈ tl ++ qs, p.1 ≠ dl) ∧ (∀ p ∈ tl ++ qs, p.1 ≠ dd) ∧ Fr g L h (frB D dl dd k [r0, r1, r2, r3, r4] tt mm) ∧ News g L h ((I, oI) :: (dd, od) :: (dl, ol) :: (tl ++ qs))
theorem app_mem {α : Type} {P : α → Prop} {a b c : List α} (h : ∀ p ∈ a ++ b, P p) (hc : ∀ p ∈ c, P p) : ∀ p ∈ a ++ (c ++ b), P p := by
  intro p hp
  rcases List.mem_append.mp hp with hp | hp
  · exact h p (List.mem_append_left _ hp)
  · rcases List.mem_append.mp hp with hp | hp
    · exact hc p hp
    · exact h p (List.mem_append_right _ hp)
variable {g : Heap} {L D dl dd ra : Addr} {ol od : Obj} {k : Nat} {r0 r1 r2 r3 r4 : Int} {tl news : List (Addr × Obj)} {tt : Tok} {m : PySem.Str → Option Value} {t' u' v' : Tok}
theorem loopR_build (hk5 : k < 5) (h8 : In8 r0 r1 r2 r3 r4) (hr : IsRange s₁.heap ra 0 5 1 t' u' v') (F : Fr g L s₁.heap m) (N : News g L s₁.heap news) (f0 : m (PySem.Str.ofString "ranks") = some (.ref D)) (f1 : m (PySem.Str.ofString "writer") = some (.ref (wK k))) (f2 : m (PySem.Str.ofString "text") = some (.str (tx ([r0, r1, r2, r3, r4].flatMap fun r => [sgK k r])) tt))
    (f3 : m (PySem.Str.ofString "lines") = some (.ref dl)) (f4 : m (PySem.Str.ofString "due") = some (.ref dd)) (md : (dd, od) ∈ news) (ml : (dl, ol) ∈ news) (mt : ∀ p ∈ tl, p ∈ news) (hol : ol.IsDictOf (PySem.intKind pg w) [(-1, .none)]) (hod : od.IsDictOf (PySem.intKind pg w) []) (hp : 0 < s₁.toks)
    (nld : ∀ p ∈ tl, p.1 ≠ dl) (ndd : ∀ p ∈ tl, p.1 ≠ dd)
    (hb : BodyB w A env x px body Q s₁ g L D dl dd k r0 r1 r2 r3 r4 tl tt)
    (hd : ∀ (mm : PySem.Str → Option Value) (ol od : Obj) (t0 t1 t2 t3 t4 : Tok) (bs : List (Int × Addr)) (qs : List (Addr × Obj)) h' tk, 0 < tk → Fr g L h' (frB D dl dd k [r0, r1, r2, r3, r4] tt mm) → News g L h' ((dd, od) :: (dl, ol) :: (tl ++ qs)) → ol.IsDictOf (PySem.intKind pg w) (linesOf bs) → od.IsDictOf (PySem.intKind pg w) (dueOf k r0 r1 r2 r3 r4 t0 t1 t2 t3 t4) →
      (∀ p ∈ tl ++ qs, p.1 ≠ dl) → Left (Key r0 r1 r2 r3 r4) bs [] bs → NamesIn k r0 r1 r2 r3 r4 bs (tl ++ qs) → (bs.map (·.2)).Nodup → Q .next { s₁ with heap := h', toks := tk }) :
    LoopR PySem.Challenge.rw_yh0017_01.row.prog w A env x px body Q (.ref ra) s₁ := by
  have hlt : ∀ p ∈ news, p.1 ≠ s₁.heap.objs.size := fun p hp => Nat.ne_of_lt (Heap.lt_size (N p hp).1)
  refine ⟨ra, 5, t', u', v', InvB w g L D dl dd k r0 r1 r2 r3 r4 tl tt, rfl, hp, hr, rfl, rfl, ?_, ?_, ?_, ?_, ?_⟩
  · intro h' oI e hk
    have e0 : tl ++ [] = tl := List.append_nil tl
    refine ⟨m, ol, od, [], [], [], rfl, rfl, hol, hod, (fun q hq => by cases hq), List.nodup_nil, ⟨hlt _ md, hlt _ ml, ?_⟩, ?_, ?_, fr_frB (F.keeps hk) f0 f1 f2 f3 f4, ?_⟩ <;> rw [e0]
    · exact fun p hp => hlt p (mt p hp)
    · exact nld
    · exact ndd
    · exact news_start F (news_sub N (all_cons md (all_cons ml mt))) e hk
  · rintro i I oI h' ⟨mm, ol, od, bs, ds, qs, _, _, _, _, _, _, _, _, _, F, N⟩
    exact (N _ (.head _)).1
  · rintro i I oI oI' h' h'' ⟨mm, ol, od, bs, ds, qs, a1, a2, a3, a4, a5, a6, ne, a7, a8, F, N⟩ e hk
    exact ⟨mm, ol, od, bs, ds, qs, a1, a2, a3, a4, a5, a6, ne, a7, a8, fr_but F (N _ (.head _)).2 hk, news_butc N (all_cons ne.1 (all_cons ne.2.1 ne.2.2)) e hk⟩
  · intro i tv hi I oI h' tk E' htk inv
    obtain ⟨mm, ol, od, bs, ds, qs, a1, a2, a3, a4, a5, a6, ne, a7, a8, F, N⟩ := inv
    have hdr : List.drop i [r0, r1, r2, r3, r4] = [r0, r1, r2, r3, r4][i] :: List.drop (i + 1) [r0, r1, r2, r3, r4] := List.drop_eq_getElem_cons hi
    have hl : (List.drop (i + 1) [r0, r1, r2, r3, r4]).length ≤ 4 := by rw [List.length_drop]; exact Nat.sub_le_sub_left (Nat.le_add_left 1 i) 5
    refine (hb i tv mm _ _ ol od (linesOf bs) ds qs I oI (Nat.le_of_lt hi) hdr (by rw [← hdr]; exact mem_drop8 h8 i) (Nat.succ_le_succ hl) hl a3 (places_ne a1)
      (by unfold linesOf; rw [List.length_cons, List.length_map, places_len a1]; omega) a4 (due_ne hk5 h8 hi a2 hdr) (by rw [due_len a2]; omega) (Ne.symm ne.2.1) (Ne.symm ne.1) a7 a8).mono (K' := InvB w g L D dl dd k r0 r1 r2 r3 r4 tl tt (i + 1) I oI) (fun _ x => x) ?_ h' tk E' htk ⟨F, N⟩
    rintro h'' ⟨mm', ol', od', x, dx, hs, n, a, b, t, b1, b2, lt, dlt, F', N'⟩
    have nx : ∀ p ∈ (I, oI) :: (dd, od) :: (dl, ol) :: (tl ++ qs), p.1 ≠ x ∧ p.1 ≠ dx := fun p hp => ⟨Nat.ne_of_lt (Nat.lt_trans (lt p hp) dlt), Nat.ne_of_lt (lt p hp)⟩
    have nI := nx _ (.head _)
    have nd' := nx _ (.tail _ (.head _))
    have nl := nx _ (.tail _ (.tail _ (.head _)))
    refine ⟨mm', ol', od', bs ++ [((i : Int), x)], _, nameOf k ([r0, r1, r2, r3, r4][i] :: List.drop (i + 1) [r0, r1, r2, r3, r4]) x dx hs n a b [] ++ qs, places_succ a1, ⟨ds, t, a2, by rw [LN_of hdr]⟩, lines_app ▸ b1, b2, ?_, ?_, ⟨ne.1, ne.2.1, ?_⟩, ?_, ?_, F', ?_⟩
    · intro q hq
      rcases List.mem_append.mp hq with hq | hq
      · obtain ⟨c1, dx', hs', n', a', b', m1, m2⟩ := a5 q hq
        exact ⟨c1, dx', hs', n', a', b', List.mem_append_right _ m1, List.mem_append_right _ m2⟩
      · rw [List.mem_singleton.mp hq]
        refine ⟨⟨Int.natCast_nonneg _, by show (i : Int) < 5; omega⟩, dx, hs, n, a, b, .head _, ?_⟩
        unfold endT
        rw [show ((i : Int)).toNat = i from rfl, hdr]
        exact .tail _ (.head _)
    · rw [List.map_append, List.nodup_append]
      refine ⟨a6, List.pairwise_singleton _ _, ?_⟩
      intro p hp q hq e
      obtain ⟨z, hz, rfl⟩ := List.mem_map.mp hp
      obtain ⟨_, _, _, _, _, _, m1, _⟩ := a5 z hz
      rw [List.mem_singleton.mp hq] at e
      exact (nx _ (.tail _ (.tail _ (.tail _ (List.mem_append_right _ m1))))).1 e
    · exact app_mem ne.2.2 (all_cons (Ne.symm nI.1) (all_cons (Ne.symm nI.2) fun _ h => by cases h))
    · exact app_mem a7 (all_cons (Ne.symm nl.1) (all_cons (Ne.symm nl.2) fun _ h => by cases h))
    · exact app_mem a8 (all_cons (Ne.symm nd'.1) (all_cons (Ne.symm nd'.2) fun _ h => by cases h))
    · refine news_sub N' (all_cons (.tail _ (.tail _ (.head _))) (all_cons (.tail _ (.tail _ (.tail _ (.head _)))) (all_cons (.tail _ (.tail _ (.tail _ (.tail _ (.head _))))) ?_)))
      exact app_mem (P := fun p => p ∈ _) (fun p hp => .tail _ (.tail _ (.tail _ (.tail _ (.tail _ hp))))) (all_cons (.head _) (all_cons (.tail _ (.head _)) fun _ h => by cases h))
  · rintro I oI h' h'' tk htk ⟨mm, ol, od, bs, ds, qs, a1, a2, a3, a4, a5, a6, ne, a7, a8, F, N⟩ hk
    obtain ⟨t0, t1, t2, t3, t4, rfl⟩ := due_five a2
    refine hd mm ol od t0 t1 t2 t3 t4 bs qs h'' tk htk (fr_but F (N _ (.head _)).2 hk) (news_but (news_tl N) (all_cons ne.1 (all_cons ne.2.1 ne.2.2)) hk) a3 a4 a7 (left_places a1) (fun q hq => ?_) a6
    obtain ⟨c1, dx', hs', n', a', b', m1, m2⟩ := a5 q hq
    exact ⟨c1, dx', hs', n', a', b', List.mem_append_right _ m1, List.mem_append_right _ m2⟩
end
/-! the head: three tables at an open place -/
theorem wK_at {k : Nat} (hk5 : k < 5) : [Value.ref 145, .ref 152, .ref 159, .ref 166, .ref 173][k]? = some (.ref (wK k)) := by
  rcases k5 hk5 with rfl | rfl | rfl | rfl | rfl <;> rfl
def pick5 {α : Type} (a b c d e : α) : Nat → α
  | 0 => a
  | 1 => b
  | 2 => c
  | 3 => d
  | _ => e
theorem ref_at {k : Nat} {S0 S1 S2 S3 S4 : Addr} (hk5 : k < 5) : [Value.ref S0, .ref S1, .ref S2, .ref S3, .ref S4][k]? = some (.ref (pick5 S0 S1 S2 S3 S4 k)) := by
  rcases k5 hk5 with rfl | rfl | rfl | rfl | rfl <;> rfl
theorem sg_at {k : Nat} {t0 t1 t2 t3 t4 : Tok} (hk5 : k < 5) : [Value.str (PySem.Str.ofString "\t\n\x0d\"&><a") t0, .str (PySem.Str.ofString "\t\n\x0d&><\"a") t1, .str (PySem.Str.ofString "\t\n\x0d&>\"<a") t2, .str (PySem.Str.ofString "\t\n\"\x0d&><a") t3, .str (PySem.Str.ofString "\t\n\x0d&<\">a") t4][k]? = some (.str (tx (sgs k)) (pick5 t0 t1 t2 t3 t4 k)) := by
  rcases k5 hk5 with rfl | rfl | rfl | rfl | rfl
  · rw [← sg_a]; rfl
  · rw [← sg_b]; rfl
  · rw [← sg_c]; rfl
  · rw [← sg_d]; rfl
  · rw [← sg_e]; rfl
theorem subT {prog : Program} {w : World} {A : Around} {s : Shared} {E : Value → Shared → Prop} {h₀ : Heap} {L D : Addr} {news : List (Addr × Obj)} {value slice : PySem.Expr} {its : Array Value} {n k : Nat} {u : Tok} {x : Value} {Q : Value → Shared → Prop} (hk5 : k < 5) (N : News h₀ L s.heap news) (hm : (D, PySem.W.listOf its n) ∈ news) (hx : its.toList[k]? = some x) (h : Q x s)
    (hs : subscripted slice false (.ref D) (.int (k : Int) u) = operate [.ref D, .int (k : Int) u] (getItem (.ref D) (.int (k : Int) u)) := by with_unfolding_all rfl) :
    wpAny (model prog w) A (subscriptTail value slice (.ref D) (.int (k : Int) u)) Q E s :=
  kba_turn (value' := PySem.Expr.Name (PySem.Str.ofString "_") ⟨0, 0, 0, 0⟩) (fun _ => rfl) (sub5 N hm (Int.natCast_nonneg k) (by omega) hx h hs fun _ => rfl)
theorem spell_at {k : Nat} {h₀ h : Heap} {L : Addr} {o : Obj} {news : List (Addr × Obj)} {S0 S1 S2 S3 S4 : Addr} {i0 i1 i2 i3 i4 : Array Value} {n0 n1 n2 n3 n4 : Nat} (hk5 : k < 5) (_N : News h₀ L h news) (d : o.data = .cell (some (.ref (pick5 S0 S1 S2 S3 S4 k)))) (m0 : (S0, PySem.W.listOf i0 n0) ∈ news) (m1 : (S1, PySem.W.listOf i1 n1) ∈ news) (m2 : (S2, PySem.W.listOf i2 n2) ∈ news) (m3 : (S3, PySem.W.listOf i3 n3) ∈ news) (m4 : (S4, PySem.W.listOf i4 n4) ∈ news)
    (h0 : ∀ i < 8, ∃ u, i0[i]? = some (.str (tx ((spls 0).getD i [])) u)) (h1 : ∀ i < 8, ∃ u, i1[i]? = some (.str (tx ((spls 1).getD i [])) u)) (h2 : ∀ i < 8, ∃ u, i2[i]? = some (.str (tx ((spls 2).getD i [])) u)) (h3 : ∀ i < 8, ∃ u, i3[i]? = some (.str (tx ((spls 3).getD i [])) u)) (h4 : ∀ i < 8, ∃ u, i4[i]? = some (.str (tx ((spls 4).getD i [])) u)) :
    ∃ S its n, o.data = .cell (some (.ref S)) ∧ (S, PySem.W.listOf its n) ∈ news ∧ ∀ i < 8, ∃ u, its[i]? = some (.str (tx ((spls k).getD i [])) u) := by
  rcases k5 hk5 with rfl | rfl | rfl | rfl | rfl
  · exact ⟨_, _, _, d, m0, h0⟩
  · exact ⟨_, _, _, d, m1, h1⟩
  · exact ⟨_, _, _, d, m2, h2⟩
  · exact ⟨_, _, _, d, m3, h3⟩
  · exact ⟨_, _, _, d, m4, h4⟩
end
/-! So -/
section
open PySem.Spec PySem.Calls
variable (w : World) (mean : ExcName → Option Value) (mg mb : PySem.Str → Option Value)
/-- a call that holds one list of the caller's in hand and changes nothing that stands -/
abbrev CtS (w : World) (mean : ExcName → Option Value) (mg mb : PySem.Str → Option Value) (D : Addr) (o : Obj) (c : Sem Value) (post : Heap → Heap → Value → Prop) : Prop :=
  ∀ (dp un : Nat) (gd : Option (List Code)) (cn : PySem.Str) (cs : Scope) (a : Addr) (ccd : Value) (cl : List (PySem.Str × Addr)) (outer : List Env) (A₀ : Around) (base h₀ : Heap) (L : Addr) (m : PySem.Str → Option Value) (s : Shared) (Q E : Value → Shared → Prop),
    Below A₀ base outer h₀ → Fr h₀ L s.heap m → News h₀ L s.heap [(D, o)] → (hd.heap_1 w.params).In h₀ → Top hd.view_1 (looseW hd.view_1 []) mean mg mb h₀ → cs.kind = .function →
    dp + 60 < recursionLimit → un + 300 < cLine → 0 < s.toks →
    (∀ v h' tk', (∀ b o, s.heap.get? b = some o → h'.get? b = some o) → post s.heap h' v → 0 < tk' → Q v { s with heap := h', toks := tk' }) →
      wpAny (model PySem.Challenge.rw_yh0017_01.row.prog w) (ktrTop dp un gd cn cs L a ccd cl outer) c Q E s
structure CutK (M : Model) (A : Around) (rest : List Stmt) (env : Env) (Q : Flow → Shared → Prop) (E : Value → Shared → Prop) (P : Shared → Prop) : Prop where
  go : ∀ s', P s' → wpAny M A (execs rest env) Q E s'
structure Mid (g : Heap) (L : Addr) (m0 : PySem.Str → Option Value) (D : Addr) (oD : Obj) (k : Nat) (s s' : Shared) : Prop where
  ex : ∃ (h' : Heap) (tk : Nat) (o1 o2 : Obj) (S : Addr) (its : Array Value) (n : Nat) (t : Tok), s' = { s with heap := h', toks := tk } ∧ 0 < tk ∧ Fr g L h' (fun y => if y = PySem.Str.ofString "writer" then some (.ref (wK k)) else m0 y) ∧
    News g L h' [(S, listOf its n), (L + 1 + 1, o2), (L + 1, o1), (D, oD)] ∧ o1.data = .cell (some (.str (tx (sgs k)) t)) ∧ o2.data = .cell (some (.ref S)) ∧ (∀ i < 8, ∃ u, its[i]? = some (.str (tx ((spls k).getD i [])) u))
theorem cut3F {M : Model} {A : Around} {a b c : Stmt} {rest : List Stmt} {env : Env} {Q : Flow → Shared → Prop} {E : Value → Shared → Prop} {s' : Shared} {g h : Heap} {L : Addr} {m0 : PySem.Str → Option Value} (F : Fr g L h m0) (D : Addr) (oD : Obj) (k : Nat) (s : Shared)
    (h : CutK M A rest env Q E (Mid g L m0 D oD k s)) (h1 : CutK M A rest env Q E (Mid g L m0 D oD k s) → wpAny M A (execs (a :: b :: c :: rest) env) Q E s') : wpAny M A (execs (a :: b :: c :: rest) env) Q E s' := h1 h
theorem cut4 {M : Model} {A : Around} {a b c d : Stmt} {rest : List Stmt} {env : Env} {Q : Flow → Shared → Prop} {E : Value → Shared → Prop} {s : Shared} (P : Shared → Prop) (h : CutK M A rest env Q E P)
    (h1 : CutK M A rest env Q E P → wpAny M A (execs (a :: b :: c :: d :: rest) env) Q E s) : wpAny M A (execs (a :: b :: c :: d :: rest) env) Q E s := h1 h
/-- the answer is a new list that holds the falling order -/
def SortPost (r0 r1 r2 r3 r4 : Int) (h h' : Heap) (v : Value) : Prop := ∃ (T : Addr) (o0 o1 o2 o3 o4 : Int) (w0 w1 w2 w3 w4 : Tok) (nn : Nat), v = .ref T ∧ h.get? T = none ∧ h'.get? T = some (listOf #[.int o0 w0, .int o1 w1, .int o2 w2, .int o3 w3, .int o4 w4] nn) ∧ IsFall r0 r1 r2 r3 r4 o0 o1 o2 o3 o4
theorem len_five {α : Type} : ∀ {c : List α}, c.length = 5 → ∃ p0 p1 p2 p3 p4, c = [p0, p1, p2, p3, p4]
  | [a, b, c, d, e], _ => ⟨a, b, c, d, e, rfl⟩
theorem sort_post {r0 r1 r2 r3 r4 : Int} {h h' : Heap} {T : Addr} {es : Array Value} {nn : Nat} {c : List Int} {bs xs : List (Int × Addr)} (h0 : h.get? T = none) (h1 : h'.get? T = some (listOf es nn)) (hc : c.length = 5) (hes : IntsAre es.toList c) (Lf : Left (Key r0 r1 r2 r3 r4) bs c xs) : SortPost r0 r1 r2 r3 r4 h h' (.ref T) := by
  obtain ⟨p0, p1, p2, p3, p4, rfl⟩ := len_five hc
  obtain ⟨l⟩ := es
  obtain ⟨y0, y1, y2, y3, y4, rfl⟩ := ys_five hes
  exact ⟨T, p0, p1, p2, p3, p4, y0, y1, y2, y3, y4, nn, rfl, h0, h1, (Left.done Lf).1⟩
theorem sorted_ct (D : Addr) (k : Nat) (hk5 : k < 5) (r0 r1 r2 r3 r4 : Int) (t0 t1 t2 t3 t4 tk0 : Tok) (n : Nat) (h8 : In8 r0 r1 r2 r3 r4) :
   CtS w mean mg mb D (listOf #[.int r0 t0, .int r1 t1, .int r2 t2, .int r3 t3, .int r4 t4] n) (call (.ref 178) [.ref D, .int k tk0]) (fun h h' v => SortPost r0 r1 r2 r3 r4 h h' v) := by
  dsimp only [CtS]; k_fill; w_top off
  intro dp un gd cn cs a ccd cl outer A₀ base h₀ L m s Q E B F N X T hk hd hu hp hret
  have hL := Heap.lt_size (N _ (.head _)).1
  refine wpAny_call ?_
  (refine' enterGC ?k1 ?k2 ?k3 ?kN ?k5 ?kA ?kF ?kK ?k6 ?k7 ?k8 ?k9 ?kB ?kD ?_ ?c2 ?c3 ?c4; (case kA => exact rfl); (case kF => exact rfl); (case kK => first | exact rfl | assumption); (case k1 => k_asm); (case k2 => k_asm); (case k3 => k_asm); (case kN => assumption); (case k5 => k_asm); (case k6 => k_is); (case k7 => k_is); (case k8 => ktr_room); (case k9 => first | exact BindsTo.of_eq rfl | exact binds_K (by k_in) rfl (by k_is) rfl rfl rfl | fail "k_enter: no rule for these arguments"); (case kB => exact rfl); (case kD => decide +kernel); (case c2 => exact rfl); (case c3 => exact rfl); (case c4 => exact rfl); k_whole)
  intro g' L' h' tk' cells' htk' hsz' G' F' N' Y' B' X' T' l1'; k_lt l1'; k_cells Y'; (try simp only [List.cons_append, List.nil_append] at N'); (try dsimp only); (try k_lift B'); (try k_fold)
  refine cut3F F' D (listOf #[.int r0 t0, .int r1 t1, .int r2 t2, .int r3 t3, .int r4 t4] n) k s ?rest ?head
  case head =>
    intro hCut
    k_with_none
    k_with "execs cons" => (k_here; with_reducible refine execs_pos (by first | assumption | exact Nat.succ_pos _ | omega) ?_; intro tk' htk'; (try dsimp only))
    k_with "TokP" => (with_reducible refine tokP_in ?_; (try ((with_reducible rename (0 < _) => hold'); clear hold')); intro htk'; (try dsimp only); (try dsimp only at htk'))
    k_with "eval Name" => (k_here; k_dflt (first | (refine nameL rfl (by rfl) (by decide) (by k_asm) (by rfl) ?_; k_whole) | (refine nameC rfl (by rfl) (by decide) (by rfl) (by k_asm) (by k_mem) (by k_asm) ?_; k_whole) | (refine nameK rfl (by rfl) (by decide) (by k_asm) (by k_asm) (by k_asm) (by k_is) ?_; k_whole) | (refine nameB rfl (by rfl) (by decide) (by k_asm) (by k_asm) (by k_asm) (by k_is) (by boot_fast) (by decide) ?_; k_whole)))
    k_with "storeName" => (k_here; k_dflt (first | (refine storeL rfl (by rfl) (by k_asm) (by k_asm) ?_; k_whole; intro h' F' N'; (try k_sweep)) | (refine storeC rfl (by rfl) (by rfl) (by k_asm) (by k_asm) (by k_updF) (by k_asm) ?_; k_whole; intro h' o' F' N' d'; (try dsimp only at N'); (try k_sweep))))
    k_with "execs cons" => (k_here; (with_reducible refine CutK.go hCut _ ?_); with_reducible refine stopG ?_)
    k_with "subscriptTail List cons Name ref int" => (k_here; (with_reducible rename News _ _ _ _ => N9); k_dflt (first | (refine subT hk5 N9 (by k_mem) (by exact wK_at hk5) ?_; k_whole) | (refine subT hk5 N9 (by k_mem) (by exact sg_at hk5) ?_; k_whole) | (refine subT hk5 N9 (by k_mem) (by exact ref_at hk5) ?_; k_whole)))
    k_steps
    unfold StopG
    (with_reducible rename News _ _ _ _ => N9)
    (with_reducible rename Fr g' _ _ _ => F9)
    (with_reducible rename Obj.data _ = Data.cell (some (Value.ref _)) => d9)
    (with_reducible rename Obj.data _ = Data.cell (some (Value.str _ _)) => d8)
    obtain ⟨S, its, nS, d7, hm, hh⟩ := spell_at hk5 N9 d9 (by k_mem) (by k_mem) (by k_mem) (by k_mem) (by k_mem) (str8 sp_a) (str8 sp_b) (str8 sp_c) (str8 sp_d) (str8 sp_e)
    exact ⟨⟨_, _, _, _, S, its, nS, _, rfl, by first | assumption | exact Nat.succ_pos _ | omega, F9, news4 N9 hm (by k_mem) (by k_mem) (by k_mem), d8, d7, hh⟩⟩
  case rest =>
    constructor
    rintro s' ⟨hh, tk, o1, o2, S, its, nS, tS, rfl, htk, F0, N0, d1, d2, hsp⟩
    clear F' N'
    refine cut4 (Mid3 w g' L' D (listOf #[.int r0 t0, .int r1 t1, .int r2 t2, .int r3 t3, .int r4 t4] n) k r0 r1 r2 r3 r4 s) ?r2 ?h2
    case h2 =>
      intro hCut
      have hall : ∀ r ∈ [r0, r1, r2, r3, r4], R8 r := mem_drop8 h8 0
      k_with_none
      k_with "execs cons" => (k_here; with_reducible refine execs_pos (by first | assumption | exact Nat.succ_pos _ | omega) ?_; intro tk' htk'; (try dsimp only))
      k_with "TokP" => (with_reducible refine tokP_in ?_; (try ((with_reducible rename (0 < _) => hold'); clear hold')); intro htk'; (try dsimp only); (try dsimp only at htk'))
      k_with "eval Name" => (k_here; k_dflt (first | (refine nameL rfl (by rfl) (by decide) (by k_asm) (by rfl) ?_; k_whole) | (refine nameC rfl (by rfl) (by decide) (by rfl) (by k_asm) (by k_mem) (by k_asm) ?_; k_whole) | (refine nameK rfl (by rfl) (by decide) (by k_asm) (by k_asm) (by k_asm) (by k_is) ?_; k_whole) | (refine nameB rfl (by rfl) (by decide) (by k_asm) (by k_asm) (by k_asm) (by k_is) (by boot_fast) (by decide) ?_; k_whole)))
      k_with "storeName" => (k_here; k_dflt (first | (refine storeL rfl (by rfl) (by k_asm) (by k_asm) ?_; k_whole; intro h' F' N'; (try k_sweep)) | (refine storeC rfl (by rfl) (by rfl) (by k_asm) (by k_asm) (by k_updF) (by k_asm) ?_; k_whole; intro h' o' F' N' d'; (try dsimp only at N'); (try k_sweep))))
      k_with "callWith ref" => (k_here; k_dflt ( refine callWith_Kp (by ((try dsimp only); first | assumption | exact Nat.succ_pos _ | omega)) (by k_asm) (by first | exact keep_wK _ (by assumption) | k_is) ?_; k_whole))
      k_with "eval ListComp Subscript cons" => (k_here; k_dflt (first | ((with_reducible show wpAny _ _ (eval (Expr.ListComp (Expr.Subscript (Expr.Name (PySem.Str.ofString "signs") _) _ _) _ _ _) _) _ _ _); refine sign_comp hk5 (by rfl) (by rfl) (by rfl) (by rfl) ?_; k_whole) | ((with_reducible show wpAny _ _ (eval (Expr.ListComp (Expr.Subscript (Expr.Name (PySem.Str.ofString "spellings") _) _ _) _ _ _) _) _ _ _); refine spell_comp hk5 (by rfl) (by rfl) (by rfl) (by rfl) ?_; k_whole)))
      k_with "SrcS" => (k_here; (with_reducible rename Fr _ _ _ _ => F9); (with_reducible rename News _ _ _ _ => N9); k_dflt (first | ((with_reducible show SrcS _ _ _ _ _ _ (Expr.Subscript (Expr.Name (PySem.Str.ofString "signs") _) _ _) _ _ _ _); refine srcS_sign F9 N9 (by k_mem) (by exact Nat.le_of_ble_eq_true rfl) (by exact .cons _ _ (.cons _ _ (.cons _ _ (.cons _ _ (.cons _ _ .nil))))) hall hk5 (by k_mem) (by k_asm) (by rfl) (by rfl) (by rfl) (by rfl) ?_; k_whole; intro D' h' tk' l' nn' hl' F' N' l1; clear l1) | ((with_reducible show SrcS _ _ _ _ _ _ (Expr.Subscript (Expr.Name (PySem.Str.ofString "spellings") _) _ _) _ _ _ _); refine srcS_spellW F9 N9 hw h5r h8r (by k_mem) d2 (by k_mem) hsp (by rfl) (by rfl) (by rfl) (by rfl) ?_; k_whole; intro D' h' tk' l' nn' hl' F' N')))
      k_with "call builtin:str.join" => (k_here; (with_reducible rename News _ _ _ _ => N9); k_dflt (first | (refine join_sign N9 hl' (by exact Nat.le_of_ble_eq_true rfl) ?_; k_whole) | (refine join_spell N9 hl' hk5 h8r h5r ?_; k_whole)); intro N' t' k')
      k_with "eval Dict cons" => (k_here; (with_reducible rename Fr _ _ _ _ => F9); k_dflt (refine kdn_eval (knd := PySem.intKind _ _) F9 (by first | k_asm | exact News.nil) (by exact Top.nolimit (by k_asm)) (by rfl) (by rfl) (by exact List.cons_ne_nil _ _) (by exact Nat.le_of_ble_eq_true rfl) ?_; intro dl h' o' F' N' l1 lo1 hd'; (have ndl := fun p hp => Nat.ne_of_lt (l1 p hp)); clear l1))
      k_with "KdnMade" => (k_here; (with_reducible rename Fr _ _ _ _ => F9); (with_reducible rename News _ _ _ _ => N9); k_dflt (refine kdn_made_int F9 N9 (UpdF.head ndl) (by k_asm) (by rfl) (by exact of_decide_eq_true (by first | rfl | kernel_rfl!)) ?_; intro h' ol F' N' hol); (try dsimp only at N'); (try dsimp only [intKeyPairs, List.filterMap, List.map] at hol))
      k_with "eval Dict nil nil" => (k_here; k_dflt (refine newDict_K (by k_asm) (by k_asm) (TopRead.nolimit (by k_asm)) ?_; k_whole; intro dd h' od F' N' l1 lo2 hs' fs' hod fi'; clear hs' fs' fi'; (have ndd := fun p hp => Nat.ne_of_lt (l1 p hp)); (have nld : dl ≠ dd := Nat.ne_of_lt (l1 _ (.head _))); clear l1); (try k_sweep))
      k_with "exec For Name Call cons nil" => (k_here; k_dflt (refine for_rangeN rfl (by first | assumption | exact Nat.succ_pos _ | omega) ?_ (by intro _; rfl); k_whole))
      k_with "LoopR" => (k_here; (with_reducible rename IsRange _ _ _ _ _ _ _ _ => hRg); (with_reducible rename Fr _ _ _ _ => F9); (with_reducible rename News _ _ _ _ => N9); k_dflt (refine loopR_build (tl := [(S, listOf its nS), (L' + 1 + 1, o2), (L' + 1, o1), (D, listOf #[.int r0 t0, .int r1 t1, .int r2 t2, .int r3 t3, .int r4 t4] n)]) hk5 h8 hRg F9 N9 (by rfl) (by rfl) (by rfl) (by rfl) (by rfl) (by k_mem) (by k_mem) (all_cons (by k_mem) (all_cons (by k_mem) (all_cons (by k_mem) (all_cons (by k_mem) (fun _ h => by cases h))))) hol hod (by first | assumption | exact Nat.succ_pos _ | omega) ndl (fun p hp => ndd p (.tail _ hp)) ?_ (fun mm' ol' od' u0 u1 u2 u3 u4 bs qs h' tk' htk' F' N' hol' hod' hql' hLf hNI hnd => ?_); k_whole); clear hRg)
      k_with "BodyB" => (unfold BodyB TurnI; intro ii tv mm' r rs ol' od' ls ds qs I' oI' hi5 hdr h8r h5r h4r hol' hls hls100 hod' hds hds100 nIl nId hql hqd h' tk' E' htk' hFN; obtain ⟨F', N'⟩ := hFN; unfold frB at F'; (simp only [List.cons_append, List.nil_append] at N' hql hqd); (try dsimp only))
      k_with "subscriptTail Name Slice str ref" => (k_here; (with_reducible show wpAny _ _ (subscriptTail _ (Expr.Slice (some _) none none _) (Value.str (tx _) _) _) _ _ _); (with_reducible rename Fr _ _ _ _ => F9); (with_reducible rename News _ _ _ _ => N9); k_dflt (refine slice_strN_sn (hsz := by (rw [tx_len, sizeLine_eq]; exact Nat.le_of_ble_eq_true rfl)) (s := ⟨_, _, _, _, _⟩) F9 N9 ?_); clear F9 N9; intro h' t' k' F' N')
      k_with "subscriptTail Name Slice ref ref" => (k_here; (with_reducible show wpAny _ _ (subscriptTail _ (Expr.Slice (some _) none none _) (Value.ref _) _) _ _ _); (with_reducible rename Fr _ _ _ _ => F9); (with_reducible rename News _ _ _ _ => N9); k_dflt (refine slice_ranks (s := ⟨_, _, _, _, _⟩) F9 N9 (by k_mem) (.cons _ _ (.cons _ _ (.cons _ _ (.cons _ _ (.cons _ _ .nil))))) hdr (by (rw [sizeLine_eq]; exact Nat.le_of_ble_eq_true rfl)) ?_); clear F9 N9; intro D' ws h' F' N' hw)
      k_with "call ref" => (k_here; (with_reducible show wpAny _ _ (call (Value.ref (wK _)) [Value.str _ _]) _ _ _); (with_reducible rename Fr _ _ _ _ => F9); (with_reducible rename News _ _ _ _ => N9); k_dflt (refine use_writer hk5 ⟨rfl, hdr⟩ hi5 (by exact Nat.le_of_ble_eq_true rfl) hall (by k_asm) F9 N9 (by k_asm) (by k_asm) (by rfl) (by ((simp only [depth_deeper]); (try dsimp only); omega)) (by ((simp only [units_deeper]); (try dsimp only); omega)) (by ((try dsimp only); first | assumption | exact Nat.succ_pos _ | omega)) ?_; k_whole); intro t' h' tk' F' N' htk'; (try dsimp only))
      k_with "call ref" => (k_here; (with_reducible show wpAny _ _ (call (Value.ref 53) [Value.str _ _]) _ _ _); (with_reducible rename Fr _ _ _ _ => F9); (with_reducible rename News _ _ _ _ => N9); k_dflt (refine use_parse hk5 h8r h5r (by k_asm) F9 N9 (by k_asm) (by k_asm) (by rfl) (by ((simp only [depth_deeper]); (try dsimp only); omega)) (by ((simp only [units_deeper]); (try dsimp only); omega)) (by ((try dsimp only); first | assumption | exact Nat.succ_pos _ | omega)) ?_; k_whole); intro t' h' tk' F' N' htk'; (try dsimp only))
      k_with "call ref" => (k_here; (with_reducible show wpAny _ _ (call (Value.ref 127) [Value.str _ _, Value.str _ _]) _ _ _); (with_reducible rename Fr _ _ _ _ => F9); (with_reducible rename News _ _ _ _ => N9); k_dflt (refine use_qname hk5 h8r h4r (by k_asm) F9 N9 (by k_asm) (by k_asm) (by rfl) (by ((simp only [depth_deeper]); (try dsimp only); omega)) (by ((simp only [units_deeper]); (try dsimp only); omega)) (by ((try dsimp only); first | assumption | exact Nat.succ_pos _ | omega)) ?_; k_whole; intro x dx hsh n' t1' t2' h' tk' F' N' l1 l2 htk'; (have ldd := l1 _ (.tail _ (.head _))); (have ldl := l1 _ (.tail _ (.tail _ (.head _))))); (try dsimp only))
      k_with "call builtin:str.replace" => (k_here; k_dflt (refine use_replace hk5 h8r h5r (by ((show @Ne Nat _ _); omega)) (by ((show @Ne Nat _ _); omega)) (by ((show @Ne Nat _ _); omega)) ?_; k_whole); intro t' k')
      k_with "binaryOp Add str str" => (k_here; k_dflt (first | ((with_reducible show wpAny _ _ (binaryOp _ (Value.str (PySem.Str.ofString _) _) (Value.str (tx _) _)) _ _ _); refine add_front hk5 h8r h5r ?_; k_whole) | ((with_reducible show wpAny _ _ (binaryOp _ (Value.str (tx _) _) (Value.str (PySem.Str.ofString _) _)) _ _ _); refine add_back hk5 h8r h5r ?_; k_whole)); intro t' k')
      k_with "compareOp NotEq str str" => (k_here; k_dflt (refine ne_same (by rfl) ?_; k_whole))
      k_with "call builtin:len" => (k_here; k_dflt (refine use_len hk5 h8r h5r ?_; k_whole))
      k_with "setItem ref int" => (k_here; (with_reducible rename Fr _ _ _ _ => F9); (with_reducible rename News _ _ _ _ => N9); k_dflt (first | (refine kda_put F9 N9 (UpdF.tail (Nat.ne_of_gt (Nat.lt_trans ldl l2)) (UpdF.tail (Nat.ne_of_gt ldl) (UpdF.tail nIl (UpdF.tail (Ne.symm nld) (UpdF.head hql))))) hol' hls hls100 ?_; k_whole; intro h' ol2 F' N' hol2) | (refine kda_put F9 N9 (UpdF.tail (Nat.ne_of_gt (Nat.lt_trans ldd l2)) (UpdF.tail (Nat.ne_of_gt ldd) (UpdF.tail nId (UpdF.head (all_cons nld hqd))))) hod' hds hds100 ?_; k_whole; intro h' od2 F' N' hod2)); (try dsimp only at N'))
      k_with "execs cons" => (k_here; (with_reducible refine CutK.go hCut _ ?_); with_reducible refine stopG ?_)
      k_with "execs cons Assign cons" => (k_here; (with_reducible show wpAny _ _ (execs (Stmt.Assign [Expr.Name (PySem.Str.ofString "order") _] _ _ :: _) _) _ _ _); k_dflt (refine CutK.go hCut _ ?_); with_reducible refine stopG ?_)
      k_steps
      · (with_reducible rename News _ _ _ _ => N9)
        (with_reducible rename Fr _ _ _ _ => F9)
        exact ⟨_, _, _, x, dx, hsh, n', t1', t2', _, hol2, hod2, l1, l2, fr_frB F9 rfl rfl rfl rfl rfl, N9⟩
      · unfold StopG
        exact ⟨⟨_, _, _, dl, dd, ol', od', u0, u1, u2, u3, u4, bs, _, rfl, by first | assumption | exact Nat.succ_pos _ | omega, fr_pin2 F' rfl rfl, news_sub N' (all_cons (.tail _ (.head _)) (all_cons (.head _) fun p hp => .tail _ (.tail _ hp))), hol', hod', lo1, lo2, all_cons (Ne.symm nld) hql', hLf, hNI, hnd, List.mem_append_left _ (.tail _ (.tail _ (.tail _ (.head _))))⟩⟩
    case r2 =>
      clear htk F0 N0 d1 d2 hsp
      constructor
      rintro s' ⟨hh2, tk2, mm, dl, dd, ol, od, u0, u1, u2, u3, u4, bs, qs, rfl, htk2, F0, N0, hol, hod, lo1, lo2, hql, hLf0, hNI, hnd, hDq⟩
      k_with_none
      k_with "execs cons" => (k_here; with_reducible refine execs_pos (by first | assumption | exact Nat.succ_pos _ | omega) ?_; intro tk' htk'; (try dsimp only))
      k_with "TokP" => (with_reducible refine tokP_in ?_; (try ((with_reducible rename (0 < _) => hold'); clear hold')); intro htk'; (try dsimp only); (try dsimp only at htk'))
      k_with "eval Name" => (k_here; k_dflt (first | (refine nameL rfl (by rfl) (by decide) (by k_asm) (by rfl) ?_; k_whole) | (refine nameC rfl (by rfl) (by decide) (by rfl) (by k_asm) (by k_mem) (by k_asm) ?_; k_whole) | (refine nameK rfl (by rfl) (by decide) (by k_asm) (by k_asm) (by k_asm) (by k_is) ?_; k_whole) | (refine nameB rfl (by rfl) (by decide) (by k_asm) (by k_asm) (by k_asm) (by k_is) (by boot_fast) (by decide) ?_; k_whole)))
      k_with "storeName" => (k_here; k_dflt (first | (refine storeL rfl (by rfl) (by k_asm) (by k_asm) ?_; k_whole; intro h' F' N'; (try k_sweep)) | (refine storeC rfl (by rfl) (by rfl) (by k_asm) (by k_asm) (by k_updF) (by k_asm) ?_; k_whole; intro h' o' F' N' d'; (try dsimp only at N'); (try k_sweep))))
      k_with "callWith ref" => (k_here; k_dflt ( refine callWith_Kp (by ((try dsimp only); first | assumption | exact Nat.succ_pos _ | omega)) (by k_asm) (by first | exact keep_wK _ (by assumption) | k_is) ?_; k_whole))
      k_with "newList" => (k_here; k_dflt (refine newList_K (by k_asm) (by k_asm) ?_; k_whole; intro O h' F' N' lO; (have nlO : dl ≠ O := Nat.ne_of_lt (lO _ (.head _))); (have hqO : ∀ p ∈ (dd, od) :: qs, p.1 ≠ O := fun p hp => Nat.ne_of_lt (lO p (.tail _ hp))); clear lO); (try k_sweep))
      k_with "exec For Name Call cons nil" => (k_here; k_dflt (refine for_rangeN rfl (by first | assumption | exact Nat.succ_pos _ | omega) ?_ (by intro _; rfl); k_whole))
      k_with "LoopR" => (k_here; (with_reducible rename IsRange _ _ _ _ _ _ _ _ => hRg); (with_reducible rename News _ _ _ _ => N9); (with_reducible rename Fr _ _ _ _ => F9); k_dflt (refine loopR_turn (qs := qs) hRg F9 N9 (by rfl) (by rfl) (by rfl) (by k_mem) (by k_mem) (by k_mem) (fun p hp => .tail _ (.tail _ (.tail _ hp))) hol hLf0 (by first | assumption | exact Nat.succ_pos _ | omega) ?_ (fun mm' c xs ol' es n1 h' tk' htk' hc5 hes hLf hol' F' N' => ?_); k_whole); clear hRg)
      k_with "BodyT" => (unfold BodyT TurnI; intro ii tt mm' c xs ol' es n1 I' oI' hc hes hsz hLf hol' nIO nIl h' tk' E' htk' hFN; obtain ⟨F', N'⟩ := hFN; unfold frT at F'; (try dsimp only))
      k_with "call ref" => (k_here; (with_reducible show wpAny _ _ (call (Value.ref 21) [Value.ref _]) _ _ _); k_dflt (first | ((with_reducible rename Fr _ _ _ _ => F9); (with_reducible rename News _ _ _ _ => N9); refine use_widthF hk5 h8 hLf hc hNI hnd (fun p hp => .tail _ (.tail _ (.tail _ (.tail _ hp)))) (by k_mem) hol' lo1 (by k_asm) F9 N9 (by k_asm) (by k_asm) (by rfl) (by ((simp only [depth_deeper]); (try dsimp only); omega)) (by ((simp only [units_deeper]); (try dsimp only); omega)) (by ((try dsimp only); first | assumption | exact Nat.succ_pos _ | omega)) ?_; k_whole; intro p' t' h' tk' hp' hl' hv' hL' F' N' htk'; (try dsimp only)) | ((with_reducible rename Fr _ _ _ _ => F9); (with_reducible rename News _ _ _ _ => N9); refine use_width0 hLf hc5 (by k_mem) hol' lo1 (by k_asm) F9 N9 (by k_asm) (by k_asm) (by rfl) (by ((simp only [depth_deeper]); (try dsimp only); omega)) (by ((simp only [units_deeper]); (try dsimp only); omega)) (by ((try dsimp only); first | assumption | exact Nat.succ_pos _ | omega)) ?_; k_whole; intro t' h' tk' F' N' htk'; (try dsimp only))))
      k_with "compareOp NotIn int ref" => (k_here; k_dflt (first | ((with_reducible show wpAny _ _ (compareOp _ (Value.int (LN _ _ _ _ _ _ _) _) _) _ _ _); (with_reducible rename News _ _ _ _ => N9); refine due_notin hk5 h8 hp' N9 (by k_mem) hod lo2 ?_; k_whole) | ((with_reducible rename News _ _ _ _ => N9); refine lines_notin hv' N9 (by k_mem) hol' lo1 ?_; k_whole)))
      k_with "subscriptTail Name Name ref int" => (k_here; k_dflt ((with_reducible show wpAny _ _ (subscriptTail _ _ _ (Value.int (LN _ _ _ _ _ _ _) _)) _ _ _); (with_reducible rename News _ _ _ _ => N9); refine due_item hk5 h8 hp' N9 (by k_mem) hod ?_; k_whole; intro u'))
      k_with "call builtin:list.append" => (k_here; (with_reducible show wpAny _ _ (call (Value.builtin _) [Value.ref _, _]) _ _ _); (with_reducible rename Fr _ _ _ _ => F9); (with_reducible rename News _ _ _ _ => N9); k_dflt (refine append_K F9 N9 (Upd.tail nIO (Upd.head (all_cons nlO hqO))) ?_ hsz; k_whole); intro h' F' N'; (try k_sweep))
      k_with "delItem" => (k_here; (with_reducible rename Fr _ _ _ _ => F9); (with_reducible rename News _ _ _ _ => N9); k_dflt (refine lines_del hv' hp'.1 hl' F9 N9 (UpdF.tail nIl (UpdF.tail (Ne.symm nlO) (UpdF.head hql))) hol' ?_; k_whole); intro h' o' F' N' hd'; (try dsimp only at N'))
      k_steps
      · (with_reducible rename News _ _ _ _ => N9)
        (with_reducible rename Fr _ _ _ _ => F9)
        exact ⟨p', _, _, _, _, _, ints_push p' _ hes, hL', hd', fr_frT F9 rfl rfl rfl, N9⟩
      · refine hret _ _ _ (keep_of G' (N _ (.head _)).1 F' N' (.tail _ (.tail _ (.tail _ hDq)))) (sort_post ?_ (N' _ (.head _)).1 hc5 hes hLf) (Nat.succ_pos _)
        exact news_fresh (D := D) G' N' (.head _) (Ne.symm (hqO _ (.tail _ hDq)))

end
/-! Us -/
section
open PySem.Spec PySem.Calls
noncomputable def AllNe (d : Nat) : List (Addr × Obj) → Prop
  | [] => True
  | p :: r => @Ne Nat p.1 d ∧ AllNe d r
theorem allNe_of {d : Addr} : ∀ {l : List (Addr × Obj)}, (∀ p ∈ l, p.1 ≠ d) → AllNe d l
  | [], _ => trivial
  | p :: _, h => ⟨h p (.head _), allNe_of fun q hq => h q (.tail _ hq)⟩
theorem AllNe.at {d a : Nat} {o : Obj} : ∀ {l : List (Addr × Obj)}, AllNe d l → (a, o) ∈ l → @Ne Nat a d
  | _ :: _, h, .head _ => h.1
  | _ :: _, h, .tail _ hm => AllNe.at h.2 hm
theorem news_new {h₀ h h' : Heap} {L T : Addr} {o : Obj} {m : PySem.Str → Option Value} {news : List (Addr × Obj)} (F : Fr h₀ L h m) (N : News h₀ L h news) (hk : ∀ b o, h.get? b = some o → h'.get? b = some o) (e0 : h.get? T = none) (e : h'.get? T = some o) :
    News h₀ L h' ((T, o) :: news) ∧ ∀ p ∈ news, p.1 ≠ T := by
  have hT : T ≠ L := by
    rintro rfl
    obtain ⟨o', _, _, ho, _⟩ := F.ns
    rw [e0] at ho
    cases ho
  have h0 : h₀.get? T = none := by
    cases q : h₀.get? T with
    | none => rfl
    | some o' => rw [F.keep _ _ q] at e0; cases e0
  refine ⟨?_, ?_⟩
  · intro p hp
    rcases List.mem_cons.mp hp with rfl | hp
    · exact ⟨e, hT, h0⟩
    · exact ⟨hk _ _ (N p hp).1, (N p hp).2⟩
  · intro p hp hpt
    have := (N p hp).1
    rw [hpt, e0] at this
    cases this
theorem get_size {h : Heap} {T : Addr} (hs : @LE.le Nat _ h.objs.size T) : h.get? T = none := by
  cases e : h.get? T with
  | none => rfl
  | some o => exact absurd (Heap.lt_size e) (Nat.not_lt.mpr hs)
abbrev l5 (o0 o1 o2 o3 o4 : Int) (w0 w1 w2 w3 w4 : Tok) (n : Nat) : Obj := listOf #[.int o0 w0, .int o1 w1, .int o2 w2, .int o3 w3, .int o4 w4] n
section
variable {prog : Program} {w : World} {A : Around} {E : Value → Shared → Prop} {s : Shared} {h₀ : Heap} {L : Addr} {news : List (Addr × Obj)}
theorem is_l5 {o0 o1 o2 o3 o4 : Int} {w0 w1 w2 w3 w4 : Tok} {n : Nat} {a : Addr} (N : News h₀ L s.heap news) (hm : (a, l5 o0 o1 o2 o3 o4 w0 w1 w2 w3 w4 n) ∈ news) : s.heap.IsList a [.int o0 w0, .int o1 w1, .int o2 w2, .int o3 w3, .int o4 w4].toArray := ⟨_, (N _ hm).1, rfl, _, rfl⟩
theorem ints5 {o0 o1 o2 o3 o4 : Int} {w0 w1 w2 w3 w4 : Tok} : IntsAre [.int o0 w0, .int o1 w1, .int o2 w2, .int o3 w3, .int o4 w4] [o0, o1, o2, o3, o4] := .cons _ _ (.cons _ _ (.cons _ _ (.cons _ _ (.cons _ _ .nil))))
/-- two lists of the same five ints do not differ -/
theorem ne_l5 {o0 o1 o2 o3 o4 : Int} {w0 w1 w2 w3 w4 u0 u1 u2 u3 u4 : Tok} {n k : Nat} {a b : Addr} {Q : Value → Shared → Prop} (N : News h₀ L s.heap news) (ha : (a, l5 o0 o1 o2 o3 o4 w0 w1 w2 w3 w4 n) ∈ news) (hb : (b, l5 o0 o1 o2 o3 o4 u0 u1 u2 u3 u4 k) ∈ news) (hu : A.units + 64 < cLine)
    (h : Q (.bool false) s) : wpAny (model prog w) A (compareOp .NotEq (.ref a) (.ref b)) Q E s :=
  ne_intsK (is_l5 N ha) ints5 (is_l5 N hb) ints5 hu (by simpa using h)
end
section
variable {w : World} {mean : ExcName → Option Value} {mg mb : PySem.Str → Option Value} {dp un : Nat} {gd : Option (List Code)} {cn : PySem.Str} {cs : Scope} {a : Addr} {ccd : Value} {cl : List (PySem.Str × Addr)} {outer : List Env} {A₀ : Around} {base h₀ : Heap} {L : Addr} {m : PySem.Str → Option Value} {s : Shared} {Q E : Value → Shared → Prop} {news : List (Addr × Obj)}
variable {D : Addr} {r0 r1 r2 r3 r4 o0 o1 o2 o3 o4 : Int} {t0 t1 t2 t3 t4 : Tok} {n : Nat}
theorem one_of {o : Obj} (N : News h₀ L s.heap news) (hm : (D, o) ∈ news) : News h₀ L s.heap [(D, o)] := fun p hp => by
  rw [List.mem_singleton.mp hp]
  exact N _ hm
/-- the reckoned order in use, where the falling order is known -/
theorem use_fallK (N : News h₀ L s.heap news) (hm : (D, l5 r0 r1 r2 r3 r4 t0 t1 t2 t3 t4 n) ∈ news) (h8 : In8 r0 r1 r2 r3 r4) (hf : IsFall r0 r1 r2 r3 r4 o0 o1 o2 o3 o4) (B : Below A₀ base outer h₀) (F : Fr h₀ L s.heap m) (X : (hd.heap_1 w.params).In h₀) (T : Top hd.view_1 (looseW hd.view_1 []) mean mg mb h₀) (hk : cs.kind = .function)
    (hd' : dp + 20 < recursionLimit) (hu : un + 100 < cLine) (hp : 0 < s.toks)
    (h : ∀ T w0 w1 w2 w3 w4 nn h' tk', Fr h₀ L h' m → News h₀ L h' ((T, l5 o0 o1 o2 o3 o4 w0 w1 w2 w3 w4 nn) :: news) → (∀ p ∈ news, p.1 ≠ T) → 0 < tk' → Q (.ref T) { s with heap := h', toks := tk' }) :
    wpAny (model PySem.Challenge.rw_yh0017_01.row.prog w) (ktrTop dp un gd cn cs L a ccd cl outer) (call (.ref 183) [.ref D]) Q E s := by
  refine fall_ct w mean mg mb D r0 r1 r2 r3 r4 t0 t1 t2 t3 t4 n h8 dp un gd cn cs a ccd cl outer A₀ base h₀ L m s Q E B F (one_of N hm) X T hk hd' hu hp fun v h' tk' hkeep hpost ht => ?_
  obtain ⟨T', q0, q1, q2, q3, q4, w0, w1, w2, w3, w4, nn, rfl, e0, e, hf'⟩ := hpost
  obtain ⟨N', ne⟩ := news_new F N hkeep (get_size e0) e
  obtain ⟨rfl, rfl, rfl, rfl, rfl⟩ := fall_unique hf hf'
  exact h T' w0 w1 w2 w3 w4 nn h' tk' (F.keeps hkeep) N' ne ht
/-- what stands where the least text is told: two lists and the tuple of both -/
theorem use_least (N : News h₀ L s.heap news) (hm : (D, l5 o0 o1 o2 o3 o4 t0 t1 t2 t3 t4 n) ∈ news) (hf : IsFall r0 r1 r2 r3 r4 o0 o1 o2 o3 o4) (B : Below A₀ base outer h₀) (F : Fr h₀ L s.heap m) (X : (hd.heap_1 w.params).In h₀) (T : Top hd.view_1 (looseW hd.view_1 []) mean mg mb h₀) (hk : cs.kind = .function)
    (hd' : dp + 20 < recursionLimit) (hu : un + 100 < cLine) (hp : 0 < s.toks)
    (h : ∀ (L0 L1 L2 L3 L4 : Int) (b3 b2 b1 b0 : Bool) (T Dl Dr : Addr) (es : Array Value) (n1 n2 : Nat) (w0 w1 w2 w3 w4 : Tok) h' tk', ((3 ≤ L0 ∧ L0 < 8) ∧ (3 ≤ L1 ∧ L1 < 8) ∧ (3 ≤ L2 ∧ L2 < 8) ∧ (3 ≤ L3 ∧ L3 < 8) ∧ (3 ≤ L4 ∧ L4 < 8)) → In8 L0 L1 L2 L3 L4 → IsFall L0 L1 L2 L3 L4 o0 o1 o2 o3 o4 → IntsAre es.toList (risesB b3 b2 b1 b0) →
      Fr h₀ L h' m → News h₀ L h' ((T, { cls := .type "tuple", data := .seq #[.ref Dl, .ref Dr] }) :: (Dr, listOf es n2) :: (Dl, l5 L0 L1 L2 L3 L4 w0 w1 w2 w3 w4 n1) :: news) → (∀ p ∈ news, p.1 ≠ T) → (∀ p ∈ news, p.1 ≠ Dr) → (∀ p ∈ news, p.1 ≠ Dl) → @LT.lt Nat _ Dl Dr → @LT.lt Nat _ Dr T → 0 < tk' → Q (.ref T) { s with heap := h', toks := tk' }) :
    wpAny (model PySem.Challenge.rw_yh0017_01.row.prog w) (ktrTop dp un gd cn cs L a ccd cl outer) (call (.ref 190) [.ref D]) Q E s := by
  refine least_ct w mean mg mb D o0 o1 o2 o3 o4 t0 t1 t2 t3 t4 n hf.b0 hf.b1 hf.b2 hf.b3 hf.b4 dp un gd cn cs a ccd cl outer A₀ base h₀ L m s Q E B F (one_of N hm) X T hk hd' hu hp fun v h' tk' hkeep hpost ht => ?_
  obtain ⟨⟨b3, b2, b1, b0, T', Dl, Dr, es, n1, n2, w0, w1, w2, w3, w4, c3, c2, c1, c0, rfl, eT, eDr, hes, eDl, fl, fr, ft, l1, l2⟩⟩ := hpost
  have ok := least_ok hf c3 c2 c1 c0
  obtain ⟨i8, hf'⟩ := okL_fall hf ok
  obtain ⟨_, n3⟩ := news_new F N hkeep ft eT
  obtain ⟨_, n4⟩ := news_new F N hkeep fr eDr
  obtain ⟨_, n5⟩ := news_new F N hkeep fl eDl
  refine h _ _ _ _ _ b3 b2 b1 b0 T' Dl Dr es n1 n2 w0 w1 w2 w3 w4 h' tk' ⟨ok.1, ok.2.1, ok.2.2.1, ok.2.2.2.1, ok.2.2.2.2.1⟩ i8 hf' hes (F.keeps hkeep) ?_ n3 n4 n5 l1 l2 ht
  intro p hp
  rcases List.mem_cons.mp hp with rfl | hp
  · exact (news_new F N hkeep ft eT).1 _ (.head _)
  rcases List.mem_cons.mp hp with rfl | hp
  · exact (news_new F N hkeep fr eDr).1 _ (.head _)
  rcases List.mem_cons.mp hp with rfl | hp
  · exact (news_new F N hkeep fl eDl).1 _ (.head _)
  · exact ⟨hkeep _ _ (N p hp).1, (N p hp).2⟩
end
end
/-! Ut -/
section
open PySem.Spec PySem.Calls
section
variable {w : World} {mean : ExcName → Option Value} {mg mb : PySem.Str → Option Value} {dp un : Nat} {gd : Option (List Code)} {cn : PySem.Str} {cs : Scope} {a : Addr} {ccd : Value} {cl : List (PySem.Str × Addr)} {outer : List Env} {A₀ : Around} {base h₀ : Heap} {L : Addr} {m : PySem.Str → Option Value} {s : Shared} {Q E : Value → Shared → Prop} {news : List (Addr × Obj)}
variable {D : Addr} {r0 r1 r2 r3 r4 o0 o1 o2 o3 o4 : Int} {t0 t1 t2 t3 t4 : Tok} {n : Nat}
/-- the real sorting in use -/
theorem use_sorted {k : Nat} {tk0 : Tok} (hk5 : k < 5) (N : News h₀ L s.heap news) (hm : (D, l5 r0 r1 r2 r3 r4 t0 t1 t2 t3 t4 n) ∈ news) (h8 : In8 r0 r1 r2 r3 r4) (B : Below A₀ base outer h₀) (F : Fr h₀ L s.heap m) (X : (hd.heap_1 w.params).In h₀) (T : Top hd.view_1 (looseW hd.view_1 []) mean mg mb h₀) (hk : cs.kind = .function)
    (hd' : dp + 60 < recursionLimit) (hu : un + 300 < cLine) (hp : 0 < s.toks)
    (h : ∀ T o0 o1 o2 o3 o4 w0 w1 w2 w3 w4 nn h' tk', IsFall r0 r1 r2 r3 r4 o0 o1 o2 o3 o4 → Fr h₀ L h' m → News h₀ L h' ((T, l5 o0 o1 o2 o3 o4 w0 w1 w2 w3 w4 nn) :: news) → (∀ p ∈ news, p.1 ≠ T) → 0 < tk' → Q (.ref T) { s with heap := h', toks := tk' }) :
    wpAny (model PySem.Challenge.rw_yh0017_01.row.prog w) (ktrTop dp un gd cn cs L a ccd cl outer) (call (.ref 178) [.ref D, .int k tk0]) Q E s := by
  refine sorted_ct w mean mg mb D k hk5 r0 r1 r2 r3 r4 t0 t1 t2 t3 t4 tk0 n h8 dp un gd cn cs a ccd cl outer A₀ base h₀ L m s Q E B F (one_of N hm) X T hk hd' hu hp fun v h' tk' hkeep hpost ht => ?_
  obtain ⟨T', o0, o1, o2, o3, o4, w0, w1, w2, w3, w4, nn, rfl, e0, e, hf⟩ := hpost
  obtain ⟨N', ne⟩ := news_new F N hkeep e0 e
  exact h T' o0 o1 o2 o3 o4 w0 w1 w2 w3 w4 nn h' tk' hf (F.keeps hkeep) N' ne ht
/-- the same, where the falling order is known -/
theorem use_sortedK {k : Nat} {tk0 : Tok} (hk5 : k < 5) (N : News h₀ L s.heap news) (hm : (D, l5 r0 r1 r2 r3 r4 t0 t1 t2 t3 t4 n) ∈ news) (h8 : In8 r0 r1 r2 r3 r4) (hf : IsFall r0 r1 r2 r3 r4 o0 o1 o2 o3 o4) (B : Below A₀ base outer h₀) (F : Fr h₀ L s.heap m) (X : (hd.heap_1 w.params).In h₀) (T : Top hd.view_1 (looseW hd.view_1 []) mean mg mb h₀) (hk : cs.kind = .function)
    (hd' : dp + 60 < recursionLimit) (hu : un + 300 < cLine) (hp : 0 < s.toks)
    (h : ∀ T w0 w1 w2 w3 w4 nn h' tk', Fr h₀ L h' m → News h₀ L h' ((T, l5 o0 o1 o2 o3 o4 w0 w1 w2 w3 w4 nn) :: news) → (∀ p ∈ news, p.1 ≠ T) → 0 < tk' → Q (.ref T) { s with heap := h', toks := tk' }) :
    wpAny (model PySem.Challenge.rw_yh0017_01.row.prog w) (ktrTop dp un gd cn cs L a ccd cl outer) (call (.ref 178) [.ref D, .int k tk0]) Q E s := by
  refine use_sorted hk5 N hm h8 B F X T hk hd' hu hp fun T' q0 q1 q2 q3 q4 w0 w1 w2 w3 w4 nn h' tk' hf' F' N' ne ht => ?_
  obtain ⟨rfl, rfl, rfl, rfl, rfl⟩ := fall_unique hf hf'
  exact h T' w0 w1 w2 w3 w4 nn h' tk' F' N' ne ht
end
end
/-! Uw -/
section
open PySem.Spec PySem.Calls
/-- the number of a 1 and as many noughts as r says -/
def tenTo (r : Int) : Int := 10 ^ r.toNat
theorem r8 {r : Int} (h : R8 r) : r = 0 ∨ r = 1 ∨ r = 2 ∨ r = 3 ∨ r = 4 ∨ r = 5 ∨ r = 6 ∨ r = 7 := by
  unfold R8 at h
  omega
theorem ten_le {r : Int} (h : R8 r) : 1 ≤ tenTo r ∧ tenTo r < 100000000 := by
  rcases r8 h with rfl | rfl | rfl | rfl | rfl | rfl | rfl | rfl <;> decide +kernel
theorem ten_len {r : Int} (h : R8 r) : ((PySem.Str.ofString (toString (tenTo r))).length : Int) = 1 + r := by
  rcases r8 h with rfl | rfl | rfl | rfl | rfl | rfl | rfl | rfl <;> decide +kernel
section
variable {prog : Program} {w : World} {A : Around} {E : Value → Shared → Prop} {s : Shared}
theorem pow_ten {r : Int} {t u : Tok} {Q : Value → Shared → Prop} (h8 : R8 r) (h : Q (.int (tenTo r) s.toks) { s with toks := s.toks + 1 }) : wpAny (model prog w) A (binaryOp .Pow (.int 10 t) (.int r u)) Q E s :=
  pow_int_small (by unfold R8 at h8; omega) (by unfold R8 at h8; omega) (by decide) h
end
section
variable {w : World} {mean : ExcName → Option Value} {mg mb : PySem.Str → Option Value} {dp un : Nat} {gd : Option (List Code)} {cn : PySem.Str} {cs : Scope} {a : Addr} {ccd : Value} {cl : List (PySem.Str × Addr)} {outer : List Env} {A₀ : Around} {base h₀ : Heap} {L : Addr} {m : PySem.Str → Option Value} {s : Shared} {Q E : Value → Shared → Prop} {news : List (Addr × Obj)}
end
end
/-! Cl -/
section
open PySem.Spec PySem.Calls
theorem cutL {M : Model} {A : Around} {stmts : List Stmt} {env : Env} {Q : Flow → Shared → Prop} {E : Value → Shared → Prop} {s₁ : Shared} {g h' : Heap} {L D : Addr} {tk : Nat} {m : PySem.Str → Option Value} {news : List (Addr × Obj)} {o3 o4 o5 : Obj} {ys : List Value} {ns : List Int} {tkk : Tok}
    (hp : 0 < tk) (F : Fr g L h' m) (e1 : m (PySem.Str.ofString "ranks") = some (.ref D)) (e2 : m (PySem.Str.ofString "kind") = some (.int ((ns.sum + 18).fmod 5) tkk)) (N : News g L h' news) (m1 : (D, LCg.lst ys) ∈ news) (m3 : (L + 1 + 1 + 1, o3) ∈ news) (m4 : (L + 1 + 1 + 1 + 1, o4) ∈ news) (m5 : (L + 1 + 1 + 1 + 1 + 1, o5) ∈ news)
    (d3 : o3.data = .cell none) (d4 : o4.data = .cell none) (d5 : o5.data = .cell none) (n3 : @Ne Nat (L + 1 + 1 + 1) D) (n4 : @Ne Nat (L + 1 + 1 + 1 + 1) D) (n5 : @Ne Nat (L + 1 + 1 + 1 + 1 + 1) D)
    (hI : IntsAre ys (List.map (fun k' => ((ns.sum + 18).fdiv 15).fmod 2 + (1 + ((ns.sum + 18).fdiv 5).fmod 3) * k'.fmod 3) (List.take 5 ns ++ List.drop (((List.take 5 ns).length : Nat) : Int).toNat [1, 2, 0, 2, 0])))
    (h : ∀ (h' : Heap) (tk : Nat) (m : PySem.Str → Option Value) (D : Addr) (o3 o4 o5 : Obj) (k : Nat) (r0 r1 r2 r3 r4 : Int) (t0 t1 t2 t3 t4 tkk : Tok) (n : Nat), 0 < tk → k < 5 → In8 r0 r1 r2 r3 r4 → R8 r4 →
      Fr g L h' (fun y => if y = PySem.Str.ofString "ranks" then some (.ref D) else if y = PySem.Str.ofString "kind" then some (.int (k : Int) tkk) else m y) → News g L h' [(D, l5 r0 r1 r2 r3 r4 t0 t1 t2 t3 t4 n), (L + 1 + 1 + 1 + 1 + 1, o5), (L + 1 + 1 + 1 + 1, o4), (L + 1 + 1 + 1, o3)] →
      o3.data = .cell none → o4.data = .cell none → o5.data = .cell none → @Ne Nat (L + 1 + 1 + 1) D → @Ne Nat (L + 1 + 1 + 1 + 1) D → @Ne Nat (L + 1 + 1 + 1 + 1 + 1) D → wpAny M A (execs stmts env) Q E { s₁ with heap := h', toks := tk }) :
    StopG (wpAny M A (execs stmts env) Q E { s₁ with heap := h', toks := tk }) := by
  unfold StopG
  obtain ⟨x0, x1, x2, x3, x4, ex⟩ := drawn_five ns
  rw [ex] at hI
  simp only [List.map_cons, List.map_nil] at hI
  obtain ⟨t0, t1, t2, t3, t4, rfl⟩ := ys_five hI
  have b0 := rank_bounds ns.sum x0
  have b1 := rank_bounds ns.sum x1
  have b2 := rank_bounds ns.sum x2
  have b3 := rank_bounds ns.sum x3
  have b4 := rank_bounds ns.sum x4
  have k0 := Int.fmod_nonneg_of_pos (ns.sum + 18) (b := 5) (by decide)
  have k1 := Int.fmod_lt_of_pos (ns.sum + 18) (b := 5) (by decide)
  obtain ⟨k, hk, ek⟩ := int_fin ⟨k0, k1⟩
  rw [ek] at e2
  refine h h' tk m D o3 o4 o5 k _ _ _ _ _ t0 t1 t2 t3 t4 tkk 5 hp hk ⟨b0, b1, b2, b3, b4⟩ b4 (fr_pin2 F e1 e2) ?_ d3 d4 d5 n3 n4 n5
  intro p hp
  rcases List.mem_cons.mp hp with rfl | hp
  · exact N _ m1
  rcases List.mem_cons.mp hp with rfl | hp
  · exact N _ m5
  rcases List.mem_cons.mp hp with rfl | hp
  · exact N _ m4
  rcases List.mem_cons.mp hp with rfl | hp
  · exact N _ m3
  · cases hp
end
/-! La2 -/
section
open PySem.Spec PySem.Calls
/-- what a comprehension's source must tell, for its list to be given a plain local name -/
def SrcW (prog : Program) (w : World) (A : Around) (h₀ : Heap) (L : Addr) (m : PySem.Str → Option Value) (y : PySem.Str) (elt : Expr) (x : PySem.Str) (scope : Scope) (cl : List (PySem.Str × Addr)) (env : Env) (Q : Flow → Shared → Prop) (xv : Value) (s₁ : Shared) : Prop :=
  ∃ (R : Value → Value → Prop) (n : Nat) (P : Nat → Value → Prop) (itO : Obj) (fp : List Addr) (St : Nat → Heap → Prop),
      (∀ Q' E', Q' (.ref s₁.heap.objs.size) { s₁ with heap := s₁.heap.push itO } → wpAny (model prog w) A (pyIter xv) Q' E' s₁) ∧ Walks prog w A s₁.heap.objs.size fp [s₁.heap.objs.size] n P St ∧
      (∀ b ∈ fp, @LE.le Nat _ b s₁.heap.objs.size) ∧ (∀ H : Heap, (∀ b o, (s₁.heap.push itO).get? b = some o → H.get? b = some o) → St 0 H) ∧ n ≤ sizeLine ∧ Fr h₀ L s₁.heap m ∧
      (∀ i C v s₂ m₂ E', P i v → s₁.heap.get? C = none → s₂.heap.Ns C m₂ → m₂ x = some v → (∀ b o, s₁.heap.get? b = some o → s₂.heap.get? b = some o) → s₁.toks ≤ s₂.toks →
        wpAny (model prog w) A (eval elt (compEnvC scope cl C env)) (fun y s₃ => R v y ∧ Keeps s₂ s₃) E' s₂) ∧
      (∀ D h' tk ys nn vs, s₁.heap.objs.size ≤ D → h'.get? D = some (PySem.W.listOf ys nn) → vs.length = n → (∀ j v, vs[j]? = some v → P j v) → Paired R vs ys.toList → Fr h₀ L h' (fun z => if z = y then some (.ref D) else m z) → (∀ b o, b ≠ L → s₁.heap.get? b = some o → h'.get? b = some o) → Q .next { s₁ with heap := h', toks := tk })
section
variable {prog : Program} {w : World} {A : Around} {E : Value → Shared → Prop} {s : Shared} {env : Env} {h₀ : Heap} {L : Addr} {m : PySem.Str → Option Value}
/-- a comprehension over anything that is walked, whose list is given a plain local name -/
theorem lc_assignW {elt iter : Expr} {x y : PySem.Str} {px py : Pos} {scope : Scope} {cl : List (PySem.Str × Addr)} {pos spos : Pos} {Q : Flow → Shared → Prop}
    (F₀ : Fr h₀ L s.heap m) (hL : env.locals = L) (hsw : swapsWith (.ListComp elt [⟨.Name x px, iter, [], 0⟩] scope pos) (some (.Name y py)) spos.line env = pure true)
    (hclos : closureFor scope env = pure cl) (hcell : ∀ y ∈ scope.names, y.2 ≠ .cell) (hkind : scope.kind = .function)
    (hnames : ∀ y ∈ scope.names, y.2 = .local → scope.names.lookup y.1 = some .local) (hx : scope.names.lookup x = some .local)
    (hy : env.kindOf y = some .local) (hp : (env.scope.kind == .class || (env.scope.kind == .module && env.locals != env.globals)) = false)
    (h : wpAny (model prog w) A (eval iter env) (SrcW prog w A h₀ L m y elt x scope cl env Q) E s)
    (hs : ∀ x, foldedSetIterable iter env x = pure x := by intro _; rfl) :
    wpAny (model prog w) A (exec (.Assign [.Name y py] (.ListComp elt [⟨.Name x px, iter, [], 0⟩] scope pos) spos) env) Q E s := by
  have _ := F₀
  subst hL
  rw [exec_Assign_Name_used _ _ _ _ hsw]
  refine wpAny_bind (wpAny_standAt (wpAny_bind ?_))
  show wpAny _ A (do let _ ← comprehension (.ListComp elt [⟨.Name x px, iter, [], 0⟩] scope pos) scope env _ (newList []) false (eval iter env) (some (assign (.Name y py) env))) _ _ s
  refine wpAny_bind (wpAny_mono (wpAny_comprehension_free (use := some (assign (.Name y py) env)) (Q := fun _ s' => Q .next s') rfl hs hclos hkind hnames
    (wpAny_mono h (fun xv s₁ h₁ => ?_) fun _ _ e => e)) (fun _ s' hq => wpAny_pure (wpAny_pure hq)) fun _ _ e => e)
  obtain ⟨R, n, P, itO, fp, St, hpi, W, hfp, hSt, hsz, F, helt, hQ⟩ := h₁
  refine hpi _ _ (wpAny_newObj_type ?_)
  generalize hH1 : s₁.heap.push itO = H1 at hSt
  have s1 : H1.objs.size = s₁.heap.objs.size + 1 := by rw [← hH1, Heap.size_push]
  dsimp only
  generalize hH2 : H1.push { cls := .type "list", dict := none, data := .seq ([] : List Value).toArray } = H2
  have s2 : H2.objs.size = s₁.heap.objs.size + 2 := by rw [← hH2, Heap.size_push, s1]
  refine wpAny_newFunctionEnv hcell (by intro y hy; cases hy) (fun H3 ns3 sb3 => ?_) hkind
  dsimp only at ns3 sb3 ⊢
  rw [s1]
  rw [s2] at ns3 sb3 ⊢
  have up1 : ∀ b o, s₁.heap.get? b = some o → H1.get? b = some o := fun b o e => hH1 ▸ Heap.get?_push_of_some _ e
  have up2 : ∀ b o, H1.get? b = some o → H2.get? b = some o := fun b o e => hH2 ▸ Heap.get?_push_of_some _ e
  have up3 : ∀ b o, H2.get? b = some o → H3.get? b = some o := fun b o e => by
    have l : @LT.lt Nat _ b H2.objs.size := Heap.lt_size e
    exact sb3.extBut b o (by show @Ne Nat _ _; omega) (Heap.get?_push_of_some _ e)
  have up : ∀ b o, s₁.heap.get? b = some o → H3.get? b = some o := fun b o e => up3 _ _ (up2 _ _ (up1 _ _ e))
  have oD : H3.PlainList (s₁.heap.objs.size + 1) #[] := ⟨_, up3 _ _ (by rw [← s1, ← hH2]; exact Heap.get?_push_size _ rfl)⟩
  have fresh : ∀ b, s₁.heap.objs.size ≤ b → s₁.heap.get? b = none := fun b hb => by
    cases e : s₁.heap.get? b with
    | none => rfl
    | some o' => exact absurd (Heap.lt_size e) (Nat.not_lt.mpr hb)
  have stand : ∀ (H : Heap), (∀ b o, b ≠ s₁.heap.objs.size + 2 → b ∉ [s₁.heap.objs.size] → b ≠ s₁.heap.objs.size + 1 → H3.get? b = some o → H.get? b = some o) → ∀ b o, s₁.heap.get? b = some o → H.get? b = some o := fun H hk b o e => by
    have l : @LT.lt Nat _ b s₁.heap.objs.size := Heap.lt_size e
    exact hk b o (by show @Ne Nat _ _; omega) (fun hm => by have := List.mem_singleton.mp hm; rw [this] at l; exact Nat.lt_irrefl _ l) (by show @Ne Nat _ _; omega) (up b o e)
  have hlt : @LT.lt Nat _ env.locals s₁.heap.objs.size := F.ns.lt
  have key : codeAny (model prog w) A (.compLoop (.ListComp elt [⟨.Name x px, iter, [], 0⟩] scope pos) 0 (.ref s₁.heap.objs.size) (.ref (s₁.heap.objs.size + 1)) (compEnvC scope cl (s₁.heap.objs.size + 2) env))
      (compPost (model prog w) A E (some (assign (.Name y py) env)) (fun _ s' => Q .next s') (.ref (s₁.heap.objs.size + 1)) (s₁.heap.objs.size + 2)) { s₁ with heap := H3, toks := s₁.toks + ([] : List (PySem.Str × Value)).length } := by
    refine codeAny_compLoop_walk (hsz := hsz) W (fun _ => true) R (lookup_relabel_local hx) (by simp [compEnvC, relabel, hkind])
      (by show @Ne Nat (s₁.heap.objs.size + 1) (s₁.heap.objs.size + 2); omega) ?_ ?_ (hSt _ fun b o e => up3 _ _ (up2 _ _ e)) oD ns3 ?_ ?_ ?_
    · intro hm
      have := hfp _ hm
      exact absurd this (by show ¬ @LE.le Nat _ _ _; omega)
    · intro hm
      have := hfp _ hm
      exact absurd this (by show ¬ @LE.le Nat _ (s₁.heap.objs.size + 2) _; omega)
    · intro i v s₂ m₂ hv hn hm hk htk
      exact wpAny_tests_nil ⟨rfl, s₂.heap, s₂.toks, rfl, fun _ _ e => e⟩
    · intro i v s₂ m₂ hv hp hn hm hk htk
      exact helt i _ v s₂ m₂ _ hv (fresh _ (Nat.le_add_right _ 2)) hn hm (stand _ hk) htk
    · intro h' tk m' ys vs hn hl' hpl hlen hP hF hk
      rw [List.filter_eq_self.mpr (fun _ _ => rfl)] at hF
      obtain ⟨nn, hpl⟩ := hpl
      have FL : Fr h₀ env.locals h' m := by
        obtain ⟨o, es, ep, ho, hd, hk1, hk2⟩ := F.ns
        exact ⟨⟨o, es, ep, stand _ hk _ _ ho, hd, hk1, hk2⟩, fun b o e => stand _ hk _ _ (F.keep b o e), F.above⟩
      show wpAny _ A (assign (.Name y py) env (.ref (s₁.heap.objs.size + 1))) _ _ _
      refine wpAny_assign_Name (wpAny_storeName_local hy FL.ns (fun h₂ hn₂ hs₂ => ?_) hp)
      have hL₀ : h₀.get? env.locals = none := Heap.get?_none_of_le FL.above
      have F₂ : Fr h₀ env.locals h₂ (fun z => if z = y then some (.ref (s₁.heap.objs.size + 1)) else m z) := ⟨hn₂, fun b o e => hs₂.extBut b o (fun q => by rw [q, hL₀] at e; cases e) (FL.keep b o e), FL.above⟩
      refine ⟨m', hn.sameBut hs₂ (by show @Ne Nat (s₁.heap.objs.size + 2) env.locals; omega), fun h'' hs'' => ?_⟩
      have ex : ∀ b o, b ≠ env.locals → s₁.heap.get? b = some o → h''.get? b = some o := fun b o nb e => by
        have l : @LT.lt Nat _ b s₁.heap.objs.size := Heap.lt_size e
        exact hs''.extBut b o (by show @Ne Nat b (s₁.heap.objs.size + 2); omega) (hs₂.extBut b o nb (stand _ hk b o e))
      refine hQ _ h'' _ ys nn vs (Nat.le_succ _) ?_ hlen hP hF ?_ ex
      · exact hs''.extBut _ _ (by show @Ne Nat (s₁.heap.objs.size + 1) (s₁.heap.objs.size + 2); omega) (hs₂.extBut _ _ (by show @Ne Nat (s₁.heap.objs.size + 1) env.locals; omega) hpl)
      · exact F₂.change hs'' (by show @Ne Nat (s₁.heap.objs.size + 2) env.locals; omega) (by
          cases e : h₀.get? (s₁.heap.objs.size + 2) with
          | none => rfl
          | some o => exact absurd (Heap.lt_size (F.keep _ _ e)) (by show ¬ @LT.lt Nat _ (s₁.heap.objs.size + 2) s₁.heap.objs.size; omega))
  exact codeAny_compStart_list key (W.self 0 _ _ _ (hSt _ fun b o e => up3 _ _ (up2 _ _ e)) key)
end
end
/-! Wd -/
section
open PySem.Spec PySem.Calls
section
variable {prog : Program} {w : World} {A : Around} {E : Value → Shared → Prop} {s : Shared}
theorem callWith_ref1 {K : Frag} {pos : Pos} {a : Addr} {t : Sem Value} {Q : Value → Shared → Prop} (hk : keepIn K (.ref a) = true) (h : wpAny (model prog w) A t (fun v s₁ => K.In s₁.heap ∧ wpAny (model prog w) A (call (.ref a) [v]) Q E s₁) E s) :
    wpAny (model prog w) A (callWith pos (.ref a) [] [(false, t)] []) Q E s :=
  callWith_of rfl (keeps_K hk) (evalArgs_plain (spliced_cons (wpAny_mono h (fun _ _ h₁ => spliced_nil h₁) fun _ _ e => e)))
end
theorem news_push {h₀ h h' : Heap} {L D : Addr} {o : Obj} {m : PySem.Str → Option Value} {news : List (Addr × Obj)} (F : Fr h₀ L h m) (N : News h₀ L h news) (hD : @LE.le Nat _ h.objs.size D) (e : h'.get? D = some o) (hk : ∀ b o, b ≠ L → h.get? b = some o → h'.get? b = some o) :
    News h₀ L h' ((D, o) :: news) ∧ ∀ p ∈ news, p.1 < D := by
  refine ⟨?_, fun p hp => Nat.lt_of_lt_of_le (Heap.lt_size (N p hp).1) hD⟩
  intro p hp
  rcases List.mem_cons.mp hp with rfl | hp
  · refine ⟨e, ?_, ?_⟩
    · rintro rfl
      exact absurd F.ns.lt (Nat.not_lt.mpr hD)
    · cases q : h₀.get? D with
      | none => rfl
      | some o' => exact absurd (Heap.lt_size (F.keep _ _ q)) (Nat.not_lt.mpr hD)
  · exact ⟨hk _ _ (N p hp).2.1 (N p hp).1, (N p hp).2⟩
theorem dict_eq {prog : Program} {w : World} {o : Obj} {k k' : List (Int × Value)} (h : o.IsDictOf (PySem.intKind prog w) k) (e : k = k') : o.IsDictOf (PySem.intKind prog w) k' := e ▸ h
abbrev pW (d1 d2 : Addr) (i : Nat) (v : Value) : Prop := (#[Value.none, Value.ref d1, Value.ref d2])[i]? = some v
def rW (d1 d2 : Addr) (r : Int) (v y : Value) : Prop := (v = .none → ∃ t, y = .int 0 t) ∧ (v = .ref d1 → ∃ t, y = .int (if 1 + r > 3 then 1 + r else 3) t) ∧ (v = .ref d2 → ∃ t, y = .int (if 1 + r > 4 then 1 + r else 4) t)
section
variable {w : World} {mean : ExcName → Option Value} {mg mb : PySem.Str → Option Value} {dp un : Nat} {gd : Option (List Code)} {cn : PySem.Str} {cs : Scope} {a : Addr} {ccd : Value} {cl' : List (PySem.Str × Addr)} {outer : List Env} {A₀ : Around} {base h₀ : Heap} {L : Addr} {m : PySem.Str → Option Value} {s : Shared} {news : List (Addr × Obj)}
theorem srcW_widths {y : PySem.Str} {scope : Scope} {cl : List (PySem.Str × Addr)} {env : Env} {pf pl pc : Pos} {ax d1 d2 : Addr} {o1 o2 : Obj} {r : Int} {tl1 tl2 : Tok} {nn : Nat} {Q : Flow → Shared → Prop}
    (N : News h₀ L s.heap news) (m0 : (ax, listOf #[.none, .ref d1, .ref d2] nn) ∈ news) (m1 : (d1, o1) ∈ news) (m2 : (d2, o2) ∈ news) (hd1 : o1.IsDictOf (PySem.intKind pg w) [((0 : Int), Value.int (tenTo r) tl1)]) (hd2 : o2.IsDictOf (PySem.intKind pg w) [((0 : Int), Value.int (tenTo r) tl2), (1, Value.none)]) (ne : @Ne Nat d1 d2)
    (h8 : R8 r) (lo1 : (d1 == sysModules) = false) (lo2 : (d2 == sysModules) = false)
    (B : Below A₀ base outer h₀) (F : Fr h₀ L s.heap m) (X : (hd.heap_1 w.params).In h₀) (T : Top hd.view_1 (looseW hd.view_1 []) mean mg mb h₀) (hk : cs.kind = .function)
    (hd' : dp + 40 < recursionLimit) (hu : un + 200 < cLine) (hp : 0 < s.toks)
    (hg : env.globals = mainGlobals) (hck : ∀ C, (compEnvC scope cl C env).scope.kind = .function) (hx1 : ∀ C, (compEnvC scope cl C env).kindOf (PySem.Str.ofString "lines") = some .local) (hx2 : ∀ C, (compEnvC scope cl C env).kindOf (PySem.Str.ofString "_get_lineno_width") = some .globalImplicit)
    (hns : nsIn (hd.heap_1 w.params) mainGlobals (PySem.Str.ofString "_get_lineno_width") = some (some (.ref 21))) (hkp : keepIn (hd.heap_1 w.params) (.ref 21) = true)
    (h : ∀ D h' tk nn t1 t2 t3, Fr h₀ L h' (fun z => if z = y then some (.ref D) else m z) → News h₀ L h' ((D, listOf #[.int 0 t1, .int (if 1 + r > 3 then 1 + r else 3) t2, .int (if 1 + r > 4 then 1 + r else 4) t3] nn) :: news) → (∀ p ∈ news, p.1 < D) → Q .next { s with heap := h', toks := tk }) :
    SrcW PySem.Challenge.rw_yh0017_01.row.prog w (ktrTop dp un gd cn cs L a ccd cl' outer) h₀ L m y (.Call (.Name (PySem.Str.ofString "_get_lineno_width") pf) [.Name (PySem.Str.ofString "lines") pl] [] pc) (PySem.Str.ofString "lines") scope cl env Q (.ref ax) s := by
  have hl : s.heap.IsList ax #[.none, .ref d1, .ref d2] := ⟨_, (N _ m0).1, rfl, _, rfl⟩
  have hax : @LT.lt Nat _ ax s.heap.objs.size := Heap.lt_size (N _ m0).1
  refine ⟨rW d1 d2 r, 3, pW d1 d2, _, [s.heap.objs.size, ax], _, fun Q' E' h => wpAny_pyIter_list hl h, Walks.list rfl s.heap.objs.size ax (Nat.ne_of_lt hax) #[.none, .ref d1, .ref d2], ?_, ?_, by rw [sizeLine_eq]; exact Nat.le_of_ble_eq_true rfl, F, ?_, ?_⟩
  · intro b hb
    rcases List.mem_cons.mp hb with rfl | hb
    · exact Nat.le_refl _
    · rw [List.mem_singleton.mp hb]; exact Nat.le_of_lt hax
  · intro H hH
    refine ⟨⟨_, hH _ _ (Heap.get?_push_size _ rfl), rfl, rfl⟩, ?_⟩
    obtain ⟨o, e, r⟩ := hl
    exact ⟨o, hH _ _ (Heap.get?_push_of_some _ e), r⟩
  · intro i C v s₂ m₂ E' hP hC hns₂ hm₂ hkeep htk
    have F₂ : Fr h₀ L s₂.heap m := F.keeps hkeep
    have N₂ : News h₀ L s₂.heap news := news_keeps N hkeep
    have hp₂ : 0 < s₂.toks := Nat.lt_of_lt_of_le hp htk
    refine Call_Name1 (LCgL.ld_global F₂ X T hns ?_ hg (hck C) (hx2 C)) (by rfl)
    refine callWith_ref1 hkp (ldVarK hns₂ hm₂ ?_ (hck C) (hx1 C) (by decide))
    refine ⟨Frag.In.keeps X F₂.keep, ?_⟩
    have hi : i < 3 := by
      have := Array.getElem?_eq_some_iff.mp hP
      exact this.1
    have cs3 : i = 0 ∨ i = 1 ∨ i = 2 := by omega
    rcases cs3 with rfl | rfl | rfl
    · have hv : v = .none := (Option.some.inj hP).symm
      subst hv
      refine width_i0 w mean mg mb dp un gd cn cs a ccd cl' outer A₀ base h₀ L m s₂ _ _ B F₂ X T hk hd' hu hp₂ trivial fun v h' tk' hk' hv ht => ?_
      obtain ⟨t, rfl⟩ := hv
      exact ⟨⟨fun _ => ⟨_, rfl⟩, fun e => (nomatch e), fun e => (nomatch e)⟩, h', tk', rfl, hk'⟩
    · have hv : v = .ref d1 := (Option.some.inj hP).symm
      subst hv
      refine width_i1 w mean mg mb d1 (tenTo r) tl1 (ten_le h8) dp un gd cn cs a ccd cl' outer A₀ base h₀ L m s₂ _ _ B F₂ X T hk hd' hu hp₂ ⟨Heap.dictOf_iff.mpr ⟨o1, (N₂ _ m1).1, hd1⟩, lo1⟩ fun v h' tk' hk' hv ht => ?_
      obtain ⟨t, rfl⟩ := hv
      rw [ten_len h8]
      exact ⟨⟨fun e => (nomatch e), fun _ => ⟨_, rfl⟩, fun e => absurd (Value.ref.inj e) ne⟩, h', tk', rfl, hk'⟩
    · have hv : v = .ref d2 := (Option.some.inj hP).symm
      subst hv
      refine width_i2 w mean mg mb d2 (tenTo r) tl2 (ten_le h8) dp un gd cn cs a ccd cl' outer A₀ base h₀ L m s₂ _ _ B F₂ X T hk hd' hu hp₂ ⟨Heap.dictOf_iff.mpr ⟨o2, (N₂ _ m2).1, hd2⟩, lo2⟩ fun v h' tk' hk' hv ht => ?_
      obtain ⟨t, rfl⟩ := hv
      rw [ten_len h8]
      exact ⟨⟨fun e => (nomatch e), fun e => absurd (Value.ref.inj e).symm ne, fun _ => ⟨_, rfl⟩⟩, h', tk', rfl, hk'⟩
  · intro D h' tk ys nn' vs hD e hlen hP hR F' hkeep
    have hvs : vs = #[Value.none, Value.ref d1, Value.ref d2].toList := list_of_places (items := #[Value.none, Value.ref d1, Value.ref d2]) hlen hP
    subst hvs
    obtain ⟨ys⟩ := ys
    rcases hR with _ | ⟨ha, _ | ⟨hb, _ | ⟨hc, _ | _⟩⟩⟩
    obtain ⟨ta, rfl⟩ := ha.1 rfl
    obtain ⟨tb, rfl⟩ := hb.2.1 rfl
    obtain ⟨tc, rfl⟩ := hc.2.2 rfl
    obtain ⟨N', l1⟩ := news_push F N hD e hkeep
    exact h D h' tk nn' ta tb tc F' N' l1
end
end
/-! Lv -/
section
open PySem.Spec PySem.Calls
/-- what stands before and after each turn over the rises -/
def InvL (g : Heap) (L : Addr) (k : Nat) (tkk : Tok) (rest : List (Addr × Obj)) (cK : Addr) (I : Addr) (oI : Obj) (h : Heap) : Prop :=
  ∃ (mm : PySem.Str → Option Value) (oK : Obj) (kv : Option Value), Fr g L h (fun y => if y = PySem.Str.ofString "kind" then some (.int (k : Int) tkk) else mm y) ∧ News g L h ((I, oI) :: (cK, oK) :: rest) ∧ oK.data = .cell kv ∧ AllNe I ((cK, oK) :: rest)
theorem fr_pin1 {h₀ h : Heap} {L : Addr} {m : PySem.Str → Option Value} {y1 : PySem.Str} {v1 : Value} (F : Fr h₀ L h m) (h1 : m y1 = some v1) : Fr h₀ L h (fun y => if y = y1 then some v1 else m y) := by
  have : (fun y => if y = y1 then some v1 else m y) = m := funext fun y => by
    by_cases e1 : y = y1
    · rw [if_pos e1, e1, h1]
    · rw [if_neg e1]
  rw [this]
  exact F
section
variable {g h h' : Heap} {L cK I : Addr} {k : Nat} {tkk : Tok} {rest news : List (Addr × Obj)} {oI oI' oK : Obj} {m : PySem.Str → Option Value} {kv : Option Value}
theorem news_of {l : List (Addr × Obj)} (N : News g L h news) (hs : ∀ p ∈ l, p ∈ news) : News g L h l := fun p hp => N p (hs p hp)
theorem InvL.start (F : Fr g L h m) (hm : m (PySem.Str.ofString "kind") = some (.int (k : Int) tkk)) (N : News g L h news) (hs : ∀ p ∈ (cK, oK) :: rest, p ∈ news) (hkv : oK.data = .cell kv) (e : h'.get? h.objs.size = some oI) (hk : ∀ b o, h.get? b = some o → h'.get? b = some o) : InvL g L k tkk rest cK h.objs.size oI h' := by
  have N1 : News g L h ((cK, oK) :: rest) := news_of N hs
  have hlt : ∀ p ∈ (cK, oK) :: rest, p.1 ≠ h.objs.size := fun p hp => Nat.ne_of_lt (Heap.lt_size (N1 p hp).1)
  refine ⟨m, oK, kv, fr_pin1 (F.keeps hk) hm, ?_, hkv, allNe_of hlt⟩
  intro p hp
  rcases List.mem_cons.mp hp with rfl | hp
  · exact ⟨e, Nat.ne_of_gt F.ns.lt, next_is_new F⟩
  · exact ⟨hk _ _ (N1 p hp).1, (N1 p hp).2⟩
theorem InvL.again (F : Fr g L h m) (hm : m (PySem.Str.ofString "kind") = some (.int (k : Int) tkk)) (N : News g L h news) (hs : ∀ p ∈ (I, oI) :: (cK, oK) :: rest, p ∈ news) (hkv : oK.data = .cell kv) (ne : AllNe I ((cK, oI') :: rest)) : InvL g L k tkk rest cK I oI h :=
  ⟨m, oK, kv, fr_pin1 F hm, news_of N hs, hkv, ne.1, ne.2⟩
theorem InvL.get (i : InvL g L k tkk rest cK I oI h) {ax : Addr} {es : Array Value} {n : Nat} (hm : (ax, listOf es n) ∈ rest) : h.IsList ax es ∧ h.get? I = some oI := by
  obtain ⟨mm, oK, kv, F, N, hd, ne⟩ := i
  exact ⟨⟨_, (N _ (.tail _ (.tail _ hm))).1, rfl, _, rfl⟩, (N _ (.head _)).1⟩
theorem InvL.move (i : InvL g L k tkk rest cK I oI h) (e : h'.get? I = some oI') (hk : ∀ b o, b ≠ I → h.get? b = some o → h'.get? b = some o) : InvL g L k tkk rest cK I oI' h' := by
  obtain ⟨mm, oK, kv, F, N, hd, ne⟩ := i
  have hI := (N _ (.head _)).2
  refine ⟨mm, oK, kv, ⟨F.ns.at' fun o e => hk L o (Ne.symm hI.1) e, fun b o e => hk b o (fun hb => by rw [hb, hI.2] at e; cases e) (F.keep b o e), F.above⟩, ?_, hd, ne⟩
  intro p hp
  rcases List.mem_cons.mp hp with rfl | hp
  · exact ⟨e, hI⟩
  · have : ∀ {l : List (Addr × Obj)}, AllNe I l → ∀ p ∈ l, p.1 ≠ I := fun {l} h p hp => AllNe.at (o := p.2) h hp
    exact ⟨hk _ _ (this ne p hp) (N p (.tail _ hp)).1, (N p (.tail _ hp)).2⟩
end
/-- what an element of the lowered text gives -/
def LowR (h₀ : Heap) (L : Addr) (m : PySem.Str → Option Value) (news : List (Addr × Obj)) (s : Shared) (v : Value) (s' : Shared) : Prop :=
  ∃ x t h' tk', v = .int x t ∧ R8 x ∧ s' = { s with heap := h', toks := tk' } ∧ Fr h₀ L h' m ∧ News h₀ L h' news
theorem merge_low {M : Model} {A : Around} {c : Sem Value} {Q : Value → Shared → Prop} {E : Value → Shared → Prop} {s : Shared} {h₀ : Heap} {L : Addr} {m : PySem.Str → Option Value} {news : List (Addr × Obj)} (_F : Fr h₀ L s.heap m) (_N : News h₀ L s.heap news)
    (h1 : wpAny M A c (LowR h₀ L m news s) E s) (h2 : ∀ x t h' tk', R8 x → Fr h₀ L h' m → News h₀ L h' news → Q (.int x t) { s with heap := h', toks := tk' }) : wpAny M A c Q E s :=
  wpAny_mono h1 (fun _ _ ⟨x, t, h', tk', ev, r, es, F, N⟩ => ev ▸ es ▸ h2 x t h' tk' r F N) fun _ _ e => e
theorem off1_ne {D : Addr} : ∀ {l : List (Addr × Obj)}, LCg.Off1 D l → AllNe D l
  | [], _ => trivial
  | _ :: _, h => ⟨h.1, off1_ne h.2⟩
theorem r8m {x : Int} (h : 3 ≤ x ∧ x < 8) : R8 (x - 1) := ⟨by omega, by omega⟩
theorem r8z {x : Int} (h : 3 ≤ x ∧ x < 8) : R8 x := ⟨by omega, by omega⟩
theorem in8_r8 {x0 x1 x2 x3 x4 : Int} (a : R8 x0) (b : R8 x1) (c : R8 x2) (d : R8 x3) (e : R8 x4) : In8 x0 x1 x2 x3 x4 := ⟨a, b, c, d, e⟩
/-- a rise is the number of a place from 0 to 3 -/
theorem rise_of {es : Array Value} {b3 b2 b1 b0 : Bool} (h : IntsAre es.toList (risesB b3 b2 b1 b0)) {v : Value} (hv : v ∈ es.toList) : ∃ (kk : Int) (t : Tok), v = .int kk t ∧ 0 ≤ kk ∧ kk ≤ 3 := by
  have key : ∀ {l : List Value} {ns : List Int}, IntsAre l ns → (∀ n ∈ ns, 0 ≤ n ∧ n ≤ 3) → ∀ v ∈ l, ∃ (kk : Int) (t : Tok), v = .int kk t ∧ 0 ≤ kk ∧ kk ≤ 3 := by
    intro l ns h
    induction h with
    | nil => intro _ v hv; cases hv
    | cons n t _ ih =>
      intro hb v hv
      rcases List.mem_cons.mp hv with rfl | hv
      · exact ⟨n, t, rfl, hb n (.head _)⟩
      · exact ih (fun n hn => hb n (.tail _ hn)) v hv
  refine key h ?_ v hv
  intro n hn
  unfold risesB at hn
  cases b3 <;> cases b2 <;> cases b1 <;> cases b0 <;> simp at hn <;> omega
section
variable {prog : Program} {w : World} {A : Around} {env : Env} {x : PySem.Str} {px : Pos} {body : List Stmt} {Q : Flow → Shared → Prop} {s₁ : Shared} {g : Heap} {L : Addr} {m : PySem.Str → Option Value} {news : List (Addr × Obj)} {oO oL oK : Obj} {T Dl Dr : Addr} {es : Array Value} {n n1 n2 k : Nat} {tkk : Tok} {kv : Option Value}
  {o0 o1 o2 o3 o4 L0 L1 L2 L3 L4 : Int} {w0 w1 w2 w3 w4 u0 u1 u2 u3 u4 : Tok} {b3 b2 b1 b0 : Bool}
theorem loopL_intro (F : Fr g L s₁.heap m) (N : News g L s₁.heap news) (mK : (L + 1 + 1 + 1 + 1 + 1, oK) ∈ news) (mL : (L + 1 + 1 + 1 + 1, oL) ∈ news) (mO : (L + 1 + 1 + 1, oO) ∈ news) (dK : oK.data = .cell kv) (dL : oL.data = .cell (some (.ref Dl))) (dO : oO.data = .cell (some (.ref T)))
    (mT : (T, l5 o0 o1 o2 o3 o4 w0 w1 w2 w3 w4 n) ∈ news) (mDl : (Dl, l5 L0 L1 L2 L3 L4 u0 u1 u2 u3 u4 n1) ∈ news) (mDr : (Dr, listOf es n2) ∈ news) (hes : IntsAre es.toList (risesB b3 b2 b1 b0)) (hm : m (PySem.Str.ofString "kind") = some (.int (k : Int) tkk)) (hp : 0 < s₁.toks)
    (hbody : ∀ (kk : Int) (t : Tok) (I : Addr) (oI : Obj) (mm : PySem.Str → Option Value) (oK : Obj) (kv : Option Value) (h : Heap) (tk : Nat) (E' : Value → Shared → Prop), 0 < tk → 0 ≤ kk → kk ≤ 3 → Fr g L h (fun y => if y = PySem.Str.ofString "kind" then some (.int (k : Int) tkk) else mm y) →
      News g L h [(I, oI), (L + 1 + 1 + 1 + 1 + 1, oK), (T, l5 o0 o1 o2 o3 o4 w0 w1 w2 w3 w4 n), (Dl, l5 L0 L1 L2 L3 L4 u0 u1 u2 u3 u4 n1), (Dr, listOf es n2), (L + 1 + 1 + 1 + 1, oL), (L + 1 + 1 + 1, oO)] → oK.data = .cell kv →
      AllNe I [(L + 1 + 1 + 1 + 1 + 1, oK), (T, l5 o0 o1 o2 o3 o4 w0 w1 w2 w3 w4 n), (Dl, l5 L0 L1 L2 L3 L4 u0 u1 u2 u3 u4 n1), (Dr, listOf es n2), (L + 1 + 1 + 1 + 1, oL), (L + 1 + 1 + 1, oO)] →
      wpAny (model prog w) A (assign (.Name x px) env (.int kk t)) (fun _ s' => TokP s' (wpAny (model prog w) A (execs body env) (fun f s₃ => match f with
      | .ret v => Q (.ret v) s₃
      | .brk => Q .next s₃
      | _ => ∃ h' tk', s₃ = { s₁ with heap := h', toks := tk' } ∧ InvL g L k tkk [(T, l5 o0 o1 o2 o3 o4 w0 w1 w2 w3 w4 n), (Dl, l5 L0 L1 L2 L3 L4 u0 u1 u2 u3 u4 n1), (Dr, listOf es n2), (L + 1 + 1 + 1 + 1, oL), (L + 1 + 1 + 1, oO)] (L + 1 + 1 + 1 + 1 + 1) I oI h') E' s')) E' { s₁ with heap := h, toks := tk })
    (hdone : ∀ m' h' tk, 0 < tk → Fr g L h' m' → Q .next { s₁ with heap := h', toks := tk }) : LoopL prog w A env x px body Q (.ref Dr) s₁ := by
  refine ⟨Dr, es, InvL g L k tkk [(T, l5 o0 o1 o2 o3 o4 w0 w1 w2 w3 w4 n), (Dl, l5 L0 L1 L2 L3 L4 u0 u1 u2 u3 u4 n1), (Dr, listOf es n2), (L + 1 + 1 + 1 + 1, oL), (L + 1 + 1 + 1, oO)] (L + 1 + 1 + 1 + 1 + 1), rfl, hp, ⟨_, (N _ mDr).1, rfl, _, rfl⟩, ?_, ?_, ?_, ?_, ?_⟩
  · intro h oI e hk
    refine InvL.start F hm N ?_ dK e hk
    intro p hp
    rcases List.mem_cons.mp hp with rfl | hp
    · exact mK
    rcases List.mem_cons.mp hp with rfl | hp
    · exact mT
    rcases List.mem_cons.mp hp with rfl | hp
    · exact mDl
    rcases List.mem_cons.mp hp with rfl | hp
    · exact mDr
    rcases List.mem_cons.mp hp with rfl | hp
    · exact mL
    rcases List.mem_cons.mp hp with rfl | hp
    · exact mO
    · cases hp
  · intro I oI h i
    exact i.get (ax := Dr) (es := es) (n := n2) (by simp)
  · intro I oI oI' h h' i e hk
    exact i.move e hk
  · intro v hv I oI h tk E' htk i
    obtain ⟨kk, t, rfl, h0, h3⟩ := rise_of hes hv
    obtain ⟨mm, oK', kv', F', N', hd', ne'⟩ := i
    exact hbody kk t I oI mm oK' kv' h tk E' htk h0 h3 F' N' hd' ne'
  · intro I oI h h' tk htk i hk
    obtain ⟨mm, oK', kv', F', N', hd', ne'⟩ := i
    have hI := (N' _ (.head _)).2
    exact hdone _ h' tk htk ⟨F'.ns.at' fun o e => hk L o (Ne.symm hI.1) e, fun b o e => hk b o (fun hb => by rw [hb, hI.2] at e; cases e) (F'.keep b o e), F'.above⟩
end
end
/-! Lw -/
section
open PySem.Spec PySem.Calls
variable (w : World) (mean : ExcName → Option Value) (mg mb : PySem.Str → Option Value)
local macro_rules | `(tactic| k_ne) => `(tactic| (refine neN ?_; (try dsimp only); first | exact AllNe.at (by with_reducible assumption) (by k_mem) | exact Ne.symm (AllNe.at (by with_reducible assumption) (by k_mem)) | omega))
local macro_rules | `(tactic| k_go0) => `(tactic| (
  k_fill
  intro w s₀ s₁ mg mb G Y fa o pm cd doc dV kV ho hd hcd hD hmg hg args vals as hpre hlay hrd hwl hlo
  have KX := kIn_of Y
  have X := (Ground.X G).1
  have V := (Ground.X G).2
  have GL := glob_more (Ground.glob G (by decide +kernel) (by decide +kernel)) V
  refine Ground.open G ?_
  intro T B D TE TW
  try (refine guard_noD D (by decide +kernel) ?_; clear D)
  obtain ⟨_, _, M⟩ := bmod_of_top T
  have TA := at_of_top T
  try (obtain ⟨_, _, he, B0⟩ := based_of_top T rfl hmg ho hd; have he' : cd = _ := he; subst he'; clear he)
  clear hmg
  wrow_args hpre hlay hrd hwl hlo
  all_goals (
    first | refine callC_kw (enter_call ?_) | refine enter_call ?_ | refine callC_kw (enter_callW ?_) | refine enter_callW ?_ | w_how
    w_top on
    try refine codeAny_mono ?_ (fun _ _ g => GoodW.toG g)
    have K0 := below_caller (Top.heap T)
    w_call any ho hd hcd hD T F
    clear hd TA
    k_drop
    skip)))
theorem law_row : PySem.Challenge.rw_yh0017_01.row.Holds := hd (by
  k_go0
  all_goals (try k_fold)
  k_with_none
  k_with "execs cons" => (k_here; with_reducible refine execs_pos (by first | assumption | omega) ?_; intro tk' htk'; (try dsimp only))
  k_with "TokP" => (with_reducible refine tokP_in ?_; (try ((with_reducible rename (0 < _) => hold'); clear hold')); intro htk'; (try dsimp only); (try dsimp only at htk'))
  k_with "eval Name" => (k_here; (fail_if_success (with_reducible show wpAny _ _ (eval _ (compEnvC _ _ _ _)) _ _ _)); k_dflt (first
    | (refine nameL rfl (by rfl) (by decide) (by k_asm) (by rfl) ?_; k_whole)
    | (refine nameC rfl (by rfl) (by decide) (by rfl) (by k_asm) (by k_mem) (by k_asm) ?_; k_whole)
    | (refine nameK rfl (by rfl) (by decide) (by k_asm) (by k_asm) (by k_asm) (by k_is) ?_; k_whole)
    | (refine nameB rfl (by rfl) (by decide) (by k_asm) (by k_asm) (by k_asm) (by k_is) (by boot_fast) (by decide) ?_; k_whole)))
  k_with "storeName" => (k_here; k_dflt (first
    | (refine storeL rfl (by rfl) (by k_asm) (by k_asm) ?_; k_whole; intro h' F' N'; (try k_sweep))
    | (refine storeC rfl (by rfl) (by rfl) (by k_asm) (by k_asm) (by k_updF) (by k_asm) ?_; k_whole; intro h' o' F' N' d'; (try dsimp only at N'); (try k_sweep))))
  k_with "call builtin:list.append" => (k_here; (with_reducible show wpAny _ _ (call (Value.builtin _) [Value.ref _, _]) _ _ _); k_dflt ( refine append_K (by k_asm) (by k_asm) (by k_upd) ?_ (by first | (rw [sizeLine_eq]; exact Nat.le_of_ble_eq_true rfl)); k_whole); intro h' F' N'; (try k_sweep))
  k_with "execs cons Assign cons" => (k_here; (with_reducible rename IntsAre _ _ => hI9); (with_reducible show wpAny _ _ (execs (Stmt.Assign [Expr.Name (PySem.Str.ofString "order") _] _ _ :: _) _) _ _ _); with_reducible refine stopG ?_)
  k_with "execs cons" => (k_here; (with_reducible rename IntsAre _ _ => hI9); (with_reducible show wpAny _ _ (execs (Stmt.Assign [Expr.Name (PySem.Str.ofString "order") _] _ _ :: _) _) _ _ _); with_reducible refine stopG ?_)
  k_with "subscriptTail List cons Slice ref ref" => (k_here; k_dflt ( (with_reducible rename Fr _ _ _ _ => F9); (with_reducible rename News _ _ _ _ => N9); refine slice_tailT F9 N9 (by k_mem) (by constructor <;> omega) ?_ (by with_unfolding_all rfl); k_whole); intro D' ws' h' F' N' l1 hI'; (try k_lt l1))
  k_with "call ref" => (k_here; (with_reducible show wpAny _ _ (call (Value.ref 178) [Value.ref _, Value.int _ _]) _ _ _); k_dflt (first | ( (with_reducible rename Fr _ _ _ _ => F9); (with_reducible rename News _ _ _ _ => N9); refine use_sortedK (by with_reducible assumption) N9 (by k_mem) (by first | with_reducible assumption | exact in8_r8 (by with_reducible assumption) (by with_reducible assumption) (by with_reducible assumption) (by with_reducible assumption) (by with_reducible assumption)) (by with_reducible assumption) (by k_asm) F9 (by k_asm) (by k_asm) (by rfl) (by (first | decide | ((simp only [depth_deeper, depth_caller]); decide))) (by (first | decide | ((simp only [units_deeper]); decide))) (by ((try dsimp only); first | assumption | omega)) ?_; k_whole; intro T' w0' w1' w2' w3' w4' nn' h' tk' F' N' l1 htk'; replace l1 := allNe_of l1; (try dsimp only)) | ( (with_reducible rename Fr _ _ _ _ => F9); (with_reducible rename News _ _ _ _ => N9); refine use_sorted (by with_reducible assumption) N9 (by k_mem) (by first | with_reducible assumption | exact in8_r8 (by with_reducible assumption) (by with_reducible assumption) (by with_reducible assumption) (by with_reducible assumption) (by with_reducible assumption)) (by k_asm) F9 (by k_asm) (by k_asm) (by rfl) (by (first | decide | ((simp only [depth_deeper, depth_caller]); decide))) (by (first | decide | ((simp only [units_deeper]); decide))) (by ((try dsimp only); first | assumption | omega)) ?_; k_whole; intro T' o0' o1' o2' o3' o4' w0' w1' w2' w3' w4' nn' h' tk' hf' F' N' l1 htk'; replace l1 := allNe_of l1; (try dsimp only))))
  k_with "call ref" => (k_here; (with_reducible show wpAny _ _ (call (Value.ref 183) [Value.ref _]) _ _ _); k_dflt ( (with_reducible rename Fr _ _ _ _ => F9); (with_reducible rename News _ _ _ _ => N9); refine use_fallK N9 (by k_mem) (by first | with_reducible assumption | exact in8_r8 (by with_reducible assumption) (by with_reducible assumption) (by with_reducible assumption) (by with_reducible assumption) (by with_reducible assumption)) (by with_reducible assumption) (by k_asm) F9 (by k_asm) (by k_asm) (by rfl) (by (first | decide | ((simp only [depth_deeper, depth_caller]); decide))) (by (first | decide | ((simp only [units_deeper]); decide))) (by ((try dsimp only); first | assumption | omega)) ?_; k_whole; intro T' w0' w1' w2' w3' w4' nn' h' tk' F' N' l1 htk'; replace l1 := allNe_of l1; (try dsimp only)))
  k_with "call ref" => (k_here; (with_reducible show wpAny _ _ (call (Value.ref 190) [Value.ref _]) _ _ _); k_dflt ( (with_reducible rename Fr _ _ _ _ => F9); (with_reducible rename News _ _ _ _ => N9); refine use_least N9 (by k_mem) (by with_reducible assumption) (by k_asm) F9 (by k_asm) (by k_asm) (by rfl) (by (first | decide | ((simp only [depth_deeper, depth_caller]); decide))) (by (first | decide | ((simp only [units_deeper]); decide))) (by ((try dsimp only); first | assumption | omega)) ?_; k_whole; intro L0' L1' L2' L3' L4' b3' b2' b1' b0' T' Dl' Dr' es' n1' n2' w0' w1' w2' w3' w4' h' tk' hL' h8' hf' hes' F' N' l1 l2 l3 l4 l5' htk'; replace l1 := allNe_of l1; replace l2 := allNe_of l2; replace l3 := allNe_of l3; (try dsimp only)))
  k_with "call ref" => (k_here; (with_reducible show wpAny _ _ (call (Value.ref 21) [_]) _ _ _); k_dflt (first | ( (with_reducible rename Fr _ _ _ _ => F9); (with_reducible rename News _ _ _ _ => N9); refine use_w0 (by k_asm) F9 N9 (by k_asm) (by k_asm) (by rfl) (by (first | decide | ((simp only [depth_deeper, depth_caller]); decide))) (by (first | decide | ((simp only [units_deeper]); decide))) (by ((try dsimp only); first | assumption | omega)) ?_; k_whole; intro t' h' tk' F' N' htk'; (try dsimp only)) | ( (with_reducible rename Fr _ _ _ _ => F9); (with_reducible rename News _ _ _ _ => N9); refine use_w1 (by with_reducible assumption) (by k_mem) (by with_reducible assumption) (by assumption) (by k_asm) F9 N9 (by k_asm) (by k_asm) (by rfl) (by (first | decide | ((simp only [depth_deeper, depth_caller]); decide))) (by (first | decide | ((simp only [units_deeper]); decide))) (by ((try dsimp only); first | assumption | omega)) ?_; k_whole; intro t' h' tk' F' N' htk'; (try dsimp only)) | ( (with_reducible rename Fr _ _ _ _ => F9); (with_reducible rename News _ _ _ _ => N9); refine use_w2 (by with_reducible assumption) (by k_mem) (by with_reducible assumption) (by assumption) (by k_asm) F9 N9 (by k_asm) (by k_asm) (by rfl) (by (first | decide | ((simp only [depth_deeper, depth_caller]); decide))) (by (first | decide | ((simp only [units_deeper]); decide))) (by ((try dsimp only); first | assumption | omega)) ?_; k_whole; intro t' h' tk' F' N' htk'; (try dsimp only))))
  k_with "compareOp NotEq ref ref" => (k_here; k_dflt ( (with_reducible rename News _ _ _ _ => N9); refine ne_l5 N9 (by k_mem) (by k_mem) (by (first | decide | ((simp only [units_deeper]); decide))) ?_; k_whole))
  k_with "binaryOp Pow int int" => (k_here; k_dflt ( refine pow_ten (by with_reducible assumption) ?_; k_whole))
  k_with "subscriptTail Name Constant ref int" => (k_here; k_dflt ( (with_reducible rename News _ _ _ _ => N9); refine sub5 N9 (by k_mem) (by decide) (by decide) (by rfl) ?_ (by with_unfolding_all rfl) (by (intro _; with_unfolding_all rfl)); k_whole))
  k_with "eval List cons" => (k_here; with_reducible refine List_ ?_)
  k_with "exec Assign cons ListComp" => (k_here; (with_reducible show wpAny _ _ (exec (Stmt.Assign [Expr.Name (PySem.Str.ofString "widths") _] _ _) _) _ _ _); k_dflt ( refine lc_assignW (by k_asm) (by rfl) (by with_unfolding_all rfl) (by rfl) (by decide) (by rfl) (by decide) (by rfl) (by rfl) (by rfl) ?_ (by (intro _; rfl))))
  k_with "SrcW" => (k_here; k_dflt ( (with_reducible rename Fr _ _ _ _ => F9); (with_reducible rename News _ _ _ _ => N9); refine srcW_widths N9 (by exact List.Mem.head _) (by k_mem) (by k_mem) (by ( refine dict_eq (by with_reducible assumption) (by rfl))) (by ( refine dict_eq (by with_reducible assumption) (by rfl))) (by ((show @Ne Nat _ _); omega)) (by with_reducible assumption) (by assumption) (by assumption) (by k_asm) F9 (by k_asm) (by k_asm) (by rfl) (by (first | decide | ((simp only [depth_deeper, depth_caller]); decide))) (by (first | decide | ((simp only [units_deeper]); decide))) (by ((try dsimp only); first | assumption | omega)) (by rfl) (by (intro _; rfl)) (by (intro _; rfl)) (by (intro _; rfl)) (by k_is) (by k_is) ?_; k_whole; intro D' h' tk' nn' t1' t2' t3' F' N' l1; (try k_lt l1); (try dsimp only)))
  k_with "exec For Name Name" => (k_here; k_dflt ( refine for_listI (by rfl) (by ((try dsimp only); first | assumption | omega)) ?_ (by (intro _; rfl)); k_whole))
  k_with "LoopL" => (k_here; k_dflt ( (with_reducible rename Fr _ _ _ _ => F9); (with_reducible rename News _ _ _ _ => N9); refine loopL_intro F9 N9 (by k_mem) (by k_mem) (by k_mem) (by with_reducible assumption) (by with_reducible assumption) (by with_reducible assumption) (by k_mem) (by k_mem) (by k_mem) (by with_reducible assumption) (by rfl) (by ((try dsimp only); first | assumption | omega)) ?_ ?_; k_whole); (first | (intro kk' t' I' oI' mm' oK' kv' h' tk' E' htk' hk0' hk3' F' N' d' neI') | (intro m' h' tk' htk' F')); (try dsimp only))
  k_with "exec Assign cons ListComp" => (k_here; (with_reducible show wpAny _ _ (exec (Stmt.Assign [Expr.Name (PySem.Str.ofString "lowered") _] _ _) _) _ _ _); k_dflt ( (with_reducible rename Fr _ _ _ _ => F9); refine LCg.Assign_ListComp_U (F₀ := F9) (by rfl) (by with_unfolding_all rfl) (by rfl) (by decide) (by rfl) (by decide) (by rfl) (by rfl) (by rfl) ?_ (by (intro _; rfl))))
  k_with "CompSrc" => (k_here; (with_reducible rename AllNe _ _ => hI9); k_dflt ( (with_reducible rename Fr _ _ _ _ => F9); (with_reducible rename News _ _ _ _ => N9); refine LCg.CompSrc.range (by rfl) F9 N9 (by assumption) (by first | decide | rfl) (by first | rfl | decide) (by exact Nat.le_of_ble_eq_true rfl) ?_); intro g'; lcg_lit)
  k_with "eval IfExp" => (k_here; (fail_if_success (with_reducible show wpAny _ _ _ (LowR _ _ _ _ _) _ _)); k_dflt ( (with_reducible rename Fr _ _ _ _ => F9); (with_reducible rename News _ _ _ _ => N9); refine merge_low F9 N9 ?_ (fun x' t' h' tk' hR' F' N' => ?_)); (try dsimp only))
  k_with "LowR" => ((with_reducible rename ((3 ≤ _ ∧ _) ∧ _) => hL9); k_dflt ( (with_reducible rename Fr _ _ _ _ => F9); refine ⟨_, _, _, _, rfl, (by first | exact r8m hL9.1 | exact r8z hL9.1 | exact r8m hL9.2.1 | exact r8z hL9.2.1 | exact r8m hL9.2.2.1 | exact r8z hL9.2.2.1 | exact r8m hL9.2.2.2.1 | exact r8z hL9.2.2.2.1 | exact r8m hL9.2.2.2.2 | exact r8z hL9.2.2.2.2), rfl, F9, (by ((with_reducible rename News _ _ _ _ => N9); exact fun p hp => N9 p (by first | exact hp | exact .tail _ hp | exact .tail _ (.tail _ hp) | exact .tail _ (.tail _ (.tail _ hp)))))⟩))
  k_with "CompRest" => ((with_reducible rename AllNe _ _ => hI9); with_unfolding_all first | (refine LCg.CompRest.succ ?_; intro v' I' oI' C' oC' D' m' h' tk' E' hv' hC' hx' F' N' off' ne'; (first | lcg_open hv' | (obtain ⟨t9', hv9'⟩ := hv'; subst hv9'))) | refine LCg.CompRest.zero ?_)
  k_with "CompEnd" => ((with_reducible rename AllNe _ _ => hI9); k_dflt ( (with_reducible rename Fr _ _ _ _ => F9); (with_reducible rename News _ _ _ _ => N9); refine LCg.CompEnd.intro F9 N9 _ (fun _ h => h) (by with_reducible assumption) True.intro ?_))
  k_with "FinA" => ((with_reducible rename AllNe _ _ => hI9); (unfold LCg.FinA); intro D' h' tk' F' N' o1'; replace o1' := off1_ne o1'; (try simp only [List.nil_append, List.cons_append] at N'); (try dsimp only))
  k_steps
  (with_reducible rename News _ _ _ _ => N9)
  (with_reducible rename Fr _ _ _ _ => F9)
  (with_reducible rename Below _ _ _ _ => B9)
  refine' cutL ?hp F9 ?e1 ?e2 N9 ?m1 ?m3 ?m4 ?m5 ?d3 ?d4 ?d5 ?n3 ?n4 ?n5 ?hI ?_
  case hp => assumption
  case e1 => rfl
  case e2 => rfl
  case m1 => k_mem
  case hI => assumption
  case m3 => k_mem
  case m4 => k_mem
  case m5 => k_mem
  case d3 => first | assumption | (with_unfolding_all assumption)
  case d4 => first | assumption | (with_unfolding_all assumption)
  case d5 => first | assumption | (with_unfolding_all assumption)
  case n3 => omega
  case n4 => omega
  case n5 => omega
  clear N9 F9
  repeat ((with_reducible rename News _ _ _ _ => z); clear z)
  repeat ((with_reducible rename Fr _ _ _ _ => z); clear z)
  repeat ((with_reducible rename (_ ∧ _) => z); clear z)
  repeat ((with_reducible rename IntsAre _ _ => z); clear z)
  repeat ((with_reducible rename (@Eq Nat _ _) => z); clear z)
  repeat ((with_reducible rename (@LT.lt Nat _ _ _) => z); clear z)
  repeat ((with_reducible rename (Obj.data _ = _) => z); clear z)
  intro hh1 tk1 m1 D1 o3 o4 o5 k r0 r1 r2 r3 r4 t0 t1 t2 t3 t4 tkk n0 htk1 hk5 h8 hr4 F1 N1 d3 d4 d5 n3 n4 n5
  (with_reducible rename Frag.In _ _ => X9)
  (with_reducible rename Top _ _ _ _ _ _ => T9)
  k_steps
  · (with_reducible rename News _ _ _ _ => N9)
    (with_reducible rename Fr _ _ _ _ => F9)
    refine' InvL.again F9 ?hm N9 ?hs ?d ?ne
    case hm => rfl
    case hs =>
      intro p hp
      rcases List.mem_cons.mp hp with rfl | hp
      · k_mem
      rcases List.mem_cons.mp hp with rfl | hp
      · k_mem
      rcases List.mem_cons.mp hp with rfl | hp
      · k_mem
      rcases List.mem_cons.mp hp with rfl | hp
      · k_mem
      rcases List.mem_cons.mp hp with rfl | hp
      · k_mem
      rcases List.mem_cons.mp hp with rfl | hp
      · k_mem
      rcases List.mem_cons.mp hp with rfl | hp
      · k_mem
      · cases hp
    case d => with_reducible assumption
    case ne => with_reducible assumption
  · (with_reducible rename Fr _ _ _ _ => F9)
    (with_reducible rename Shared.gens _ = _ => G9)
    refine goodW_bool F9 G9 (raisesW_false ?nz) ?pz
    case nz => exact allW_false_nil
    case pz => first | rfl | wrow_post
    done)


theorem law_holds : PySem.Challenge.rw_yh0017_01.Holds := holds_law law_said fun _ => law_row
end
end
end
end Mine
theorem PySem.Challenge.cw_yh0017_01_holds : PySem.Challenge.rw_yh0017_01.Holds :=
  Mine.law_holds
