import PyProof.Rows.All
import Wide.All
import OpenK.AllK
import KE.KPairComp
import KE.KSortTup
import KE.KRevSl
import KE.KDeep
import Wide.FinOn
import PySem.Challenge.RW_nq0011_01
set_option Elab.async false

section
open PySem PySem.W PyProof.Rows
set_option maxRecDepth 100000
set_option maxHeartbeats 8000000
namespace Mine

/-- the walk stops here -/
def Halt (P : Prop) : Prop := P
theorem halt {P : Prop} (h : Halt P) : P := h
theorem unhalt {P : Prop} (h : P) : Halt P := h

/-- no exception leaves -/
abbrev NoE : Value → Shared → Prop := fun _ _ => False

section
variable {prog p : Program} {w : World} {A : Around} {s : Shared} {K : Frag} {h₀ : Heap} {L : Addr} {m mg mb : Str → Option Value} {loose : List Str} {news : List (Addr × Obj)}

/-- a called def's end -/
def RetMy (h₀ : Heap) (L : Addr) (m : Str → Option Value) (g : Heap) (L' : Addr) (Q : Value → Shared → Prop) (v : Value) (s' : Shared) : Prop :=
  ∃ m' news', Fr g L' s'.heap m' ∧ News g L' s'.heap news' ∧ (Fr h₀ L s'.heap m → News h₀ L s'.heap news' → Q v s')

theorem callMy {Q : Value → Shared → Prop} {E : Value → Shared → Prop} {name qual : Str} {params : Arguments} {body : List Stmt} {scope : Scope} {dV kV doc pm cdv ct oc : Value} {an od : Option Addr} {osl : Array (Option Value)} {f : Addr} {args : List Value} {binds : List (Str × Value)}
    (F : Fr h₀ L s.heap m) (X : K.In h₀) (N : News h₀ L s.heap news) (T : TopRead p loose mg mb h₀)
    (ho : K.lookup f = some ⟨oc, od, .func (fnOf name qual params body scope dV kV doc pm an cdv ct), osl⟩) (hcd : codeIn K cdv qual = true) (hroom : A.depth < recursionLimit)
    (hbind : bindArgs (fnOf name qual params body scope dV kV doc pm an cdv ct) ⟨args, []⟩ = pure binds) (hloc : ∀ y ∈ binds, scope.names.lookup y.1 = some .local)
    (h : ∀ g L' h₁, Fr h₀ L g m → Fr g L' h₁ (fun y => binds.reverse.lookup y) → News g L' h₁ news → K.In g → TopRead p loose mg mb g →
      wpAny (model prog w) (A.deeper (envOf qual scope L' f cdv)) (execs body (envOf qual scope L' f cdv))
        (fun fl s' => RetMy h₀ L m g L' Q (match fl with | .ret v => v | _ => .none) s')
        NoE { s with heap := h₁, toks := s.toks + binds.length })
    (hco : scope.isCoroutine = false) (hgen : scope.isGenerator = false) (hk : scope.kind = .function)
    (hcell : ∀ x ∈ scope.names, x.2 ≠ .cell) : wpAny (model prog w) A (call (.ref f) args) Q E s := by
  have XS := X.keeps F.keep
  refine wpAny_call (codeAny_call_def (fd := fnOf name qual params body scope dV kV doc pm an cdv ct) (body := body) (binds := binds) hroom (XS _ _ ho) rfl (T.nolimit.keeps F.keep) (codeRec_of XS hcd) rfl (BindsTo.of_eq hbind) hcell hloc (fun h₁ hns hk₁ => ?_) hco hgen hk)
  have nm : ∀ b o, h₀.get? b = some o → b ∉ news.map (·.1) := fun b o e q => by
    obtain ⟨x, hx, rfl⟩ := List.mem_map.mp q
    rw [(N x hx).2.2] at e; cases e
  have st : h₀.StaysIn (hideAll s.heap (news.map (·.1))) := fun b o e => hideAll_get _ (F.keep b o e) (nm b o e)
  obtain ⟨oL, es, ep, hL, hLd, hLk, hLf⟩ := F.ns
  have nL : L ∉ news.map (·.1) := fun q => by
    obtain ⟨x, hx, e⟩ := List.mem_map.mp q
    exact (N x hx).2.1 e
  have hLg := hideAll_get (news.map (·.1)) hL nL
  have body9 := h (hideAll s.heap (news.map fun x : Addr × Obj => x.1)) s.heap.objs.size h₁ ⟨⟨oL, es, ep, hLg, hLd, hLk, hLf⟩, st, F.above⟩
    ⟨hns, fun b o e => hk₁ b o (of_hideAll _ e), Nat.le_of_eq (hideAll_size _ _)⟩
    (fun x hx => ⟨hk₁ _ _ (N x hx).1, Nat.ne_of_lt (Heap.lt_size (N x hx).1), hideAll_none _ (List.mem_map_of_mem hx)⟩) (X.keeps st) (T.keeps st)
  refine wpAny_mono body9 (fun fl s' hl => ?_) fun _ _ y => y.elim
  obtain ⟨m', news', F', N', k⟩ := hl
  refine k ⟨⟨oL, es, ep, F'.keep L oL hLg, hLd, hLk, hLf⟩, fun b o e => F'.keep b o (st b o e), F.above⟩ fun x hx => ⟨(N' x hx).1, fun q => ?_, ?_⟩
  · have := (N' x hx).2.2; rw [q, hLg] at this; cases this
  · cases q : h₀.get? x.1 with
    | none => rfl
    | some o => have := (N' x hx).2.2; rw [st _ _ q] at this; cases this

/-- a turn's end under whileMy -/
def WStep (I : Nat → Shared → Prop) (n : Nat) (Q : Flow → Shared → Prop) (f : Flow) (s' : Shared) : Prop := match f with
  | .next | .cont => ∃ k, k < n ∧ I k s'
  | .brk => Q .next s'
  | .ret v => Q (.ret v) s'

theorem whileMy {E : Value → Shared → Prop} {env : Env} {test : Expr} {body : List Stmt} {pos : Pos} {Q : Flow → Shared → Prop} (I : Nat → Shared → Prop) (n : Nat) (hI : I n s)
    (turn : ∀ n s, I n s → wpAny (model prog w) A (isTrue test env (eval test env)) (fun b s₂ => if b = true then wpAny (model prog w) A (execs body env) (WStep I n Q) NoE s₂ else Q .next s₂) NoE s) :
    wpAny (model prog w) A (exec (.While test body [] pos) env) Q E s := by
  refine wpAny_While (codeAny_whileLoop I (fun n s hI => ?_) n hI)
  refine wpAny_mono (turn n s hI) (fun b s₂ h₂ => ?_) fun _ _ x => x.elim
  cases b with
  | false =>
    simp only [Bool.false_eq_true, if_false] at h₂ ⊢
    exact wpAny_execs_nil h₂
  | true =>
    simp only [if_true] at h₂ ⊢
    refine wpAny_mono h₂ (fun f s₃ h₃ => ?_) fun _ _ x => x.elim
    cases f <;> exact h₃
end
end Mine
end

section
open PySem PySem.W PyProof.Rows PySem.SeqAt
set_option maxRecDepth 100000
set_option maxHeartbeats 8000000
namespace Mine

def LtAt (A : Around) (s : Shared) (y x : Value) (b : Bool) : Prop :=
  ∀ (prog : Program) (w : World) (E : Value → Shared → Prop) (Q : Value → Shared → Prop), Q (.bool b) s → wpAny (model prog w) A (richCompare .Lt y x) Q E s

def LexM (A : Around) (s : Shared) (fin : Bool) (K : Bool → Prop) : List (Value × Value) → Prop
  | [] => K fin
  | (x, y) :: r => ∃ e, EqAt A s x y e ∧ if e = true then LexM A s fin K r else ∃ c, LtAt A s x y c ∧ K c

theorem tuple_lt_meets (l b : Addr) (oa ob : Obj) (xs ys : Array Value) (n n2 : Nat) :
    Meets (Builtin.«tuple.__lt__» ⟨[.ref l, .ref b], []⟩)
      (fun A R s => s.heap.get? l = some oa ∧ oa.cls = .type "tuple" ∧ oa.data = .seq xs n ∧ s.heap.get? b = some ob ∧ ob.cls = .type "tuple" ∧ ob.data = .seq ys n2 ∧
        LexM A.in1 s (decide (xs.size < ys.size)) (fun c => R (.ok (.ret (.bool c))) s) (xs.toList.zip ys.toList)) :=
  .of_wp fun prog w A R s h => by
    obtain ⟨hl, hlc, hld, hb, hbc, hbd, h⟩ := h
    have hTb : s.TypeIs (.ref b) "tuple" := ⟨_, hb, hbc⟩
    show wpAny _ _ (isInstance (.ref b) (.type "tuple") >>= _) _ _ s
    refine wpAny_bind (wpAny_isInstance hTb PySem.isSubtype_tuple_tuple ?_)
    simp only [Bool.not_true, Bool.false_eq_true, if_false]
    refine wpAny_bind (wpAny_tupleItemsOf hl hld ?_)
    refine wpAny_bind (wpAny_tupleItemsOf hb hbd ?_)
    refine wpAny_bind ?_
    refine wpAny_forIn_list _
      (fun rest r s' => r.1 = none ∧ s' = s ∧ LexM A.in1 s (decide (xs.size < ys.size)) (fun c => R (.ok (.ret (.bool c))) s) rest)
      _ ?_ ?_ _ _ ⟨rfl, rfl, h⟩
    · rintro ⟨u, v⟩ rest r s' ⟨hr, rfl, e, he, hk⟩
      refine wpAny_bind (he prog w _ _ ?_)
      cases e with
      | true =>
        simp only [if_true] at hk
        simp only [Bool.not_true, Bool.false_eq_true, if_false]
        exact wpAny_pure ⟨rfl, rfl, hk⟩
      | false =>
        simp only [Bool.false_eq_true, if_false] at hk
        obtain ⟨c, hc, hk⟩ := hk
        simp only [Bool.not_false, if_true]
        refine wpAny_bind (wpAny_rule (wpAny_bind (hc prog w _ _ ?_)))
        exact wpAny_bind (wpAny_pure (wpAny_pure (wpAny_pure ⟨_, rfl, hk⟩)))
    · rintro ⟨r1, r2⟩ s' ⟨hr, rfl, hk⟩
      simp only at hr
      subst hr
      refine wpAny_pure ?_
      exact ⟨_, rfl, hk⟩
end Mine
end

section
open PySem PySem.W PyProof.Rows PySem.SeqAt
set_option maxRecDepth 100000
set_option maxHeartbeats 8000000
namespace Mine

/-- a row's ints -/
def rowI (r : List UInt8) : List Int := r.map fun b => (b.toNat : Int)
/-- Python's order on tuples of ints -/
def ilt : List Int → List Int → Bool
  | [], [] => false
  | [], _ :: _ => true
  | _ :: _, [] => false
  | a :: r, b :: q => if a = b then ilt r q else decide (a < b)
abbrev Pr := Int × List UInt8
/-- Python's order on pairs of a price and a row -/
def plt (x y : Pr) : Bool := if x.1 = y.1 then ilt (rowI x.2) (rowI y.2) else decide (x.1 < y.1)

def rowD (r : List UInt8) : Dat := .tuple ((rowI r).map .int)
def pairD (x : Pr) : Dat := .tuple [.int x.1, rowD x.2]

theorem toNat_inj8 {a b : UInt8} (h : a.toNat = b.toNat) : a = b := UInt8.toNat_inj.mp h
theorem rowI_inj : ∀ {a b : List UInt8}, rowI a = rowI b → a = b
  | [], [], _ => rfl
  | [], _ :: _, h => by simp [rowI] at h
  | _ :: _, [], h => by simp [rowI] at h
  | a :: r, b :: q, h => by
    simp only [rowI, List.map_cons, List.cons.injEq] at h
    have h1 : a = b := toNat_inj8 (by have := h.1; omega)
    have h2 : r = q := rowI_inj h.2
    rw [h1, h2]
theorem dint_inj : ∀ {a b : List Int}, a.map Dat.int = b.map Dat.int → a = b
  | [], [], _ => rfl
  | [], _ :: _, h => by simp at h
  | _ :: _, [], h => by simp at h
  | a :: r, b :: q, h => by
    simp only [List.map_cons, List.cons.injEq, Dat.int.injEq] at h
    rw [h.1, dint_inj h.2]
theorem rowD_inj {a b : List UInt8} (h : rowD a = rowD b) : a = b := by
  unfold rowD at h
  injection h with h
  exact rowI_inj (dint_inj h)
theorem pairD_inj {x y : Pr} (h : pairD x = pairD y) : x = y := by
  unfold pairD at h
  injection h with h
  simp only [List.cons.injEq, Dat.int.injEq, and_true] at h
  exact Prod.ext h.1 (rowD_inj h.2)
theorem rowOk (n : Nat) (r : List UInt8) : kqdOk (n + 1) (rowD r) = true := by
  unfold rowD
  simp only [kqdOk, List.all_map, List.all_eq_true]
  intro x _
  show kqdOk n (.int x) = true
  cases n <;> rfl
theorem pairOk (n : Nat) (x : Pr) : kqdOk (n + 2) (pairD x) = true := by
  unfold pairD
  simp only [kqdOk, List.all_cons, List.all_nil, Bool.and_true, rowOk]

section
variable {A : Around} {s : Shared} {h₀ : Heap} {L : Addr} {news : List (Addr × Obj)} {v u : Value}

theorem ltAt_int {a b : Int} {t t' : Tok} : LtAt A s (.int a t) (.int b t') (decide (a < b)) := fun _ _ _ _ h => lt_int (t := t) (u := t') h

theorem eqAt_dat (N : News h₀ L s.heap news) {d e : Dat} (n k : Nat) (hd : DatIn news v d) (he : DatIn news u e) (od : kqdOk n d = true) (oe : kqdOk k e = true) (hu : A.units + n < cLine) (b : Bool) (hb : b = true ↔ d = e) : EqAt A s v u b := by
  obtain ⟨as, ra⟩ := kqd_in N n hd od
  obtain ⟨bs, rb⟩ := kqd_in N k he oe
  have la := kqd_lay n d od
  have lb := kqd_lay k e oe
  have q := eqAt_reads (kqdP d) (kqdP e) A s v u as bs ra rb la.1 lb.1 (by have := la.2; omega)
  have eb : PyData.eqv (kqdP d) (kqdP e) = b := by
    have := kqd_eqv n d e k od oe
    rw [← hb] at this
    cases b <;> cases h : PyData.eqv (kqdP d) (kqdP e) <;> simp_all
  rw [eb] at q
  exact q

theorem lexM_rows : ∀ {vs us : List Value} {a b : List Int} {K : Bool → Prop} {fin : Bool}, DatAll news vs (a.map .int) → DatAll news us (b.map .int) →
    decide (vs.length < us.length) = fin → K (ilt a b) → LexM A s fin K (vs.zip us) := by
  intro vs
  induction vs with
  | nil =>
    intro us a b K fin ha hb hf hk
    cases a with
    | cons _ _ => nomatch ha
    | nil =>
      cases us with
      | nil =>
        cases b with
        | cons _ _ => nomatch hb
        | nil => show K fin; rw [← hf]; exact hk
      | cons _ us =>
        cases b with
        | nil => nomatch hb
        | cons _ _ =>
          show K fin
          rw [← hf, show decide (([] : List Value).length < (_ :: us : List Value).length) = true by simp]; exact hk
  | cons v vs ih =>
    intro us a b K fin ha hb hf hk
    cases a with
    | nil => nomatch ha
    | cons i a =>
      cases us with
      | nil =>
        cases b with
        | cons _ _ => nomatch hb
        | nil =>
          show K fin
          rw [← hf, show decide ((v :: vs : List Value).length < ([] : List Value).length) = false by simp]; exact hk
      | cons u us =>
        cases b with
        | nil => nomatch hb
        | cons j b =>
          cases ha with
          | cons h1 ha =>
            cases hb with
            | cons h2 hb =>
              cases h1 with
              | int _ t =>
                cases h2 with
                | int _ t' =>
                  refine ⟨decide (i = j), ?_, ?_⟩
                  · have := EqAt.int_int (A := A) (s := s) i t j t'
                    have e : (i == j) = decide (i = j) := by by_cases h : i = j <;> simp [h]
                    first | exact this | (rw [e] at this; exact this) | (simpa using this)
                  · by_cases h : i = j
                    · subst h
                      simp only [decide_true, if_true]
                      exact ih ha hb (by rw [← hf]; simp) (by simpa [ilt] using hk)
                    · simp only [h, decide_false, Bool.false_eq_true, if_false]
                      refine ⟨_, ltAt_int, ?_⟩
                      simpa [ilt, h] using hk

theorem richLt_tuples {l b : Addr} {xs ys : List Value} {n k : Nat} {c : Bool} (hl : s.heap.get? l = some { cls := .type "tuple", data := .seq xs.toArray n }) (hb : s.heap.get? b = some { cls := .type "tuple", data := .seq ys.toArray k }) (hu : A.units < cLine)
    (h : ∀ K : Bool → Prop, K c → LexM A.in1 s (decide (xs.length < ys.length)) K (xs.zip ys)) : LtAt A s (.ref l) (.ref b) c := fun prog w E Q hq => by
  refine richCompare_meets_room (op := .Lt) ⟨_, hl, rfl⟩ ⟨_, hb, rfl⟩ PySem.F.slot_tuple_lt PySem.F.entry_tuple_lt (PySem.F.args_tuple_lt_2 _ _) (tuple_lt_meets l b _ _ xs.toArray ys.toArray n k) ⟨hl, rfl, rfl, hb, rfl, rfl, ?_⟩ hu
  exact h _ ⟨(fun x => nomatch x), hq⟩

theorem ltAt_row (N : News h₀ L s.heap news) {a b : List UInt8} (ha : DatIn news v (rowD a)) (hb : DatIn news u (rowD b)) (hu : A.units < cLine) : LtAt A s v u (ilt (rowI a) (rowI b)) := by
  cases ha with
  | tuple h1 ha =>
    cases hb with
    | tuple h2 hb =>
      exact richLt_tuples (N _ h1).1 (N _ h2).1 hu fun K hK => lexM_rows ha hb rfl hK

theorem ltAt_pair (N : News h₀ L s.heap news) {x y : Pr} (hx : DatIn news v (pairD x)) (hy : DatIn news u (pairD y)) (hu : A.units + 8 < cLine) : LtAt A s v u (plt x y) := by
  cases hx with
  | tuple h1 hx =>
    cases hy with
    | tuple h2 hy =>
      refine richLt_tuples (N _ h1).1 (N _ h2).1 (by omega) fun K hK => ?_
      cases hx with
      | cons hx1 hx =>
        cases hx with
        | cons hx2 hx =>
          cases hx with
          | nil =>
            cases hy with
            | cons hy1 hy =>
              cases hy with
              | cons hy2 hy =>
                cases hy with
                | nil =>
                  cases hx1 with
                  | int _ t =>
                    cases hy1 with
                    | int _ t' =>
                      refine ⟨decide (x.1 = y.1), ?_, ?_⟩
                      · have := EqAt.int_int (A := A.in1) (s := s) x.1 t y.1 t'
                        have e : (x.1 == y.1) = decide (x.1 = y.1) := by by_cases h : x.1 = y.1 <;> simp [h]
                        first | exact this | (rw [e] at this; exact this) | (simpa using this)
                      · by_cases h : x.1 = y.1
                        · simp only [h, decide_true, if_true]
                          refine ⟨decide (x.2 = y.2), eqAt_dat N 2 2 hx2 hy2 (rowOk 1 _) (rowOk 1 _) (by show A.units + 1 + 2 < cLine; omega) _ ⟨fun e => by rw [of_decide_eq_true e], fun e => decide_eq_true (rowD_inj e)⟩, ?_⟩
                          by_cases h' : x.2 = y.2
                          · have e : plt x y = false := by
                              unfold plt
                              rw [if_pos h, h']
                              generalize rowI y.2 = z
                              induction z with
                              | nil => rfl
                              | cons i z ih => simp [ilt, ih]
                            rw [e] at hK
                            simp only [h', decide_true, if_true]
                            exact hK
                          · simp only [h', decide_false, Bool.false_eq_true, if_false]
                            refine ⟨_, ltAt_row N hx2 hy2 (by show A.units + 1 < cLine; omega), ?_⟩
                            unfold plt at hK
                            rw [if_pos h] at hK
                            exact hK
                        · simp only [h, decide_false, Bool.false_eq_true, if_false]
                          refine ⟨_, ltAt_int, ?_⟩
                          unfold plt at hK
                          rw [if_neg h] at hK
                          exact hK
end
end Mine
end

section
open PySem PySem.W PyProof.Rows PySem.SeqAt
set_option maxRecDepth 100000
set_option maxHeartbeats 8000000
namespace Mine

/-- an item: its value and what it tells -/
abbrev It := Value × Pr
abbrev ilt2 (a b : It) : Bool := plt a.2 b.2
abbrev valsOf (zs : List It) : List Value := zs.map (·.1)
/-- the ledger bears them -/
def Good (rest : List (Addr × Obj)) (zs : List It) : Prop := ∀ z ∈ zs, DatIn rest z.1 (pairD z.2)

theorem Good.set {rest : List (Addr × Obj)} {zs : List It} {k : Nat} {x : It} (h : Good rest zs) (hx : DatIn rest x.1 (pairD x.2)) : Good rest (zs.set k x) := fun z hz => by
  rcases List.mem_or_eq_of_mem_set hz with h' | rfl
  · exact h z h'
  · exact hx
theorem Good.get {rest : List (Addr × Obj)} {zs : List It} {k : Nat} {x : It} (h : Good rest zs) (hx : zs[k]? = some x) : DatIn rest x.1 (pairD x.2) := h x (List.mem_of_getElem? hx)
theorem Good.mono {rest rest' : List (Addr × Obj)} {zs : List It} (h : Good rest zs) (hs : ∀ p ∈ rest, p ∈ rest') : Good rest' zs := fun z hz => (h z hz).mono hs

section
variable {prog p : Program} {w : World} {A : Around} {E : Value → Shared → Prop} {s : Shared} {K : Frag} {h₀ : Heap} {L l : Addr} {m mg mb : Str → Option Value} {loose : List Str} {news rest : List (Addr × Obj)} {n : Nat}

theorem item_my {value slice : PySem.Expr} {us : List Value} {i : Int} {k : Nat} {u : Tok} {v : Value} {Q : Value → Shared → Prop} (N : News h₀ L s.heap ((l, listOf us.toArray n) :: rest)) (hi : i = (k : Int)) (hv : us[k]? = some v) (hz : us.length < 2 ^ 20) (h : Q v s)
    (hs : subscripted slice false (.ref l) (.int i u) = operate [.ref l, .int i u] (getItem (.ref l) (.int i u)) := by with_unfolding_all rfl) :
    wpAny (model prog w) A (subscriptTail value slice (.ref l) (.int i u)) Q E s := by
  have hl : s.heap.IsList l us.toArray := ⟨_, (N _ (.head _)).1, rfl, n, rfl⟩
  have hk : k < us.length := by
    rcases Nat.lt_or_ge k us.length with h | h
    · exact h
    · rw [List.getElem?_eq_none h] at hv; cases hv
  exact tail_any hl.typeIs slot_list_getitem.lookup (wpAny_getItem_list hl (by omega) (by omega) (by subst hi; simpa using hv) h) hs

theorem setItem_my {us : List Value} {i : Int} {k : Nat} {u : Tok} {v : Value} {Q : Unit → Shared → Prop} (F : Fr h₀ L s.heap m) (N : News h₀ L s.heap ((l, listOf us.toArray n) :: rest)) (hr : ∀ q ∈ rest, q.1 ≠ l) (hi : i = (k : Int)) (hk : k < us.length) (hz : us.length < 2 ^ 20)
    (h : ∀ h', Fr h₀ L h' m → News h₀ L h' ((l, listOf (us.set k v).toArray n) :: rest) → Q () { s with heap := h' }) : wpAny (model prog w) A (setItem (.ref l) (.int i u) v) Q E s := by
  subst hi
  have z := N _ (.head _)
  have hsz : (us.toArray.size : Int) = us.length := by simp
  refine ki_setAt z.1 (by omega) (by omega) (by rw [hsz]; omega) (h _ (F.change (Heap.SameBut.update ..) z.2.1 z.2.2) ?_)
  have e := ki_turn (pre := []) (its' := (us.set k v).toArray) (n' := n) (fun a : Array Value => a.setIfInBounds (k : Int).toNat v) N (fun _ hp => nomatch hp) hr (by simp) (by simp)
  exact e

theorem itemZ {value slice : PySem.Expr} {zs : List It} {i : Int} {k : Nat} {u : Tok} {x : It} {Q : Value → Shared → Prop} (N : News h₀ L s.heap ((l, listOf (valsOf zs).toArray n) :: rest)) (hi : i = (k : Int)) (hv : zs[k]? = some x) (hz : zs.length < 2 ^ 20) (h : Q x.1 s)
    (hs : subscripted slice false (.ref l) (.int i u) = operate [.ref l, .int i u] (getItem (.ref l) (.int i u)) := by with_unfolding_all rfl) :
    wpAny (model prog w) A (subscriptTail value slice (.ref l) (.int i u)) Q E s :=
  item_my N hi (by simp [hv]) (by simpa using hz) h hs
theorem setItemZ {zs : List It} {i : Int} {k : Nat} {u : Tok} {x : It} {Q : Unit → Shared → Prop} (F : Fr h₀ L s.heap m) (N : News h₀ L s.heap ((l, listOf (valsOf zs).toArray n) :: rest)) (hr : ∀ q ∈ rest, q.1 ≠ l) (hi : i = (k : Int)) (hk : k < zs.length) (hz : zs.length < 2 ^ 20)
    (h : ∀ h', Fr h₀ L h' m → News h₀ L h' ((l, listOf (valsOf (zs.set k x)).toArray n) :: rest) → Q () { s with heap := h' }) : wpAny (model prog w) A (setItem (.ref l) (.int i u) x.1) Q E s :=
  setItem_my F N hr hi (by simpa using hk) (by simpa using hz) fun h' F' N' => h h' F' (by rw [show valsOf (zs.set k x) = (valsOf zs).set k x.1 from List.map_set ..]; exact N')

theorem lenZ {zs : List It} {Q : Value → Shared → Prop} (N : News h₀ L s.heap ((l, listOf (valsOf zs).toArray n) :: rest)) (hz : zs.length < 2 ^ 20)
    (h : Q (.int (zs.length : Int) (s.toks + 1)) { s with toks := s.toks + 1 + 1 }) : wpAny (model prog w) A (call (.builtin "len") [.ref l]) Q E s := by
  have hl : s.heap.IsList l (valsOf zs).toArray := ⟨_, (N _ (.head _)).1, rfl, n, rfl⟩
  have e : (valsOf zs).toArray.size = zs.length := by simp
  exact len_list hl (by rw [e]; omega) (by rw [e]; exact h)

theorem appendZ {zs : List It} {x : It} {Q : Value → Shared → Prop} (F : Fr h₀ L s.heap m) (N : News h₀ L s.heap ((l, listOf (valsOf zs).toArray n) :: rest)) (hr : ∀ q ∈ rest, q.1 ≠ l) (hz : zs.length < 2 ^ 20)
    (h : ∀ h', Fr h₀ L h' m → News h₀ L h' ((l, listOf (valsOf (zs ++ [x])).toArray (n + 1)) :: rest) → Q .none { s with heap := h' }) : wpAny (model prog w) A (call (.builtin "list.append") [.ref l, x.1]) Q E s := by
  refine append_K F N (Upd.head hr) (fun h' F' N' => h h' F' ?_) (by rw [List.size_toArray, List.length_map, sizeLine_eq]; omega)
  have e : (valsOf (zs ++ [x])).toArray = (valsOf zs).toArray.push x.1 := by simp
  rw [e]; exact N'
theorem popZ {zs : List It} {x : It} {Q : Value → Shared → Prop} (F : Fr h₀ L s.heap m) (N : News h₀ L s.heap ((l, listOf (valsOf (zs ++ [x])).toArray n) :: rest)) (hr : ∀ q ∈ rest, q.1 ≠ l) (hz : zs.length < 2 ^ 20)
    (h : ∀ h', Fr h₀ L h' m → News h₀ L h' ((l, listOf (valsOf zs).toArray (n + 1)) :: rest) → Q x.1 { s with heap := h' }) : wpAny (model prog w) A (call (.builtin "list.pop") [.ref l]) Q E s := by
  refine kl_pop F N (p := valsOf zs) (y := x.1) ?_ (Upd.head hr) (by simp [sizeLine_eq]; omega) h
  have e : (valsOf (zs ++ [x])).toArray.toList = valsOf zs ++ [x.1] := by simp
  rw [e]
  exact kpa_last x.1 (valsOf zs)
theorem truthZ {zs : List It} {Q : Bool → Shared → Prop} (N : News h₀ L s.heap ((l, listOf (valsOf zs).toArray n) :: rest)) (hz : zs.length < 2 ^ 20) (h : ∀ tk, Q (decide (0 < zs.length)) { s with toks := tk }) :
    wpAny (model prog w) A (truthy (.ref l)) Q E s := by
  have hl : s.heap.IsList l (valsOf zs).toArray := ⟨_, (N _ (.head _)).1, rfl, n, rfl⟩
  have e : (valsOf zs).toArray.size = zs.length := by simp
  refine wpAny_truthy_list hl (by rw [e]; omega) ?_
  have e2 : (!(valsOf zs).toArray.isEmpty) = decide (0 < zs.length) := by
    cases zs with
    | nil => rfl
    | cons z zs => simp
  rw [e2]; exact h _

theorem Fr_ext {h h' : Heap} (F : Fr h₀ L h m) (k : ∀ b o, h.get? b = some o → h'.get? b = some o) : Fr h₀ L h' m := by
  obtain ⟨oL, es, ep, hL, r⟩ := F.ns
  exact ⟨⟨oL, es, ep, k _ _ hL, r⟩, fun b o e => k _ _ (F.keep b o e), F.above⟩
theorem News_ext {h h' : Heap} (N : News h₀ L h news) (k : ∀ b o, h.get? b = some o → h'.get? b = some o) : News h₀ L h' news := fun q hq => ⟨k _ _ (N q hq).1, (N q hq).2⟩
theorem News_new {h h' : Heap} {o : Obj} (F : Fr h₀ L h m) (N : News h₀ L h news) (k : ∀ b o, h.get? b = some o → h'.get? b = some o) (ho : h'.get? h.objs.size = some o) : News h₀ L h' ((h.objs.size, o) :: news) := by
  obtain ⟨oL, es, ep, hL, r⟩ := F.ns
  intro q hq
  rcases List.mem_cons.mp hq with rfl | hq
  · refine ⟨ho, Nat.ne_of_gt (Heap.lt_size hL), ?_⟩
    cases e : h₀.get? h.objs.size with
    | none => rfl
    | some o' => exact absurd (Heap.lt_size (F.keep _ _ e)) (Nat.lt_irrefl _)
  · exact ⟨k _ _ (N q hq).1, (N q hq).2⟩
theorem News_off {h : Heap} (N : News h₀ L h news) : ∀ q ∈ news, q.1 ≠ h.objs.size := fun q hq => Nat.ne_of_lt (Heap.lt_size (N q hq).1)
theorem Fr_but {h h' : Heap} {a : Addr} (F : Fr h₀ L h m) (hs : Heap.SameBut a h h') (haL : a ≠ L) (ha : h₀.get? a = none) : Fr h₀ L h' m := F.change hs haL ha
theorem News_but {h h' : Heap} {a : Addr} {o o' : Obj} (N : News h₀ L h ((a, o) :: rest)) (hr : ∀ q ∈ rest, q.1 ≠ a) (hs : Heap.SameBut a h h') (ho : h'.get? a = some o') : News h₀ L h' ((a, o') :: rest) := fun q hq => by
  rcases List.mem_cons.mp hq with rfl | hq
  · exact ⟨ho, (N _ (.head _)).2⟩
  · exact ⟨(hs.2 _ (hr q hq)).trans (N q (.tail _ hq)).1, (N q (.tail _ hq)).2⟩

theorem lt_my {v u : Value} {x y : Pr} {Q : Value → Shared → Prop} (N : News h₀ L s.heap news) (hx : DatIn news v (pairD x)) (hy : DatIn news u (pairD y)) (hu : A.units + 8 < cLine) (h : Q (.bool (plt x y)) s) :
    wpAny (model prog w) A (compareOp .Lt v u) Q E s := ltAt_pair N hx hy hu prog w E Q h
theorem fdiv2 {j : Nat} (h : 0 < j) : ((j : Int) - 1).fdiv (2 ^ Int.toNat 1) = ((j - 1) / 2 : Nat) := by
  have : ((j : Int) - 1) = ((j - 1 : Nat) : Int) := by omega
  rw [this]
  show Int.fdiv _ 2 = _
  rw [Int.fdiv_eq_ediv_of_nonneg _ (by omega)]
  omega
end
end Mine
end

section
open PySem PySem.W PyProof.Rows PySem.SeqAt
open PySem.Sem (wp)
set_option maxRecDepth 100000
set_option maxHeartbeats 8000000
namespace Mine

/-- builtins on the stack that may hold a bytearray -/
def loudIds : List String := Builtin.Bytes.decodersThatHold ++ ["bytearray.__contains__", "bytearray.__mod__", "bytearray.__rmod__", "_struct.pack_into.held", "bytearray.find.held"]
def Calm : Code → Prop
  | .builtin id _ => loudIds.contains id = false
  | _ => True
def Clean (l : List (Code × Pos)) : Prop := ∀ x ∈ l, Calm x.1

/-- as wpAny, over clean stacks alone -/
def wpX {α : Type} (M : Model) (A : Around) (t : Sem α) (Q : α → Shared → Prop) (E : Value → Shared → Prop) (s : Shared) : Prop :=
  ∀ Γ p, Γ.In A → Calm Γ.code → Clean Γ.below → wp M Γ t (fun a _ s' => Q a s') (fun e _ s' => E e s') p s
def codeX (M : Model) (A : Around) (c : Code) (R : Result → Shared → Prop) (s : Shared) : Prop :=
  ∀ Γ p, Γ.code = c → Γ.Below A → Clean Γ.below → wpCode M Γ R p s

section
variable {α β : Type} {M : Model} {A : Around} {E : Value → Shared → Prop} {s : Shared} {env : Env}

theorem wpX_any {t : Sem α} {Q : α → Shared → Prop} (h : wpAny M A t Q E s) : wpX M A t Q E s := fun Γ p hΓ _ _ => h Γ p hΓ
theorem codeX_any {c : Code} {R : Result → Shared → Prop} (h : codeAny M A c R s) : codeX M A c R s := fun Γ p hc hΓ _ => h Γ p hc hΓ
theorem wpX_pure {a : α} {Q : α → Shared → Prop} (h : Q a s) : wpX M A (pure a) Q E s := fun _ _ _ _ _ => h
theorem wpX_mono {t : Sem α} {Q Q' : α → Shared → Prop} {E' : Value → Shared → Prop} (h : wpX M A t Q E s) (hQ : ∀ a s, Q a s → Q' a s) (hE : ∀ e s, E e s → E' e s) : wpX M A t Q' E' s :=
  fun Γ p hΓ hc hb => Sem.wp_mono M Γ t (fun a _ s => hQ a s) (fun e _ s => hE e s) p s (h Γ p hΓ hc hb)
theorem wpX_bind {m : Sem α} {f : α → Sem β} {Q : β → Shared → Prop} (h : wpX M A m (fun a s' => wpX M A (f a) Q E s') E s) : wpX M A (m >>= f) Q E s := fun Γ p hΓ hc hb => by
  rw [Sem.wp_bind']
  exact Sem.wp_mono M Γ m (fun a p' s' h' => h' Γ p' hΓ hc hb) (fun _ _ _ h' => h') p s (h Γ p hΓ hc hb)
theorem wpX_bindA {m : Sem α} {f : α → Sem β} {Q : β → Shared → Prop} (h : wpAny M A m (fun a s' => wpX M A (f a) Q E s') E s) : wpX M A (m >>= f) Q E s := wpX_bind (wpX_any h)
theorem wpX_holding {vs : List Value} {m : Sem α} {Q : α → Shared → Prop} (h : wpX M A m Q E s) : wpX M A (holding vs m) Q E s :=
  fun Γ p hΓ hc hb => by rw [Sem.wp_holding]; exact h Γ p hΓ hc hb
theorem wpX_keep {vs : List Value} {m : Sem α} {Q : α → Shared → Prop} (h : wpX M A m Q E s) : wpX M A (m.keep vs) Q E s :=
  fun Γ p hΓ hc hb => by rw [Sem.wp_keep]; exact h Γ p hΓ hc hb
theorem wpX_onRaise {m : Sem α} {k : Value → Sem Unit} {Q : α → Shared → Prop} (h : wpX M A m Q NoE s) : wpX M A (m.onRaise k) Q E s := fun Γ p hΓ hc hb => by
  rw [Sem.wp_onRaise]
  exact Sem.wp_mono M Γ m (fun _ _ _ h' => h') (fun e p' s' h' => h'.elim) p s (h Γ p hΓ hc hb)
theorem codeX_mono {c : Code} {R R' : Result → Shared → Prop} (h : codeX M A c R s) (hR : ∀ r s, R r s → R' r s) : codeX M A c R' s :=
  fun Γ p hc hΓ hb => wpCode_mono hR (h Γ p hc hΓ hb)

theorem clean_enter {Γ : Ctx} {c : Code} {h : Option Value} {p : Pos} (hc : Calm Γ.code) (hb : Clean Γ.below) : Clean (Γ.enter c h p).below := fun x hx => by
  have : x ∈ (Γ.code, p) :: Γ.below := hx
  rcases List.mem_cons.mp this with rfl | h'
  · exact hc
  · exact hb x h'

theorem wpX_run {c : Code} {Q : Flow → Shared → Prop} (hc : codeX M A c (fun r s' => match r with | .ok f => Q f s' | .error e => E e s') s) : wpX M A (run c) Q E s :=
  fun Γ p hΓ hcl hb => by
    rw [Sem.wp_run]
    exact hc _ p rfl (by have := hΓ.enter c none p (by intro x; cases x); exact this) (clean_enter hcl hb)
theorem wpX_runValue {c : Code} {Q : Value → Shared → Prop} (hc : codeX M A c (fun r s' => match r with | .ok (.ret v) => Q v s' | .ok _ => False | .error e => E e s') s) : wpX M A (runValue c) Q E s :=
  fun Γ p hΓ hcl hb => by
    rw [Sem.wp_runValue]
    exact hc _ p rfl (by have := hΓ.enter c none p (by intro x; cases x); exact this) (clean_enter hcl hb)
theorem wpX_call {f : Value} {pos : List Value} {kw : List (Str × Value)} {Q : Value → Shared → Prop}
    (hc : codeX M A (.call f ⟨pos, kw⟩) (fun r s' => match r with | .ok (.ret v) => Q v s' | .ok _ => False | .error e => E e s') s) : wpX M A (call f pos kw) Q E s := wpX_runValue hc

theorem codeX_of_tree {c : Code} {R : Result → Shared → Prop} (hcalm : Calm c)
    (h : wpX M (A.under c) (M.den c) (fun fin s' => match fin with | .done f => R (.ok f) s' | .again c' => c'.quiet = true ∧ codeX M A c' R s') (fun e s' => R (.error e) s') s) : codeX M A c R s := fun Γ p hc hΓ hb => by
  rw [wpCode_iff_wp, hc]
  refine Sem.wp_mono M Γ _ (fun fin p' s' h' => ?_) (fun _ _ _ h' => h') p s (h Γ p (hc ▸ hΓ.in) (hc ▸ hcalm) hb)
  cases fin with
  | done f => exact h'
  | again c' => exact ⟨h'.1, h'.2 (Γ.goto c') p' rfl (hΓ.goto c') hb⟩

theorem codeX_loop {c : Code} {R : Result → Shared → Prop} (hcalm : Calm c) (hq : c.quiet = true) (I : Nat → Shared → Prop)
    (turn : ∀ n s, I n s → wpX M (A.under c) (M.den c)
      (fun fin s' => match fin with | .done f => R (.ok f) s' | .again c' => c' = c ∧ ∃ m, m < n ∧ I m s') (fun e s' => R (.error e) s') s)
    (n : Nat) (h : I n s) : codeX M A c R s := by
  induction n using Nat.strongRecOn generalizing s with
  | ind n ih =>
    refine codeX_of_tree hcalm (wpX_mono (turn n s h) (fun fin s' hf => ?_) fun _ _ h' => h')
    cases fin with
    | done f => exact hf
    | again c' => obtain ⟨rfl, m, hm, hI⟩ := hf; exact ⟨hq, ih m hm hI⟩

theorem wpX_execs_cons {st : Stmt} {rest : List Stmt} {Q : Flow → Shared → Prop}
    (h : wpX M A (exec st env) (fun f s' => match f with | .next => wpX M A (execs rest env) Q E s' | f => Q f s') E s) : wpX M A (execs (st :: rest) env) Q E s := fun Γ p hΓ hc hb => by
  rw [execs_cons, Sem.wp_bind']
  refine Sem.wp_mono M Γ _ (fun f p' s' h' => ?_) (fun _ _ _ h' => h') _ _ (h Γ p hΓ hc hb)
  cases f <;> first | exact h' Γ p' hΓ hc hb | exact h'
/-- a statement that meets no bytearray -/
theorem wpX_leaf {st : Stmt} {rest : List Stmt} {Q : Flow → Shared → Prop}
    (h : wpAny M A (exec st env) (fun f s' => match f with | .next => wpX M A (execs rest env) Q E s' | f => Q f s') E s) : wpX M A (execs (st :: rest) env) Q E s := wpX_execs_cons (wpX_any h)

theorem wpX_Assign_Name {x : Str} {pos' pos : Pos} {value : Expr} {Q : Flow → Shared → Prop}
    (h : wpX M A (eval value env) (fun v s₁ => wpAny M A (storeName env x v) (fun _ => Q .next) E s₁) E s)
    (hs : swapsWith value (some (.Name x pos')) pos.line env = pure false := by rfl) :
    wpX M A (exec (.Assign [.Name x pos'] value pos) env) Q E s := fun Γ p hΓ hc hb => by
  simp only [exec_Assign_Name env x pos' value pos hs, Sem.wp_bind', Sem.wp_cmd_standAt, Sem.wp_bindName, Sem.wp_pure']
  exact Sem.wp_mono M Γ _ (fun v _ s₁ h₁ => h₁ Γ _ hΓ) (fun _ _ _ h' => h') _ _ (h Γ _ hΓ hc hb)
theorem wpX_Return_some {e : Expr} {pos : Pos} {Q : Flow → Shared → Prop} (h : wpX M A (eval e env) (fun v => Q (.ret v)) E s) : wpX M A (exec (.Return (some e) pos) env) Q E s := fun Γ p hΓ hc hb => by
  simp only [exec_Return_some, Sem.wp_bind', Sem.wp_cmd_standAt, Sem.wp_pure']; exact h Γ _ hΓ hc hb
theorem wpX_Compare1 {l r : Expr} {op : CmpOp} {pos : Pos} {Q : Value → Shared → Prop}
    (h : wpX M A (eval l env) (fun a s₁ => wpAny M A (eval r env) (fun b s₂ => wpAny M A (compareOp op a b) Q E s₂) E s₁) E s)
    (hm : behindInMarks op r = false := by with_unfolding_all rfl) : wpX M A (eval (.Compare l [op] [r] pos) env) Q E s := fun Γ p hΓ hc hb => by
  simp only [eval_Compare1, markedBehindIn_of_false hm, Sem.wp_bind', Sem.wp_holding, Sem.wp_cmd_standAt, Sem.wp_operate]
  exact Sem.wp_mono M Γ _ (fun a p₁ s₁ h₁ => Sem.wp_mono M Γ _ (fun b _ s₂ h₂ => h₂ Γ _ hΓ) (fun _ _ _ h' => h') _ _ (h₁ Γ p₁ hΓ))
    (fun _ _ _ h' => h') _ _ (h Γ p hΓ hc hb)
theorem wpX_BinOp {l r : Expr} {op : Operator} {pos : Pos} {Q : Value → Shared → Prop}
    (h : wpX M A (eval l env) (fun a s₁ => wpX M A (eval r env) (fun b s₂ => wpAny M A (binaryOp op a b) Q E s₂) E s₁) E s) : wpX M A (eval (.BinOp l op r pos) env) Q E s := fun Γ p hΓ hc hb => by
  simp only [eval_BinOp, Sem.wp_bind', Sem.wp_holding, Sem.wp_cmd_standAt, Sem.wp_operate]
  exact Sem.wp_mono M Γ _ (fun a p₁ s₁ h₁ => Sem.wp_mono M Γ _ (fun b _ s₂ h₂ => h₂ Γ _ hΓ) (fun _ _ _ h' => h') _ _ (h₁ Γ p₁ hΓ hc hb))
    (fun _ _ _ h' => h') _ _ (h Γ p hΓ hc hb)

theorem wpX_spliced_nil {pos : Pos} {Q : List Value → Shared → Prop} (h : Q [] s) : wpX M A (spliced (backTo pos (starEach [] env))) Q E s := wpX_any (spliced_none h)
theorem wpX_spliced_cons {e : Expr} {rest : List Expr} {pos : Pos} {Q : List Value → Shared → Prop}
    (h : wpX M A (eval e env) (fun v s₁ => wpX M A (spliced (backTo pos (starEach rest env))) (fun vs s₂ => Q (v :: vs) s₂) E s₁) E s)
    (he : starEach (e :: rest) env = (false, eval e env) :: starEach rest env := by rfl) : wpX M A (spliced (backTo pos (starEach (e :: rest) env))) Q E s := by
  rw [he]
  show wpX M A (spliced ((false, eval e env) :: backTo pos (starEach rest env))) Q E s
  rw [spliced]
  refine wpX_bind (wpX_mono h (fun v s₁ h₁ => ?_) fun _ _ x => x)
  simp only [Bool.false_eq_true, if_false]
  exact wpX_bind (wpX_pure (wpX_bind (wpX_holding (wpX_mono h₁ (fun vs s₂ h₂ => wpX_pure h₂) fun _ _ x => x))))
theorem wpX_List {elts : List Expr} {pos : Pos} {Q : Value → Shared → Prop}
    (h : wpX M A (spliced (backTo pos (starEach elts env))) (fun vs s₁ => wpAny M A (newList vs) Q E s₁) E s) : wpX M A (eval (.List elts pos) env) Q E s := by
  show wpX M A (do standAt pos; newList (← spliced (backTo pos (starEach elts env)))) Q E s
  exact wpX_bindA (wpAny_standAt (wpX_bind (wpX_mono h (fun _ _ x => wpX_any x) fun _ _ x => x)))

theorem wpX_Call {func : Expr} {args : List Expr} {pos : Pos} {Q : Value → Shared → Prop}
    (h : wpAny M A (eval func env) (fun f s₁ => wpX M A (callWith pos f [] (backTo pos (starEach args env)) []) Q E s₁) E s)
    (he : eval (.Call func args [] pos) env = (do callWith pos (← eval func env) [] (backTo pos (starEach args env)) (backToKw pos (keywordEach [] env))) := by rfl) :
    wpX M A (eval (.Call func args [] pos) env) Q E s := by
  rw [he]; exact wpX_bindA h

theorem wpX_callWith_of {f : Value} {P : Heap → Prop} {pos : Pos} {args : List (Bool × Sem Value)} {Q : Value → Shared → Prop} (hplain : args.any (·.1) = false)
    (hk : ∀ h, P h → ∃ k, (k = Keeper.frame ∨ k = Keeper.machine ∨ k = Keeper.boundFrame) ∧ Looks M h (keeperOf f) k)
    (h : wpAny M A (evalArgs f true args []) (fun a s₁ => P s₁.heap ∧ wpX M A (call f ([] ++ a.pos) a.kw) Q E s₁) E s) : wpX M A (callWith pos f [] args []) Q E s := by
  unfold callWith
  refine wpX_bind (wpX_holding (wpX_any (wpAny_mono h (fun a s₁ h₁ => ?_) fun _ _ x => x)))
  refine wpX_bindA (wpAny_standAt ?_)
  obtain ⟨k, hk', L⟩ := hk _ h₁.1
  simp only [hplain, List.any_nil, Bool.or_false]
  refine wpX_bindA (L.here ?_)
  have tail : ∀ {t : Sem Value}, wpX M A t Q E s₁ → wpX M A (t >>= fun r => holding [r] point >>= fun _ => pure r) Q E s₁ :=
    fun ht => wpX_bind (wpX_mono ht (fun r s₂ hr => wpX_bindA (wpAny_holding (wpAny_point (wpX_pure hr)))) fun _ _ x => x)
  have marked (mk : Value) : wpX M A (callMarked mk f ([] ++ a.pos) a.kw) Q E s₁ := by unfold callMarked; exact wpX_keep h₁.2
  rcases hk' with rfl | rfl | rfl <;> dsimp only <;> first | exact tail h₁.2 | (split <;> first | exact tail h₁.2 | exact tail (marked _))
end

section
variable {prog p : Program} {w : World} {A : Around} {s : Shared} {K : Frag} {h₀ : Heap} {L : Addr} {m mg mb : Str → Option Value} {loose : List Str} {news : List (Addr × Obj)} {env : Env}

/-- a call by name of a def of the text, on the path -/
theorem wpX_callDef {E : Value → Shared → Prop} {e : Expr} {rest : List Expr} {pos : Pos} {f : Addr} {Q : Value → Shared → Prop} (X : K.In h₀) (hk : keepIn K (.ref f) = true)
    (h : wpAny (model prog w) A (spliced (backTo pos (starEach (e :: rest) env))) (fun vs s₁ => K.In s₁.heap ∧ wpX (model prog w) A (call (.ref f) vs) Q E s₁) E s)
    (he : starEach (e :: rest) env = (false, eval e env) :: starEach rest env := by rfl) (hplain : (backTo pos (starEach rest env)).any (·.1) = false := by rfl) :
    wpX (model prog w) A (callWith pos (.ref f) [] (backTo pos (starEach (e :: rest) env)) []) Q E s := by
  rw [he] at h ⊢
  exact wpX_callWith_of (by show (false || (backTo pos (starEach rest env)).any (·.1)) = false; rw [hplain]; rfl) (keeps_K hk) (Calls.evalArgs_plain h)

theorem codeX_func {body : List Stmt} {R : Result → Shared → Prop} (h : wpX (model prog w) (A.deeper env) (execs body env) (fun f s' => R (.ok (.ret (match f with | .ret v => v | _ => .none))) s') NoE s) :
    codeX (model prog w) A (.func body env) R s := by
  refine codeX_of_tree trivial ?_
  show wpX _ (A.deeper env) (do point; match ← (execs body env).onRaise (leaving env) with | .ret v => ret v | _ => ret .none) _ _ s
  refine wpX_bindA (wpAny_point (wpX_bind (wpX_onRaise (wpX_mono h (fun f s' h' => ?_) fun _ _ h' => h'))))
  cases f <;> exact wpX_pure h'

theorem codeX_call_def {R : Result → Shared → Prop} {a : Addr} {o : Obj} {fd : FuncData} {body : List Stmt} {args : Args} {binds : List (Str × Value)}
    (hroom : A.depth < recursionLimit) (ho : s.heap.get? a = some o) (hdata : o.data = .func fd) (hlim : s.heap.NoLimit) (hcd : s.heap.CodeRec fd.code fd.qualname)
    (hbody : fd.body = .stmts body) (hbind : BindsTo s fd args binds)
    (hcell : ∀ x ∈ fd.scope.names, x.2 ≠ .cell) (hloc : ∀ x ∈ binds, fd.scope.names.lookup x.1 = some .local)
    (h : ∀ h₀, h₀.Ns s.heap.objs.size (fun x => binds.reverse.lookup x) → (∀ b o, s.heap.get? b = some o → h₀.get? b = some o) →
      wpX (model prog w) (A.deeper (callEnv fd s.heap.objs.size a)) (execs body (callEnv fd s.heap.objs.size a)) (fun f s' => R (.ok (.ret (match f with | .ret v => v | _ => .none))) s') NoE
        { s with heap := h₀, toks := s.toks + binds.length })
    (hco : fd.scope.isCoroutine = false) (hgen : fd.scope.isGenerator = false) (hk : fd.scope.kind = .function) :
    codeX (model prog w) A (.call (.ref a) args) R s := by
  refine codeX_of_tree trivial ?_
  show wpX _ A.in1 (callAny (.ref a) args) _ _ s
  simp only [callAny]
  refine wpX_bindA (wpAny_load ho ?_)
  obtain ⟨c, oc, vs, tq, hc, hoc, hdc, hq⟩ := hcd
  simp only [hdata, callFunction, hco, hgen, hbody, hc]
  refine wpX_bindA (m := field (.ref c) 1) (wpAny_field hoc hdc hq (wpX_bindA (wpAny_pure ?_)))
  refine wpX_bindA (hbind _ _ _ _ ?_)
  rw [← hc]
  refine wpX_bindA (wpAny_newFunctionEnv hcell hloc (fun h₀ hns₀ hsb₀ => wpX_bindA (wpAny_enterFrame (hlim.fresh _ hsb₀) hroom (wpX_pure ⟨rfl, codeX_func (h h₀ hns₀ fun b o e => ?_)⟩))) hk)
  exact hsb₀.extBut b o (Nat.ne_of_lt (Heap.lt_size e)) (Heap.get?_push_of_some _ e)
end
end Mine
end

section
open PySem PySem.W PyProof.Rows PySem.Calls
open PySem.Sem (wp)
set_option maxRecDepth 100000
set_option maxHeartbeats 8000000
namespace Mine

theorem clean_caller : Calm (Code.builtin "claim.caller" {}) := by show loudIds.contains "claim.caller" = false; decide

theorem thread_endsX {prog : Program} {w : World} {t : Sem Fin} {s : Shared} {R : Result → Shared → Prop} (hreg : s.asleep)
    (h : wpX (model prog w) callerA t (fun fin s' => ∃ f, fin = .done f ∧ (R (.ok f) s' ∧ leftWithCleanup s'.gens = false)) (fun e s' => R (.error e) s' ∧ leftWithCleanup s'.gens = false) s) :
    ∃ n r s' s'', runN (denote table) prog w n s ⟨t, .builtin "claim.caller" {}, default, []⟩ = .halted (outcomeOf r) s' ∧
      schedN (denote table) prog w n (.single s ⟨t, .builtin "claim.caller" {}, default, []⟩) = .halted (outcomeOf r) s' ∧ s'.forget = s''.forget ∧ R r s'' := by
  have hw : wp (model prog w) ⟨.builtin "claim.caller" {}, none, none, [], none⟩ t (Sem.finPost (model prog w) ⟨.builtin "claim.caller" {}, none, none, [], none⟩ fun r s' => R r s' ∧ leftWithCleanup s'.gens = false)
      (fun e _ s' => R (.error e) s' ∧ leftWithCleanup s'.gens = false) default s := by
    refine Sem.wp_mono _ _ t (fun fin p' s' h' => ?_) (fun _ _ _ h' => h') default s (h _ default caller_in clean_caller (fun _ hx => nomatch hx))
    obtain ⟨f, rfl, hf⟩ := h'
    exact hf
  obtain ⟨n, r, s₁, s₂, hs, hn, hfo, hR⟩ := wp_halts_full (M := model prog w) (R := R) hreg hw
  exact ⟨n, r, s₂, s₁, hn, hs, hfo, hR⟩

theorem callFromX {c : ClaimW} {tree : List Value → Sem Fin} {w : World} {s : Shared} {free : Addr → Prop} {gens : Prop} {kept : Heap → Prop} (hz : s.asleep) (hgens : s.gens = #[])
    (hspec : ∀ args, c.pre args = true → WData.layableAll args = true →
      ∀ ord : List DictEntry → List DictEntry, (∀ l, (ord l).Perm l) →
      ∃ vs s₁, layAllW c.records (classAt s.heap) w.params ord args s = some (vs, s₁) ∧
        wpX (model c.prog w) callerA (tree vs) (fun fin s' => ∃ f, fin = .done f ∧ (c.Ends s args vs s₁ (.ok f) s' ∧ s'.os = s.os ∧ AllBare s'.gens ∧ kept s'.heap))
          (fun e s' => c.Ends s args vs s₁ (.error e) s' ∧ s'.os = s.os ∧ AllBare s'.gens ∧ kept s'.heap) s₁) :
    c.CallFrom (fun vs => ⟨tree vs, .builtin "claim.caller" {}, default, []⟩) w free gens kept s := by
  intro args hpre hlay ord hord
  obtain ⟨vs, s₁, hlaid, hcode⟩ := hspec args hpre hlay ord hord
  have hal := layAllW_rest _ _ _ hlaid
  obtain ⟨k, r, s', s'', hrun, hsched, hfo, hcase, hos, hkp⟩ := thread_endsX (prog := c.prog) (w := w) (t := tree vs) (s := s₁)
    (R := fun r s' => c.Ends s args vs s₁ r s' ∧ s'.os = s.os ∧ kept s'.heap)
    (Shared.asleep_of_life hal.2.2.2 hz)
    (wpX_mono hcode (by
      rintro fin s' ⟨f, e, h1, h2, h3, h4⟩
      exact ⟨f, e, ⟨h1, h2, h4⟩, leftWithCleanup_false_of_bare h3⟩) (by
      rintro e s' ⟨h1, h2, h3, h4⟩
      exact ⟨⟨h1, h2, h4⟩, leftWithCleanup_false_of_bare h3⟩))
  obtain ⟨eh, _, _, eo, _⟩ := Shared.forget_eq hfo
  have hcase := hcase.congr eh
  have hkp : kept s'.heap := by first | exact eh ▸ hkp | (rw [eh] at hkp; exact hkp) | (rw [← eh] at hkp; exact hkp)
  rw [← eo] at hos
  have hlife : s'.heap.life = s.heap.life := (runN_life _ _ _ hrun).trans hal.2.2.2
  refine ⟨vs, s₁, hlaid, k, _, s', hsched, ?_, (fun _ i x hx => by rw [hgens] at hx; simp at hx), hkp, by rw [hlife], Shared.rest_eq hos⟩
  rcases hcase with ⟨v, rfl, d1, d2, d3, d4, d5⟩ | ⟨e, ob, cls, rfl, d1, d2, d3, d4, d5⟩
  · exact .inl ⟨v, rfl, d1, d2, d3, fun b o y _ => d4 b o y, d5⟩
  · exact .inr ⟨e, ob, cls, rfl, d1, d2, d3, d4, fun b o y _ => d5 b o y⟩

/-- the head's premise, over clean stacks -/
abbrev WalkX (q : Program) (loose : List Str) (XP : (Str → Option Value) → Heap → Prop) (YP : World → Heap → Prop) (r : RowW) (d : DefRec) (kwd : List (Str × Expr)) : Prop :=
  ∀ (w : World) (s₀ s₁ : Shared) (mg mb : Str → Option Value), Ground q loose r.records XP w s₀ mg mb s₁.heap → YP w s₁.heap → ∀ (a : Addr) (o : Obj) (pm cd doc dV kV : Value), s₁.heap.get? a = some o →
    o.data = .func { docDef d.name d.params d.body d.scope pm cd doc with defaults := dV, kwdefaults := kV } → s₁.heap.CodeRec cd d.name → Dflts mg s₁.heap d.params kwd dV kV → mg d.name = some (.ref a) → s₁.gens = #[] →
    ∀ (args : List WData) (vals : List Value) (as : List Addr), r.claim.pre args = true → WData.layableAll args = true → ReadsAllW r.records (classAt s₀.heap) s₁.heap vals args as → WellAll w.params s₁.heap vals args → (∀ a ∈ as, (a == sysModules) = false) →
      wpX (model r.prog w) callerA (PySem.call (.ref a) vals) (fun v s' => GoodWG r.claim (classAt s₀.heap) (ExcName.means s₀.heap) args s₁ (.ok (.ret v)) s')
        (fun e s' => GoodWG r.claim (classAt s₀.heap) (ExcName.means s₀.heap) args s₁ (.error e) s') s₁

theorem holdsX {r : OpenRow} {q : Program} {loose : List Str} {Xt : Shared → Bool} {XP : (Str → Option Value) → Heap → Prop} {α : Type} {Yf : Shared → α} {Ya : World → α} {YP : World → Heap → Prop} {d : DefRec} {kwd : List (Str × Expr)} {N : Nat}
    (left : LeftO r.prog q loose Xt Yf Ya N) (hY : ∀ w s, Yf s = Ya w → YP w s.heap) (hYk : ∀ w h h', YP w h → (∀ b o, h.get? b = some o → h'.get? b = some o) → YP w h')
    (hX : ∀ s, Xt s = true → XP (s.heap.nsMap mainGlobals) s.heap) (hXk : ∀ mg h h', XP mg h → (∀ b o, h.get? b = some o → h'.get? b = some o) → XP mg h')
    (hdef : defOf q r.name = some (d, kwd)) (hp : r.prog.theDef r.name = some (d.params, d.body, d.scope)) (hk : kwWritten? d.params.kwonlyargs d.params.kw_defaults = some kwd) (hRf : ∀ s, Xt s = true → RecFacts r.records s.heap) (hwr : (!r.writes || r.records.isEmpty) = true)
    (k1 : r.wellSaid = true) (ok : (chainsOk q && opensWell r.prog && (frees r.toRowW && r.within.isEmpty)) = true) (hb : r.prog.bare) (hw : r.toRowW.promised)
    (call : WalkX q loose XP YP r.toRowW d kwd) : r.Holds := by
  refine ⟨k1, hw, ?_⟩
  obtain ⟨ok, k5⟩ := Bool.and_eq_true_iff.mp ok
  obtain ⟨hch, o1⟩ := Bool.and_eq_true_iff.mp ok
  obtain ⟨k5, k6⟩ := Bool.and_eq_true_iff.mp k5
  obtain ⟨hsame, hu, ha, hap, hm⟩ := frees_parts k5
  refine ⟨⟨hb, o1, by show r.makers.map _ = []; rw [hm]; rfl⟩, hw.witness, fun w => ⟨(left.behind hX hch w).1, fun s' hs' => ?_⟩⟩
  obtain ⟨s₀, hf, hg0, s, hT, hz, hgens, hg, G00, y⟩ := (left.behind (XP := fun mg h => XP mg h ∧ RecFacts r.records h) (fun s hs => ⟨hX s hs, hRf s hs⟩) hch w).2 s' hs'
  have G0 : Ground q loose [] XP w s (s.heap.nsMap mainGlobals) (s.heap.nsMap builtinsNs) s.heap := ⟨G00.T, G00.B, G00.D, G00.TE, G00.TD, G00.W, G00.X.1, G00.cls, G00.has, G00.apart, G00.once, G00.K⟩
  have RF := G00.X.2
  have hT' := hT
  refine ⟨s₀, hf, hg0, s, hT, ?_, RF.1, RF.2.1, ?_⟩
  · intro n hn
    obtain rfl : n = r.name := by split at hn <;> simp_all
    exact pinned_of_view hg G0 hdef hp hk
  have hgens : s.gens = #[] := Array.eq_empty_of_size_eq_zero (beq_iff_eq.mp hgens)
  have G : Ground q loose r.records XP w s _ _ s.heap := RF.ground G0
  refine callFromX (c := r.claim) hz hgens fun args hpre hlay ord hord => ?_
  obtain ⟨⟨vs, s₁⟩, hlaid⟩ := Option.isSome_iff_exists.mp (layAllW_isSome (P := w.params) (ord := ord) G.has args r.args s (pre_splitW hpre).1)
  have keeps := layAllW_keeps _ _ _ hlaid
  have hal := layAllW_rest _ _ _ hlaid
  obtain ⟨as, hrd, hin, hold⟩ := reads_layAllW hord _ _ _ hlaid hlay s₁.heap (fun _ _ e => e)
  have L : Laid r.records w s s₁ args vs as := ⟨⟨ord, hord, hlaid⟩, hrd, hin, hold, keeps, hal.1.trans hgens, hal.2.2.1⟩
  have G₁ := G.keeps hXk keeps
  obtain ⟨a, o, pm, cd, doc, dV, kV, h1, h2, h3, h4, h5⟩ := G₁.fn hdef
  have main := call w s s₁ _ _ G₁ (hYk _ _ _ (hY w s y) keeps) a o pm cd doc dV kV h2 h3 h4 h5 (defOf_name hdef ▸ h1) L.gens args vs as hpre hlay L.reads L.well (L.low G.low)
  have hi := ident_freeW hu ha hap
  have hwi : r.claim.within = [] := List.isEmpty_iff.mp k6
  refine ⟨vs, s₁, hlaid, ?_⟩
  refine wpX_bindA (wpAny_nsGet G₁.T.g ?_)
  rw [h1]
  refine wpX_bind (wpX_mono main (fun v s' g => wpX_pure ?_) fun e s' g => ?_)
  · exact ⟨_, rfl, have z := g.laid (c := r.claim) hsame hwi hi L; ⟨z.1, z.2.1, z.2.2, fun q => ⟨namesKept_of hT' hg r.keeps keeps g.2.1.old, noTable hwr q⟩⟩⟩
  · exact have z := g.laid (c := r.claim) hsame hwi hi L; ⟨z.1, z.2.1, z.2.2, fun q => ⟨namesKept_of hT' hg r.keeps keeps g.2.1.old, noTable hwr q⟩⟩
end Mine
end

section
open PySem PySem.W PyProof.Rows PySem.Calls
set_option maxRecDepth 100000
set_option maxHeartbeats 8000000
namespace Mine.PySem.W
/-- the head that o_head's ident finds in this namespace -/
theorem holds_open {r : OpenRow} {q : Program} {loose : List Str} {Xt : Shared → Bool} {XP : (Str → Option Value) → Heap → Prop} {α : Type} {Yf : Shared → α} {Ya : World → α} {YP : World → Heap → Prop} {d : DefRec} {kwd : List (Str × Expr)} {N : Nat}
    (left : LeftO r.prog q loose Xt Yf Ya N) (hY : ∀ w s, Yf s = Ya w → YP w s.heap) (hYk : ∀ w h h', YP w h → (∀ b o, h.get? b = some o → h'.get? b = some o) → YP w h')
    (hX : ∀ s, Xt s = true → XP (s.heap.nsMap mainGlobals) s.heap) (hXk : ∀ mg h h', XP mg h → (∀ b o, h.get? b = some o → h'.get? b = some o) → XP mg h')
    (hdef : defOf q r.name = some (d, kwd)) (hp : r.prog.theDef r.name = some (d.params, d.body, d.scope)) (hk : kwWritten? d.params.kwonlyargs d.params.kw_defaults = some kwd) (hRf : ∀ s, Xt s = true → RecFacts r.records s.heap) (hwr : (!r.writes || r.records.isEmpty) = true)
    (k1 : r.wellSaid = true) (ok : (chainsOk q && opensWell r.prog && (frees r.toRowW && r.within.isEmpty)) = true) (hb : r.prog.bare) (hw : r.toRowW.promised)
    (call : WalkX q loose XP YP r.toRowW d kwd) : r.Holds := holdsX left hY hYk hX hXk hdef hp hk hRf hwr k1 ok hb hw call
end Mine.PySem.W
namespace Mine
open_top hx for PySem.Challenge.rw_nq0011_01
end Mine
end

section
open PySem PySem.W PyProof.Rows PySem.SeqAt
open PySem.Sem (wp)
set_option maxRecDepth 100000
set_option maxHeartbeats 8000000
namespace Mine
section
variable {prog p : Program} {w : World} {A : Around} {s : Shared} {K : Frag} {h₀ : Heap} {L : Addr} {m mg mb : Str → Option Value} {loose : List Str} {news : List (Addr × Obj)} {env : Env}

theorem callMyX {Q : Value → Shared → Prop} {E : Value → Shared → Prop} {name qual : Str} {params : Arguments} {body : List Stmt} {scope : Scope} {dV kV doc pm cdv ct oc : Value} {an od : Option Addr} {osl : Array (Option Value)} {f : Addr} {args : List Value} {binds : List (Str × Value)}
    (F : Fr h₀ L s.heap m) (X : K.In h₀) (N : News h₀ L s.heap news) (T : TopRead p loose mg mb h₀)
    (ho : K.lookup f = some ⟨oc, od, .func (fnOf name qual params body scope dV kV doc pm an cdv ct), osl⟩) (hcd : codeIn K cdv qual = true) (hroom : A.depth < recursionLimit)
    (hbind : bindArgs (fnOf name qual params body scope dV kV doc pm an cdv ct) ⟨args, []⟩ = pure binds) (hloc : ∀ y ∈ binds, scope.names.lookup y.1 = some .local)
    (h : ∀ g L' h₁, Fr h₀ L g m → Fr g L' h₁ (fun y => binds.reverse.lookup y) → News g L' h₁ news → K.In g → TopRead p loose mg mb g →
      wpX (model prog w) (A.deeper (envOf qual scope L' f cdv)) (execs body (envOf qual scope L' f cdv))
        (fun fl s' => RetMy h₀ L m g L' Q (match fl with | .ret v => v | _ => .none) s')
        NoE { s with heap := h₁, toks := s.toks + binds.length })
    (hco : scope.isCoroutine = false) (hgen : scope.isGenerator = false) (hk : scope.kind = .function)
    (hcell : ∀ x ∈ scope.names, x.2 ≠ .cell) : wpX (model prog w) A (call (.ref f) args) Q E s := by
  have XS := X.keeps F.keep
  refine wpX_call (codeX_call_def (fd := fnOf name qual params body scope dV kV doc pm an cdv ct) (body := body) (binds := binds) hroom (XS _ _ ho) rfl (T.nolimit.keeps F.keep) (codeRec_of XS hcd) rfl (BindsTo.of_eq hbind) hcell hloc (fun h₁ hns hk₁ => ?_) hco hgen hk)
  have nm : ∀ b o, h₀.get? b = some o → b ∉ news.map (·.1) := fun b o e q => by
    obtain ⟨x, hx, rfl⟩ := List.mem_map.mp q
    rw [(N x hx).2.2] at e; cases e
  have st : h₀.StaysIn (hideAll s.heap (news.map (·.1))) := fun b o e => hideAll_get _ (F.keep b o e) (nm b o e)
  obtain ⟨oL, es, ep, hL, hLd, hLk, hLf⟩ := F.ns
  have nL : L ∉ news.map (·.1) := fun q => by
    obtain ⟨x, hx, e⟩ := List.mem_map.mp q
    exact (N x hx).2.1 e
  have hLg := hideAll_get (news.map (·.1)) hL nL
  have body9 := h (hideAll s.heap (news.map fun x : Addr × Obj => x.1)) s.heap.objs.size h₁ ⟨⟨oL, es, ep, hLg, hLd, hLk, hLf⟩, st, F.above⟩
    ⟨hns, fun b o e => hk₁ b o (of_hideAll _ e), Nat.le_of_eq (hideAll_size _ _)⟩
    (fun x hx => ⟨hk₁ _ _ (N x hx).1, Nat.ne_of_lt (Heap.lt_size (N x hx).1), hideAll_none _ (List.mem_map_of_mem hx)⟩) (X.keeps st) (T.keeps st)
  refine wpX_mono body9 (fun fl s' hl => ?_) fun _ _ y => y
  obtain ⟨m', news', F', N', k⟩ := hl
  refine k ⟨⟨oL, es, ep, F'.keep L oL hLg, hLd, hLk, hLf⟩, fun b o e => F'.keep b o (st b o e), F.above⟩ fun x hx => ⟨(N' x hx).1, fun q => ?_, ?_⟩
  · have := (N' x hx).2.2; rw [q, hLg] at this; cases this
  · cases q : h₀.get? x.1 with
    | none => rfl
    | some o => have := (N' x hx).2.2; rw [st _ _ q] at this; cases this

theorem whileX {E : Value → Shared → Prop} {test : Expr} {body : List Stmt} {pos : Pos} {Q : Flow → Shared → Prop} (I : Nat → Shared → Prop) (n : Nat) (hI : I n s)
    (turn : ∀ n s, I n s → wpAny (model prog w) A (isTrue test env (eval test env)) (fun b s₂ => if b = true then wpX (model prog w) A (execs body env) (WStep I n Q) NoE s₂ else Q .next s₂) NoE s) :
    wpX (model prog w) A (exec (.While test body [] pos) env) Q E s := by
  rw [exec_While]
  refine wpX_bindA (wpAny_standAt ?_)
  unfold runOwn
  refine wpX_onRaise (wpX_run ?_)
  refine codeX_loop (c := .whileLoop test body [] env) trivial rfl I (fun n s hI => ?_) n hI
  show wpX _ A ((whileTurn test body [] env).onRaise (fun x => do noteFrame x env; theTreesLotGoes x)) _ _ s
  refine wpX_onRaise ?_
  simp only [whileTurn]
  refine wpX_bindA (wpAny_mono (turn n s hI) (fun b s₂ h₂ => ?_) fun _ _ h' => h')
  cases b with
  | false =>
    simp only [Bool.false_eq_true, if_false] at h₂ ⊢
    exact wpX_bindA (wpAny_execs_nil (wpX_pure h₂))
  | true =>
    simp only [if_true] at h₂ ⊢
    refine wpX_bind (wpX_mono h₂ (fun f s₃ h₃ => ?_) fun _ _ h' => h')
    cases f with
    | next => exact wpX_pure ⟨rfl, h₃⟩
    | cont => exact wpX_pure ⟨rfl, h₃⟩
    | brk => exact wpX_pure h₃
    | ret v => exact wpX_pure h₃
end
end Mine
end

section
open PySem PySem.W PySem.Calls PyProof.Rows PySem.SeqAt
set_option maxRecDepth 100000
set_option maxHeartbeats 4000000
namespace Mine
theorem adjust_rev (n : Nat) : Builtin.Slice.sliceAdjust none none (-1) (n : Int) = ((n : Int) - 1, -1) := by
  unfold Builtin.Slice.sliceAdjust
  have h1 : ((-1 : Int) < 0) := by omega
  simp only [h1, if_true]
theorem places_rev (n : Nat) : Builtin.Slice.slicePlaces ((n : Int) - 1) (-1) (-1) = n := by
  unfold Builtin.Slice.slicePlaces
  have h1 : ¬ ((-1 : Int) > 0) := by omega
  simp only [h1, if_false]
  rw [show (- -1 : Int) = 1 by decide, Int.ediv_one]
  split <;> omega
theorem adjust_to (a n : Nat) (ha : a ≤ n) : Builtin.Slice.sliceAdjust none (some (a : Int)) 1 (n : Int) = (0, (a : Int)) := by
  unfold Builtin.Slice.sliceAdjust
  have h1 : ¬ ((1 : Int) < 0) := by omega
  have h2 : ¬ ((a : Int) < 0) := by omega
  simp only [h1, h2, if_false]
  congr 1
  omega
theorem places_to (a : Nat) : Builtin.Slice.slicePlaces 0 (a : Int) 1 = a := by
  unfold Builtin.Slice.slicePlaces
  have h1 : (1 : Int) > 0 := by omega
  simp only [h1, if_true, Int.ediv_one]
  split <;> omega
theorem pick_rev (xs : Array Value) : ((List.range xs.size).filterMap fun (k : Nat) => xs[(((xs.size : Int) - 1) + (k : Int) * (-1)).toNat]?).toArray = xs.toList.reverse.toArray := by
  rw [← krv_pick]
  unfold slicePick
  rw [krv_bounds]
  show _ = ((sliceRange ((xs.size : Int) - 1) (-1) (-1)).filterMap (xs[·]?)).toArray
  rw [krv_sliceRange, List.filterMap_map]
  congr 2
  funext k
  show _ = xs[xs.size - 1 - k]?
  have e : ((xs.size : Int) - 1 + (k : Int) * -1).toNat = xs.size - 1 - k := by omega
  rw [e]
theorem pick_to (xs : Array Value) (a : Nat) : ((List.range a).filterMap fun (k : Nat) => xs[((0 : Int) + (k : Int) * 1).toNat]?).toArray = (xs.toList.take a).toArray := by
  have e : (fun (k : Nat) => xs[((0 : Int) + (k : Int) * 1).toNat]?) = fun k => xs[0 + k]? := by
    funext k
    have : ((0 : Int) + (k : Int) * 1).toNat = 0 + k := by omega
    rw [this]
  rw [e]
  have := pick_run xs 0 a
  rw [List.filterMap_map] at this
  have e2 : ((fun x => xs[x]?) ∘ fun x => 0 + x) = fun k => xs[0 + k]? := rfl
  rw [e2] at this
  rw [this, List.drop_zero]
section
variable {prog : Program} {w : World} {A : Around} {E : Value → Shared → Prop} {s : Shared}
theorem sliceApplied_rev {sl : Addr} {n : Nat} {u : Tok} {Q : Int × Int × Nat → Shared → Prop} (hs : s.heap.IsSliceOf sl .none .none (.int (-1) u)) (h : Q ((n : Int) - 1, -1, n) s) :
    wpAny (model prog w) A (Builtin.Slice.sliceApplied (.ref sl) (pure (n : Int))) Q E s := by
  obtain ⟨os, hos, hcs, hds⟩ := id hs
  unfold Builtin.Slice.sliceApplied Builtin.Slice.sliceFields
  refine wpAny_bind (wpAny_bind (wpAny_field hos hds (x := .none) rfl (wpAny_bind (wpAny_field hos hds (x := .none) rfl (wpAny_bind (wpAny_field hos hds (x := .int (-1) u) rfl (wpAny_pure ?_)))))))
  refine wpAny_bind (slicePart_int ?_)
  show wpAny _ _ (if ((-1 : Int) == 0) = true then _ else _) _ _ s
  rw [if_neg (by decide)]
  refine wpAny_bind (slicePart_none (wpAny_bind (slicePart_none (wpAny_bind (wpAny_pure ?_)))))
  show wpAny _ _ (match Builtin.Slice.sliceAdjust none none (-1) (n : Int) with | (lo, hi) => pure (lo, (-1 : Int), Builtin.Slice.slicePlaces lo hi (-1))) _ _ s
  rw [adjust_rev n]
  show wpAny _ _ (pure ((n : Int) - 1, (-1 : Int), Builtin.Slice.slicePlaces ((n : Int) - 1) (-1) (-1))) _ _ s
  rw [places_rev n]
  exact wpAny_pure h
theorem sliceApplied_to {sl : Addr} {a n : Nat} {u : Tok} {Q : Int × Int × Nat → Shared → Prop} (hs : s.heap.IsSliceOf sl .none (.int a u) .none) (ha : a ≤ n) (h : Q (0, 1, a) s) :
    wpAny (model prog w) A (Builtin.Slice.sliceApplied (.ref sl) (pure (n : Int))) Q E s := by
  obtain ⟨os, hos, hcs, hds⟩ := id hs
  unfold Builtin.Slice.sliceApplied Builtin.Slice.sliceFields
  refine wpAny_bind (wpAny_bind (wpAny_field hos hds (x := .none) rfl (wpAny_bind (wpAny_field hos hds (x := .int a u) rfl (wpAny_bind (wpAny_field hos hds (x := .none) rfl (wpAny_pure ?_)))))))
  refine wpAny_bind (slicePart_none ?_)
  show wpAny _ _ (if ((1 : Int) == 0) = true then _ else _) _ _ s
  rw [if_neg (by decide)]
  refine wpAny_bind (slicePart_none (wpAny_bind (slicePart_int (wpAny_bind (wpAny_pure ?_)))))
  show wpAny _ _ (match Builtin.Slice.sliceAdjust none (some (a : Int)) 1 (n : Int) with | (lo, hi) => pure (lo, (1 : Int), Builtin.Slice.slicePlaces lo hi 1)) _ _ s
  rw [adjust_to a n ha]
  show wpAny _ _ (pure ((0 : Int), (1 : Int), Builtin.Slice.slicePlaces (0 : Int) (a : Int) 1)) _ _ s
  rw [places_to a]
  exact wpAny_pure h
theorem getItem_tuple_gen {t sl : Addr} {items zs : Array Value} {p1 p2 p3 : Value} {lo st : Int} {k : Nat} {Q : Value → Shared → Prop} (ht : IsTup s.heap t items) (hs : s.heap.IsSliceOf sl p1 p2 p3)
    (happ : ∀ (A' : Around) (Q' : Int × Int × Nat → Shared → Prop), Q' (lo, st, k) s → wpAny (model prog w) A' (Builtin.Slice.sliceApplied (.ref sl) (pure (items.size : Int))) Q' (fun _ _ => False) s)
    (hno : (lo == 0 && st == 1 && k == items.size) = false) (hpick : ((List.range k).filterMap fun (i : Nat) => items[(lo + (i : Int) * st).toNat]?).toArray = zs) (hz : zs.size ≤ sizeLine)
    (h : Q (.ref s.heap.objs.size) { s with heap := s.heap.push { cls := .type "tuple", data := .seq zs } }) : wpAny (model prog w) A (getItem (.ref t) (.ref sl)) Q E s := by
  obtain ⟨os, hos, hcs, hds⟩ := id hs
  have hTs : s.TypeIs (.ref sl) "slice" := ⟨os, hos, hcs⟩
  unfold getItem
  try with_reducible refine wpAny_holding ?_
  first | refine wpAny_bind (wpAny_pure ?_) | skip
  refine wpAny_bind (wpAny_sequenceKey ht.typeIs (by decide) ?_)
  refine wpAny_bind (wpAny_callSpecial?_slot (name := Str.ofString "__getitem__") ht.typeIs slot_tuple_getitem
    (wpAny_call_entry slot_tuple_getitem ht.typeIs entry_tuple_getitem ?_ (args_tuple_getitem _ _)))
  show wpAny _ _ (Builtin.Tuple.tupleItemsOf (.ref t) >>= _) _ _ s
  refine wpAny_bind (tupleItemsOf_ ht ?_)
  refine wpAny_bind (wpAny_typeOf hTs ?_)
  rw [if_pos (by decide)]
  refine wpAny_bind (wpAny_mono (happ _ (fun r s' => r = (lo, st, k) ∧ s' = s) ⟨rfl, rfl⟩) (fun r s' hr => ?_) fun _ _ x => x.elim)
  obtain ⟨hr1, hr2⟩ := hr
  subst hr1 hr2
  show wpAny _ _ (if (lo == 0 && st == 1 && k == items.size) = true then _ else _) _ _ _
  rw [if_neg (by rw [hno]; decide), hpick]
  first
    | exact wpAny_bind (m := Builtin.Tuple.tupleExact _) (wpAny_newObj_type (wpAny_pure ⟨_, rfl, wpAny_pure h⟩) hz)
    | exact wpAny_bind (m := Builtin.Tuple.tupleExact _) (wpAny_newObj_type (wpAny_bind (wpAny_pure (wpAny_pure ⟨_, rfl, wpAny_pure h⟩))) hz)
    | exact wpAny_bind (wpAny_bind (m := Builtin.Tuple.tupleExact _) (wpAny_newObj_type (wpAny_pure (wpAny_pure ⟨_, rfl, wpAny_pure h⟩)) hz))
    | exact wpAny_bind (wpAny_bind (m := Builtin.Tuple.tupleExact _) (wpAny_newObj_type (wpAny_pure ⟨_, rfl, wpAny_pure h⟩) hz))
end
section
variable {prog : Program} {w : World} {A : Around} {E : Value → Shared → Prop} {s : Shared} {h₀ : Heap} {L : Addr} {m : Str → Option Value} {news : List (Addr × Obj)}
theorem slice_tuple_rev {value slice : Expr} {t : Addr} {vs : List Value} {u : Tok} {Q : Value → Shared → Prop} {ops : List Value}
    (F : Fr h₀ L s.heap m) (N : News h₀ L s.heap news) (ht : IsTup s.heap t vs.toArray) (hz : vs.length ≤ 2 ^ 20)
    (h : ∀ D h', Fr h₀ L h' m → News h₀ L h' ((D, { cls := .type "tuple", data := .seq vs.reverse.toArray }) :: news) → (∀ p ∈ news, p.1 < D) → Q (.ref D) { s with heap := h' })
    (hs : subscripted slice false (.ref t) (.ref s.heap.objs.size) = operate ops (getItem (.ref t) (.ref s.heap.objs.size)) := by with_unfolding_all rfl)
    (hg : ∀ r, letTemporaryGo value (.ref t) r = pure () := by intro _; with_unfolding_all rfl) :
    wpAny (model prog w) A (subscriptTail value slice (.ref t) (.ref s.heap.objs.size)) Q E { s with heap := s.heap.push { cls := .type "slice", data := .fields #[.none, .none, .int (-1) u] } } := by
  have ht' : IsTup (s.heap.push { cls := .type "slice", data := .fields #[.none, .none, .int (-1) u] }) t vs.toArray := ht.keeps fun _ _ e => Heap.get?_push_of_some _ e
  refine subscriptTail_ops (s := { s with heap := s.heap.push { cls := .type "slice", data := .fields #[.none, .none, .int (-1) u] } }) ht'.typeIs slot_tuple_getitem.lookup
    (getItem_tuple_gen (zs := vs.reverse.toArray) ht' (Heap.IsSliceOf.new ..) (fun A' Q' hq => sliceApplied_rev (Heap.IsSliceOf.new ..) hq) (by simp) (pick_rev vs.toArray) (by rw [List.size_toArray, List.length_reverse, sizeLine_eq]; omega) ?_) hs hg
  have N1 := News.push (F.push { cls := .type "slice", data := .fields #[.none, .none, .int (-1) u] }) (N.grown fun _ _ e => Heap.get?_push_of_some _ e) { cls := .type "tuple", data := .seq vs.reverse.toArray }
  exact h _ _ ((F.push _).push _) N1 fun p hp => by
    rw [Heap.size_push]
    exact Nat.lt_succ_of_lt (Heap.lt_size (N p hp).1)
theorem slice_tuple_to {value slice : Expr} {t : Addr} {vs : List Value} {u : Tok} {a : Nat} {Q : Value → Shared → Prop} {ops : List Value}
    (F : Fr h₀ L s.heap m) (N : News h₀ L s.heap news) (ht : IsTup s.heap t vs.toArray) (hz : vs.length ≤ 2 ^ 20) (ha : a < vs.length)
    (h : ∀ D h', Fr h₀ L h' m → News h₀ L h' ((D, { cls := .type "tuple", data := .seq (vs.take a).toArray }) :: news) → (∀ p ∈ news, p.1 < D) → Q (.ref D) { s with heap := h' })
    (hs : subscripted slice false (.ref t) (.ref s.heap.objs.size) = operate ops (getItem (.ref t) (.ref s.heap.objs.size)) := by with_unfolding_all rfl)
    (hg : ∀ r, letTemporaryGo value (.ref t) r = pure () := by intro _; with_unfolding_all rfl) :
    wpAny (model prog w) A (subscriptTail value slice (.ref t) (.ref s.heap.objs.size)) Q E { s with heap := s.heap.push { cls := .type "slice", data := .fields #[.none, .int (a : Int) u, .none] } } := by
  have ht' : IsTup (s.heap.push { cls := .type "slice", data := .fields #[.none, .int (a : Int) u, .none] }) t vs.toArray := ht.keeps fun _ _ e => Heap.get?_push_of_some _ e
  refine subscriptTail_ops (s := { s with heap := s.heap.push { cls := .type "slice", data := .fields #[.none, .int (a : Int) u, .none] } }) ht'.typeIs slot_tuple_getitem.lookup
    (getItem_tuple_gen (zs := (vs.take a).toArray) ht' (Heap.IsSliceOf.new ..) (fun A' Q' hq => sliceApplied_to (Heap.IsSliceOf.new ..) (by rw [List.size_toArray]; omega) hq) ?_ (pick_to vs.toArray a) (by rw [List.size_toArray, List.length_take, sizeLine_eq]; omega) ?_) hs hg
  · have : (a == vs.toArray.size) = false := by rw [beq_eq_false_iff_ne, List.size_toArray]; omega
    rw [this]; simp
  have N1 := News.push (F.push { cls := .type "slice", data := .fields #[.none, .int (a : Int) u, .none] }) (N.grown fun _ _ e => Heap.get?_push_of_some _ e) { cls := .type "tuple", data := .seq (vs.take a).toArray }
  exact h _ _ ((F.push _).push _) N1 fun p hp => by
    rw [Heap.size_push]
    exact Nat.lt_succ_of_lt (Heap.lt_size (N p hp).1)

theorem addTup {t b : Addr} {vs us : List Value} {n1 n2 : Nat} {Q : Value → Shared → Prop} (F : Fr h₀ L s.heap m) (N : News h₀ L s.heap news) (h1 : (t, ({ cls := .type "tuple", data := .seq vs.toArray n1 } : Obj)) ∈ news) (h2 : (b, ({ cls := .type "tuple", data := .seq us.toArray n2 } : Obj)) ∈ news)
    (hv : 0 < vs.length) (hw : 0 < us.length) (hz : vs.length + us.length ≤ 16384)
    (h : ∀ D h', Fr h₀ L h' m → News h₀ L h' ((D, ({ cls := .type "tuple", data := .seq (vs ++ us).toArray } : Obj)) :: news) → (∀ p ∈ news, p.1 < D) → Q (.ref D) { s with heap := h' }) : wpAny (model prog w) A (binaryOp .Add (.ref t) (.ref b)) Q E s := by
  refine kde_addT F N ⟨_, (N _ h1).1, rfl, n1, rfl⟩ ⟨_, (N _ h2).1, rfl, n2, rfl⟩ ?_ ?_ (by simpa using hz) rfl (fun D h' F' N' l1 => h D h' F' (by simpa using N') l1)
  · intro e
    have : vs = [] := by simpa using e
    rw [this] at hv; simp at hv
  · intro e
    have : us = [] := by simpa using e
    rw [this] at hw; simp at hw
end
end Mine
end

section
open PySem PySem.W PyProof.Rows PySem.SeqAt
set_option maxRecDepth 100000
set_option maxHeartbeats 8000000
namespace Mine
section
variable {prog : Program} {w : World} {A : Around} {s : Shared} {env : Env} {h₀ : Heap} {x : Str} {body : List Stmt} {Q : Flow → Shared → Prop}
theorem rangeMy {r : Addr} {a₀ b₀ c₀ : Int} {t₀ u₀ v₀ : Tok} {n : Nat} {m₀ : Str → Option Value} {news : List (Addr × Obj)} (J : Nat → (Str → Option Value) → List (Addr × Obj) → Prop)
    (hh : A.handled = none) (hr : IsRange s.heap r a₀ b₀ c₀ t₀ u₀ v₀) (hsmall : Builtin.Range.small a₀ b₀ c₀ = true) (hsz : Builtin.Range.rangeSize a₀ b₀ c₀ = (n : Int))
    (F : Fr h₀ env.locals s.heap m₀) (N : News h₀ env.locals s.heap news) (hj : J 0 m₀ news)
    (turn : ∀ (i : Nat) t m₁ nx h tk own, i < n → OwnOff own (nx.map (·.1)) → J i m₁ nx → Fr h₀ env.locals h (fun y => if y = x then some (.int (a₀ + (i : Int) * c₀) t) else m₁ y) → News h₀ env.locals h (nx ++ own) →
      wpAny (model prog w) A (execs body env) (InvPostG h₀ env.locals (J (i + 1)) own { s with heap := h, toks := tk } Q) NoE { s with heap := h, toks := tk })
    (done : ∀ m₁ nx h tk, J n m₁ nx → Fr h₀ env.locals h m₁ → News h₀ env.locals h nx → Q .next { s with heap := h, toks := tk }) :
    wpAny (model prog w) A (pyIter (.ref r)) (fun it s₂ => LoopAtV prog w A h₀ env x body Q NoE it s₂) NoE s := by
  refine wpAny_pyIter_range hr hsmall ?_
  have W : Walks prog w A s.heap.objs.size [s.heap.objs.size] [s.heap.objs.size] n (fun i v => i < n ∧ ∃ t, v = .int (a₀ + i * c₀) t)
      (fun i h => IsRangeIter h s.heap.objs.size (a₀ + (i : Nat) * c₀) ((n : Int) - (i : Nat)) c₀) := (Walks.range hh _ a₀ c₀ n).bound
  refine kdr_loop J W (fun _ h => h) (fun _ h => h) ?_ ?_ ?_ ?_ (by show IsRangeIter _ _ _ _ _; rw [hsz]; simpa using Heap.get?_push_size _ rfl) (F.push _) (fun p hp => ⟨Heap.get?_push_of_some _ (N p hp).1, (N p hp).2⟩) hj ?_ ?_
  · intro i h hi b hb
    rw [List.mem_singleton.mp hb]
    exact ⟨_, hi⟩
  · intro hm
    exact absurd F.ns.lt ((List.mem_singleton.mp hm) ▸ Nat.lt_irrefl _)
  · intro b hb
    rw [List.mem_singleton.mp hb]
    exact next_is_new F
  · intro p hp hI
    exact absurd (Heap.lt_size (N p hp).1) ((List.mem_singleton.mp hI) ▸ Nat.lt_irrefl _)
  · rintro i v m₁ nx h tk own hi ⟨_, t, rfl⟩ hoff hJ F₁ N₁
    exact turn i t m₁ nx h tk own hi hoff hJ F₁ N₁
  · rintro m₁ nx h tk hJ F₁ N₁
    exact done m₁ nx h tk hJ F₁ N₁

theorem forMy {px pos : Pos} {iter : Expr} (h₀ : Heap) (hx : env.kindOf x = some .local)
    (hp : (env.scope.kind == .class || (env.scope.kind == .module && env.locals != env.globals)) = false)
    (h : wpAny (model prog w) A (eval iter env) (fun xv s₁ => wpAny (model prog w) A (pyIter xv) (fun it s₂ => LoopAtV prog w A h₀ env x body Q NoE it s₂) NoE s₁) NoE s)
    (hs : ∀ x, foldedSetIterable iter env x = pure x := by intro _; rfl) :
    wpAny (model prog w) A (exec (.For (.Name x px) iter body [] pos) env) Q NoE s := For_invV h₀ hx hp h hs (fun _ _ h => h.elim)
end
end Mine
end

section
open PySem PySem.W PyProof.Rows PySem.SeqAt
set_option maxRecDepth 100000
set_option maxHeartbeats 8000000
namespace Mine

/-- a pair of the ledger, opened -/
theorem Good.open {rest : List (Addr × Obj)} {v : Value} {x : Pr} (h : DatIn rest v (pairD x)) :
    ∃ a n t rv, v = .ref a ∧ (a, ({ cls := .type "tuple", data := .seq #[.int x.1 t, rv] n } : Obj)) ∈ rest ∧ DatIn rest rv (rowD x.2) := by
  cases h with
  | tuple h1 h2 =>
    cases h2 with
    | cons a1 h2 =>
      cases h2 with
      | cons a2 h2 =>
        cases h2 with
        | nil =>
          cases a1 with
          | int _ t => exact ⟨_, _, t, _, rfl, h1, a2⟩

section
variable {prog : Program} {w : World} {A : Around} {E : Value → Shared → Prop} {s : Shared} {h₀ : Heap} {L l : Addr} {m : Str → Option Value} {news rest : List (Addr × Obj)} {n : Nat} {env : Env}

theorem assign2 {a b : Str} {pa pb tp : Pos} {kk : Nat} {T : Addr} {nT : Nat} {x y : Value} {Q : Unit → Shared → Prop} (hh : A.handled = none) (F : Fr h₀ env.locals s.heap m) (N : News h₀ env.locals s.heap news)
    (hm : (T, ({ cls := .type "tuple", data := .seq #[x, y] nT } : Obj)) ∈ news) (ha : env.kindOf a = some .local) (hb : env.kindOf b = some .local) (hp : (env.scope.kind == .class || (env.scope.kind == .module && env.locals != env.globals)) = false)
    (h : ∀ (h' : Heap) (tk : Nat), Fr h₀ env.locals h' (fun z => if z = b then some y else if z = a then some x else m z) → News h₀ env.locals h' news → Q () { s with heap := h', toks := tk }) :
    wpAny (model prog w) A (assign (.Tuple [.Name a pa, .Name b pb] kk tp) env (.ref T)) Q E s := by
  refine kcp_assign hh ⟨_, (N _ hm).1, rfl, nT, rfl⟩ ha hb hp F.ns fun h' tk hns keep => h h' tk ⟨hns, fun c o e => keep c o (fun q => ?_) (F.keep c o e), F.above⟩ fun q hq => ⟨keep _ _ (N q hq).2.1 (N q hq).1, (N q hq).2⟩
  subst q
  exact Nat.lt_irrefl _ (Nat.lt_of_lt_of_le (Heap.lt_size e) F.above)

theorem wpAny_Name' {M : Model} {x : Str} {pos : Pos} {mm : Str → Option Value} {v : Value} {Q : Value → Shared → Prop} (hk : env.scope.kind = .function) (hx : env.kindOf x = some .local) (hn : s.heap.Ns env.locals mm) (hv : mm x = some v) (h : Q v s)
    (hd : (x == ("__debug__" : Str)) = false := by decide) : wpAny M A (eval (.Name x pos) env) Q E s := wpAny_Name (wpAny_loadName_local hk hx hn hv h) hd

theorem comp_rows {zs : List It} {a b : Str} {pa pb pb' tp pos : Pos} {kk : Nat} {iter : Expr} {scope : Scope} {RR : Value → Addr → Result → Shared → Prop}
    (hh : A.handled = none) (hl : s.heap.IsList l (valsOf zs).toArray) (hrest : ∀ q ∈ rest, s.heap.get? q.1 = some q.2) (hG : Good rest zs) (hz : zs.length < 2 ^ 20)
    (hcell : ∀ y ∈ scope.names, y.2 ≠ .cell) (hkind : scope.kind = .function) (hxa : scope.names.lookup a = some .local) (hxb : scope.names.lookup b = some .local) (hbd : (b == ("__debug__" : Str)) = false)
    (h : ∀ us h' tk n' C m', (∀ c o, s.heap.get? c = some o → h'.get? c = some o) → h'.get? (s.heap.objs.size + 1) = some (listOf us.toArray n') → DatAll rest us (zs.map fun z => rowD z.2.2) → h'.Ns C m' → s.heap.objs.size + 1 < C →
      RR (.ref (s.heap.objs.size + 1)) C (.ok .next) { s with heap := h', toks := tk }) :
    wpAny (model prog w) A (pyIter (.ref l)) (fun it s₂ => wpAny (model prog w) A (newList []) (fun acc s₃ => wpAny (model prog w) A (newFunctionEnv scope env.globals [] [] env.qual none .none (some env)) (fun cenv s₄ =>
      codeAny (model prog w) A (.compStart (.ListComp (.Name b pb') [⟨.Tuple [.Name a pa, .Name b pb] kk tp, iter, [], 0⟩] scope pos) 0 it acc { cenv with scope := scope }) (RR acc cenv.locals) s₄) E s₃) E s₂) E s := by
  refine wpAny_pyIter_list hl ?_
  refine wpAny_newObj_type ?_ (Nat.zero_le _)
  refine wpAny_newFunctionEnv hcell (by intro y hy; simp at hy) (fun h₁ hns₁ hsb₁ => ?_) hkind
  dsimp only at hns₁ hsb₁ ⊢
  generalize hH1 : s.heap.push { cls := .type "list_iterator", data := .fields #[.ref l, .int 0 0] } = H1 at hns₁ hsb₁ ⊢
  have hs1 : H1.objs.size = s.heap.objs.size + 1 := by rw [← hH1, Heap.size_push]
  generalize hH2 : H1.push { cls := .type "list", dict := none, data := .seq ([] : List Value).toArray } = H2 at hns₁ hsb₁ ⊢
  have hs2 : H2.objs.size = s.heap.objs.size + 2 := by rw [← hH2, Heap.size_push, hs1]
  rw [hs2] at hns₁ hsb₁ ⊢
  rw [hs1]
  have n2 : ∀ b : Nat, b < s.heap.objs.size → b ≠ s.heap.objs.size + 2 := fun b hb => by omega
  have old : ∀ b o, s.heap.get? b = some o → h₁.get? b = some o := fun b o e => hsb₁.extBut b o (n2 b (Heap.lt_size e)) (Heap.get?_push_of_some _ (hH2 ▸ Heap.get?_push_of_some _ (hH1 ▸ Heap.get?_push_of_some _ e)))
  have nD : @Ne Nat (s.heap.objs.size + 1) (s.heap.objs.size + 2) := by omega
  have nI : @Ne Nat s.heap.objs.size (s.heap.objs.size + 2) := by omega
  have nID : @Ne Nat s.heap.objs.size (s.heap.objs.size + 1) := by omega
  have hacc : h₁.get? (s.heap.objs.size + 1) = some (listOf ([] : List Value).toArray 0) :=
    hsb₁.extBut _ _ nD (Heap.get?_push_of_some _ (by rw [← hH2, ← hs1]; exact Heap.get?_push_size _ rfl))
  have hit₁ : h₁.IsListIter s.heap.objs.size l 0 :=
    ⟨_, hsb₁.extBut _ _ nI (Heap.get?_push_of_some _ (hH2 ▸ Heap.get?_push_of_some _ (by rw [← hH1]; exact Heap.get?_push_size _ rfl))), rfl, rfl⟩
  have hllt : l < s.heap.objs.size := by obtain ⟨o, ho, _⟩ := hl; exact Heap.lt_size ho
  have keepL : ∀ h' : Heap, (∀ b o, s.heap.get? b = some o → h'.get? b = some o) → h'.IsList l (valsOf zs).toArray := fun h' k => by
    obtain ⟨o, ho, r⟩ := hl; exact ⟨o, k _ _ ho, r⟩
  have oldI : ∀ b : Nat, b < s.heap.objs.size → b ≠ s.heap.objs.size := fun b hb => by omega
  have oldD : ∀ b : Nat, b < s.heap.objs.size → b ≠ s.heap.objs.size + 1 := fun b hb => by omega
  have main : ∀ cE : Env, cE.locals = s.heap.objs.size + 2 → cE.scope = scope →
      codeAny (model prog w) A (.compStart (.ListComp (.Name b pb') [⟨.Tuple [.Name a pa, .Name b pb] kk tp, iter, [], 0⟩] scope pos) 0 (.ref s.heap.objs.size) (.ref (s.heap.objs.size + 1)) cE)
        (RR (.ref (s.heap.objs.size + 1)) (s.heap.objs.size + 2)) { s with heap := h₁, toks := s.toks + ([] : List (Str × Value)).length } := by
    intro cE hcl hcs
    have hka : cE.kindOf a = some .local := by unfold Env.kindOf; rw [hcs]; exact hxa
    have hkb : cE.kindOf b = some .local := by unfold Env.kindOf; rw [hcs]; exact hxb
    have hkk : cE.scope.kind = .function := by rw [hcs]; exact hkind
    have loop : codeAny (model prog w) A (.compLoop (.ListComp (.Name b pb') [⟨.Tuple [.Name a pa, .Name b pb] kk tp, iter, [], 0⟩] scope pos) 0 (.ref s.heap.objs.size) (.ref (s.heap.objs.size + 1)) cE)
        (RR (.ref (s.heap.objs.size + 1)) (s.heap.objs.size + 2)) { s with heap := h₁, toks := s.toks + ([] : List (Str × Value)).length } := by
      refine kcp_loop (fun k s' => ∃ h' tk i us n' m', s' = { s with heap := h', toks := tk } ∧ i ≤ zs.length ∧ k = zs.length - i ∧ h'.IsListIter s.heap.objs.size l i ∧ h'.get? (s.heap.objs.size + 1) = some (listOf us.toArray n') ∧
        h'.Ns (s.heap.objs.size + 2) m' ∧ (∀ c o, s.heap.get? c = some o → h'.get? c = some o) ∧ DatAll rest us ((zs.take i).map fun z => rowD z.2.2)) ?_ zs.length
        ⟨h₁, _, 0, [], 0, _, rfl, Nat.zero_le _, rfl, hit₁, hacc, hns₁, old, .nil⟩
      rintro k s' ⟨h', tk, i, us, n', m', rfl, hi, rfl, hit, hD, hns, keep, hdat⟩
      have hL := keepL h' keep
      by_cases hlt : i < zs.length
      · obtain ⟨z, hzi⟩ : ∃ z, zs[i]? = some z := ⟨_, List.getElem?_eq_getElem hlt⟩
        obtain ⟨T, nT, tT, rv, hv, hm, hrv⟩ := Good.open (hG.get hzi)
        have hT := hrest _ hm
        refine wpAny_pyNext_list_item (x := z.1) hit hL (by simp [hzi]) fun h2 hit2 hs2 => ?_
        rw [hv]
        dsimp only
        refine wpAny_letOwnedTupleGo_listiter hit2 ?_
        have hTlt := Heap.lt_size hT
        have hT2 : h2.IsTuple T #[.int z.2.1 tT, rv] := ⟨_, (hs2.2 _ (oldI _ hTlt)).trans (keep _ _ hT), rfl, nT, rfl⟩
        have hns2 : h2.Ns cE.locals m' := by
          rw [hcl]
          obtain ⟨o, es, ep, ho, r⟩ := hns
          exact ⟨o, es, ep, (hs2.2 _ (Ne.symm nI)).trans ho, r⟩
        refine kcp_assign hh hT2 hka hkb (by rw [hkk]; rfl) hns2 fun h3 tk3 hns3 keep3 => ?_
        refine wpAny_Name' hkk hkb hns3 (by rw [if_pos rfl]) ?_ hbd
        have hD3 : h3.get? (s.heap.objs.size + 1) = some (listOf us.toArray n') := keep3 _ _ (by rw [hcl]; exact nD) ((hs2.2 _ (Ne.symm nID)).trans hD)
        have husz : us.length ≤ zs.length := by have := hdat.length; simp at this; omega
        refine append_at hD3 (fun h4 hs4 hD4 => ?_) (by rw [List.size_toArray, sizeLine_eq]; omega)
        have hns4 : h4.Ns (s.heap.objs.size + 2) (fun y => if y = b then some rv else if y = a then some (.int z.2.1 tT) else m' y) := by
          obtain ⟨o, es, ep, ho, r⟩ := hns3
          rw [hcl] at ho
          exact ⟨o, es, ep, (hs4.2 _ (Ne.symm nD)).trans ho, r⟩
        refine ⟨zs.length - (i + 1), by omega, h4, _, i + 1, us ++ [rv], n' + 1, _, rfl, hlt, rfl, ?_, ?_, hns4, ?_, ?_⟩
        · obtain ⟨o, ho, r⟩ := hit2
          exact ⟨o, (hs4.2 _ nID).trans (keep3 _ _ (by rw [hcl]; exact nI) ho), r⟩
        · rw [hD4]; simp
        · intro c o e
          have hc := Heap.lt_size e
          exact (hs4.2 _ (oldD _ hc)).trans (keep3 _ _ (by rw [hcl]; exact n2 _ hc) ((hs2.2 _ (oldI _ hc)).trans (keep _ _ e)))
        · have : (zs.take (i + 1)).map (fun z => rowD z.2.2) = (zs.take i).map (fun z => rowD z.2.2) ++ [rowD z.2.2] := by
            rw [List.take_add_one, hzi]; simp
          rw [this]
          exact hdat.append (.one hrv)
      · have hie : i = zs.length := by omega
        subst hie
        refine wpAny_pyNext_list_end hh hit hL (by simp) fun h2 hs2 => ?_
        rw [List.take_length] at hdat
        refine h us h2 _ n' _ m' (fun c o e => hs2 _ _ (oldI _ (Heap.lt_size e)) (keep _ _ e)) (hs2 _ _ (Ne.symm nID) hD) hdat ?_ (Nat.lt_succ_self _)
        obtain ⟨o, es, ep, ho, r⟩ := hns
        exact ⟨o, es, ep, hs2 _ _ (Ne.symm nI) ho, r⟩
    exact codeAny_compStart_list loop (wpAny_pyIter_listiter hit₁ loop)
  exact main _ rfl rfl
end
end Mine
end

section
open PySem PySem.W PyProof.Rows PySem.SeqAt
open PySem.Sem (wp)
set_option maxRecDepth 100000
set_option maxHeartbeats 8000000
namespace Mine

theorem ba_mro : mroOf (.type "bytearray") = pure [.type "bytearray", .type "object"] := by rw [mroOf_type]; kernel_rfl
theorem ba_lookup_new : typeLookup (.type "bytearray") "__new__" = pure (some (.builtin "bytearray.__new__")) := by rw [typeLookup_type, builtinLookup_eq_fast]; kernel_rfl
theorem ba_slot_init : Slot "bytearray" "__init__" "bytearray.__init__" :=
  .of (owner := "bytearray") (n := "__init__") (by rw [typeLookup_type, builtinLookup_eq_fast]; kernel_rfl) (by decide +kernel) (by decide +kernel) (by decide +kernel)
    (by first | exact .inl (by decide +kernel) | exact .inr (by decide +kernel)) (by rw [isSubtype_type]; kernel_rfl)
theorem ba_slot_setitem : Slot "bytearray" "__setitem__" "bytearray.__setitem__" :=
  .of (owner := "bytearray") (n := "__setitem__") (by rw [typeLookup_type, builtinLookup_eq_fast]; kernel_rfl) (by decide +kernel) (by decide +kernel) (by decide +kernel)
    (by first | exact .inl (by decide +kernel) | exact .inr (by decide +kernel)) (by rw [isSubtype_type]; kernel_rfl)
theorem ba_called : TypeCalled "bytearray" "bytearray.__new__" "bytearray.__init__" :=
  ⟨by decide +kernel, by decide +kernel, ⟨_, _, ba_mro⟩, madeBy_type ba_mro ba_lookup_new (by decide +kernel), by decide +kernel, by rw [isSubtype_type]; kernel_rfl, ba_slot_init⟩
theorem ba_typeCall (a : Value) : checkTypeCall "bytearray" ⟨[a], []⟩ = pure () := by kernel_rfl
theorem ba_newCall (a : Value) : checkBuiltinCall "bytearray.__new__" ⟨[.type "bytearray", a], []⟩ = pure () := by kernel_rfl
theorem ba_entry_new : entryFor table "bytearray.__new__" = some Builtin.«list.__new__» :=
  entryFor_alias (id' := "list.__new__") (by rw [fastTable_eq_tree]; kernel_rfl) (by decide +kernel) (by decide +kernel) (by rw [fastTable_eq_tree]; kernel_rfl)
theorem ba_plain_new : plainId "bytearray.__new__" = true := by decide +kernel
theorem ba_entry_init : entryFor table "bytearray.__init__" = some Builtin.«bytearray.__init__» := by first | exact entryFor_of_tree (by kernel_rfl) | exact entryFor_of_fast (by kernel_rfl)
theorem ba_entry_setitem : entryFor table "bytearray.__setitem__" = some Builtin.«bytearray.__setitem__» := by first | exact entryFor_of_tree (by kernel_rfl) | exact entryFor_of_fast (by kernel_rfl)
theorem ba_args_init (a b : Value) : argsOk "bytearray.__init__" ⟨[a, b], []⟩ := by unfold argsOk; kernel_rfl
theorem ba_args_setitem (a b c : Value) : argsOk "bytearray.__setitem__" ⟨[a, b, c], []⟩ := by unfold argsOk; kernel_rfl
set_option maxRecDepth 1000000 in
theorem ba_owner : ("bytearray.__new__".splitOn ".__new__").headD "" = "bytearray" := by simp +decide [String.splitOn, String.splitOnAux]
theorem ba_sub : isSubtype (.type "bytearray") (.type "bytearray") = pure true := by rw [isSubtype_type]; kernel_rfl
theorem ba_release : typeLookup (.type "bytearray") "__release_buffer__" = pure (some (.builtin "bytearray.__release_buffer__")) := by rw [typeLookup_type, builtinLookup_eq_fast]; kernel_rfl
theorem ba_buffer : typeLookup (.type "bytearray") "__buffer__" = pure (some (.builtin "bytearray.__buffer__")) := by rw [typeLookup_type, builtinLookup_eq_fast]; kernel_rfl
theorem ba_no_bytes : typeLookup (.type "bytearray") "__bytes__" = pure none := by rw [typeLookup_type, builtinLookup_eq_fast]; kernel_rfl
theorem ba_no_index : typeLookup (.type "bytearray") "__index__" = pure none := by rw [typeLookup_type, builtinLookup_eq_fast]; kernel_rfl
theorem ba_bind (v : Value) : Builtin.Bytes.bindOptional "bytearray.__init__" "bytearray" ["source", "encoding", "errors"] [v] [] = pure [some v, none, none] := by kernel_rfl

section
variable {prog : Program} {w : World} {A : Around} {E : Value → Shared → Prop} {s : Shared}
theorem code_ba_new (a : Value) {Q₁ : Value → Shared → Prop}
    (h : Q₁ (.ref s.heap.objs.size) { s with heap := s.heap.push { cls := .type "bytearray", data := .bytearray #[] } }) :
    codeAny (model prog w) A (.call (.builtin "bytearray.__new__") ⟨[.type "bytearray", a], []⟩) (wants Q₁ E) s := by
  refine codeAny_of_tree ?_
  show wpAny _ A.in1 (do checkBuiltinCall "bytearray.__new__" ⟨[.type "bytearray", a], []⟩; again (.builtin "bytearray.__new__" ⟨[.type "bytearray", a], []⟩)) _ _ s
  refine wpAny_bind (wpAny_of_eq (ba_newCall a) (wpAny_pure ⟨plainId_quiet ba_plain_new _, codeAny_builtin_stack ba_entry_new rfl fun p st => ?_⟩))
  rw [Around.under_plainId ba_plain_new _]
  have hsub := ba_sub
  have hown := ba_owner
  obtain ⟨hp, g, d, tk, os⟩ := s
  simp only [hown]
  wp_walk
  exact h

theorem own_release {M : Model} {a : Addr} {Q : Bool → Shared → Prop} (hT : s.TypeIs (.ref a) "bytearray") (h : Q false s) : wpAny M A (Builtin.Bytes.ownRelease (.ref a)) Q E s := by
  unfold Builtin.Bytes.ownRelease Builtin.Bytes.slotIsOwn
  refine wpAny_bind (wpAny_bind (wpAny_specialOf hT ba_release ?_))
  dsimp only
  have e1 : ("bytearray.__release_buffer__".endsWith ("." ++ "__release_buffer__")) = true := by decide +kernel
  have e2 : ("bytearray.__release_buffer__".dropRight ("__release_buffer__".length + 1)) = "bytearray" := by decide +kernel
  rw [e1, e2]
  simp only [Bool.not_true, Bool.false_eq_true, if_false]
  exact wpAny_isInstance hT ba_sub (wpAny_pure h)

theorem calm_dec {L : List String} {id : String} (h : (Builtin.Bytes.decodersThatHold ++ L).contains id = false) : Builtin.Bytes.decodersThatHold.contains id = false := by
  cases hh : Builtin.Bytes.decodersThatHold.contains id with
  | false => rfl
  | true =>
    have h1 : id ∈ Builtin.Bytes.decodersThatHold := by simpa using hh
    have h2 : (Builtin.Bytes.decodersThatHold ++ L).contains id = true := by
      simp only [List.contains_eq_mem, decide_eq_true_eq]
      exact List.mem_append.mpr (.inl h1)
    rw [h2] at h; cases h
theorem exported_X {M : Model} {a : Addr} {Q : Bool → Shared → Prop} (h : Q false s) : wpX M A (Builtin.Bytes.exported (.ref a)) Q E s := by
  unfold Builtin.Bytes.exported
  intro Γ p hΓ hc hb
  have key : ∀ x : Code × Pos, Calm x.1 → (match x with
    | (.builtin "bytearray.__contains__" ⟨v :: _, _⟩, _) | (.builtin "bytearray.__mod__" ⟨v :: _, _⟩, _)
    | (.builtin "bytearray.__rmod__" ⟨_ :: v :: _, _⟩, _) | (.builtin "_struct.pack_into.held" ⟨v :: _, _⟩, _) => Builtin.Bytes.sameRef v (.ref a)
    | (.builtin "bytearray.find.held" ⟨_ :: _ :: held, _⟩, _) => held.any (Builtin.Bytes.sameRef (.ref a))
    | (.builtin id ⟨v :: _, _⟩, _) => Builtin.Bytes.sameRef v (.ref a) && Builtin.Bytes.decodersThatHold.contains id
    | _ => false) = false := by
    rintro ⟨c, q⟩ hcalm
    split <;> first | rfl | skip
    all_goals (rename_i heq; cases heq)
    all_goals (simp only [Calm, loudIds] at hcalm)
    all_goals first
      | exact absurd hcalm (by decide)
      | (have hd : Builtin.Bytes.decodersThatHold.contains _ = false := calm_dec hcalm
         rw [hd, Bool.and_false])
  rw [Sem.wp_bind']
  show Q (((Γ.code, p) :: Γ.below).any _) s
  rw [List.any_eq_false.mpr]
  · exact h
  · intro x hx
    have hx' : Calm x.1 := by
      rcases List.mem_cons.mp hx with rfl | h'
      · exact hc
      · exact hb x h'
    rw [Bool.not_eq_true]
    exact key x hx'
end
end Mine
end

section
open PySem PySem.W PyProof.Rows PySem.SeqAt
open PySem.Sem (wp)
set_option maxRecDepth 100000
set_option maxHeartbeats 8000000
namespace Mine
abbrev baOf (b : Array UInt8) : Obj := { cls := .type "bytearray", data := .bytearray b }
section
variable {prog : Program} {w : World} {A : Around} {E : Value → Shared → Prop} {s : Shared}

theorem write_ba {M : Model} {a : Addr} {b : Array UInt8} {f : Array UInt8 → Array UInt8} {Q : Unit → Shared → Prop} (ho : s.heap.get? a = some (baOf b)) (hz : (f b).size ≤ sizeLine)
    (h : ∀ h', Heap.SameBut a s.heap h' → h'.get? a = some (baOf (f b)) → Q () { s with heap := h' }) : wpAny M A (Builtin.Bytes.write (.ref a) f) Q E s := by
  show wpAny M A (updateBytearray a f) Q E s
  unfold updateBytearray
  refine wpAny_bind (wpAny_load ho ?_)
  show wpAny M A (update a (Obj.mapBytearray f) >>= fun _ => lookBehind a) Q E s
  refine wpAny_bind (wpAny_update ho ?_)
  have h2 : (s.heap.update a (Obj.mapBytearray f)).get? a = some (baOf (f b)) := Heap.get?_update_self (Obj.mapBytearray f) ho rfl
  refine wpAny_lookBehind h2 ?_ (h _ (Heap.SameBut.update ..) h2)
  show (if (f b).size > sizeLine then some "bytearray:memory" else none) = none
  rw [if_neg (by omega)]

theorem ba_payload {M : Model} {a : Addr} {b : Array UInt8} {Q : Array UInt8 → Shared → Prop} (ho : s.heap.get? a = some (baOf b)) (h : Q b s) : wpAny M A (Builtin.Bytes.payload (.ref a)) Q E s := by
  unfold Builtin.Bytes.payload Builtin.Bytes.payload?
  exact wpAny_bind (wpAny_bind (wpAny_load ho (wpAny_pure (wpAny_pure h))))

theorem wpX_iteN {α : Type} {M : Model} {c : Prop} [Decidable c] {t u : Sem α} {Q : α → Shared → Prop} (hc : ¬ c) (h : wpX M A u Q E s) : wpX M A (if c then t else u) Q E s := by rw [if_neg hc]; exact h
theorem special_int {M : Model} {n : Int} {t : Tok} {Q : Option Value → Shared → Prop} (h : Q (some (.builtin "int.__index__")) s) : wpAny M A (specialOf (Value.int n t) (Str.ofString "__index__")) Q E s :=
  wpAny_specialOf (typeIs_int _ _ _) PySem.int_index h
theorem asStr_int (n : Int) (t : Tok) : asStr? (.int n t) = pure none := rfl
theorem asIndex_int (n : Int) (t : Tok) : asIndex (.int n t) = pure n := rfl
theorem ba_init_X {a : Addr} {n : Nat} {t : Tok} {Q : Value → Shared → Prop} (ho : s.heap.get? a = some (baOf #[])) (hn : n ≤ 2 ^ 20)
    (h : ∀ h', Heap.SameBut a s.heap h' → h'.get? a = some (baOf (Array.replicate n 0)) → Q .none { s with heap := h' }) :
    wpX (model prog w) A (Builtin.«bytearray.__init__» ⟨[.ref a, .int (n : Int) t], []⟩) (fun fin s' => ∃ v, fin = .done (.ret v) ∧ Q v s') E s := by
  have hT : s.TypeIs (.ref a) "bytearray" := ⟨_, ho, rfl⟩
  unfold Builtin.«bytearray.__init__»
  refine wpX_bindA (own_release hT ?_)
  refine wpX_iteN (by decide) ?_
  refine wpX_bindA (wpAny_of_eq (ba_bind _) ?_)
  dsimp only
  refine wpX_bindA (wpAny_of_eq (a := ()) rfl ?_)
  refine wpX_bindA (wpAny_of_eq (a := ()) rfl ?_)
  refine wpX_bind ?_
  unfold orM
  refine wpX_bind (exported_X ?_)
  show wpX (model prog w) A (Builtin.Bytes.exportsOf (.ref a) >>= fun n => pure (decide (n > 0))) _ E s
  unfold Builtin.Bytes.exportsOf
  refine wpX_bindA (wpAny_bind (wpAny_load ho (wpAny_pure (wpX_pure ?_))))
  refine wpX_any ?_
  rw [if_neg (by decide)]
  refine wpAny_bind ?_
  refine write_ba ho (by rw [sizeLine_eq]; simp) (fun h1 hs1 ho1 => ?_)
  refine wpAny_bind (m := asStr? (Value.int (n : Int) t)) ?_
  rw [asStr_int]
  refine wpAny_pure ?_
  rw [if_neg (by decide)]
  refine wpAny_bind ?_
  simp only [Option.isSome_none, Bool.false_eq_true, if_false]
  refine wpAny_pure ?_
  refine wpAny_bind ?_
  refine special_int ?_
  simp only [Option.isSome_some, if_true]
  refine wpAny_bind ?_
  refine wpAny_attempt ?_
  rw [asIndex_int]
  refine wpAny_pure ?_
  dsimp only
  have f1 : Builtin.Bytes.fitsIndex (n : Int) = true := by
    unfold Builtin.Bytes.fitsIndex
    simp only [Bool.and_eq_true, decide_eq_true_eq]
    omega
  rw [f1, if_neg (by decide), if_neg (by omega)]
  rw [if_neg (by simp only [beq_iff_eq]; omega)]
  have f2 : Builtin.Bytes.tooLong (n : Int).toNat = false := by
    unfold Builtin.Bytes.tooLong
    rw [sizeLine_eq]
    simp only [decide_eq_false_iff_not]
    omega
  rw [f2, if_neg (by decide)]
  refine wpAny_bind (wpAny_rule ?_)
  by_cases h0 : (n : Int) > 0
  · rw [if_pos h0]
    refine wpAny_bind (write_ba ho1 (by rw [sizeLine_eq]; simp; omega) fun h2 hs2 ho2 => wpAny_pure ⟨_, rfl, h h2 (hs1.trans hs2) (by simpa using ho2)⟩)
  · rw [if_neg h0]
    have : n = 0 := by omega
    subst this
    exact wpAny_pure ⟨_, rfl, h h1 hs1 ho1⟩
end
end Mine
end

section
open PySem PySem.W PyProof.Rows PySem.SeqAt
open PySem.Sem (wp)
set_option maxRecDepth 100000
set_option maxHeartbeats 8000000
namespace Mine
section
variable {prog : Program} {w : World} {A : Around} {E : Value → Shared → Prop} {s : Shared}

theorem codeX_builtin {id : String} {args : Args} {b : Builtin} {R : Result → Shared → Prop} (hcalm : loudIds.contains id = false) (hb : entryFor table id = some b)
    (h : wpX (model prog w) (A.under (.builtin id args)) (b args)
      (fun fin s' => match fin with | .done f => R (.ok f) s' | .again c' => c'.quiet = true ∧ codeX (model prog w) A c' R s') (fun e s' => R (.error e) s') s) :
    codeX (model prog w) A (.builtin id args) R s := by
  refine codeX_of_tree hcalm ?_
  show wpX _ _ (match entryFor table id with | some b => b args | none => unsupported ((withoutEnding? id "#data").getD id)) _ _ s
  rw [hb]; exact h
theorem codeX_call_builtin {id : String} {args : Args} {b : Builtin} {R : Result → Shared → Prop} (hcalm : loudIds.contains id = false) (hq : plainId id = true) (hb : entryFor table id = some b)
    (h : wpAny (model prog w) A.in1 (checkBuiltinCall id args) (fun _ s₁ => wpX (model prog w) A.in1 (b args)
      (fun fin s' => match fin with | .done f => R (.ok f) s' | .again c' => c'.quiet = true ∧ codeX (model prog w) A c' R s') (fun e s' => R (.error e) s') s₁)
      (fun e s' => R (.error e) s') s) : codeX (model prog w) A (.call (.builtin id) args) R s := by
  refine codeX_of_tree trivial ?_
  show wpX _ A.in1 (do checkBuiltinCall id args; again (.builtin id args)) _ _ s
  refine wpX_bindA (wpAny_mono h (fun _ s₁ h₁ => wpX_pure ⟨plainId_quiet hq args, codeX_builtin hcalm hb ?_⟩) fun _ _ h' => h')
  rw [Around.under_plainId hq args]; exact h₁

theorem callSpecialX {M : Model} {self : Value} {T : String} {name : Str} {id : String} {args : List Value} {Q : Option Value → Shared → Prop} (hT : s.TypeIs self T) (h : Slot T name id)
    (hc : wpX M A (call (.builtin id) (self :: args) []) (fun v => Q (some v)) E s) : wpX M A (callSpecial? self name args []) Q E s := by
  simp only [callSpecial?]
  refine wpX_bindA (wpAny_specialOf hT h.lookup ?_)
  simp only [h.bind]
  exact wpX_holding (wpX_bindA (wpAny_pure (wpX_bind (wpX_mono hc (fun v s' h' => wpX_pure h') fun _ _ h' => h'))))

theorem call_bytearray_X {i : Int} {n : Nat} {t : Tok} {Q : Value → Shared → Prop} (hi : i = (n : Int)) (hn : n ≤ 2 ^ 20)
    (h : ∀ h', (∀ b o, s.heap.get? b = some o → h'.get? b = some o) → h'.get? s.heap.objs.size = some (baOf (Array.replicate n 0)) → Q (.ref s.heap.objs.size) { s with heap := h' }) :
    wpX (model prog w) A (call (.type "bytearray") [.int i t]) Q E s := by
  subst hi
  refine wpX_call (codeX_of_tree trivial ?_)
  show wpX _ _ (callAny (.type "bytearray") _) _ _ _
  refine wpX_pure ⟨Code.quiet_builtin _ (by decide +kernel), codeX_builtin (by decide) PySem.F.entry_type_call ?_⟩
  rw [Around.under_plain (weight_type_call_type "bytearray" _ []) rfl]
  obtain ⟨c, tl, hmro⟩ := ba_called.mro
  have hmade := ba_called.made
  unfold Builtin.«type.__call__»
  dsimp only
  rw [if_neg (by decide)]
  rw [if_neg (by rw [ba_called.canCreate]; exact Bool.false_ne_true)]
  refine wpX_bind (wpX_any ?_)
  rw [ba_typeCall]
  refine wpAny_pure ?_
  refine wpX_bind (wpX_any ?_)
  rw [hmro]
  refine wpAny_pure ?_
  rw [if_neg (by simp)]
  refine wpX_bind (wpX_any ?_)
  rw [hmade]
  refine wpAny_pure ?_
  dsimp only
  refine wpX_bind (wpX_pure ?_)
  refine wpX_bind (wpX_holding (wpX_any ?_))
  refine wpAny_call (codeAny_mono (code_ba_new (E := fun _ _ => False) _ (Q₁ := fun obj s₁ => obj = .ref s.heap.objs.size ∧ s₁ = { s with heap := s.heap.push (baOf #[]) }) ⟨rfl, rfl⟩) fun r s₁ hr => ?_)
  cases r with
  | error e => exact hr.elim
  | ok fl =>
    cases fl with
    | ret obj =>
      obtain ⟨rfl, rfl⟩ := hr
      dsimp only
      have ho : (s.heap.push (baOf #[])).get? s.heap.objs.size = some (baOf #[]) := Heap.get?_push_size _ rfl
      have hT : ({ s with heap := s.heap.push (baOf #[]) } : Shared).TypeIs (.ref s.heap.objs.size) "bytearray" := ⟨_, ho, rfl⟩
      refine wpX_bind (wpX_any (wpAny_isInstance hT ba_sub ?_))
      rw [if_neg (by decide)]
      refine wpX_bind (wpX_holding (callSpecialX hT ba_slot_init ?_))
      refine wpX_call (codeX_call_builtin (by decide) ba_slot_init.plain ba_entry_init (ba_slot_init.check _ _ _ _ _ _ _ _ hT (ba_args_init _ _) ?_))
      refine wpX_mono (ba_init_X (s := { s with heap := s.heap.push (baOf #[]) }) (E := fun _ _ => False) (Q := fun v s' => v = .none ∧ Q (.ref s.heap.objs.size) s') ho hn fun h' hs ho' => ⟨rfl, ?_⟩) (fun fin s' hf => ?_) fun _ _ x => x.elim
      · refine h h' (fun b o e => ?_) ho'
        have hne : b ≠ s.heap.objs.size := Nat.ne_of_lt (Heap.lt_size e)
        exact (hs.2 b hne).trans (Heap.get?_push_of_some _ e)
      · obtain ⟨v, rfl, rfl, hq⟩ := hf
        dsimp only
        rw [if_neg (by decide)]
        exact wpX_pure hq
    | _ => exact hr.elim
end
end Mine
end

section
open PySem PySem.W PyProof.Rows PySem.SeqAt
open PySem.Sem (wp)
set_option maxRecDepth 100000
set_option maxHeartbeats 8000000
namespace Mine
theorem tp_no_bytes : typeLookup (.type "tuple") "__bytes__" = pure none := by rw [typeLookup_type, builtinLookup_eq_fast]; kernel_rfl
theorem tp_no_index : typeLookup (.type "tuple") "__index__" = pure none := by rw [typeLookup_type, builtinLookup_eq_fast]; kernel_rfl
theorem tp_no_buffer : typeLookup (.type "tuple") "__buffer__" = pure none := by rw [typeLookup_type, builtinLookup_eq_fast]; kernel_rfl
theorem tp_split : splitId "tuple.__len__" = some ("tuple", "__len__") := by decide +kernel
section
variable {prog : Program} {w : World} {A : Around} {E : Value → Shared → Prop} {s : Shared}

theorem setItem_ba {a : Addr} {b : Array UInt8} {i : Int} {k : Nat} {t u : Tok} {y : UInt8} {x : Int} {Q : Unit → Shared → Prop} (ho : s.heap.get? a = some (baOf b)) (hi : i = (k : Int)) (hk : k < b.size) (hz : b.size ≤ 2 ^ 20) (hx : x = (y.toNat : Int))
    (h : ∀ h', Heap.SameBut a s.heap h' → h'.get? a = some (baOf (b.set! k y)) → Q () { s with heap := h' }) : wpAny (model prog w) A (setItem (.ref a) (.int i t) (.int x u)) Q E s := by
  subst hi
  subst hx
  have hT : s.TypeIs (.ref a) "bytearray" := ⟨_, ho, rfl⟩
  unfold setItem
  refine wpAny_holding ?_
  refine wpAny_bind ?_
  refine wpAny_sequenceKey hT (by decide) ?_
  refine wpAny_bind ?_
  refine wpAny_callSpecial?_slot (name := Str.ofString "__setitem__") hT ba_slot_setitem ?_
  refine wpAny_call_entry ba_slot_setitem hT ba_entry_setitem ?_ (ba_args_setitem _ _ _)
  unfold Builtin.«bytearray.__setitem__»
  dsimp only
  rw [if_neg (by simp)]
  refine wpAny_bind ?_
  unfold Builtin.Bytes.subscript?
  refine wpAny_bind ?_
  refine special_int ?_
  rw [if_neg (by simp)]
  refine wpAny_bind ?_
  rw [asIndex_int]
  refine wpAny_pure ?_
  have f1 : Builtin.Bytes.fitsIndex (k : Int) = true := by
    unfold Builtin.Bytes.fitsIndex
    simp only [Bool.and_eq_true, decide_eq_true_eq]
    omega
  rw [f1, if_neg (by decide)]
  refine wpAny_pure ?_
  dsimp only
  refine wpAny_bind ?_
  unfold Builtin.Bytes.byteValue
  refine wpAny_bind ?_
  rw [asIndex_int]
  refine wpAny_pure ?_
  have hy : y.toNat < 256 := y.toNat_lt
  rw [if_neg (by simp only [Bool.or_eq_true, decide_eq_true_eq]; omega)]
  refine wpAny_pure ?_
  refine wpAny_bind (ba_payload ho ?_)
  have hs : seqIndex? (k : Int) b.size = some k := by
    unfold seqIndex?
    have h1 : ¬ ((k : Int) < 0) := by omega
    have h2 : (decide (0 ≤ (k : Int)) && decide ((k : Int) < (b.size : Int))) = true := by simp only [Bool.and_eq_true, decide_eq_true_eq]; omega
    simp only [h1, if_false, h2, if_true, Int.toNat_natCast]
  rw [hs]
  dsimp only
  have ey : ((y.toNat : Int).toNat).toUInt8 = y := by simp
  rw [ey]
  refine wpAny_bind (write_ba ho (by rw [sizeLine_eq]; simp; omega) fun h' hs' ho' => ?_)
  refine wpAny_bind (wpAny_pure (wpAny_pure ?_))
  refine ⟨.none, rfl, wpAny_pure (h h' hs' ?_)⟩
  rw [ho']
  simp

theorem buffer_own {M : Model} {a : Addr} {Q : Bool → Shared → Prop} (hT : s.TypeIs (.ref a) "bytearray") (h : Q true s) : wpAny M A (Builtin.Bytes.slotIsOwn (.ref a) "__buffer__") Q E s := by
  unfold Builtin.Bytes.slotIsOwn
  refine wpAny_bind (wpAny_specialOf hT ba_buffer ?_)
  dsimp only
  have e1 : ("bytearray.__buffer__".endsWith ("." ++ "__buffer__")) = true := by decide +kernel
  have e2 : ("bytearray.__buffer__".dropRight ("__buffer__".length + 1)) = "bytearray" := by decide +kernel
  rw [e1, e2]
  simp only [Bool.not_true, Bool.false_eq_true, if_false]
  exact wpAny_isInstance hT ba_sub h

theorem ba_bytes_new {a : Addr} {b : Array UInt8} {Q : Value → Shared → Prop} (ho : s.heap.get? a = some (baOf b)) (hz : b.size ≤ 2 ^ 20)
    (h : Q (.bytes b s.toks) { s with toks := s.toks + 1 }) :
    codeAny (model prog w) A (.call (.builtin "bytes.__new__") ⟨[.type "bytes", .ref a], []⟩) (wants Q E) s := by
  refine codeAny_of_tree ?_
  show wpAny _ A.in1 (do checkBuiltinCall "bytes.__new__" ⟨[.type "bytes", .ref a], []⟩; again (.builtin "bytes.__new__" ⟨[.type "bytes", .ref a], []⟩)) _ _ s
  refine wpAny_bind (wpAny_of_eq (PySem.F.bm_newCall _) (wpAny_pure ⟨plainId_quiet PySem.F.bm_plain _, codeAny_builtin PySem.F.bm_entry ?_⟩))
  rw [Around.under_plainId PySem.F.bm_plain _]
  have hT : s.TypeIs (.ref a) "bytearray" := ⟨_, ho, rfl⟩
  unfold Builtin.«bytes.__new__»
  refine wpAny_bind (wpAny_of_eq (a := true) rfl ?_)
  refine bm_if_false rfl ?_
  refine wpAny_bind (wpAny_of_eq PySem.F.bm_sub ?_)
  refine bm_if_false rfl ?_
  refine wpAny_bind (wpAny_of_eq (PySem.F.bm_bind _) ?_)
  refine wpAny_bind (wpAny_of_eq (a := ()) rfl ?_)
  refine wpAny_bind (wpAny_of_eq (a := ()) rfl ?_)
  refine bm_if_false rfl ?_
  refine wpAny_bind (wpAny_specialOf hT ba_no_bytes ?_)
  refine wpAny_bind (wpAny_bind ?_)
  show wpAny _ _ (load a >>= _) _ _ _
  refine wpAny_bind (wpAny_load ho ?_)
  refine wpAny_pure (wpAny_pure ?_)
  refine bm_if_false rfl ?_
  refine wpAny_bind (wpAny_specialOf hT ba_no_index ?_)
  refine bm_if_true rfl ?_
  first
    | show wpAny _ _ (Builtin.Bytes.buffer? "bytes.__new__" (.ref a) true >>= _) _ _ _
    | (refine wpAny_bind ?_; show wpAny _ _ (Builtin.Bytes.buffer? "bytes.__new__" (.ref a) true >>= _) _ _ _)
  refine wpAny_bind ?_
  unfold Builtin.Bytes.buffer?
  refine wpAny_bind (wpAny_specialOf hT ba_buffer ?_)
  try dsimp only
  refine wpAny_bind ?_
  refine buffer_own hT ?_
  refine bm_if_false rfl ?_
  refine wpAny_bind (wpAny_specialOf hT ba_buffer ?_)
  try dsimp only
  refine wpAny_bind ?_
  refine own_release hT ?_
  refine bm_if_false rfl ?_
  refine wpAny_bind (ba_payload ho ?_)
  refine wpAny_pure ?_
  try dsimp only
  refine wpAny_bind (wpAny_rule ?_)
  refine wpAny_bind ?_
  refine wpAny_mkBytes ?_ (by rw [sizeLine_eq]; omega)
  show wpAny _ _ (if (Value.type "bytes" == Value.type "bytes") = true then _ else _) _ _ _
  refine bm_if_true (by decide) ?_
  first
    | exact wpAny_pure h
    | exact wpAny_bind (wpAny_pure (wpAny_pure h))

/-- bytes(bytearray) -/
theorem call_bytes_ba {a : Addr} {b : Array UInt8} {Q : Value → Shared → Prop} (ho : s.heap.get? a = some (baOf b)) (hz : b.size ≤ 2 ^ 20)
    (h : ∀ t k, Q (.bytes b t) { s with toks := k }) : wpAny (model prog w) A (call (.type "bytes") [.ref a]) Q E s := by
  refine callType_codes (Q₁ := fun obj s₁ => s₁.TypeIs obj "bytes" ∧ Q obj s₁) PySem.F.bm_called (PySem.F.bm_typeCall _) PySem.F.entry_object_init
    (ba_bytes_new ho hz ⟨PySem.W.typeIs_bytes _ _ _, h _ _⟩) fun obj s₁ h₁ => ?_
  exact ⟨h₁.1, PySem.F.args_object_init_2 obj _, object_init_meets PySem.F.bm_called.init.lookup PySem.F.bm_called.made (by decide) prog w A.in1 _ s₁ ⟨h₁.1, rfl, h₁.2⟩⟩

theorem tp_loop {R : Result → Shared → Prop} {l I S : Addr} {vs : List Value} {ns : List Int} (hh : A.handled = none) (hi : IntsAre vs ns) (hr : ∀ n ∈ ns, 0 ≤ n ∧ n < 256) (hz : ns.length ≤ sizeLine) (hIS : I ≠ S) (hlI : l ≠ I) (hlS : l ≠ S) :
    ∀ (k i : Nat) (s : Shared), ns.length - i = k → i ≤ ns.length → s.heap.IsTuple l vs.toArray → s.heap.IsTupleIter I l i → s.heap.get? S = some (baOf (byteArr (ns.take i))) →
      (∀ h' t k', (∀ b o, b ≠ I → b ≠ S → s.heap.get? b = some o → h'.get? b = some o) → R (.ok (.ret (.bytes (byteArr ns) t))) { s with heap := h', toks := k' }) →
      codeAny (model prog w) A (.builtin "bytes.__new__.loop" ⟨[.type "bytes", .ref I, .ref S], []⟩) R s := by
  have hlen : vs.length = ns.length := hi.length
  intro k
  induction k with
  | zero =>
    intro i s hk hle hl hit hS hR
    have hin : i = ns.length := by omega
    subst hin
    refine codeAny_builtin PySem.F.bm_entry_loop ?_
    rw [Around.under_plainId PySem.F.bm_plain_loop _]
    show wpAny _ A.in1 (pyNext (.ref I) >>= _) _ _ s
    refine wpAny_bind (wpAny_pyNext_tuple_end hh hit hl (by simp [hlen]) fun h' he => ?_)
    have hS' : h'.get? S = some (baOf (byteArr (ns.take ns.length))) := he S _ (Ne.symm hIS) hS
    refine wpAny_bind (ba_payload hS' ?_)
    rw [List.take_length]
    refine wpAny_bind ?_
    refine wpAny_mkBytes ?_ (by rw [byteArr_size]; exact hz)
    show wpAny _ _ (if (Value.type "bytes" == Value.type "bytes") = true then _ else _) _ _ _
    refine bm_if_true (by decide) ?_
    first
      | exact wpAny_pure (hR h' _ _ fun b o hb _ e => he b o hb e)
      | exact wpAny_bind (wpAny_pure (wpAny_pure (hR h' _ _ fun b o hb _ e => he b o hb e)))
  | succ k ih =>
    intro i s hk hle hl hit hS hR
    have hlt : i < ns.length := by omega
    obtain ⟨x, hx⟩ : ∃ x, vs[i]? = some x := ⟨vs[i]'(by omega), List.getElem?_eq_getElem (by omega)⟩
    obtain ⟨n, t, rfl, hn⟩ := IntsAre.at hi i x hx
    obtain ⟨h0, h1⟩ := hr n (List.mem_of_getElem? hn)
    refine codeAny_builtin PySem.F.bm_entry_loop ?_
    rw [Around.under_plainId PySem.F.bm_plain_loop _]
    show wpAny _ A.in1 (pyNext (.ref I) >>= _) _ _ s
    refine wpAny_bind (wpAny_pyNext_tuple_item (x := .int n t) hit hl (by simpa using hx) fun h' hit' hs => ?_)
    have hS' : h'.get? S = some (baOf (byteArr (ns.take i))) := (hs.2 S (Ne.symm hIS)).trans hS
    refine wpAny_bind (wpAny_holding ?_)
    rw [asIndex_int]
    refine wpAny_pure ?_
    refine wpAny_bind (wpAny_letGo ?_)
    refine bm_if_false (by simp only [Bool.or_eq_false_iff, decide_eq_false_iff_not]; omega) ?_
    refine wpAny_bind (write_ba hS' (by rw [Array.size_push, byteArr_size, List.length_take]; omega) fun h2 hs2 ho2 => ?_)
    rw [← byteArr_take hn] at ho2
    refine wpAny_pure ⟨plainId_quiet PySem.F.bm_plain_loop _, ih (i + 1) { s with heap := h2 } (by omega) hlt ?_ ?_ ho2 fun h3 t' k' hk3 => ?_⟩
    · exact (hl.extBut hs.extBut hlI).extBut hs2.extBut hlS
    · exact hit'.extBut hs2.extBut hIS
    · exact hR h3 t' k' fun b o hbI hbS e => hk3 b o hbI hbS (hs2.extBut b o hbS (hs.extBut b o hbI e))

theorem tp_bytes_new {l : Addr} {vs : List Value} {ns : List Int} {Q : Value → Shared → Prop} (hh : A.handled = none) (hl : s.heap.IsTuple l vs.toArray) (hi : IntsAre vs ns) (hr : ∀ n ∈ ns, 0 ≤ n ∧ n < 256) (hz : ns.length ≤ sizeLine)
    (hQ : ∀ h' t k, (∀ b o, s.heap.get? b = some o → h'.get? b = some o) → Q (.bytes (byteArr ns) t) { s with heap := h', toks := k }) :
    codeAny (model prog w) A (.call (.builtin "bytes.__new__") ⟨[.type "bytes", .ref l], []⟩) (wants Q E) s := by
  refine codeAny_of_tree ?_
  show wpAny _ A.in1 (do checkBuiltinCall "bytes.__new__" ⟨[.type "bytes", .ref l], []⟩; again (.builtin "bytes.__new__" ⟨[.type "bytes", .ref l], []⟩)) _ _ s
  refine wpAny_bind (wpAny_of_eq (PySem.F.bm_newCall _) (wpAny_pure ⟨plainId_quiet PySem.F.bm_plain _, codeAny_builtin PySem.F.bm_entry ?_⟩))
  rw [Around.under_plainId PySem.F.bm_plain _]
  have hT : s.TypeIs (.ref l) "tuple" := hl.typeIs
  obtain ⟨ol, hol, hoc, nl, hod⟩ := id hl
  unfold Builtin.«bytes.__new__»
  refine wpAny_bind (wpAny_of_eq (a := true) rfl ?_)
  refine bm_if_false rfl ?_
  refine wpAny_bind (wpAny_of_eq PySem.F.bm_sub ?_)
  refine bm_if_false rfl ?_
  refine wpAny_bind (wpAny_of_eq (PySem.F.bm_bind _) ?_)
  refine wpAny_bind (wpAny_of_eq (a := ()) rfl ?_)
  refine wpAny_bind (wpAny_of_eq (a := ()) rfl ?_)
  refine bm_if_false rfl ?_
  refine wpAny_bind (wpAny_specialOf hT tp_no_bytes ?_)
  refine wpAny_bind (wpAny_bind ?_)
  show wpAny _ _ (load l >>= _) _ _ _
  refine wpAny_bind (wpAny_load hol ?_)
  rw [hod]
  refine wpAny_pure (wpAny_pure ?_)
  refine bm_if_false rfl ?_
  refine wpAny_bind (wpAny_specialOf hT tp_no_index ?_)
  refine bm_if_true rfl ?_
  first
    | show wpAny _ _ (Builtin.Bytes.buffer? "bytes.__new__" (.ref l) true >>= _) _ _ _
    | (refine wpAny_bind ?_; show wpAny _ _ (Builtin.Bytes.buffer? "bytes.__new__" (.ref l) true >>= _) _ _ _)
  refine wpAny_bind ?_
  unfold Builtin.Bytes.buffer?
  refine wpAny_bind (wpAny_specialOf hT tp_no_buffer ?_)
  refine wpAny_bind (wpAny_specialOf hT tp_no_buffer ?_)
  refine wpAny_pure ?_
  refine wpAny_bind (wpAny_tryCatch (wpAny_pyIter_tuple hl ?_))
  have hl₁ : (s.heap.push { cls := .type "tuple_iterator", data := .fields #[.ref l, .int 0 0] }).IsTuple l vs.toArray := ⟨ol, Heap.get?_push_of_some _ hol, hoc, nl, hod⟩
  have hT₁ : ({ s with heap := s.heap.push { cls := .type "tuple_iterator", data := .fields #[.ref l, .int 0 0] } } : Shared).TypeIs (.ref l) "tuple" := ⟨ol, Heap.get?_push_of_some _ hol, hoc⟩
  refine wpAny_bind (wpAny_holding ?_)
  unfold Builtin.Bytes.lengthHint
  refine wpAny_bind (wpAny_specialOf hT₁ PySem.F.slot_tuple_len.lookup ?_)
  dsimp only
  rw [tp_split]
  dsimp only
  refine wpAny_bind (wpAny_isInstance hT₁ AutoSeq1.sub_tuple_tuple ?_)
  refine bm_if_false rfl ?_
  refine bm_if_true (by decide +kernel) ?_
  refine wpAny_pure ?_
  refine wpAny_bind ?_
  unfold Builtin.Bytes.newBytearray
  refine wpAny_newObj_type ?_ (Nat.zero_le _)
  have hI : ((s.heap.push { cls := .type "tuple_iterator", data := .fields #[.ref l, .int 0 0] }).push (baOf #[])).IsTupleIter s.heap.objs.size l 0 :=
    ⟨_, Heap.get?_push_of_some _ (Heap.get?_push_size _ rfl), rfl, rfl⟩
  have hlt : l < s.heap.objs.size := Heap.lt_size hol
  have hsz : (s.heap.push { cls := .type "tuple_iterator", data := .fields #[.ref l, .int 0 0] }).objs.size = s.heap.objs.size + 1 := Heap.size_push _ _
  have main := tp_loop (prog := prog) (w := w) (A := A) (R := wants Q E) (l := l) (I := s.heap.objs.size) (S := (s.heap.push { cls := .type "tuple_iterator", data := .fields #[.ref l, .int 0 0] }).objs.size) hh hi hr hz (by rw [hsz]; exact Nat.ne_of_lt (Nat.lt_succ_self _)) (Nat.ne_of_lt hlt) (by rw [hsz]; exact Nat.ne_of_lt (Nat.lt_succ_of_lt hlt))
    ns.length 0 { s with heap := (s.heap.push { cls := .type "tuple_iterator", data := .fields #[.ref l, .int 0 0] }).push (baOf #[]) } rfl (Nat.zero_le _) ⟨ol, Heap.get?_push_of_some _ (Heap.get?_push_of_some _ hol), hoc, nl, hod⟩ hI (Heap.get?_push_size _ rfl)
    fun h' t k hk => hQ h' t k fun b o e => hk b o (Nat.ne_of_lt (Heap.lt_size e)) (by rw [hsz]; exact Nat.ne_of_lt (Nat.lt_succ_of_lt (Heap.lt_size e))) (Heap.get?_push_of_some _ (Heap.get?_push_of_some _ e))
  first
    | exact wpAny_pure ⟨plainId_quiet PySem.F.bm_plain_loop _, main⟩
    | exact wpAny_pure (wpAny_pure ⟨plainId_quiet PySem.F.bm_plain_loop _, main⟩)

/-- bytes(tuple of ints) -/
theorem call_bytes_tuple {l : Addr} {vs : List Value} {ns : List Int} {Q : Value → Shared → Prop} (hl : s.heap.IsTuple l vs.toArray) (hi : IntsAre vs ns) (hr : ∀ n ∈ ns, 0 ≤ n ∧ n < 256) (hz : vs.length ≤ sizeLine) (hh : A.handled = none)
    (hQ : ∀ h' t k, (∀ b o, s.heap.get? b = some o → h'.get? b = some o) → Q (.bytes (byteArr ns) t) { s with heap := h', toks := k }) : wpAny (model prog w) A (call (.type "bytes") [.ref l]) Q E s := by
  refine callType_codes (Q₁ := fun obj s₁ => s₁.TypeIs obj "bytes" ∧ Q obj s₁) PySem.F.bm_called (PySem.F.bm_typeCall _) PySem.F.entry_object_init
    (tp_bytes_new hh hl hi hr (by rw [← hi.length]; exact hz) fun h' t k hk => ⟨PySem.W.typeIs_bytes _ _ _, hQ h' t k hk⟩) fun obj s₁ h₁ => ?_
  exact ⟨h₁.1, PySem.F.args_object_init_2 obj _, object_init_meets PySem.F.bm_called.init.lookup PySem.F.bm_called.made (by decide) prog w A.in1 _ s₁ ⟨h₁.1, rfl, h₁.2⟩⟩
end
end Mine
end

section
open PySem PySem.W PyProof.Rows PySem.SeqAt
set_option maxRecDepth 100000
set_option maxHeartbeats 8000000
namespace Mine
theorem fillKB (P : Params) : Mine.hx.heap_39 P = Mine.hx.heap_39 P ∧ PySem.Challenge.rw_nq0011_01 = PySem.Challenge.rw_nq0011_01 := by
  k_fill
  exact ⟨rfl, rfl⟩

theorem wpX_callType {M : Model} {A : Around} {E : Value → Shared → Prop} {s : Shared} {env : Env} {e : Expr} {rest : List Expr} {pos : Pos} {T : String} {Q : Value → Shared → Prop}
    (h : wpAny M A (spliced (backTo pos (starEach (e :: rest) env))) (fun vs s₁ => wpX M A (call (.type T) vs) Q E s₁) E s)
    (he : starEach (e :: rest) env = (false, eval e env) :: starEach rest env := by rfl) (hplain : (backTo pos (starEach rest env)).any (·.1) = false := by rfl) :
    wpX M A (callWith pos (.type T) [] (backTo pos (starEach (e :: rest) env)) []) Q E s := by
  rw [he] at h ⊢
  exact wpX_callWith_of (P := fun _ => True) (by show (false || (backTo pos (starEach rest env)).any (·.1)) = false; rw [hplain]; rfl)
    (fun h _ => ⟨.machine, .inr (.inl rfl), Looks.of_pure rfl⟩) (Calls.evalArgs_plain (wpAny_mono h (fun _ _ x => ⟨trivial, x⟩) fun _ _ x => x))

theorem rangeSize_step (c wd : Nat) (hw : 0 < wd) : Builtin.Range.rangeSize 0 ((c * wd : Nat) : Int) (wd : Int) = (c : Int) := by
  unfold Builtin.Range.rangeSize
  rw [if_pos (by omega)]
  cases c with
  | zero => simp
  | succ c =>
    have hpos : 0 < (c + 1) * wd := Nat.mul_pos (by omega) hw
    rw [if_pos (by omega)]
    have e : (((c + 1) * wd : Nat) : Int) - 0 - 1 = ((wd : Int) - 1) + (c : Int) * (wd : Int) := by
      rw [Nat.add_mul, Nat.one_mul]; push_cast; omega
    rw [e, Int.add_mul_ediv_right _ _ (by omega), Int.ediv_eq_zero_of_lt (by omega) (by omega)]
    push_cast; omega
theorem small_step (n wd c : Nat) (hn : n = c * wd) (hw : 0 < wd) (hz : n ≤ 2 ^ 16) (hwz : wd ≤ 2 ^ 16) : Builtin.Range.small 0 (n : Int) (wd : Int) = true := by
  unfold Builtin.Range.small
  have hc : c ≤ n := by
    rw [hn]; exact Nat.le_mul_of_pos_right c hw
  have e : Builtin.Range.rangeSize 0 (n : Int) (wd : Int) = (c : Int) := by rw [hn]; exact rangeSize_step c wd hw
  rw [e, if_pos (by omega)]
  simp only [Builtin.Range.rangeFitsLong, Bool.and_eq_true, Bool.or_eq_true, decide_eq_true_eq, beq_iff_eq]
  clear e hn
  omega

/-- the place a byte comes from -/
def swp (wd i : Nat) : Nat := (i / wd) * wd + (wd - 1 - i % wd)
def swapL (wd : Nat) (b : List UInt8) : List UInt8 := (List.range b.length).map fun i => b.getD (swp wd i) 0

section
variable {prog p : Program} {w : World} {A : Around} {s : Shared} {h₀ : Heap} {L : Addr} {m mg mb : Str → Option Value} {loose : List Str} {news : List (Addr × Obj)}

local macro_rules | `(tactic| k_all) => `(tactic| assumption)
local macro_rules | `(tactic| walk_at "setItem ref int") => `(tactic| with_reducible refine halt ?_)
local macro_rules | `(tactic| walk_at "subscriptTail Name BinOp bytes int") => `(tactic| with_reducible refine halt ?_)
local macro_rules | `(tactic| walk_at "pyIter ref") => `(tactic| with_reducible refine halt ?_)
local macro_rules | `(tactic| walk_at "exec For Name Call cons nil") => `(tactic| with_reducible refine halt ?_)
local macro_rules | `(tactic| walk_at "storeName") => `(tactic| (k_here; k_dflt (refine' storeX_L ?F ?N ?_ ?a ?b; (case F => k_asm); (case N => k_asm); (case a => rfl); (case b => rfl); k_whole; intro h' F' N'; (try dsimp only at F'); (try dsimp only); (try k_sweep))))
local macro_rules | `(tactic| walk_at "eval Name") => `(tactic| (k_here; k_dflt (refine' ld ?k1 ?k2 ?_; (case k1 => k_asm); (case k2 => assumption); k_whole)))

/-- the outer loop: the first q blocks are turned -/
def SwO (a : Addr) (news : List (Addr × Obj)) (b : List UInt8) (wd : Nat) (t0 t1 : Tok) (q : Nat) (m' : Str → Option Value) (nx : List (Addr × Obj)) : Prop :=
  ∃ out : Array UInt8, nx = (a, baOf out) :: news ∧ out.size = b.length ∧ (∀ i, i < q * wd → out[i]? = some (b.getD (swp wd i) 0)) ∧
    m' (Str.ofString "swapped_data") = some (.ref a) ∧ m' (Str.ofString "data") = some (.bytes b.toArray t0) ∧ m' (Str.ofString "width") = some (.int (wd : Int) t1)
/-- the inner loop -/
def SwI (a : Addr) (news : List (Addr × Obj)) (b : List UInt8) (wd q : Nat) (t0 t1 : Tok) (jj : Nat) (m' : Str → Option Value) (nx : List (Addr × Obj)) : Prop :=
  ∃ out : Array UInt8, nx = (a, baOf out) :: news ∧ out.size = b.length ∧ (∀ i, i < q * wd → out[i]? = some (b.getD (swp wd i) 0)) ∧ (∀ j, j < jj → out[q * wd + wd - 1 - j]? = some (b.getD (q * wd + j) 0)) ∧
    m' (Str.ofString "swapped_data") = some (.ref a) ∧ m' (Str.ofString "data") = some (.bytes b.toArray t0) ∧ m' (Str.ofString "width") = some (.int (wd : Int) t1) ∧ (∃ t2, m' (Str.ofString "i") = some (.int ((q * wd : Nat) : Int) t2))

theorem byteswap_X {b : List UInt8} {wd c : Nat} {t0 t1 : Tok} {Q E : Value → Shared → Prop}
    (F : Fr h₀ L s.heap m) (X : (Mine.hx.heap_39 w.params).In h₀) (N : News h₀ L s.heap news) (T : TopRead p loose mg mb h₀)
    (hw : 0 < wd) (hwz : wd ≤ 2 ^ 16) (hb : b.length = c * wd) (hz : b.length ≤ 2 ^ 16) (hdp : A.depth < recursionLimit) (hh : A.handled = none) (hu : A.units + 40 < cLine)
    (h : ∀ h' tk t, Fr h₀ L h' m → News h₀ L h' news → Q (.bytes (swapL wd b).toArray t) { s with heap := h', toks := tk }) :
    wpX (model prog w) A (call (.ref 21) [.bytes b.toArray t0, .int (wd : Int) t1]) Q E s := by
  refine' callMyX (binds := [(Str.ofString "data", .bytes b.toArray t0), (Str.ofString "width", .int (wd : Int) t1)]) F X N T ?k6 ?k7 ?k8 ?k9 ?kB ?_ ?c2 ?c3 ?c4 ?c5
  (case k6 => k_is)
  (case k7 => k_is)
  (case k8 => omega)
  (case k9 => rfl)
  (case kB => exact locs rfl)
  (case c2 => exact rfl)
  (case c3 => exact rfl)
  (case c4 => exact rfl)
  (case c5 => decide)
  intro g L' h' FG' F' N' X' T'
  refine wpX_execs_cons (wpX_Assign_Name ?_)
  refine wpX_Call ?_
  k_fold
  walk1
  k_unfold
  refine wpX_callType ?_
  k_fold
  repeat' walk1
  refine call_bytearray_X (n := b.length) rfl (by omega) ?_
  intro h2 hk2 ho2
  rename Fr g _ _ _ => F2
  have F3 := Fr_ext F2 hk2
  have N3 := News_new F2 N' hk2 ho2
  have off := News_off N'
  generalize h'.objs.size = a at *
  clear F2 N' hk2 ho2
  walk1
  refine wpX_leaf ?_
  k_fold
  repeat' walk1
  refine unhalt (wpAny_mono (forMy (Q := fun f s' => f = .next ∧ ∃ out m' h' tk', s' = { s with heap := h', toks := tk' } ∧ Fr g L' h' m' ∧ News g L' h' ((a, baOf out) :: news) ∧ m' (Str.ofString "swapped_data") = some (.ref a) ∧ out = (swapL wd b).toArray) g rfl rfl ?_) ?fin (fun _ _ x => x))
  case fin =>
    rintro _ _ ⟨rfl, out, m', h3, tk', rfl, F4, N4, e1, rfl⟩
    refine wpX_any ?_
    repeat' walk1
    refine call_bytes_ba (N4 _ (.head _)).1 (by simp [swapL]; omega) ?_
    intro t9 k9
    exact ⟨_, _, F4, fun q hq => N4 q (.tail _ hq), fun F5 N5 => h _ _ _ F5 N5⟩
  repeat' walk1
  rename IsRange _ _ _ _ _ _ _ _ => R5
  rename Fr _ _ _ _ => F5
  rename News _ _ _ _ => N5
  have eL : b.toArray.size = b.length := by simp
  refine unhalt ?_
  refine rangeMy (n := c) (SwO a news b wd t0 t1) hh R5 (by rw [eL]; exact small_step _ _ c hb hw hz hwz) (by rw [eL, hb]; exact rangeSize_step c wd hw) F5 N5 ?hj ?turn ?done
  case hj => exact ⟨Array.replicate b.length 0, rfl, by simp, fun i hi => absurd hi (by simp), rfl, rfl, rfl⟩
  case done =>
    rintro m₁ nx h6 tk6 ⟨out, rfl, hsz, hout, e1, e2, e3⟩ F6 N6
    refine ⟨rfl, out, _, _, _, rfl, F6, N6, e1, ?_⟩
    apply Array.ext_getElem?
    intro i
    by_cases hi : i < b.length
    · rw [hout i (by omega)]
      simp [swapL, hi]
    · rw [Array.getElem?_eq_none (by omega), Array.getElem?_eq_none (by simp [swapL]; omega)]
  case turn =>
    rintro q t6 m₁ nx h6 tk6 own hq hoff ⟨out, rfl, hsz, hout, e1, e2, e3⟩ F6 N6
    replace F6 : Fr g L' h6 (fun y => if y = Str.ofString "i" then some (.int (0 + (q : Int) * (wd : Int)) t6) else m₁ y) := F6
    replace N6 : News g L' h6 ((a, baOf out) :: (news ++ own)) := N6
    have off2 : ∀ p ∈ news ++ own, p.1 ≠ a := fun p hp => by
      rcases List.mem_append.mp hp with h | h
      · exact off p h
      · exact hoff p h a (by simp)
    have hq1 : (q + 1) * wd ≤ b.length := by rw [hb]; exact Nat.mul_le_mul_right _ hq
    have hq2 : (q + 1) * wd = q * wd + wd := Nat.succ_mul q wd
    repeat' walk1
    refine unhalt (wpAny_mono (forMy (Q := fun f s' => f = .next ∧ ∃ out' m' h' tk', s' = { s with heap := h', toks := tk' } ∧ Fr g L' h' m' ∧ News g L' h' ((a, baOf out') :: (news ++ own)) ∧ out'.size = b.length ∧ (∀ i, i < (q + 1) * wd → out'[i]? = some (b.getD (swp wd i) 0)) ∧
      m' (Str.ofString "swapped_data") = some (.ref a) ∧ m' (Str.ofString "data") = some (.bytes b.toArray t0) ∧ m' (Str.ofString "width") = some (.int (wd : Int) t1)) g rfl rfl ?_) ?fin2 (fun _ _ x => x))
    case fin2 =>
      rintro _ _ ⟨rfl, out', m', h7, tk7, rfl, F7, N7, hsz7, hout7, d1, d2, d3⟩
      dsimp only
      walk1
      refine ⟨h7, tk7, m', _, (a, baOf out') :: news, rfl, F7, N7, ?_, ?_, hoff, out', rfl, hsz7, hout7, d1, d2, d3⟩
      · intro p hp
        rcases List.mem_cons.mp hp with rfl | h
        · exact .head _
        · exact .tail _ (List.mem_append.mpr (.inl h))
      · exact fun p hp => .tail _ (List.mem_append.mpr (.inr hp))
    repeat' walk1
    rename IsRange _ _ _ _ _ _ _ _ => R8
    rename Fr _ _ _ _ => F8
    rename News _ _ _ _ => N8
    refine unhalt ?_
    refine rangeMy (n := wd) (SwI a (news ++ own) b wd q t0 t1) hh R8 (small_one (by omega) (by omega) (by omega) (by omega)) (by rw [rangeSize_nat]; omega) F8 N8 ?hj8 ?turn8 ?done8
    case hj8 => exact ⟨out, rfl, hsz, hout, fun j hj => absurd hj (by omega), e1, e2, e3, ⟨t6, congrArg (fun i => some (Value.int i t6)) (by push_cast; omega)⟩⟩
    case done8 =>
      rintro m₂ nx9 h9 tk9 ⟨out9, rfl, hsz9, hout9, hin9, d1, d2, d3, _⟩ F9 N9
      refine ⟨rfl, out9, _, _, _, rfl, F9, N9, hsz9, ?_, d1, d2, d3⟩
      intro i hi
      by_cases hlt : i < q * wd
      · exact hout9 i hlt
      · have hj := hin9 (q * wd + wd - 1 - i) (by omega)
        have e1 : q * wd + wd - 1 - (q * wd + wd - 1 - i) = i := by omega
        rw [e1] at hj
        rw [hj]
        have hdiv : i / wd = q := by
          rw [Nat.div_eq_iff hw]
          have := Nat.mul_comm q wd
          omega
        have hmod : i % wd = i - q * wd := by
          have := Nat.div_add_mod i wd
          rw [hdiv, Nat.mul_comm] at this
          omega
        congr 2
        unfold swp
        rw [hdiv, hmod]
        omega
    case turn8 =>
      rintro jj t9 m₂ nx9 h9 tk9 own9 hjj hoff9 ⟨out9, rfl, hsz9, hout9, hin9, d1, d2, d3, ⟨t2, d4⟩⟩ F9 N9
      replace F9 : Fr g L' h9 (fun y => if y = Str.ofString "j" then some (.int (0 + (jj : Int) * 1) t9) else m₂ y) := F9
      replace N9 : News g L' h9 ((a, baOf out9) :: (news ++ own ++ own9)) := N9
      have off9 : ∀ p ∈ news ++ own ++ own9, p.1 ≠ a := fun p hp => by
        rcases List.mem_append.mp hp with h | h
        · exact off2 p h
        · exact hoff9 p h a (by simp)
      repeat' walk1
      refine unhalt (bytes_item_K (x := b) (by omega) (by omega) (by push_cast; omega) rfl ?_)
      repeat' walk1
      have eidx : (((q * wd : Nat) : Int) + (0 + (jj : Int) * 1)).toNat = q * wd + jj := by omega
      refine unhalt (setItem_ba (k := q * wd + wd - 1 - jj) (y := b.getD (q * wd + jj) 0) (N9 _ (.head _)).1 (by push_cast; omega) (by omega) (by omega) (by rw [eidx]) ?_)
      intro h10 hs10 ho10
      have F10 := Fr_but F9 hs10 (N9 _ (.head _)).2.1 (N9 _ (.head _)).2.2
      have N10 := News_but N9 off9 hs10 ho10
      repeat' walk1
      refine ⟨h10, _, _, _, (a, baOf (out9.set! (q * wd + wd - 1 - jj) (b.getD (q * wd + jj) 0))) :: (news ++ own), rfl, F10, N10, ?_, ?_, hoff9, _, rfl, by simpa using hsz9, ?_, ?_, d1, d2, d3, ⟨t2, d4⟩⟩
      · intro p hp
        rcases List.mem_cons.mp hp with rfl | h
        · exact .head _
        · exact .tail _ (List.mem_append.mpr (.inl h))
      · exact fun p hp => .tail _ (List.mem_append.mpr (.inr hp))
      · intro i hi
        rw [← hout9 i hi]
        simp only [Array.set!_eq_setIfInBounds]
        exact Array.getElem?_setIfInBounds_ne (by omega)
      · intro j hj
        simp only [Array.set!_eq_setIfInBounds]
        by_cases hjj' : j = jj
        · subst hjj'
          exact Array.getElem?_setIfInBounds_self_of_lt (by omega)
        · rw [← hin9 j (by omega)]
          exact Array.getElem?_setIfInBounds_ne (by omega)
end
end Mine
end

section
open PySem PySem.W PyProof.Rows PySem.SeqAt
set_option maxRecDepth 100000
set_option maxHeartbeats 8000000
namespace Mine
theorem ints_open {rest : List (Addr × Obj)} : ∀ {vs : List Value} {ns : List Int}, DatAll rest vs (ns.map .int) → IntsAre vs ns
  | [], [], _ => .nil
  | [], _ :: _, h => by cases h
  | _ :: _, [], h => by cases h
  | v :: vs, n :: ns, h => by
    cases h with
    | cons a b =>
      cases a with
      | int _ t => exact .cons n t (ints_open b)
theorem row_open {rest : List (Addr × Obj)} {v : Value} {r : List UInt8} (h : DatIn rest v (rowD r)) :
    ∃ a n vs, v = .ref a ∧ (a, ({ cls := .type "tuple", data := .seq vs.toArray n } : Obj)) ∈ rest ∧ IntsAre vs (rowI r) := by
  cases h with
  | tuple h1 h2 => exact ⟨_, _, _, rfl, h1, ints_open h2⟩
theorem byteArr_row (r : List UInt8) : byteArr (rowI r) = r.toArray := by
  unfold byteArr rowI
  rw [List.map_map]
  congr 1
  induction r with
  | nil => rfl
  | cons b r ih => simp [ih]
theorem rowI_byte (r : List UInt8) : ∀ n ∈ rowI r, 0 ≤ n ∧ n < 256 := by
  intro n hn
  obtain ⟨b, _, rfl⟩ := List.mem_map.mp hn
  have := b.toNat_lt
  omega
theorem rowI_length (r : List UInt8) : (rowI r).length = r.length := by simp [rowI]

theorem swapL_one {wd : Nat} {b : List UInt8} (h : b.length = wd) : swapL wd b = b.reverse := by
  unfold swapL
  apply List.ext_getElem
  · simp
  · intro i h1 h2
    simp at h1
    have e : swp wd i = wd - 1 - i := by
      unfold swp
      rw [Nat.div_eq_of_lt (by omega), Nat.mod_eq_of_lt (by omega)]; omega
    simp only [List.getElem_map, List.getElem_range, e, List.getElem_reverse]
    rw [List.getD_eq_getElem?_getD, List.getElem?_eq_getElem (by omega)]
    simp [h]
theorem swapL_two {wd : Nat} {b : List UInt8} (hw : 0 < wd) (h : b.length = 2 * wd) : swapL wd b = (b.take wd).reverse ++ (b.drop wd).reverse := by
  unfold swapL
  apply List.ext_getElem
  · simp; omega
  · intro i h1 h2
    simp at h1
    by_cases hi : i < wd
    · have e : swp wd i = wd - 1 - i := by
        unfold swp
        rw [Nat.div_eq_of_lt (by omega), Nat.mod_eq_of_lt (by omega)]; omega
      rw [List.getElem_append_left (by simp; omega)]
      simp only [List.getElem_map, List.getElem_range, e, List.getElem_reverse, List.getElem_take]
      rw [List.getD_eq_getElem?_getD, List.getElem?_eq_getElem (by omega)]
      simp only [Option.getD_some, List.length_take]
      congr 1
      omega
    · have e1 : i / wd = 1 := by
        rw [Nat.div_eq_iff hw]; omega
      have e2 : i % wd = i - wd := by
        have := Nat.div_add_mod i wd
        rw [e1] at this; omega
      have e : swp wd i = 2 * wd - 1 - (i - wd) := by
        unfold swp; rw [e1, e2]; omega
      rw [List.getElem_append_right (by simp; omega)]
      simp only [List.getElem_map, List.getElem_range, e, List.getElem_reverse, List.getElem_drop]
      rw [List.getD_eq_getElem?_getD, List.getElem?_eq_getElem (by omega)]
      simp only [Option.getD_some, List.length_take, List.length_drop, List.length_reverse]
      congr 1
      omega

section
variable {prog : Program} {w : World} {A : Around} {E : Value → Shared → Prop} {s : Shared} {value slice : PySem.Expr} {b : List UInt8} {t tn : Tok} {h₀ : Heap} {L : Addr} {m : PySem.Str → Option Value} {news : List (Addr × Obj)} {Q : Value → Shared → Prop} {k : Nat}
theorem cutTo (hF : Fr h₀ L s.heap m) (hN : News h₀ L s.heap news) (hz : b.length ≤ 16777216)
    (h : ∀ h' t' k', Fr h₀ L h' m → News h₀ L h' news → Q (.bytes (b.take k).toArray t') { s with heap := h', toks := k' })
    (hs : subscripted slice false (.bytes b.toArray t) (.ref s.heap.objs.size) = operate [.ref s.heap.objs.size, .bytes b.toArray t] (getItem (.bytes b.toArray t) (.ref s.heap.objs.size)) := by with_unfolding_all rfl)
    (ht : ∀ r, letTemporaryGo value (.bytes b.toArray t) r = pure () := by intro _; with_unfolding_all rfl) :
    wpAny (model prog w) A (subscriptTail value slice (.bytes b.toArray t) (.ref s.heap.objs.size)) Q E { s with heap := s.heap.push { cls := .type "slice", data := .fields #[.none, .int (k : Int) tn, .none] } } := by
  refine KBc.slice_K (ks := KBw.bInts b.toArray) hF hN rfl (by constructor) (by constructor) (by rw [KBw.ints_length, List.size_toArray]; exact hz) (fun h' t' k' F N _ => ?_) hs ht
  have e : KBy.picked b.toArray none (some (k : Int)) = (b.take k).toArray := by
    rw [KBc.picked_eq]
    simp only [Option.elim, clipAt_nat, List.drop_zero, Nat.sub_zero, List.size_toArray]
    congr 1
    show List.take (min k b.length) b = _
    rw [List.take_eq_take_iff]; omega
  rw [e]
  exact h _ _ _ F N
theorem cutFrom (hF : Fr h₀ L s.heap m) (hN : News h₀ L s.heap news) (hz : b.length ≤ 16777216)
    (h : ∀ h' t' k', Fr h₀ L h' m → News h₀ L h' news → Q (.bytes (b.drop k).toArray t') { s with heap := h', toks := k' })
    (hs : subscripted slice false (.bytes b.toArray t) (.ref s.heap.objs.size) = operate [.ref s.heap.objs.size, .bytes b.toArray t] (getItem (.bytes b.toArray t) (.ref s.heap.objs.size)) := by with_unfolding_all rfl)
    (ht : ∀ r, letTemporaryGo value (.bytes b.toArray t) r = pure () := by intro _; with_unfolding_all rfl) :
    wpAny (model prog w) A (subscriptTail value slice (.bytes b.toArray t) (.ref s.heap.objs.size)) Q E { s with heap := s.heap.push { cls := .type "slice", data := .fields #[.int (k : Int) tn, .none, .none] } } := by
  refine KBc.slice_K (ks := KBw.bInts b.toArray) hF hN rfl (by constructor) (by constructor) (by rw [KBw.ints_length, List.size_toArray]; exact hz) (fun h' t' k' F N _ => ?_) hs ht
  have e : KBy.picked b.toArray (some (k : Int)) none = (b.drop k).toArray := by
    rw [KBc.picked_eq]
    simp only [Option.elim, clipAt_nat, List.size_toArray]
    congr 1
    show List.take (b.length - min k b.length) (List.drop (min k b.length) b) = _
    rw [List.take_of_length_le (by simp)]
    by_cases hk : k ≤ b.length
    · rw [Nat.min_eq_left hk]
    · rw [Nat.min_eq_right (by omega), List.drop_length, List.drop_of_length_le (by omega)]
  rw [e]
  exact h _ _ _ F N
end
end Mine
end

section
open PySem PySem.W PyProof.Rows PySem.SeqAt
set_option maxRecDepth 100000
set_option maxHeartbeats 8000000
namespace Mine
theorem fillK (P : Params) : Mine.hx.heap_39 P = Mine.hx.heap_39 P ∧ PySem.Challenge.rw_nq0011_01 = PySem.Challenge.rw_nq0011_01 := by
  k_fill
  exact ⟨rfl, rfl⟩

/-- _siftdown with startpos 0, as a function: x sinks from k towards 0 -/
def sd {α : Type} (lt : α → α → Bool) (x : α) (k : Nat) (zs : List α) : List α :=
  if _h : k = 0 then zs.set 0 x
  else match zs[(k - 1) / 2]? with
    | none => zs
    | some y => if lt x y then sd lt x ((k - 1) / 2) (zs.set k y) else zs.set k x
termination_by k
decreasing_by omega

section
variable {prog p : Program} {w : World} {A : Around} {s : Shared} {h₀ : Heap} {L : Addr} {m mg mb : Str → Option Value} {loose : List Str}

local macro_rules | `(tactic| k_all) => `(tactic| assumption)
local macro_rules | `(tactic| walk_at "storeName") => `(tactic| (k_here; k_dflt (refine' storeX_L ?F ?N ?_ ?a ?b; (case F => k_asm); (case N => k_asm); (case a => rfl); (case b => rfl); k_whole; intro h' F' N'; (try dsimp only at F'); (try dsimp only); (try k_sweep))))
local macro_rules | `(tactic| walk_at "eval Name") => `(tactic| (k_here; k_dflt (refine' ld ?k1 ?k2 ?_; (case k1 => k_asm); (case k2 => assumption); k_whole)))

def SdI (g : Heap) (L' l : Addr) (rest : List (Addr × Obj)) (n : Nat) (s : Shared) (t : Tok) (x : It) (zs : List It) (k : Nat) (j : Nat) (s' : Shared) : Prop :=
  ∃ zs' m' h' tk', s' = { s with heap := h', toks := tk' } ∧ Fr g L' h' m' ∧ News g L' h' ((l, listOf (valsOf zs').toArray n) :: rest) ∧
    m' (Str.ofString "heap") = some (.ref l) ∧ m' (Str.ofString "startpos") = some (.int 0 t) ∧ (∃ tt, m' (Str.ofString "pos") = some (.int (j : Int) tt)) ∧ m' (Str.ofString "newitem") = some x.1 ∧
    j < zs'.length ∧ zs'.length = zs.length ∧ Good rest zs' ∧ sd ilt2 x j zs' = sd ilt2 x k zs

theorem siftdown_spec {l : Addr} {zs : List It} {n : Nat} {rest : List (Addr × Obj)} {i : Int} {k : Nat} {x : It} {t t' : Tok} {Q E : Value → Shared → Prop} (hi : i = (k : Int))
    (F : Fr h₀ L s.heap m) (X : (Mine.hx.heap_39 w.params).In h₀) (N : News h₀ L s.heap ((l, listOf (valsOf zs).toArray n) :: rest)) (T : TopRead p loose mg mb h₀)
    (hl : ∀ q ∈ rest, q.1 ≠ l) (D : Good rest zs) (hx : zs[k]? = some x) (hz : zs.length < 2 ^ 20) (hdp : A.depth < recursionLimit) (hu : A.units + 40 < cLine) 
    (h : ∀ zs' h' tk, Fr h₀ L h' m → News h₀ L h' ((l, listOf (valsOf zs').toArray n) :: rest) → zs' = sd ilt2 x k zs → Q .none { s with heap := h', toks := tk }) :
    wpAny (model prog w) A (call (.ref 42) [.ref l, .int 0 t, .int i t']) Q E s := by
  subst hi
  have hxD := D.get hx
  have hk : k < zs.length := by
    rcases Nat.lt_or_ge k zs.length with h | h
    · exact h
    · rw [List.getElem?_eq_none h] at hx; cases hx
  refine' callMy (binds := [(Str.ofString "heap", .ref l), (Str.ofString "startpos", .int 0 t), (Str.ofString "pos", .int (k : Int) t')]) F X N T ?k6 ?k7 ?k8 ?k9 ?kB ?_ ?c2 ?c3 ?c4 ?c5
  (case k6 => k_is)
  (case k7 => k_is)
  (case k8 => assumption)
  (case k9 => rfl)
  (case kB => exact locs rfl)
  (case c2 => exact rfl)
  (case c3 => exact rfl)
  (case c4 => exact rfl)
  (case c5 => decide)
  intro g L' h' FG' F' N' X' T'
  try k_fold
  repeat' walk1
  refine itemZ N' rfl hx hz ?_
  walk1
  try dsimp only
  refine wpAny_execs_cons ?_
  refine wpAny_mono (whileMy (E := NoE) (Q := fun f s' => f = .next ∧ ∃ zs' m' h' tk' j tt, s' = { s with heap := h', toks := tk' } ∧ Fr g L' h' m' ∧ News g L' h' ((l, listOf (valsOf zs').toArray n) :: rest) ∧
    m' (Str.ofString "heap") = some (.ref l) ∧ m' (Str.ofString "pos") = some (.int ((j : Nat) : Int) tt) ∧ m' (Str.ofString "newitem") = some x.1 ∧ j < zs'.length ∧ zs'.length = zs.length ∧ zs'.set j x = sd ilt2 x k zs) (SdI g L' l rest n s t x zs k) k ?hI ?turn) ?fin (fun _ _ x => x.elim)
  case hI => exact ⟨zs, _, _, _, rfl, by assumption, by assumption, rfl, rfl, ⟨_, rfl⟩, rfl, hk, rfl, D, rfl⟩
  case turn =>
    rintro j s' ⟨zs', m', h', tk', rfl, F1, N1, e1, e2, ⟨tt, e3⟩, e4, hj, hlen, D1, hsd⟩

    walk1
    walk1
    walk1
    walk1
    walk1
    by_cases hj0 : 0 < (j : Int)
    · rw [if_pos (decide_eq_true hj0)]
      repeat' walk1
      have hp : (j - 1) / 2 < zs'.length := by omega
      obtain ⟨y, hy⟩ : ∃ y, zs'[(j - 1) / 2]? = some y := ⟨_, List.getElem?_eq_getElem hp⟩
      have hyD := D1.get hy
      have hsd' := hsd
      rw [sd, dif_neg (by omega), hy] at hsd'
      refine itemZ (by assumption) (fdiv2 (by omega)) hy (by omega) ?_
      repeat' walk1
      refine lt_my (by assumption) (hxD.mono fun _ h => .tail _ h) (hyD.mono fun _ h => .tail _ h) (by show A.units + 3 + 8 < cLine; omega) ?_
      walk1
      by_cases hlt : plt x.2 y.2 = true
      · rw [if_pos hlt]
        repeat' walk1
        refine setItemZ (x := y) (by assumption) (by assumption) hl rfl hj (by omega) ?_
        intro h2 F2 N2
        repeat' walk1
        rename Fr _ _ _ _ => F3
        rename News _ _ _ _ => N3
        refine ⟨(j - 1) / 2, by omega, zs'.set j y, _, _, _, rfl, F3, N3, e1, e2, ?_, e4, by simpa using hp, by simpa using hlen, D1.set hyD, ?_⟩
        · exact ⟨_, congrArg (fun i => some (Value.int i _)) (fdiv2 (by omega))⟩
        · simp only [ilt2, hlt, if_true] at hsd'
          exact hsd'
      · rw [if_neg hlt]
        repeat' walk1
        rename Fr _ _ _ _ => F3
        rename News _ _ _ _ => N3
        refine ⟨rfl, zs', _, _, _, j, _, rfl, F3, N3, e1, e3, e4, hj, hlen, ?_⟩
        simp only [ilt2, hlt, Bool.false_eq_true, if_false] at hsd'
        exact hsd'
    · rw [if_neg (by simpa using hj0)]
      have j0 : j = 0 := by omega
      subst j0
      refine ⟨rfl, zs', m', h', tk', 0, tt, rfl, F1, N1, e1, e3, e4, hj, hlen, ?_⟩
      rw [← hsd, sd]
      simp
  case fin =>
    rintro _ _ ⟨rfl, zs', m', h', tk', j, tt, rfl, F1, N1, e1, e3, e4, hj, hlen, hsd⟩
    dsimp only
    repeat' walk1
    refine setItemZ (x := x) (by assumption) (by assumption) hl rfl hj (by omega) ?_
    intro h2 F2 N2
    repeat' walk1
    exact ⟨_, _, F2, N2, fun F3 N3 => h _ _ _ F3 N3 hsd⟩
end
end Mine
end

section
open PySem PySem.W PyProof.Rows PySem.SeqAt
set_option maxRecDepth 100000
set_option maxHeartbeats 8000000
namespace Mine
theorem fillK2 (P : Params) : Mine.hx.heap_39 P = Mine.hx.heap_39 P ∧ PySem.Challenge.rw_nq0011_01 = PySem.Challenge.rw_nq0011_01 := by
  k_fill
  exact ⟨rfl, rfl⟩

/-- _siftup's first loop, as a function: the lesser child comes up -/
def su {α : Type} (lt : α → α → Bool) : Nat → Nat → List α → List α × Nat
  | 0, k, zs => (zs, k)
  | f + 1, k, zs => match zs[2 * k + 1]? with
    | none => (zs, k)
    | some a => match zs[2 * k + 2]? with
      | none => su lt f (2 * k + 1) (zs.set k a)
      | some b => if lt a b then su lt f (2 * k + 1) (zs.set k a) else su lt f (2 * k + 2) (zs.set k b)
def siftupF {α : Type} (lt : α → α → Bool) (x : α) (zs : List α) : List α := sd lt x (su lt zs.length 0 zs).2 ((su lt zs.length 0 zs).1.set (su lt zs.length 0 zs).2 x)

section
variable {prog p : Program} {w : World} {A : Around} {s : Shared} {h₀ : Heap} {L : Addr} {m mg mb : Str → Option Value} {loose : List Str}

local macro_rules | `(tactic| k_all) => `(tactic| assumption)
local macro_rules | `(tactic| walk_at "exec While Compare cons nil") => `(tactic| with_reducible refine halt ?_)
local macro_rules | `(tactic| walk_at "call builtin:len cons nil") => `(tactic| with_reducible refine halt ?_)
local macro_rules | `(tactic| walk_at "compareOp Lt") => `(tactic| ((with_reducible show wpAny _ _ (compareOp CmpOp.Lt (Prod.fst _) (Prod.fst _)) _ _ _); (with_reducible refine halt ?_)))
local macro_rules | `(tactic| walk_at "subscriptTail Name Name ref int") => `(tactic| with_reducible refine halt ?_)
local macro_rules | `(tactic| walk_at "call ref cons nil") => `(tactic| with_reducible refine halt ?_)
local macro_rules | `(tactic| walk_at "setItem ref int") => `(tactic| with_reducible refine halt ?_)
local macro_rules | `(tactic| walk_at "storeName") => `(tactic| (k_here; k_dflt (refine' storeX_L ?F ?N ?_ ?a ?b; (case F => k_asm); (case N => k_asm); (case a => rfl); (case b => rfl); k_whole; intro h' F' N'; (try dsimp only at F'); (try dsimp only); (try k_sweep))))
local macro_rules | `(tactic| walk_at "eval Name") => `(tactic| (k_here; k_dflt (refine' ld ?k1 ?k2 ?_; (case k1 => k_asm); (case k2 => assumption); k_whole)))

def SuI (g : Heap) (L' l : Addr) (rest : List (Addr × Obj)) (n : Nat) (s : Shared) (x : It) (zs : List It) (f : Nat) (s' : Shared) : Prop :=
  ∃ zs' m' h' tk' j, s' = { s with heap := h', toks := tk' } ∧ Fr g L' h' m' ∧ News g L' h' ((l, listOf (valsOf zs').toArray n) :: rest) ∧
    m' (Str.ofString "heap") = some (.ref l) ∧ (∃ t, m' (Str.ofString "startpos") = some (.int 0 t)) ∧ (∃ tt, m' (Str.ofString "pos") = some (.int ((j : Nat) : Int) tt)) ∧ (∃ tt, m' (Str.ofString "childpos") = some (.int ((2 * j + 1 : Nat) : Int) tt)) ∧
    (∃ tt, m' (Str.ofString "endpos") = some (.int (zs.length : Int) tt)) ∧ m' (Str.ofString "newitem") = some x.1 ∧
    j < zs'.length ∧ zs'.length ≤ j + f ∧ zs'.length = zs.length ∧ Good rest zs' ∧ su ilt2 f j zs' = su ilt2 zs.length 0 zs

theorem siftup_spec {l : Addr} {zs : List It} {n : Nat} {rest : List (Addr × Obj)} {x : It} {t : Tok} {Q E : Value → Shared → Prop}
    (F : Fr h₀ L s.heap m) (X : (Mine.hx.heap_39 w.params).In h₀) (N : News h₀ L s.heap ((l, listOf (valsOf zs).toArray n) :: rest)) (T : TopRead p loose mg mb h₀)
    (hl : ∀ q ∈ rest, q.1 ≠ l) (D : Good rest zs) (hx : zs[0]? = some x) (hz : zs.length < 2 ^ 20) (hdp : A.depth + 1 < recursionLimit) (hu : A.units + 60 < cLine) 
    (h : ∀ zs' h' tk, Fr h₀ L h' m → News h₀ L h' ((l, listOf (valsOf zs').toArray n) :: rest) → zs' = siftupF ilt2 x zs → Q .none { s with heap := h', toks := tk }) :
    wpAny (model prog w) A (call (.ref 49) [.ref l, .int 0 t]) Q E s := by
  have hxD := D.get hx
  have hk : 0 < zs.length := by
    rcases Nat.lt_or_ge 0 zs.length with h | h
    · exact h
    · rw [List.getElem?_eq_none h] at hx; cases hx
  refine' callMy (binds := [(Str.ofString "heap", .ref l), (Str.ofString "pos", .int 0 t)]) F X N T ?k6 ?k7 ?k8 ?k9 ?kB ?_ ?c2 ?c3 ?c4 ?c5
  (case k6 => k_is)
  (case k7 => k_is)
  (case k8 => omega)
  (case k9 => rfl)
  (case kB => exact locs rfl)
  (case c2 => exact rfl)
  (case c3 => exact rfl)
  (case c4 => exact rfl)
  (case c5 => decide)
  intro g L' h' FG' F' N' X' T'
  try k_fold
  repeat' walk1
  refine unhalt (lenZ N' hz ?_)
  repeat' walk1
  refine unhalt (itemZ (by assumption) (k := 0) rfl hx hz ?_)
  repeat' walk1
  refine unhalt ?_
  refine wpAny_mono (whileMy (E := NoE) (Q := fun f s' => f = .next ∧ ∃ zs' m' h' tk' j, s' = { s with heap := h', toks := tk' } ∧ Fr g L' h' m' ∧ News g L' h' ((l, listOf (valsOf zs').toArray n) :: rest) ∧
    m' (Str.ofString "heap") = some (.ref l) ∧ (∃ t, m' (Str.ofString "startpos") = some (.int 0 t)) ∧ (∃ tt, m' (Str.ofString "pos") = some (.int ((j : Nat) : Int) tt)) ∧ m' (Str.ofString "newitem") = some x.1 ∧ j < zs'.length ∧ zs'.length = zs.length ∧ Good rest zs' ∧ (zs', j) = su ilt2 zs.length 0 zs) (SuI g L' l rest n s x zs) zs.length ?hI ?turn) ?fin (fun _ _ x => x.elim)
  case hI =>
    rename Fr _ _ _ _ => F3
    rename News _ _ _ _ => N3
    exact ⟨zs, _, _, _, 0, rfl, F3, N3, rfl, ⟨_, rfl⟩, ⟨_, rfl⟩, ⟨_, rfl⟩, ⟨_, rfl⟩, rfl, hk, by omega, rfl, D, rfl⟩
  case turn =>
    rintro f s' ⟨zs', m', h', tk', j, rfl, F1, N1, e1, ⟨t2, e2⟩, ⟨t3, e3⟩, ⟨t4, e4⟩, ⟨t5, e5⟩, e6, hj, hf, hlen, D1, hsu⟩
    walk1
    walk1
    walk1
    walk1
    walk1
    cases f with
    | zero => omega
    | succ f =>
      by_cases hj0 : ((2 * j + 1 : Nat) : Int) < (zs.length : Int)
      · rw [if_pos (decide_eq_true hj0)]
        have hj1 : 2 * j + 1 < zs'.length := by omega
        obtain ⟨a, ha⟩ : ∃ a, zs'[2 * j + 1]? = some a := ⟨_, List.getElem?_eq_getElem hj1⟩
        have haD := D1.get ha
        rw [su, ha] at hsu
        repeat' walk1
        · have hj2 : 2 * j + 2 < zs'.length := by omega
          obtain ⟨b, hb⟩ : ∃ b, zs'[2 * j + 2]? = some b := ⟨_, List.getElem?_eq_getElem hj2⟩
          have hbD := D1.get hb
          rw [hb] at hsu
          dsimp only at hsu
          refine unhalt (itemZ (by assumption) rfl ha (by omega) ?_)
          repeat' walk1
          refine unhalt (itemZ (k := 2 * j + 2) (by assumption) (by omega) hb (by omega) ?_)
          repeat' walk1
          refine unhalt (lt_my (by assumption) (haD.mono fun _ h => .tail _ h) (hbD.mono fun _ h => .tail _ h) (by show A.units + 3 + 8 < cLine; omega) ?_)
          repeat' walk1
          · rename plt a.2 b.2 = true => hab
            simp only [ilt2, hab, if_true] at hsu
            refine unhalt (itemZ (by assumption) rfl ha (by omega) ?_)
            repeat' walk1
            refine unhalt (setItemZ (x := a) (by assumption) (by assumption) hl rfl hj (by omega) ?_)
            intro h2 F2 N2
            repeat' walk1
            rename Fr _ _ _ _ => F3
            rename News _ _ _ _ => N3
            exact ⟨f, by omega, zs'.set j a, _, _, _, 2 * j + 1, rfl, F3, N3, e1, ⟨_, e2⟩, ⟨_, rfl⟩, ⟨_, rfl⟩, ⟨_, e5⟩, e6, by simpa using hj1, by simp; omega, by simpa using hlen, D1.set haD, hsu⟩
          · rename plt a.2 b.2 = false => hab
            simp only [ilt2, hab, Bool.false_eq_true, if_false] at hsu
            refine unhalt (itemZ (k := 2 * j + 2) (by assumption) (by omega) hb (by omega) ?_)
            repeat' walk1
            refine unhalt (setItemZ (x := b) (by assumption) (by assumption) hl rfl hj (by omega) ?_)
            intro h2 F2 N2
            repeat' walk1
            rename Fr _ _ _ _ => F3
            rename News _ _ _ _ => N3
            exact ⟨f, by omega, zs'.set j b, _, _, _, 2 * j + 2, rfl, F3, N3, e1, ⟨_, e2⟩, ⟨_, rfl⟩, ⟨_, rfl⟩, ⟨_, e5⟩, e6, by simpa using hj2, by simp; omega, by simpa using hlen, D1.set hbD, hsu⟩
        · have hb : zs'[2 * j + 2]? = none := List.getElem?_eq_none (by omega)
          rw [hb] at hsu
          dsimp only at hsu
          refine unhalt (itemZ (by assumption) rfl ha (by omega) ?_)
          repeat' walk1
          refine unhalt (setItemZ (x := a) (by assumption) (by assumption) hl rfl hj (by omega) ?_)
          intro h2 F2 N2
          repeat' walk1
          rename Fr _ _ _ _ => F3
          rename News _ _ _ _ => N3
          exact ⟨f, by omega, zs'.set j a, _, _, _, 2 * j + 1, rfl, F3, N3, e1, ⟨_, e2⟩, ⟨_, rfl⟩, ⟨_, rfl⟩, ⟨_, e5⟩, e6, by simpa using hj1, by simp; omega, by simpa using hlen, D1.set haD, hsu⟩
      · rw [if_neg (by simpa using hj0)]
        refine ⟨rfl, zs', m', h', tk', j, rfl, F1, N1, e1, ⟨t2, e2⟩, ⟨t3, e3⟩, e6, hj, hlen, D1, ?_⟩
        rw [← hsu, su, List.getElem?_eq_none (by omega)]
  case fin =>
    rintro _ _ ⟨rfl, zs', m', h', tk', j, rfl, F1, N1, e1, ⟨t2, e2⟩, ⟨t3, e3⟩, e6, hj, hlen, D1, hsu⟩
    dsimp only
    repeat' walk1
    refine unhalt (setItemZ (x := x) (by assumption) (by assumption) hl rfl hj (by omega) ?_)
    intro h2 F2 N2
    repeat' walk1
    refine unhalt (siftdown_spec (x := x) rfl (by assumption) X' (by assumption) T' hl (D1.set hxD) (by simp [hj]) (by simp; omega) (by show A.depth + 1 < recursionLimit; omega) (by show A.units + 3 + 40 < cLine; omega) ?_)
    intro zs2 h3 tk3 F3 N3 hz2
    repeat' walk1
    refine ⟨_, _, F3, N3, fun F4 N4 => h _ _ _ F4 N4 ?_⟩
    rw [hz2, siftupF, ← hsu]
end
end Mine
end

section
open PySem PySem.W PyProof.Rows PySem.SeqAt
set_option maxRecDepth 100000
set_option maxHeartbeats 8000000
namespace Mine
theorem fillK3 (P : Params) : Mine.hx.heap_39 P = Mine.hx.heap_39 P ∧ PySem.Challenge.rw_nq0011_01 = PySem.Challenge.rw_nq0011_01 := by
  k_fill
  exact ⟨rfl, rfl⟩

def pushF {α : Type} (lt : α → α → Bool) (x : α) (zs : List α) : List α := sd lt x zs.length (zs ++ [x])
/-- what heappop hands back, and what is left, of zs ++ [y] -/
def popF {α : Type} (lt : α → α → Bool) (zs : List α) (y : α) : α × List α := match zs with
  | [] => (y, [])
  | a :: r => (a, siftupF lt y ((a :: r).set 0 y))

section
variable {prog p : Program} {w : World} {A : Around} {s : Shared} {h₀ : Heap} {L : Addr} {m mg mb : Str → Option Value} {loose : List Str}

local macro_rules | `(tactic| k_all) => `(tactic| assumption)
local macro_rules | `(tactic| walk_at "exec While Compare cons nil") => `(tactic| with_reducible refine halt ?_)
local macro_rules | `(tactic| walk_at "call builtin:len cons nil") => `(tactic| with_reducible refine halt ?_)
local macro_rules | `(tactic| walk_at "call builtin:list.append cons nil") => `(tactic| with_reducible refine halt ?_)
local macro_rules | `(tactic| walk_at "call builtin:list.pop cons nil") => `(tactic| with_reducible refine halt ?_)
local macro_rules | `(tactic| walk_at "truthy ref") => `(tactic| with_reducible refine halt ?_)
local macro_rules | `(tactic| walk_at "subscriptTail Name Name ref int") => `(tactic| with_reducible refine halt ?_)
local macro_rules | `(tactic| walk_at "subscriptTail Name Constant ref int") => `(tactic| with_reducible refine halt ?_)
local macro_rules | `(tactic| walk_at "call ref cons nil") => `(tactic| with_reducible refine halt ?_)
local macro_rules | `(tactic| walk_at "setItem ref int") => `(tactic| with_reducible refine halt ?_)
local macro_rules | `(tactic| walk_at "storeName") => `(tactic| (k_here; k_dflt (refine' storeX_L ?F ?N ?_ ?a ?b; (case F => k_asm); (case N => k_asm); (case a => rfl); (case b => rfl); k_whole; intro h' F' N'; (try dsimp only at F'); (try dsimp only); (try k_sweep))))
local macro_rules | `(tactic| walk_at "eval Name") => `(tactic| (k_here; k_dflt (refine' ld ?k1 ?k2 ?_; (case k1 => k_asm); (case k2 => assumption); k_whole)))

theorem push_spec {l : Addr} {zs : List It} {n : Nat} {rest : List (Addr × Obj)} {x : It} {Q E : Value → Shared → Prop}
    (F : Fr h₀ L s.heap m) (X : (Mine.hx.heap_39 w.params).In h₀) (N : News h₀ L s.heap ((l, listOf (valsOf zs).toArray n) :: rest)) (T : TopRead p loose mg mb h₀)
    (hl : ∀ q ∈ rest, q.1 ≠ l) (D : Good rest zs) (hxD : DatIn rest x.1 (pairD x.2)) (hz : zs.length + 1 < 2 ^ 20) (hdp : A.depth + 1 < recursionLimit) (hu : A.units + 60 < cLine) 
    (h : ∀ zs' n' h' tk, Fr h₀ L h' m → News h₀ L h' ((l, listOf (valsOf zs').toArray n') :: rest) → zs' = pushF ilt2 x zs → Q .none { s with heap := h', toks := tk }) :
    wpAny (model prog w) A (call (.ref 28) [.ref l, x.1]) Q E s := by
  refine' callMy (binds := [(Str.ofString "heap", .ref l), (Str.ofString "item", x.1)]) F X N T ?k6 ?k7 ?k8 ?k9 ?kB ?_ ?c2 ?c3 ?c4 ?c5
  (case k6 => k_is)
  (case k7 => k_is)
  (case k8 => omega)
  (case k9 => rfl)
  (case kB => exact locs rfl)
  (case c2 => exact rfl)
  (case c3 => exact rfl)
  (case c4 => exact rfl)
  (case c5 => decide)
  intro g L' h' FG' F' N' X' T'
  try k_fold
  repeat' walk1
  refine unhalt (appendZ F' N' hl (by omega) ?_)
  intro h2 F2 N2
  repeat' walk1
  refine unhalt (lenZ N2 (by simpa using hz) ?_)
  repeat' walk1
  refine unhalt (siftdown_spec (x := x) (k := zs.length) (by simp) (by assumption) X' (by assumption) T' hl (fun z hz => ?_) (by simp) (by simpa using hz) (by show A.depth + 1 < recursionLimit; omega) (by show A.units + 3 + 40 < cLine; omega) ?_)
  · rcases List.mem_append.mp hz with h | h
    · exact D z h
    · rw [List.mem_singleton.mp h]; exact hxD
  intro zs2 h3 tk3 F3 N3 hz2
  repeat' walk1
  exact ⟨_, _, F3, N3, fun F4 N4 => h _ _ _ _ F4 N4 hz2⟩

theorem pop_spec {l : Addr} {zs : List It} {y : It} {n : Nat} {rest : List (Addr × Obj)} {Q E : Value → Shared → Prop}
    (F : Fr h₀ L s.heap m) (X : (Mine.hx.heap_39 w.params).In h₀) (N : News h₀ L s.heap ((l, listOf (valsOf (zs ++ [y])).toArray n) :: rest)) (T : TopRead p loose mg mb h₀)
    (hl : ∀ q ∈ rest, q.1 ≠ l) (D : Good rest (zs ++ [y])) (hz : zs.length < 2 ^ 20) (hdp : A.depth + 2 < recursionLimit) (hu : A.units + 80 < cLine) 
    (h : ∀ r zs' n' h' tk, Fr h₀ L h' m → News h₀ L h' ((l, listOf (valsOf zs').toArray n') :: rest) → (r, zs') = popF ilt2 zs y → Q r.1 { s with heap := h', toks := tk }) :
    wpAny (model prog w) A (call (.ref 35) [.ref l]) Q E s := by
  refine' callMy (binds := [(Str.ofString "heap", .ref l)]) F X N T ?k6 ?k7 ?k8 ?k9 ?kB ?_ ?c2 ?c3 ?c4 ?c5
  (case k6 => k_is)
  (case k7 => k_is)
  (case k8 => omega)
  (case k9 => rfl)
  (case kB => exact locs rfl)
  (case c2 => exact rfl)
  (case c3 => exact rfl)
  (case c4 => exact rfl)
  (case c5 => decide)
  intro g L' h' FG' F' N' X' T'
  try k_fold
  repeat' walk1
  refine unhalt (popZ F' N' hl (by omega) ?_)
  intro h2 F2 N2
  repeat' walk1
  refine unhalt (truthZ (by assumption) (by omega) ?_)
  intro tk2
  have hyD : DatIn rest y.1 (pairD y.2) := D y (by simp)
  cases zs with
  | nil =>
    rw [if_neg (by simp)]
    repeat' walk1
    rename Fr _ _ _ _ => F3
    rename News _ _ _ _ => N3
    exact ⟨_, _, F3, N3, fun F4 N4 => h y [] _ _ _ F4 N4 rfl⟩
  | cons a r =>
    rw [if_pos (by simp)]
    repeat' walk1
    refine unhalt (itemZ (k := 0) (x := a) (by assumption) rfl rfl (by omega) ?_)
    repeat' walk1
    refine unhalt (setItemZ (k := 0) (x := y) (by assumption) (by assumption) hl rfl (by simp) (by omega) ?_)
    intro h3 F3 N3
    repeat' walk1
    refine unhalt (siftup_spec (x := y) (by assumption) X' (by assumption) T' hl (Good.set (fun z hz => D z (List.mem_append.mpr (.inl hz))) hyD) (by simp) (by simpa using hz) (by show A.depth + 1 + 1 < recursionLimit; omega) (by show A.units + 3 + 60 < cLine; omega) ?_)
    intro zs2 h4 tk4 F4 N4 hz2
    repeat' walk1
    exact ⟨_, _, F4, N4, fun F5 N5 => h a zs2 _ _ _ F5 N5 (by rw [hz2]; rfl)⟩
end
end Mine
end

section
set_option maxHeartbeats 1000000
namespace Mine
/-- every item but the first is no less than its parent -/
def HeapOk {α : Type} (lt : α → α → Bool) (zs : List α) : Prop := ∀ i a b, 0 < i → zs[i]? = some a → zs[(i - 1) / 2]? = some b → lt a b = false
structure Ord {α : Type} (lt : α → α → Bool) : Prop where
  irrefl : ∀ a, lt a a = false
  trans : ∀ a b c, lt a b = true → lt b c = true → lt a c = true
  neg : ∀ a b c, lt a b = false → lt b c = false → lt a c = false
section
variable {α : Type} {lt : α → α → Bool}
theorem Ord.asym (o : Ord lt) {a b : α} (h : lt a b = true) : lt b a = false := by
  cases e : lt b a with
  | false => rfl
  | true => have := o.trans _ _ _ h e; rw [o.irrefl] at this; cases this

theorem swap1 : ∀ (r : List α) (j : Nat) (x y : α), j < r.length → (x :: r.set j y).Perm (y :: r.set j x)
  | [], _, _, _, h => by simp at h
  | a :: r, 0, x, y, _ => by simpa using List.Perm.swap y x r
  | a :: r, j + 1, x, y, h => by
    have ih := swap1 r j x y (by simpa using h)
    simp only [List.set_cons_succ]
    exact (List.Perm.swap a x _).trans ((ih.cons a).trans (List.Perm.swap y a _))
theorem set_same (r : List α) {j : Nat} {y : α} (h : r[j]? = some y) : r.set j y = r := by
  apply List.ext_getElem?
  intro i
  rw [List.getElem?_set]
  by_cases e : j = i
  · subst e
    rw [if_pos rfl]
    have : j < r.length := by
      rcases Nat.lt_or_ge j r.length with h' | h'
      · exact h'
      · rw [List.getElem?_eq_none h'] at h; cases h
    rw [if_pos this, h]
  · rw [if_neg e]
theorem swap2 : ∀ (zs : List α) (k p : Nat) (x y : α), zs[p]? = some y → p ≠ k → k < zs.length → ((zs.set k y).set p x).Perm (zs.set k x)
  | [], _, _, _, _, _, _, h => by simp at h
  | a :: r, 0, 0, _, _, _, h, _ => absurd rfl h
  | a :: r, 0, p + 1, x, y, hp, _, _ => by
    have hp' : r[p]? = some y := by simpa using hp
    have hlt : p < r.length := by
      rcases Nat.lt_or_ge p r.length with h' | h'
      · exact h'
      · rw [List.getElem?_eq_none h'] at hp'; cases hp'
    have := swap1 r p y x hlt
    rw [set_same r hp'] at this
    simpa using this
  | a :: r, k + 1, 0, x, y, hp, _, hk => by
    have := swap1 r k x y (by simpa using hk)
    have e : a = y := by simpa using hp
    subst e
    simpa using this
  | a :: r, k + 1, p + 1, x, y, hp, hne, hk => by
    have := swap2 r k p x y (by simpa using hp) (by omega) (by simpa using hk)
    simpa using this.cons a

/-- all but the place k is in order -/
structure Hole (lt : α → α → Bool) (k : Nat) (zs : List α) : Prop where
  off : ∀ i a b, 0 < i → i ≠ k → (i - 1) / 2 ≠ k → zs[i]? = some a → zs[(i - 1) / 2]? = some b → lt a b = false
  kid : ∀ i a b, 0 < k → 0 < i → (i - 1) / 2 = k → zs[i]? = some a → zs[(k - 1) / 2]? = some b → lt a b = false

theorem sd_ok (o : Ord lt) (x : α) : ∀ (n k : Nat) (zs : List α), k ≤ n → k < zs.length → Hole lt k zs → (∀ i a, 0 < i → (i - 1) / 2 = k → zs[i]? = some a → lt a x = false) →
    HeapOk lt (sd lt x k zs) ∧ (sd lt x k zs).Perm (zs.set k x) := by
  intro n
  induction n with
  | zero =>
    intro k zs hkn hk H K
    have k0 : k = 0 := by omega
    subst k0
    rw [sd, dif_pos rfl]
    refine ⟨fun i a b hi ha hb => ?_, List.Perm.refl _⟩
    rw [List.getElem?_set, if_neg (by omega)] at ha
    rw [List.getElem?_set] at hb
    by_cases e : 0 = (i - 1) / 2
    · rw [if_pos e, if_pos hk] at hb
      injection hb with hb
      subst hb
      exact K i a hi e.symm ha
    · rw [if_neg e] at hb
      exact H.off i a b hi (by omega) (by omega) ha hb
  | succ n ih =>
    intro k zs hkn hk H K
    by_cases k0 : k = 0
    · exact ih k zs (by omega) hk H K
    rw [sd, dif_neg k0]
    have hp : (k - 1) / 2 < zs.length := by omega
    obtain ⟨y, hy⟩ : ∃ y, zs[(k - 1) / 2]? = some y := ⟨_, List.getElem?_eq_getElem hp⟩
    rw [hy]
    dsimp only
    by_cases hl : lt x y = true
    · rw [if_pos hl]
      have hyx := o.asym hl
      have R := ih ((k - 1) / 2) (zs.set k y) (by omega) (by rw [List.length_set]; exact hp) ⟨?_, ?_⟩ ?_
      · exact ⟨R.1, R.2.trans (swap2 zs k ((k - 1) / 2) x y hy (by omega) hk)⟩
      · intro i a b hi h1 h2 ha hb
        have hik : i ≠ k := fun e => h2 (by rw [e])
        rw [List.getElem?_set, if_neg (Ne.symm hik)] at ha
        rw [List.getElem?_set] at hb
        by_cases e : k = (i - 1) / 2
        · rw [if_pos e, if_pos hk] at hb
          injection hb with hb
          subst hb
          exact H.kid i a y (by omega) hi e.symm ha hy
        · rw [if_neg e] at hb
          exact H.off i a b hi hik (Ne.symm e) ha hb
      · intro i a b hp0 hi he ha hb
        rw [List.getElem?_set, if_neg (by omega)] at hb
        have hpp : lt y b = false := H.off ((k - 1) / 2) y b hp0 (by omega) (by omega) hy hb
        rw [List.getElem?_set] at ha
        by_cases e : k = i
        · rw [if_pos e, if_pos hk] at ha
          injection ha with ha
          subst ha
          exact hpp
        · rw [if_neg e] at ha
          exact o.neg _ _ _ (H.off i a y hi (Ne.symm e) (by omega) ha (by rw [he]; exact hy)) hpp
      · intro i a hi he ha
        rw [List.getElem?_set] at ha
        by_cases e : k = i
        · rw [if_pos e, if_pos hk] at ha
          injection ha with ha
          subst ha
          exact hyx
        · rw [if_neg e] at ha
          exact o.neg _ _ _ (H.off i a y hi (Ne.symm e) (by omega) ha (by rw [he]; exact hy)) hyx
    · rw [if_neg hl]
      have hl' : lt x y = false := by simpa using hl
      refine ⟨fun i a b hi ha hb => ?_, List.Perm.refl _⟩
      rw [List.getElem?_set] at ha hb
      by_cases e : k = i
      · subst e
        rw [if_pos rfl, if_pos hk] at ha
        injection ha with ha
        subst ha
        rw [if_neg (by omega), hy] at hb
        injection hb with hb
        subst hb
        exact hl'
      · rw [if_neg e] at ha
        by_cases e2 : k = (i - 1) / 2
        · rw [if_pos e2, if_pos hk] at hb
          injection hb with hb
          subst hb
          exact K i a hi e2.symm ha
        · rw [if_neg e2] at hb
          exact H.off i a b hi (Ne.symm e) (Ne.symm e2) ha hb

theorem push_ok (o : Ord lt) {zs : List α} (x : α) (h : HeapOk lt zs) : HeapOk lt (pushF lt x zs) ∧ (pushF lt x zs).Perm (x :: zs) := by
  have out : ∀ i a, zs.length < i → (zs ++ [x])[i]? = some a → False := fun i a hi ha => by
    rw [List.getElem?_eq_none (by simp; omega)] at ha; cases ha
  have R := sd_ok o x zs.length zs.length (zs ++ [x]) (Nat.le_refl _) (by simp) ⟨?_, ?_⟩ ?_
  · refine ⟨R.1, R.2.trans ?_⟩
    rw [set_same _ (by simp)]
    exact List.perm_append_singleton x zs
  · intro i a b hi h1 h2 ha hb
    by_cases hlt : i < zs.length
    · rw [List.getElem?_append_left hlt] at ha
      rw [List.getElem?_append_left (by omega)] at hb
      exact h i a b hi ha hb
    · exact (out i a (by omega) ha).elim
  · intro i a b h1 h2 h3 h4 h5
    exact (out i a (by omega) h4).elim
  · intro i a h1 h2 h3
    exact (out i a (by omega) h3).elim

theorem su_ok (o : Ord lt) (y : α) : ∀ (f k : Nat) (zs : List α), zs.length ≤ f + k → k < zs.length → Hole lt k zs →
    (su lt f k zs).2 < (su lt f k zs).1.length ∧ Hole lt (su lt f k zs).2 (su lt f k zs).1 ∧ (su lt f k zs).1.length ≤ 2 * (su lt f k zs).2 + 1 ∧ ((su lt f k zs).1.set (su lt f k zs).2 y).Perm (zs.set k y) := by
  intro f
  induction f with
  | zero => intro k zs h1 h2 H; omega
  | succ f ih =>
    intro k zs hf hk H
    unfold su
    cases ha : zs[2 * k + 1]? with
    | none =>
      dsimp only
      refine ⟨hk, H, ?_, List.Perm.refl _⟩
      exact List.getElem?_eq_none_iff.mp ha
    | some a =>
      dsimp only
      have hal : 2 * k + 1 < zs.length := by
        rcases Nat.lt_or_ge (2 * k + 1) zs.length with h' | h'
        · exact h'
        · rw [List.getElem?_eq_none h'] at ha; cases ha
      have step : ∀ c v, (c = 2 * k + 1 ∨ c = 2 * k + 2) → zs[c]? = some v → (∀ i u, (i = 2 * k + 1 ∨ i = 2 * k + 2) → i ≠ c → zs[i]? = some u → lt u v = false) → c < zs.length →
          (su lt f c (zs.set k v)).2 < (su lt f c (zs.set k v)).1.length ∧ Hole lt (su lt f c (zs.set k v)).2 (su lt f c (zs.set k v)).1 ∧ (su lt f c (zs.set k v)).1.length ≤ 2 * (su lt f c (zs.set k v)).2 + 1 ∧ ((su lt f c (zs.set k v)).1.set (su lt f c (zs.set k v)).2 y).Perm (zs.set k y) := by
        intro c v hc hv hmin hcl
        have R := ih c (zs.set k v) (by rw [List.length_set]; omega) (by rw [List.length_set]; exact hcl) ⟨?_, ?_⟩
        · exact ⟨R.1, R.2.1, R.2.2.1, R.2.2.2.trans (swap2 zs k c y v hv (by omega) hk)⟩
        · intro i u b hi h1 h2 hu hb
          rw [List.getElem?_set] at hu hb
          by_cases e : k = i
          · subst e
            rw [if_pos rfl, if_pos hk] at hu
            injection hu with hu
            subst hu
            rw [if_neg (by omega)] at hb
            exact H.kid c v b hi (by omega) (by omega) hv hb
          · rw [if_neg e] at hu
            by_cases e2 : k = (i - 1) / 2
            · rw [if_pos e2, if_pos hk] at hb
              injection hb with hb
              subst hb
              exact hmin i u (by omega) h1 hu
            · rw [if_neg e2] at hb
              exact H.off i u b hi (Ne.symm e) (Ne.symm e2) hu hb
        · intro i u b hc0 hi he hu hb
          have ek : (c - 1) / 2 = k := by omega
          rw [ek, List.getElem?_set, if_pos rfl, if_pos hk] at hb
          injection hb with hb
          subst hb
          rw [List.getElem?_set, if_neg (by omega)] at hu
          exact H.off i u v hi (by omega) (by omega) hu (by rw [he]; exact hv)
      cases hb : zs[2 * k + 2]? with
      | none =>
        dsimp only
        refine step (2 * k + 1) a (.inl rfl) ha (fun i u hi hne hu => ?_) hal
        have : i = 2 * k + 2 := by omega
        rw [this, hb] at hu; cases hu
      | some b =>
        dsimp only
        have hbl : 2 * k + 2 < zs.length := by
          rcases Nat.lt_or_ge (2 * k + 2) zs.length with h' | h'
          · exact h'
          · rw [List.getElem?_eq_none h'] at hb; cases hb
        by_cases hl : lt a b = true
        · rw [if_pos hl]
          refine step (2 * k + 1) a (.inl rfl) ha (fun i u hi hne hu => ?_) hal
          have : i = 2 * k + 2 := by omega
          rw [this, hb] at hu
          injection hu with hu
          subst hu
          exact o.asym hl
        · rw [if_neg hl]
          refine step (2 * k + 2) b (.inr rfl) hb (fun i u hi hne hu => ?_) hbl
          have : i = 2 * k + 1 := by omega
          rw [this, ha] at hu
          injection hu with hu
          subst hu
          simpa using hl

theorem root_min (o : Ord lt) {zs : List α} {a : α} (h : HeapOk lt zs) (h0 : zs[0]? = some a) : ∀ (n i : Nat) (b : α), i ≤ n → zs[i]? = some b → lt b a = false := by
  intro n
  induction n with
  | zero =>
    intro i b hi hb
    have : i = 0 := by omega
    rw [this, h0] at hb
    injection hb with hb
    subst hb
    exact o.irrefl _
  | succ n ih =>
    intro i b hi hb
    by_cases e : i = 0
    · exact ih i b (by omega) hb
    · have hil : i < zs.length := by
        rcases Nat.lt_or_ge i zs.length with h' | h'
        · exact h'
        · rw [List.getElem?_eq_none h'] at hb; cases hb
      obtain ⟨c, hc⟩ : ∃ c, zs[(i - 1) / 2]? = some c := ⟨_, List.getElem?_eq_getElem (by omega)⟩
      exact o.neg _ _ _ (h i b c (by omega) hb hc) (ih _ c (by omega) hc)

theorem pop_ok (o : Ord lt) {zs : List α} (y : α) (h : HeapOk lt (zs ++ [y])) :
    HeapOk lt (popF lt zs y).2 ∧ ((popF lt zs y).1 :: (popF lt zs y).2).Perm (zs ++ [y]) ∧ ∀ z ∈ (popF lt zs y).2, lt z (popF lt zs y).1 = false := by
  cases zs with
  | nil =>
    refine ⟨fun i a b _ ha => ?_, List.Perm.refl _, fun z hz => ?_⟩
    · simp [popF] at ha
    · simp [popF] at hz
  | cons a r =>
    show HeapOk lt (siftupF lt y ((a :: r).set 0 y)) ∧ (a :: siftupF lt y ((a :: r).set 0 y)).Perm (a :: r ++ [y]) ∧ ∀ z ∈ siftupF lt y ((a :: r).set 0 y), lt z a = false
    have S := su_ok o y ((a :: r).set 0 y).length 0 ((a :: r).set 0 y) (by omega) (by simp) ⟨?_, ?_⟩
    · obtain ⟨s1, s2, s3, s4⟩ := S
      unfold siftupF
      generalize (su lt ((a :: r).set 0 y).length 0 ((a :: r).set 0 y)).1 = W at *
      generalize (su lt ((a :: r).set 0 y).length 0 ((a :: r).set 0 y)).2 = k at *
      have none : ∀ i u, 0 < i → (i - 1) / 2 = k → (W.set k y)[i]? = some u → False := fun i u hi he hu => by
        rw [List.getElem?_eq_none (by rw [List.length_set]; omega)] at hu; cases hu
      have R := sd_ok o y k k (W.set k y) (Nat.le_refl _) (by rw [List.length_set]; exact s1) ⟨?_, ?_⟩ ?_
      · have P : (sd lt y k (W.set k y)).Perm (y :: r) := by
          refine R.2.trans ?_
          rw [List.set_set]
          refine s4.trans ?_
          simp
        refine ⟨R.1, (P.cons a).trans ?_, fun z hz => ?_⟩
        · exact (List.perm_append_singleton y r).symm.cons a
        · have hz' : z ∈ a :: r ++ [y] := by
            have := P.subset hz
            rcases List.mem_cons.mp this with rfl | h'
            · simp
            · simp [h']
          obtain ⟨i, hi⟩ := List.mem_iff_getElem?.mp hz'
          exact root_min o h rfl i i z (Nat.le_refl _) hi
      · intro i u b hi h1 h2 hu hb
        rw [List.getElem?_set, if_neg (Ne.symm h1)] at hu
        rw [List.getElem?_set, if_neg (Ne.symm h2)] at hb
        exact s2.off i u b hi h1 h2 hu hb
      · intro i u b _ hi he hu _
        exact (none i u hi he hu).elim
      · intro i u hi he hu
        exact (none i u hi he hu).elim
    · intro i u b hi h1 h2 hu hb
      have g : ∀ j : Nat, 0 < j → ∀ v, ((a :: r).set 0 y)[j]? = some v → (a :: r ++ [y])[j]? = some v := fun j hj v hv => by
        rw [List.getElem?_set, if_neg (by omega)] at hv
        have hjl : j < (a :: r).length := by
          rcases Nat.lt_or_ge j (a :: r).length with h' | h'
          · exact h'
          · rw [List.getElem?_eq_none h'] at hv; cases hv
        rw [List.getElem?_append_left hjl]; exact hv
      exact h i u b hi (g i hi u hu) (g _ (by omega) b hb)
    · intro i u b h0 _ _ _ _
      omega
end

theorem ilt_irrefl : ∀ a, ilt a a = false
  | [] => rfl
  | a :: r => by simp [ilt, ilt_irrefl r]
theorem ilt_trans : ∀ a b c, ilt a b = true → ilt b c = true → ilt a c = true
  | [], [], _, h, _ => by simp [ilt] at h
  | [], _ :: _, [], _, h => by simp [ilt] at h
  | [], _ :: _, _ :: _, _, _ => rfl
  | _ :: _, [], _, h, _ => by simp [ilt] at h
  | _ :: _, _ :: _, [], _, h => by simp [ilt] at h
  | a :: r, b :: q, c :: t, h1, h2 => by
    simp only [ilt] at h1 h2 ⊢
    by_cases e1 : a = b
    · rw [if_pos e1] at h1
      by_cases e2 : b = c
      · rw [if_pos e2] at h2
        rw [if_pos (e1.trans e2)]
        exact ilt_trans _ _ _ h1 h2
      · rw [if_neg e2] at h2
        have := of_decide_eq_true h2
        rw [if_neg (by omega)]
        exact decide_eq_true (by omega)
    · rw [if_neg e1] at h1
      have g1 := of_decide_eq_true h1
      by_cases e2 : b = c
      · rw [if_neg (by omega)]
        exact decide_eq_true (by omega)
      · rw [if_neg e2] at h2
        have := of_decide_eq_true h2
        rw [if_neg (by omega)]
        exact decide_eq_true (by omega)
theorem ilt_neg : ∀ a b c, ilt a b = false → ilt b c = false → ilt a c = false
  | [], [], c, _, h2 => h2
  | [], _ :: _, _, h, _ => by simp [ilt] at h
  | _ :: _, [], [], _, _ => rfl
  | _ :: _, [], _ :: _, _, h => by simp [ilt] at h
  | _ :: _, _ :: _, [], _, _ => rfl
  | a :: r, b :: q, c :: t, h1, h2 => by
    simp only [ilt] at h1 h2 ⊢
    by_cases e1 : a = b
    · rw [if_pos e1] at h1
      by_cases e2 : b = c
      · rw [if_pos e2] at h2
        rw [if_pos (e1.trans e2)]
        exact ilt_neg _ _ _ h1 h2
      · rw [if_neg e2] at h2
        have := of_decide_eq_false h2
        rw [if_neg (by omega)]
        exact decide_eq_false (by omega)
    · rw [if_neg e1] at h1
      have g1 := of_decide_eq_false h1
      by_cases e2 : b = c
      · rw [if_neg (by omega)]
        exact decide_eq_false (by omega)
      · rw [if_neg e2] at h2
        have := of_decide_eq_false h2
        rw [if_neg (by omega)]
        exact decide_eq_false (by omega)
/-- of two rows that are not the same, one is less -/
theorem ilt_tri : ∀ a b, ilt a b = false → ilt b a = false → a = b
  | [], [], _, _ => rfl
  | [], _ :: _, h, _ => by simp [ilt] at h
  | _ :: _, [], _, h => by simp [ilt] at h
  | a :: r, b :: q, h1, h2 => by
    simp only [ilt] at h1 h2
    by_cases e1 : a = b
    · rw [if_pos e1] at h1
      rw [if_pos e1.symm] at h2
      rw [e1, ilt_tri _ _ h1 h2]
    · rw [if_neg e1] at h1
      rw [if_neg (Ne.symm e1)] at h2
      have := of_decide_eq_false h1
      have := of_decide_eq_false h2
      omega

theorem plt_ord : Ord plt where
  irrefl a := by simp [plt, ilt_irrefl]
  trans a b c h1 h2 := by
    simp only [plt] at h1 h2 ⊢
    by_cases e1 : a.1 = b.1
    · rw [if_pos e1] at h1
      by_cases e2 : b.1 = c.1
      · rw [if_pos e2] at h2
        rw [if_pos (e1.trans e2)]
        exact ilt_trans _ _ _ h1 h2
      · rw [if_neg e2] at h2
        have := of_decide_eq_true h2
        rw [if_neg (by omega)]
        exact decide_eq_true (by omega)
    · rw [if_neg e1] at h1
      have g1 := of_decide_eq_true h1
      by_cases e2 : b.1 = c.1
      · rw [if_neg (by omega)]
        exact decide_eq_true (by omega)
      · rw [if_neg e2] at h2
        have := of_decide_eq_true h2
        rw [if_neg (by omega)]
        exact decide_eq_true (by omega)
  neg a b c h1 h2 := by
    simp only [plt] at h1 h2 ⊢
    by_cases e1 : a.1 = b.1
    · rw [if_pos e1] at h1
      by_cases e2 : b.1 = c.1
      · rw [if_pos e2] at h2
        rw [if_pos (e1.trans e2)]
        exact ilt_neg _ _ _ h1 h2
      · rw [if_neg e2] at h2
        have := of_decide_eq_false h2
        rw [if_neg (by omega)]
        exact decide_eq_false (by omega)
    · rw [if_neg e1] at h1
      have g1 := of_decide_eq_false h1
      by_cases e2 : b.1 = c.1
      · rw [if_neg (by omega)]
        exact decide_eq_false (by omega)
      · rw [if_neg e2] at h2
        have := of_decide_eq_false h2
        rw [if_neg (by omega)]
        exact decide_eq_false (by omega)
theorem plt_tri {a b : Pr} (h1 : plt a b = false) (h2 : plt b a = false) : a = b := by
  simp only [plt] at h1 h2
  by_cases e1 : a.1 = b.1
  · rw [if_pos e1] at h1
    rw [if_pos e1.symm] at h2
    exact Prod.ext e1 (rowI_inj (ilt_tri _ _ h1 h2))
  · rw [if_neg e1] at h1
    rw [if_neg (Ne.symm e1)] at h2
    have := of_decide_eq_false h1
    have := of_decide_eq_false h2
    omega
theorem ord_ilt2 : Ord ilt2 := ⟨fun a => plt_ord.irrefl a.2, fun a b c => plt_ord.trans a.2 b.2 c.2, fun a b c => plt_ord.neg a.2 b.2 c.2⟩
end Mine
end

section
set_option maxHeartbeats 2000000
namespace Mine

theorem imin_spec (a b : Int) : (if b < a then b else a) ≤ a ∧ (if b < a then b else a) ≤ b ∧ ((if b < a then b else a) = a ∨ (if b < a then b else a) = b) := by
  by_cases h : b < a
  · rw [if_pos h]; exact ⟨by omega, Int.le_refl _, .inr rfl⟩
  · rw [if_neg h]; exact ⟨Int.le_refl _, by omega, .inl rfl⟩

section
variable {one two : List UInt8} {wd : Nat}
def rv (b : Bool) (l : List UInt8) : List UInt8 := if b then l.reverse else l
theorem rv_len (b : Bool) (l : List UInt8) : (rv b l).length = l.length := by cases b <;> simp [rv]
theorem rv_rev (b : Bool) (l : List UInt8) : (rv b l).reverse = rv (!b) l := by cases b <;> simp [rv]
/-- the row of a state: changed, first, second -/
def rho (one two : List UInt8) (q : Bool × Bool × Bool) : List UInt8 := if q.1 then rv (q.2.2 != q.1) two ++ rv (q.2.1 != q.1) one else rv (q.2.1 != q.1) one ++ rv (q.2.2 != q.1) two
def opS (i : Nat) (q : Bool × Bool × Bool) : Bool × Bool × Bool := match i with
  | 0 => if q.1 then (q.1, q.2.1, !q.2.2) else (q.1, !q.2.1, q.2.2)
  | 1 => if q.1 then (q.1, !q.2.1, q.2.2) else (q.1, q.2.1, !q.2.2)
  | 2 => (q.1, !q.2.1, !q.2.2)
  | _ => (!q.1, q.2.1, q.2.2)
theorem opS_opS (i : Nat) (q : Bool × Bool × Bool) : opS i (opS i q) = q := by
  obtain ⟨x, f, g⟩ := q
  match i with
  | 0 => cases x <;> simp [opS]
  | 1 => cases x <;> simp [opS]
  | 2 => simp [opS]
  | i + 3 => simp [opS]
/-- the turns of a row -/
def opR (wd : Nat) (i : Nat) (r : List UInt8) : List UInt8 := match i with
  | 0 => (r.take wd).reverse ++ r.drop wd
  | 1 => r.take wd ++ (r.drop wd).reverse
  | 2 => (r.take wd).reverse ++ (r.drop wd).reverse
  | _ => r.reverse
theorem opR_rho (h1 : one.length = wd) (h2 : two.length = wd) (i : Nat) (q : Bool × Bool × Bool) : opR wd i (rho one two q) = rho one two (opS i q) := by
  have t : ∀ (a b : List UInt8), a.length = wd → (a ++ b).take wd = a := fun a b h => by subst h; simp
  have d : ∀ (a b : List UInt8), a.length = wd → (a ++ b).drop wd = b := fun a b h => by subst h; simp
  obtain ⟨x, f, g⟩ := q
  cases x
  · simp only [rho, Bool.false_eq_true, if_false]
    have e := t (rv (f != false) one) (rv (g != false) two) (by rw [rv_len, h1])
    have e' := d (rv (f != false) one) (rv (g != false) two) (by rw [rv_len, h1])
    match i with
    | 0 => simp only [opR, e, e', opS, rv_rev, Bool.false_eq_true, if_false]; cases f <;> rfl
    | 1 => simp only [opR, e, e', opS, rv_rev, Bool.false_eq_true, if_false]; cases g <;> rfl
    | 2 => simp only [opR, e, e', opS, rv_rev, Bool.false_eq_true, if_false]; cases f <;> cases g <;> rfl
    | i + 3 => simp only [opR, opS, List.reverse_append, rv_rev]; cases f <;> cases g <;> rfl
  · simp only [rho, if_true]
    have e := t (rv (g != true) two) (rv (f != true) one) (by rw [rv_len, h2])
    have e' := d (rv (g != true) two) (rv (f != true) one) (by rw [rv_len, h2])
    match i with
    | 0 => simp only [opR, e, e', opS, rv_rev, if_true]; cases g <;> rfl
    | 1 => simp only [opR, e, e', opS, rv_rev, if_true]; cases f <;> rfl
    | 2 => simp only [opR, e, e', opS, rv_rev, if_true]; cases f <;> cases g <;> rfl
    | i + 3 => simp only [opR, opS, List.reverse_append, rv_rev]; cases f <;> cases g <;> rfl
theorem rho_len (h1 : one.length = wd) (h2 : two.length = wd) (q : Bool × Bool × Bool) : (rho one two q).length = 2 * wd := by
  unfold rho
  split <;> rw [List.length_append, rv_len, rv_len] <;> omega
end

def states : List (Bool × Bool × Bool) := [(false, false, false), (false, false, true), (false, true, false), (false, true, true), (true, false, false), (true, false, true), (true, true, false), (true, true, true)]
theorem mem_states (q : Bool × Bool × Bool) : q ∈ states := by
  obtain ⟨x, f, g⟩ := q
  cases x <;> cases f <;> cases g <;> simp [states]

def b2i (b : Bool) : Int := if b then 1 else 0
end Mine
end

section
open PySem PySem.W PySem.Calls PyProof.Rows PySem.SeqAt
set_option maxRecDepth 100000
set_option maxHeartbeats 8000000
namespace Mine
section
variable {prog : Program} {w : World} {A : Around} {E : Value → Shared → Prop} {s : Shared} {env : Env}

/-- what the comprehension needs of its source -/
def RowSrc (rest : List (Addr × Obj)) (zs : List It) (Q : Value → Shared → Prop) (v : Value) (s₁ : Shared) : Prop :=
  ∃ l, v = .ref l ∧ s₁.heap.IsList l (valsOf zs).toArray ∧ (∀ q ∈ rest, s₁.heap.get? q.1 = some q.2) ∧
    ∀ us h' tk n', (∀ c o, s₁.heap.get? c = some o → h'.get? c = some o) → h'.get? (s₁.heap.objs.size + 1) = some (listOf us.toArray n') → DatAll rest us (zs.map fun z => rowD z.2.2) →
      Q (.ref (s₁.heap.objs.size + 1)) { s₁ with heap := h', toks := tk }

theorem rows_comp {rest : List (Addr × Obj)} {zs : List It} {a b : Str} {pa pb pb' tp pos : Pos} {kk : Nat} {iter : Expr} {scope : Scope} {Q : Value → Shared → Prop}
    (hh : A.handled = none) (hG : Good rest zs) (hz : zs.length < 2 ^ 20)
    (hfree : ∀ x ∈ scope.names, x.2 ≠ .free) (hnames : ∀ x ∈ scope.names, x.2 = .local → scope.names.lookup x.1 = some .local)
    (hcell : ∀ y ∈ scope.names, y.2 ≠ .cell) (hkind : scope.kind = .function) (hxa : scope.names.lookup a = some .local) (hxb : scope.names.lookup b = some .local) (hbd : (b == ("__debug__" : Str)) = false)
    (h : wpAny (model prog w) A (eval iter env) (RowSrc rest zs Q) E s)
    (hs : ∀ x, foldedSetIterable iter env x = pure x := by intro _; rfl) :
    wpAny (model prog w) A (eval (.ListComp (.Name b pb') [⟨.Tuple [.Name a pa, .Name b pb] kk tp, iter, [], 0⟩] scope pos) env) Q E s := by
  refine wpAny_ListComp hfree hkind hnames (wpAny_mono h (fun v s₁ h₁ => ?_) fun _ _ e => e) hs
  obtain ⟨l, rfl, hl, hrest, h⟩ := h₁
  refine wpAny_mono (comp_rows (l := l) (env := env) (iter := iter) (kk := kk) (tp := tp) (pa := pa) (pb := pb) (pb' := pb') (pos := pos) (zs := zs) (rest := rest) (a := a) (b := b) (scope := scope)
    (RR := fun acc C r s' => r = .ok .next ∧ ∃ m, s'.heap.Ns C m ∧ ∀ h', Heap.SameBut C s'.heap h' → Q acc { s' with heap := h' }) hh hl hrest hG hz hcell hkind hxa hxb hbd ?_)
    (fun it s₂ h₂ => wpAny_mono h₂ (fun acc s₃ h₃ => wpAny_mono h₃ (fun cenv s₄ h₄ => codeAny_mono h₄ ?_) fun _ _ e => e) fun _ _ e => e) fun _ _ e => e
  · intro us h' tk n' C m' keep hD hd hn hC
    refine ⟨rfl, m', hn, fun h'' hsb => ?_⟩
    refine h us h'' tk n' (fun c o e => ?_) ?_ hd
    · refine (hsb.2 _ ?_).trans (keep c o e)
      have := Heap.lt_size e
      exact Nat.ne_of_lt (Nat.lt_trans (Nat.lt_succ_of_lt this) hC)
    · exact (hsb.2 _ (Nat.ne_of_lt hC)).trans hD
  · rintro r s' ⟨rfl, m, hn, hq⟩
    exact ⟨m, hn, fun h' hsb => hq h' hsb⟩

theorem News_at {h₀ h h' : Heap} {L D : Addr} {m : Str → Option Value} {news : List (Addr × Obj)} {o : Obj} (F : Fr h₀ L h m) (N : News h₀ L h news) (k : ∀ b o, h.get? b = some o → h'.get? b = some o) (hD : @LE.le Nat _ h.objs.size D) (ho : h'.get? D = some o) : News h₀ L h' ((D, o) :: news) := by
  obtain ⟨oL, es, ep, hL, r⟩ := F.ns
  intro q hq
  rcases List.mem_cons.mp hq with rfl | hq
  · refine ⟨ho, Nat.ne_of_gt (Nat.lt_of_lt_of_le (Heap.lt_size hL) hD), ?_⟩
    cases e : h₀.get? D with
    | none => rfl
    | some o' => exact absurd (Heap.lt_size (F.keep _ _ e)) (Nat.not_lt_of_le hD)
  · exact ⟨k _ _ (N q hq).1, (N q hq).2⟩

theorem News_rotA {h₀ h : Heap} {L : Addr} {a b c : Addr × Obj} {rest : List (Addr × Obj)} (N : News h₀ L h (a :: b :: c :: rest)) : News h₀ L h (c :: a :: b :: rest) := fun q hq => N q (by
  rcases List.mem_cons.mp hq with rfl | hq
  · exact .tail _ (.tail _ (.head _))
  rcases List.mem_cons.mp hq with rfl | hq
  · exact .head _
  rcases List.mem_cons.mp hq with rfl | hq
  · exact .tail _ (.head _)
  exact .tail _ (.tail _ (.tail _ hq)))

theorem ld_builtR {M : Model} {K : Frag} {h₀ : Heap} {L C : Addr} {m mg mb : Str → Option Value} {scope : Scope} {cl : List (Str × Addr)} {p : Program} {loose : List Str} {x : Str} {pos : Pos} {v : Value} {Q : Value → Shared → Prop}
    (F : Fr h₀ L s.heap m) (X : K.In h₀) (T : TopRead p loose mg mb h₀) (e : nsIn K mainGlobals x = some none) (hv : bootBuiltins x = some v) (hn : x ≠ "__name__") (h : Q v s) (hg : env.globals = mainGlobals := by rfl) (hb : env.builtins = builtinsNs := by rfl)
    (hk : (compEnvC scope cl C env).scope.kind = .function := by rfl) (hx : (compEnvC scope cl C env).kindOf x = some .globalImplicit := by rfl) (hd : (x == ("__debug__" : Str)) = false := by decide) :
    wpAny M A (eval (.Name x pos) (compEnvC scope cl C env)) Q E s :=
  Name_function_global hk hx (loadGlobal_builtin (env := compEnvC scope cl C env) (show s.heap.Ns env.globals mg from hg ▸ (T.keeps F.keep).g) (mg_none_of X T.g e) (show s.heap.Ns env.builtins mb from hb ▸ (T.keeps F.keep).b) ((T.builtins x hn).trans hv) h) hd

/-- an empty list has come out -/
def EmptyOut (g : Heap) (L : Addr) (s : Shared) (m : Str → Option Value) (news : List (Addr × Obj)) (v : Value) (s' : Shared) : Prop :=
  ∃ D h' tk', v = .ref D ∧ s' = { s with heap := h', toks := tk' } ∧ Fr g L h' m ∧ News g L h' ((D, LCg.lst []) :: news) ∧ LCg.Off1 D news
theorem comp_split {M : Model} {g : Heap} {L : Addr} {m : Str → Option Value} {news : List (Addr × Obj)} {t : Sem Value} {Q : Value → Shared → Prop} (_F : Fr g L s.heap m) (_N : News g L s.heap news)
    (h1 : wpAny M A t (EmptyOut g L s m news) E s) (h2 : ∀ D h' tk', Fr g L h' m → News g L h' ((D, LCg.lst []) :: news) → LCg.Off1 D news → Q (.ref D) { s with heap := h', toks := tk' }) : wpAny M A t Q E s :=
  wpAny_mono h1 (fun v s' ⟨D, h', tk', e1, e2, F, N, o⟩ => by subst e1 e2; exact h2 D h' tk' F N o) fun _ _ e => e

theorem assign2' {a b : Str} {pa pb tp : Pos} {kk : Nat} {T : Addr} {h₀ : Heap} {m : Str → Option Value} {news : List (Addr × Obj)} {x y : Value} {Q : Unit → Shared → Prop} (hh : A.handled = none) (F : Fr h₀ env.locals s.heap m) (N : News h₀ env.locals s.heap news)
    (hT : IsTup s.heap T #[x, y]) (ha : env.kindOf a = some .local) (hb : env.kindOf b = some .local) (hp : (env.scope.kind == .class || (env.scope.kind == .module && env.locals != env.globals)) = false)
    (h : ∀ (h' : Heap) (tk : Nat), Fr h₀ env.locals h' (fun z => if z = b then some y else if z = a then some x else m z) → News h₀ env.locals h' news → Q () { s with heap := h', toks := tk }) :
    wpAny (model prog w) A (assign (.Tuple [.Name a pa, .Name b pb] kk tp) env (.ref T)) Q E s := by
  refine kcp_assign hh hT ha hb hp F.ns fun h' tk hns keep => h h' tk ⟨hns, fun c o e => keep c o (fun q => ?_) (F.keep c o e), F.above⟩ fun q hq => ⟨keep _ _ (N q hq).2.1 (N q hq).1, (N q hq).2⟩
  subst q
  exact Nat.lt_irrefl _ (Nat.lt_of_lt_of_le (Heap.lt_size e) F.above)

theorem News_zip {h₀ h : Heap} {L : Addr} {a b c d e : Addr × Obj} {rest : List (Addr × Obj)} (N : News h₀ L h (a :: b :: c :: d :: e :: rest)) : News h₀ L h (d :: e :: c :: rest) := fun q hq => N q (by
  rcases List.mem_cons.mp hq with rfl | hq
  · exact .tail _ (.tail _ (.tail _ (.head _)))
  rcases List.mem_cons.mp hq with rfl | hq
  · exact .tail _ (.tail _ (.tail _ (.tail _ (.head _))))
  rcases List.mem_cons.mp hq with rfl | hq
  · exact .tail _ (.tail _ (.head _))
  exact .tail _ (.tail _ (.tail _ (.tail _ (.tail _ hq)))))
end
end Mine
end

section
open PySem PySem.W PyProof.Rows PySem.SeqAt
set_option maxRecDepth 100000
set_option maxHeartbeats 8000000
namespace Mine
theorem fillKP (P : Params) : Mine.hx.heap_39 P = Mine.hx.heap_39 P ∧ PySem.Challenge.rw_nq0011_01 = PySem.Challenge.rw_nq0011_01 := by
  k_fill
  exact ⟨rfl, rfl⟩
/-- min(a, b) -/
def imin (a b : Int) : Int := if b < a then b else a
/-- _law_price, as a function -/
def priceF (c1 c2 c3 c4 x f g : Int) : Int :=
  if x = 1 then c4 + (if f + g = 0 then 0 else if f + g = 1 then imin c1 c2 else imin (2 * imin c1 c2) c3)
  else imin (if f = 0 then (if g = 0 then 0 else imin c2 (c3 + c1)) else (if g = 0 then imin c1 (c3 + c2) else imin (c1 + c2) c3)) (2 * c4 + (if f + g = 0 then 0 else if f + g = 1 then imin c1 c2 else imin (2 * imin c1 c2) c3))
section
variable {prog p : Program} {w : World} {A : Around} {s : Shared} {h₀ : Heap} {L : Addr} {m mg mb : Str → Option Value} {loose : List Str} {rest : List (Addr × Obj)}
local macro_rules | `(tactic| k_all) => `(tactic| assumption)

theorem price_spec {x f g : Int} {t1 t2 t3 : Tok} {P : Addr} {np : Nat} {c1 c2 c3 c4 : Int} {u1 u2 u3 u4 : Tok} {Q E : Value → Shared → Prop}
    (F : Fr h₀ L s.heap m) (X : (Mine.hx.heap_39 w.params).In h₀) (N : News h₀ L s.heap rest) (T : TopRead p loose mg mb h₀)
    (hP : (P, listOf [.int c1 u1, .int c2 u2, .int c3 u3, .int c4 u4].toArray np) ∈ rest) (hx : x = 0 ∨ x = 1) (hf : f = 0 ∨ f = 1) (hg : g = 0 ∨ g = 1)
    (hdp : A.depth + 4 < recursionLimit) (hh : A.handled = none) (hu : A.units + 200 < cLine)
    (h : ∀ h' tk t, Fr h₀ L h' m → News h₀ L h' rest → Q (.int (priceF c1 c2 c3 c4 x f g) t) { s with heap := h', toks := tk }) :
    wpAny (model prog w) A (call (.ref 61) [.int x t1, .int f t2, .int g t3, .ref P]) Q E s := by
  obtain ⟨ah, ar⟩ := A
  cases (show ah = none from hh)
  refine' callMy (binds := [(Str.ofString "changed", .int x t1), (Str.ofString "first", .int f t2), (Str.ofString "second", .int g t3), (Str.ofString "prices", .ref P)]) F X N T ?k6 ?k7 ?k8 ?k9 ?kB ?_ ?c2 ?c3 ?c4 ?c5
  (case k6 => k_is)
  (case k7 => k_is)
  (case k8 => omega)
  (case k9 => rfl)
  (case kB => exact locs rfl)
  (case c2 => exact rfl)
  (case c3 => exact rfl)
  (case c4 => exact rfl)
  (case c5 => decide)
  intro g L' h' FG' F' N' X' T'
  have N2 : News g L' h' ((P, listOf [.int c1 u1, .int c2 u2, .int c3 u3, .int c4 u4].toArray np) :: rest) := fun q hq => by
    rcases List.mem_cons.mp hq with rfl | hq
    · exact N' _ hP
    · exact N' q hq
  clear N' hP
  rcases hf with rfl | rfl <;> rcases hg with rfl | rfl
  repeat' walk1
  all_goals
    rename Fr _ _ _ _ => F2
    rename News _ _ _ _ => N2
    refine ⟨_, rest, F2, fun q hq => N2 q (by simp [hq]), fun F3 N3 => ?_⟩
    rcases hx with rfl | rfl
    · first
      | exact h _ _ _ F3 N3
      | exact absurd (by assumption : (0 : Int) = 1) (by decide)
    · first
      | exact absurd rfl (by assumption : ¬ (1 : Int) = 1)
      | exact h _ _ _ F3 N3
end
end Mine
end

section
set_option maxHeartbeats 2000000
namespace Mine
section
variable (c1 c2 c3 c4 : Int)
def Pq (q : Bool × Bool × Bool) : Int := priceF c1 c2 c3 c4 (b2i q.1) (b2i q.2.1) (b2i q.2.2)
def cst (i : Nat) : Int := match i with
  | 0 => c1
  | 1 => c2
  | 2 => c3
  | _ => c4
theorem imin_l (a b : Int) : imin a b ≤ a := (imin_spec a b).1
theorem imin_o (a b : Int) : imin a b = a ∨ imin a b = b := (imin_spec a b).2.2
variable {c1 c2 c3 c4}
/-- the numbers of the eight states: w1 of one turned block, w2 of both, at either place; w3, w4, w5 while the row is never turned; v1, v2, v3 the kept ones -/
theorem P_num (h4 : 1 ≤ c4) : ∃ w1 w2 w3 w4 w5 v1 v2 v3 : Int,
    (w1 ≤ c1 ∧ w1 ≤ c2 ∧ (w1 = c1 ∨ w1 = c2)) ∧ (w2 ≤ 2 * w1 ∧ w2 ≤ c3 ∧ (w2 = 2 * w1 ∨ w2 = c3)) ∧ (w3 ≤ c2 ∧ w3 ≤ c3 + c1 ∧ (w3 = c2 ∨ w3 = c3 + c1)) ∧ (w4 ≤ c1 ∧ w4 ≤ c3 + c2 ∧ (w4 = c1 ∨ w4 = c3 + c2)) ∧
    (w5 ≤ c1 + c2 ∧ w5 ≤ c3 ∧ (w5 = c1 + c2 ∨ w5 = c3)) ∧ (v1 ≤ w3 ∧ v1 ≤ 2 * c4 + w1 ∧ (v1 = w3 ∨ v1 = 2 * c4 + w1)) ∧ (v2 ≤ w4 ∧ v2 ≤ 2 * c4 + w1 ∧ (v2 = w4 ∨ v2 = 2 * c4 + w1)) ∧ (v3 ≤ w5 ∧ v3 ≤ 2 * c4 + w2 ∧ (v3 = w5 ∨ v3 = 2 * c4 + w2)) ∧
    Pq c1 c2 c3 c4 (false, false, false) = 0 ∧ Pq c1 c2 c3 c4 (false, false, true) = v1 ∧ Pq c1 c2 c3 c4 (false, true, false) = v2 ∧ Pq c1 c2 c3 c4 (false, true, true) = v3 ∧
    Pq c1 c2 c3 c4 (true, false, false) = c4 ∧ Pq c1 c2 c3 c4 (true, false, true) = c4 + w1 ∧ Pq c1 c2 c3 c4 (true, true, false) = c4 + w1 ∧ Pq c1 c2 c3 c4 (true, true, true) = c4 + w2 := by
  refine ⟨imin c1 c2, imin (2 * imin c1 c2) c3, imin c2 (c3 + c1), imin c1 (c3 + c2), imin (c1 + c2) c3, imin (imin c2 (c3 + c1)) (2 * c4 + imin c1 c2), imin (imin c1 (c3 + c2)) (2 * c4 + imin c1 c2), imin (imin (c1 + c2) c3) (2 * c4 + imin (2 * imin c1 c2) c3),
    imin_spec _ _, imin_spec _ _, imin_spec _ _, imin_spec _ _, imin_spec _ _, imin_spec _ _, imin_spec _ _, imin_spec _ _, ?_, rfl, rfl, rfl, ?_, rfl, rfl, rfl⟩
  · have : Pq c1 c2 c3 c4 (false, false, false) = imin 0 (2 * c4 + 0) := rfl
    rw [this]
    have ho := imin_o 0 (2 * c4 + 0)
    have := imin_l 0 (2 * c4 + 0)
    generalize imin 0 (2 * c4 + 0) = v at *
    rcases ho with e | e <;> omega
  · exact Int.add_zero c4
theorem q_a {v1 v3 c1 c2 c3 c4 w1 w2 w3 w5 : Int} (p : v1 = w3 ∨ v1 = 2 * c4 + w1) (o : w3 = c2 ∨ w3 = c3 + c1) (k : v3 ≤ w5) (k' : v3 ≤ 2 * c4 + w2) (l : w5 ≤ c1 + c2) (l' : w5 ≤ c3) (m : w2 ≤ 2 * w1) (m' : w1 ≤ c1) (h : 1 ≤ c1) : v3 ≤ v1 + c1 := by
  rcases p with e | e
  · rcases o with f | f <;> omega
  · omega
theorem q_b {v1 v3 c1 c2 c3 c4 w1 w2 w3 w5 : Int} (p : v3 = w5 ∨ v3 = 2 * c4 + w2) (o : w5 = c1 + c2 ∨ w5 = c3) (q : w2 = 2 * w1 ∨ w2 = c3) (k : v1 ≤ w3) (k' : v1 ≤ 2 * c4 + w1) (l : w3 ≤ c2) (l' : w3 ≤ c3 + c1) (h : 1 ≤ c1) (h' : 1 ≤ w1) (h'' : 1 ≤ c4) : v1 ≤ v3 + c1 := by
  rcases p with e | e
  · rcases o with f | f <;> omega
  · rcases q with f | f <;> omega
theorem q_c {v1 v2 c1 c2 c3 c4 w1 w3 w4 : Int} (p : v2 = w4 ∨ v2 = 2 * c4 + w1) (o : w4 = c1 ∨ w4 = c3 + c2) (k : v1 ≤ w3) (k' : v1 ≤ 2 * c4 + w1) (l : w3 ≤ c2) (l' : w3 ≤ c3 + c1) (h : 1 ≤ c3) : v1 ≤ v2 + c3 := by
  rcases p with e | e
  · rcases o with f | f <;> omega
  · omega
theorem q_d {v1 c1 c2 c3 c4 w1 w3 : Int} (p : v1 = w3 ∨ v1 = 2 * c4 + w1) (o : w3 = c2 ∨ w3 = c3 + c1) (m : w1 ≤ c1) (m' : w1 ≤ c2) (h : 1 ≤ c3) (h' : 1 ≤ c4) : w1 ≤ v1 := by
  rcases p with e | e
  · rcases o with f | f <;> omega
  · omega
theorem q_e {v3 c1 c2 c3 c4 w1 w2 w5 : Int} (p : v3 = w5 ∨ v3 = 2 * c4 + w2) (o : w5 = c1 + c2 ∨ w5 = c3) (m : w1 ≤ c1) (m' : w1 ≤ c2) (k : w2 ≤ 2 * w1) (k' : w2 ≤ c3) (h' : 1 ≤ c4) : w2 ≤ v3 := by
  rcases p with e | e
  · rcases o with f | f <;> omega
  · omega
theorem q_f {a b c : Int} (o : a = b ∨ a = c) (h : 1 ≤ b) (h' : 1 ≤ c) : 1 ≤ a := by
  rcases o with e | e <;> omega
theorem q_add {a b : Int} (h : 1 ≤ a) (h' : 1 ≤ b) : 1 ≤ a + b := by omega
theorem q_two {a : Int} (h : 1 ≤ a) : 1 ≤ 2 * a := by omega
theorem lt4 {i : Nat} (hi : i < 4) : i = 0 ∨ i = 1 ∨ i = 2 ∨ i = 3 := by omega
theorem z0 {a : Int} (h : 1 ≤ a) : 0 ≤ a := by omega
theorem z1 {a c : Int} (h : a ≤ c) : a ≤ 0 + c := by omega
theorem z2 {a c : Int} (h : 1 ≤ a) (h' : 1 ≤ c) : 0 ≤ a + c := by omega
theorem z3 {a b c : Int} (h : a ≤ b) : c + a ≤ b + c := by omega
theorem z4 {a c d : Int} (h : a ≤ d) : c + a ≤ c + d := by omega
theorem z5 {a c d : Int} (h : 1 ≤ a) (h' : 1 ≤ d) : c ≤ c + a + d := by omega
theorem z6 {a b c d : Int} (h : a ≤ b + d) : c + a ≤ c + b + d := by omega
theorem z7 {a b c : Int} (h : a ≤ 2 * c + b) : a ≤ c + b + c := by omega
theorem z8 {a c d : Int} (h : 1 ≤ d) : c + a ≤ c + a + d := by omega
theorem z9 {a b c : Int} (h : a ≤ 2 * b) (h' : b ≤ c) : a ≤ b + c := by omega
theorem za {b a c : Int} (h : b ≤ c) (h' : 1 ≤ a) : b ≤ a + c := by omega
theorem r1 {v1 v2 c1 c3 w3 : Int} (e : v1 = w3) (f : w3 = c3 + c1) (u : v1 ≤ v2 + c3) (a : v2 ≤ c1) : v2 + c3 = v1 := by omega
theorem r2 {v1 v3 c1 c2 w5 : Int} (e : v3 = w5) (f : w5 = c1 + c2) (u : v3 ≤ v1 + c1) (a : v1 ≤ c2) : v1 + c1 = v3 := by omega
theorem r3 {v1 c2 c4 w1 : Int} (e : w1 = c2) (u : w1 ≤ v1) (a : v1 ≤ c2) : v1 + c4 = c4 + w1 := by omega
theorem r4 {v c w : Int} (e : v = 2 * c + w) : c + w + c = v := by omega
theorem r5 {v c w : Int} (e : v = w) (f : w = c) : 0 + c = v := by omega
theorem r6 {c d w v : Int} (e : v = 2 * w) (f : w = d) : c + w + d = c + v := by omega
/-- and what holds of them -/
theorem P_all (h1 : 1 ≤ c1) (h2 : 1 ≤ c2) (h3 : 1 ≤ c3) (h4 : 1 ≤ c4) :
    Pq c1 c2 c3 c4 (false, false, false) = 0 ∧ (∀ q, 0 ≤ Pq c1 c2 c3 c4 q) ∧ (∀ i q, i < 4 → Pq c1 c2 c3 c4 (opS i q) ≤ Pq c1 c2 c3 c4 q + cst c1 c2 c3 c4 i) ∧
    (∀ q, q ≠ (false, false, false) → ∃ i, i < 4 ∧ Pq c1 c2 c3 c4 (opS i q) + cst c1 c2 c3 c4 i = Pq c1 c2 c3 c4 q) := by
  obtain ⟨w1, w2, w3, w4, w5, v1, v2, v3, ⟨l1, l1', o1⟩, ⟨l2, l2', o2⟩, ⟨l3, l3', o3⟩, ⟨l4, l4', o4⟩, ⟨l5, l5', o5⟩, ⟨k1, k1', p1⟩, ⟨k2, k2', p2⟩, ⟨k3, k3', p3⟩, e0, e1, e2, e3, e4, e5, e6, e7⟩ := P_num (c1 := c1) (c2 := c2) (c3 := c3) h4
  generalize hP : Pq c1 c2 c3 c4 = P at *
  have n1 : 1 ≤ w1 := q_f o1 h1 h2
  have n2 : 1 ≤ w2 := q_f o2 (q_two n1) h3
  have n3 : 1 ≤ w3 := q_f o3 h2 (q_add h3 h1)
  have n4 : 1 ≤ w4 := q_f o4 h1 (q_add h3 h2)
  have n5 : 1 ≤ w5 := q_f o5 (q_add h1 h2) h3
  have m1 : 1 ≤ v1 := q_f p1 n3 (q_add (q_two h4) n1)
  have m2 : 1 ≤ v2 := q_f p2 n4 (q_add (q_two h4) n1)
  have m3 : 1 ≤ v3 := q_f p3 n5 (q_add (q_two h4) n2)
  have u31 : v3 ≤ v1 + c1 := q_a p1 o3 k3 k3' l5 l5' l2 l1 h1
  have u32 : v3 ≤ v2 + c2 := q_a p2 o4 k3 k3' (Int.add_comm c1 c2 ▸ l5) l5' l2 l1' h2
  have u13 : v1 ≤ v3 + c1 := q_b p3 o5 o2 k1 k1' l3 l3' h1 n1 h4
  have u23 : v2 ≤ v3 + c2 := q_b p3 (Int.add_comm c1 c2 ▸ o5) o2 k2 k2' l4 l4' h2 n1 h4
  have u12 : v1 ≤ v2 + c3 := q_c p2 o4 k1 k1' l3 l3' h3
  have u21 : v2 ≤ v1 + c3 := q_c p1 o3 k2 k2' l4 l4' h3
  have t1 : w1 ≤ v1 := q_d p1 o3 l1 l1' h3 h4
  have t2 : w1 ≤ v2 := q_d p2 o4 l1' l1 h3 h4
  have t3 : w2 ≤ v3 := q_e p3 o5 l1 l1' l2 l2' h4
  have t4 : w2 ≤ w1 + c1 := z9 l2 l1
  have t5 : w2 ≤ w1 + c2 := z9 l2 l1'
  have t6 : w1 ≤ w2 + c1 := za l1 n2
  have t7 : w1 ≤ w2 + c2 := za l1' n2
  have a1 : v2 ≤ c1 := Int.le_trans k2 l4
  have a2 : v1 ≤ c2 := Int.le_trans k1 l3
  have a3 : v3 ≤ c3 := Int.le_trans k3 l5'
  refine ⟨e0, ?_, ?_, ?_⟩
  · rintro ⟨x, f, g⟩
    cases x <;> cases f <;> cases g
    · rw [e0]; exact Int.le_refl _
    · rw [e1]; exact z0 m1
    · rw [e2]; exact z0 m2
    · rw [e3]; exact z0 m3
    · rw [e4]; exact z0 h4
    · rw [e5]; exact z2 h4 n1
    · rw [e6]; exact z2 h4 n1
    · rw [e7]; exact z2 h4 n2
  · rintro i ⟨x, f, g⟩ hi
    have := lt4 hi
    rcases this with rfl | rfl | rfl | rfl <;> cases x <;> cases f <;> cases g <;>
      simp only [opS, cst, Bool.not_true, Bool.not_false, if_true, if_false, Bool.false_eq_true, e0, e1, e2, e3, e4, e5, e6, e7] <;>
      first
      | assumption
      | exact z1 (by assumption)
      | exact z1 (Int.le_refl _)
      | exact z2 (by assumption) (by assumption)
      | exact z3 (by assumption)
      | exact z7 (by assumption)
      | exact z4 (by assumption)
      | exact z5 (by assumption) (by assumption)
      | exact z6 (by assumption)
      | exact z8 (by assumption)
  · rintro ⟨x, f, g⟩ hq
    have k : ∀ i, i < 4 → P (opS i (x, f, g)) + cst c1 c2 c3 c4 i = P (x, f, g) → ∃ i, i < 4 ∧ P (opS i (x, f, g)) + cst c1 c2 c3 c4 i = P (x, f, g) := fun i h1 h2 => ⟨i, h1, h2⟩
    cases x <;> cases f <;> cases g <;> simp only [e0, e1, e2, e3, e4, e5, e6, e7] at k ⊢
    · exact absurd rfl hq
    · rcases p1 with e | e
      · rcases o3 with f | f
        · exact k 1 (by decide) (show P (false, false, false) + c2 = v1 by rw [e0]; exact r5 e f)
        · exact k 2 (by decide) (show P (false, true, false) + c3 = v1 by rw [e2]; exact r1 e f u12 a1)
      · exact k 3 (by decide) (show P (true, false, true) + c4 = v1 by rw [e5]; exact r4 e)
    · rcases p2 with e | e
      · rcases o4 with f | f
        · exact k 0 (by decide) (show P (false, false, false) + c1 = v2 by rw [e0]; exact r5 e f)
        · exact k 2 (by decide) (show P (false, false, true) + c3 = v2 by rw [e1]; exact r1 e f u21 a2)
      · exact k 3 (by decide) (show P (true, true, false) + c4 = v2 by rw [e6]; exact r4 e)
    · rcases p3 with e | e
      · rcases o5 with f | f
        · exact k 0 (by decide) (show P (false, false, true) + c1 = v3 by rw [e1]; exact r2 e f u31 a2)
        · exact k 2 (by decide) (show P (false, false, false) + c3 = v3 by rw [e0]; exact r5 e f)
      · exact k 3 (by decide) (show P (true, true, true) + c4 = v3 by rw [e7]; exact r4 e)
    · exact k 3 (by decide) (show P (false, false, false) + c4 = c4 by rw [e0]; exact Int.zero_add c4)
    · rcases o1 with e | e
      · exact k 0 (by decide) (show P (true, false, false) + c1 = c4 + w1 by rw [e4, e])
      · exact k 3 (by decide) (show P (false, false, true) + c4 = c4 + w1 by rw [e1]; exact r3 e t1 a2)
    · rcases o1 with e | e
      · exact k 3 (by decide) (show P (false, true, false) + c4 = c4 + w1 by rw [e2]; exact r3 e t2 a1)
      · exact k 1 (by decide) (show P (true, false, false) + c2 = c4 + w1 by rw [e4, e])
    · rcases o2 with f | f
      · rcases o1 with e | e
        · exact k 0 (by decide) (show P (true, true, false) + c1 = c4 + w2 by rw [e6]; exact r6 f e)
        · exact k 1 (by decide) (show P (true, false, true) + c2 = c4 + w2 by rw [e5]; exact r6 f e)
      · exact k 2 (by decide) (show P (true, false, false) + c3 = c4 + w2 by rw [e4, f])
end
end Mine
end

section
open PySem PySem.W PyProof.Rows PySem.SeqAt
set_option maxRecDepth 100000
set_option maxHeartbeats 8000000
namespace Mine
theorem dat_ints {news : List (Addr × Obj)} : ∀ {vs : List Value} {ns : List Int}, IntsAre vs ns → DatAll news vs (ns.map .int)
  | _, _, .nil => .nil
  | _, _, .cons n t h => .cons (.int n t) (dat_ints h)
theorem ints_row_append {vs us : List Value} {a b : List UInt8} (h1 : IntsAre vs (rowI a)) (h2 : IntsAre us (rowI b)) : IntsAre (vs ++ us) (rowI (a ++ b)) := by
  have : rowI (a ++ b) = rowI a ++ rowI b := by simp [rowI]
  rw [this]
  exact h1.append h2
theorem ints_row_reverse {vs : List Value} {a : List UInt8} (h1 : IntsAre vs (rowI a)) : IntsAre vs.reverse (rowI a.reverse) := by
  have : rowI a.reverse = (rowI a).reverse := by simp [rowI]
  rw [this]
  exact h1.reverse
abbrev tupO (xs : Array Value) (n : Nat) : Obj := { cls := .type "tuple", data := .seq xs n }
theorem pair_dat {news : List (Addr × Obj)} {D R : Addr} {p : Int} {t : Tok} {vs : List Value} {n1 n2 : Nat} {r : List UInt8} (h1 : (D, tupO #[.int p t, .ref R] n1) ∈ news) (h2 : (R, tupO vs.toArray n2) ∈ news) (hi : IntsAre vs (rowI r)) : DatIn news (.ref D) (pairD (p, r)) :=
  DatIn.tuple (vs := [.int p t, .ref R]) h1 (.cons (.int p t) (.cons (DatIn.tuple h2 (dat_ints hi)) .nil))
theorem News_pull {g h : Heap} {L : Addr} {pre post : List (Addr × Obj)} {x : Addr × Obj} (N : News g L h (pre ++ x :: post)) : News g L h (x :: (pre ++ post)) := fun q hq => N q (by
  rcases List.mem_cons.mp hq with rfl | hq
  · exact List.mem_append_right _ (.head _)
  · rcases List.mem_append.mp hq with hq | hq
    · exact List.mem_append_left _ hq
    · exact List.mem_append_right _ (.tail _ hq))
end Mine
end

section
open PySem PySem.W PySem.Calls PyProof.Rows PySem.SeqAt
set_option maxRecDepth 100000
set_option maxHeartbeats 4000000
namespace Mine
theorem adjust_from (a n : Nat) (ha : a ≤ n) : Builtin.Slice.sliceAdjust (some (a : Int)) none 1 (n : Int) = ((a : Int), (n : Int)) := by
  unfold Builtin.Slice.sliceAdjust
  have h1 : ¬ ((1 : Int) < 0) := by omega
  have h2 : ¬ ((a : Int) < 0) := by omega
  simp only [h1, h2, if_false]
  congr 1
  omega
theorem places_from (a n : Nat) : Builtin.Slice.slicePlaces (a : Int) (n : Int) 1 = n - a := by
  unfold Builtin.Slice.slicePlaces
  have h1 : (1 : Int) > 0 := by omega
  simp only [h1, if_true, Int.ediv_one]
  split <;> omega
theorem pick_from (xs : Array Value) (a : Nat) : ((List.range (xs.size - a)).filterMap fun (k : Nat) => xs[((a : Int) + (k : Int) * 1).toNat]?).toArray = (xs.toList.drop a).toArray := by
  have e : (fun (k : Nat) => xs[((a : Int) + (k : Int) * 1).toNat]?) = fun k => xs[a + k]? := by
    funext k
    have : ((a : Int) + (k : Int) * 1).toNat = a + k := by omega
    rw [this]
  rw [e]
  have := pick_run xs a (xs.size - a)
  rw [List.filterMap_map] at this
  have e2 : ((fun x => xs[x]?) ∘ fun x => a + x) = fun k => xs[a + k]? := rfl
  rw [e2] at this
  rw [this, List.take_of_length_le (by simp)]
section
variable {prog : Program} {w : World} {A : Around} {E : Value → Shared → Prop} {s : Shared}
theorem sliceApplied_from {sl : Addr} {a n : Nat} {u : Tok} {Q : Int × Int × Nat → Shared → Prop} (hs : s.heap.IsSliceOf sl (.int a u) .none .none) (ha : a ≤ n) (h : Q ((a : Int), 1, n - a) s) :
    wpAny (model prog w) A (Builtin.Slice.sliceApplied (.ref sl) (pure (n : Int))) Q E s := by
  obtain ⟨os, hos, hcs, hds⟩ := id hs
  unfold Builtin.Slice.sliceApplied Builtin.Slice.sliceFields
  refine wpAny_bind (wpAny_bind (wpAny_field hos hds (x := .int a u) rfl (wpAny_bind (wpAny_field hos hds (x := .none) rfl (wpAny_bind (wpAny_field hos hds (x := .none) rfl (wpAny_pure ?_)))))))
  refine wpAny_bind (slicePart_none ?_)
  show wpAny _ _ (if ((1 : Int) == 0) = true then _ else _) _ _ s
  rw [if_neg (by decide)]
  refine wpAny_bind (slicePart_int (wpAny_bind (slicePart_none (wpAny_bind (wpAny_pure ?_)))))
  show wpAny _ _ (match Builtin.Slice.sliceAdjust (some (a : Int)) none 1 (n : Int) with | (lo, hi) => pure (lo, (1 : Int), Builtin.Slice.slicePlaces lo hi 1)) _ _ s
  rw [adjust_from a n ha]
  show wpAny _ _ (pure ((a : Int), (1 : Int), Builtin.Slice.slicePlaces (a : Int) (n : Int) 1)) _ _ s
  rw [places_from a n]
  exact wpAny_pure h
end
section
variable {prog : Program} {w : World} {A : Around} {E : Value → Shared → Prop} {s : Shared} {h₀ : Heap} {L : Addr} {m : Str → Option Value} {news : List (Addr × Obj)}
theorem slice_tuple_from {value slice : Expr} {t : Addr} {vs : List Value} {u : Tok} {a : Nat} {Q : Value → Shared → Prop} {ops : List Value}
    (F : Fr h₀ L s.heap m) (N : News h₀ L s.heap news) (ht : IsTup s.heap t vs.toArray) (hz : vs.length ≤ 2 ^ 20) (h0 : 0 < a) (ha : a ≤ vs.length)
    (h : ∀ D h', Fr h₀ L h' m → News h₀ L h' ((D, { cls := .type "tuple", data := .seq (vs.drop a).toArray }) :: news) → (∀ p ∈ news, p.1 < D) → Q (.ref D) { s with heap := h' })
    (hs : subscripted slice false (.ref t) (.ref s.heap.objs.size) = operate ops (getItem (.ref t) (.ref s.heap.objs.size)) := by with_unfolding_all rfl)
    (hg : ∀ r, letTemporaryGo value (.ref t) r = pure () := by intro _; with_unfolding_all rfl) :
    wpAny (model prog w) A (subscriptTail value slice (.ref t) (.ref s.heap.objs.size)) Q E { s with heap := s.heap.push { cls := .type "slice", data := .fields #[.int (a : Int) u, .none, .none] } } := by
  have ht' : IsTup (s.heap.push { cls := .type "slice", data := .fields #[.int (a : Int) u, .none, .none] }) t vs.toArray := ht.keeps fun _ _ e => Heap.get?_push_of_some _ e
  refine subscriptTail_ops (s := { s with heap := s.heap.push { cls := .type "slice", data := .fields #[.int (a : Int) u, .none, .none] } }) ht'.typeIs slot_tuple_getitem.lookup
    (getItem_tuple_gen (zs := (vs.drop a).toArray) ht' (Heap.IsSliceOf.new ..) (fun A' Q' hq => sliceApplied_from (Heap.IsSliceOf.new ..) (by rw [List.size_toArray]; omega) hq) ?_ (pick_from vs.toArray a) (by rw [List.size_toArray, List.length_drop, sizeLine_eq]; omega) ?_) hs hg
  · have : ((a : Int) == 0) = false := by rw [beq_eq_false_iff_ne]; omega
    rw [this]; simp
  have N1 := News.push (F.push { cls := .type "slice", data := .fields #[.int (a : Int) u, .none, .none] }) (N.grown fun _ _ e => Heap.get?_push_of_some _ e) { cls := .type "tuple", data := .seq (vs.drop a).toArray }
  exact h _ _ ((F.push _).push _) N1 fun p hp => by
    rw [Heap.size_push]
    exact Nat.lt_succ_of_lt (Heap.lt_size (N p hp).1)
end
end Mine
end

section
open PySem PySem.W PyProof.Rows PySem.SeqAt
set_option maxRecDepth 100000
set_option maxHeartbeats 8000000
namespace Mine
theorem any_rows (r : List UInt8) : ∀ rs : List (List UInt8), ((kqdPs (rs.map rowD)).any fun y => PyData.eqv y (kqdP (rowD r))) = decide (r ∈ rs)
  | [] => by simp [kqdPs]
  | q :: rs => by
    have ih := any_rows r rs
    have e := kqd_eqv 1 (rowD q) (rowD r) 1 (rowOk 0 q) (rowOk 0 r)
    have e2 : PyData.eqv (kqdP (rowD q)) (kqdP (rowD r)) = decide (q = r) := by
      by_cases h : q = r
      · rw [decide_eq_true h]; exact e.mpr (by rw [h])
      · rw [decide_eq_false h]
        cases hb : PyData.eqv (kqdP (rowD q)) (kqdP (rowD r)) with
        | false => rfl
        | true => exact absurd (rowD_inj (e.mp hb)) h
    simp only [List.map_cons, kqdPs, List.any_cons, ih, e2]
    by_cases h : q = r
    · subst h; simp
    · have h' : ¬ r = q := fun x => h x.symm
      by_cases h2 : r ∈ rs <;> simp [h, h', h2]

section
variable {prog : Program} {w : World} {A : Around} {E : Value → Shared → Prop} {s : Shared} {h₀ : Heap} {L D : Addr} {news : List (Addr × Obj)} {n : Nat} {us : List Value} {rs : List (List UInt8)} {r : List UInt8} {v : Value} {Q : Value → Shared → Prop}
theorem rows_reads (N : News h₀ L s.heap news) (hD : (D, listOf us.toArray n) ∈ news) (hd : DatAll news us (rs.map rowD)) : ∃ as, Reads s.heap (.ref D) (.list (kqdPs (rs.map rowD))) as := by
  obtain ⟨as, ra⟩ := kqd_in N 3 (DatIn.list hD hd) (by simp only [kqdOk, List.all_map, List.all_eq_true]; exact fun x _ => rowOk 1 x)
  rw [kqdP] at ra
  exact ⟨as, ra⟩
theorem rows_lay : PyData.canLayAll0 (kqdPs (rs.map rowD)) = true ∧ PyData.depthAll (kqdPs (rs.map rowD)) ≤ 2 := by
  have := kqd_lay 3 (.list (rs.map rowD)) (by simp only [kqdOk, List.all_map, List.all_eq_true]; exact fun x _ => rowOk 1 x)
  simp only [kqdP, PyData.canLay0, PyData.depth] at this
  exact ⟨this.1, by omega⟩
theorem in_rows (N : News h₀ L s.heap news) (hD : (D, listOf us.toArray n) ∈ news) (hd : DatAll news us (rs.map rowD)) (hv : DatIn news v (rowD r)) (hu : A.units + 8 < cLine) (h : Q (.bool (decide (r ∈ rs))) s) :
    wpAny (model prog w) A (compareOp .In v (.ref D)) Q E s := by
  obtain ⟨as, ra⟩ := rows_reads N hD hd
  obtain ⟨bs, rb⟩ := kqd_in N 2 hv (rowOk 1 r)
  have lb := kqd_lay 2 (rowD r) (rowOk 1 r)
  have la := rows_lay (rs := rs)
  refine in_list_reads ra rb la.1 lb.1 (by have := la.2; omega) ?_
  rw [any_rows]; exact h
theorem notIn_rows (N : News h₀ L s.heap news) (hD : (D, listOf us.toArray n) ∈ news) (hd : DatAll news us (rs.map rowD)) (hv : DatIn news v (rowD r)) (hu : A.units + 8 < cLine) (h : Q (.bool (!decide (r ∈ rs))) s) :
    wpAny (model prog w) A (compareOp .NotIn v (.ref D)) Q E s := by
  obtain ⟨as, ra⟩ := rows_reads N hD hd
  obtain ⟨bs, rb⟩ := kqd_in N 2 hv (rowOk 1 r)
  have lb := kqd_lay 2 (rowD r) (rowOk 1 r)
  have la := rows_lay (rs := rs)
  refine notIn_list_reads ra rb la.1 lb.1 (by have := la.2; omega) ?_
  rw [any_rows]; exact h
end
end Mine
end

section
open PySem PySem.W PyProof.Rows PySem.SeqAt
set_option maxRecDepth 100000
set_option maxHeartbeats 8000000
namespace Mine
theorem bytes_len : typeLookup (.type "bytes") "__len__" = pure (some (.builtin "bytes.__len__")) := by rw [typeLookup_type, builtinLookup_eq_fast]; kernel_rfl
def ByteAt (b : Array UInt8) (i : Nat) (v : Value) : Prop := ∃ c u, b[i]? = some c ∧ v = .int (c.toNat : Int) u
section
variable {prog : Program} {w : World} {A : Around} {E : Value → Shared → Prop} {s : Shared}

theorem collect_bytes {Q : List Value → Shared → Prop} (hh : A.handled = none) (x : Array UInt8) (t : Tok)
    (hQ : ∀ s' acc, (∀ b o, s.heap.get? b = some o → s'.heap.get? b = some o) → s'.gens = s.gens → s'.drawn = s.drawn → s'.os = s.os → ItemsOf (ByteAt x) acc x.size → Q acc.toList s') (hn : x.size ≤ sizeLine) :
    wpAny (model prog w) A (collect (.bytes x t)) Q E s := by
  unfold collect
  refine wpAny_bind (wpAny_runValue (codeAny_builtin F.entry_proto_collect ?_))
  rw [Around.under_plainId F.plain_proto_collect _]
  show wpAny _ A.in1 (newList [] >>= fun l => again (.builtin "list.__iadd__" ⟨[l, .bytes x t], []⟩)) _ _ s
  refine wpAny_bind (wpAny_newObj_type ?_)
  refine wpAny_pure ⟨plainId_quiet F.plain_list_iadd _, codeAny_builtin F.entry_list_iadd ?_⟩
  rw [Around.under_plainId F.plain_list_iadd _]
  show wpAny _ A.in1 (Builtin.List.listExtendWith (.ref s.heap.objs.size) (.bytes x t) (.ref s.heap.objs.size)) _ _ _
  unfold Builtin.List.listExtendWith
  refine wpAny_bind (wpAny_typeOf (T := "bytes") (v := .bytes x t) rfl ?_)
  have h1 : Builtin.List.listSameRef (.ref s.heap.objs.size) (.bytes x t) = false := rfl
  have h2 : (Value.type "bytes" == Value.type "list") = false := by decide
  have h3 : (Value.type "bytes" == Value.type "tuple") = false := by decide
  simp only [h1, h2, h3, Bool.or_false, Bool.false_eq_true, if_false]
  refine wpAny_bind (KBw.pyIter_bytes ?_)
  refine wpAny_bind (wpAny_holding ?_)
  unfold Builtin.List.listLengthHint
  refine wpAny_bind (wpAny_specialOf (T := "bytes") (v := .bytes x t) rfl bytes_len ?_)
  wp_delta
  refine wpAny_bind (wpAny_isInstance (T := "bytes") (v := .bytes x t) (b := true) rfl (by rw [isSubtype_type]; kernel_rfl) ?_)
  show wpAny _ A.in1 (typeOf (Value.bytes x t) >>= _) _ _ _
  refine wpAny_bind (wpAny_typeOf (T := "bytes") (v := .bytes x t) rfl ?_)
  refine wpAny_pure ?_
  rw [if_neg (by decide)]
  generalize hH : s.heap.push { cls := .type "list", data := .seq ([] : List Value).toArray } = H
  have hHs : H.objs.size = s.heap.objs.size + 1 := by rw [← hH, Heap.size_push]
  have hSf : s.heap.objs.size ∉ [H.objs.size] := fun hm => by rw [List.mem_singleton.mp hm] at hHs; exact absurd hHs (Nat.ne_of_lt (Nat.lt_succ_self _))
  have hS : (H.push { cls := .type "bytes_iterator", data := .fields #[.bytes x t, .int 0 0] }).get? s.heap.objs.size = some { cls := .type "list", data := .seq ([] : List Value).toArray } := Heap.get?_push_of_some _ (hH ▸ Heap.get?_push_size _ rfl)
  have W := KBw.walks (prog := prog) (w := w) (A := A.in1) hh H.objs.size x t
  have hst : KBw.IsBytesIter (H.push { cls := .type "bytes_iterator", data := .fields #[.bytes x t, .int 0 0] }) H.objs.size x t 0 := ⟨_, Heap.get?_push_size _ rfl, rfl, rfl⟩
  refine wpAny_pure ⟨plainId_quiet F.plain_extend_loop _, codeAny_extend_loopS W.toS hn _ hSf _ x.size 0 _ _ _ rfl (Nat.zero_le _) hst hS (ItemsOf.nil _) fun s' acc' c' hm hS' hacc => ?_⟩
  show wpAny _ A (load s.heap.objs.size >>= _) _ _ s'
  refine wpAny_bind (wpAny_load hS' ?_)
  refine wpAny_pure (hQ s' acc' (fun b ob e => hm.heap b ob (fun hb => ?_) (Heap.get?_push_of_some _ (hH ▸ Heap.get?_push_of_some _ e))) hm.gens hm.drawn hm.os hacc)
  have hlt := Heap.lt_size e
  rcases List.mem_cons.mp hb with h | h
  · exact absurd hlt (h ▸ Nat.lt_irrefl _)
  · rw [List.mem_singleton.mp h, hHs] at hlt; exact absurd hlt (Nat.not_lt.mpr (Nat.le_succ _))
end
theorem meets_tuple_new_bytes (x : Array UInt8) (t : Tok) (hsz : x.size ≤ sizeLine) :
    Meets (Builtin.«tuple.__new__» ⟨[.type "tuple", .bytes x t], []⟩)
      (fun A R s => A.handled = none ∧ ∀ (s' : Shared) (acc : Array Value), (∀ b o, s.heap.get? b = some o → s'.heap.get? b = some o) → s'.gens = s.gens → s'.drawn = s.drawn → s'.os = s.os → ItemsOf (ByteAt x) acc x.size →
        R (.ok (.ret (.ref s'.heap.objs.size))) { s' with heap := s'.heap.push { cls := .type "tuple", data := .seq acc } }) :=
  .of_wp fun prog w A R s h => by
    obtain ⟨hh, h⟩ := h
    have hsub := sub_tuple_self
    have hinit := init_tuple_lookup
    have hmh := madeHere_tuple
    have hT : s.TypeIs (.bytes x t) "bytes" := rfl
    have hh1 : A.in1.handled = none := hh
    wp_walk using wpAny_typeOf hT, collect_bytes (hn := hsz) hh1 x t
    intro s' acc hk hg hd hos hacc
    show wpAny _ _ (Builtin.Tuple.tupleExact acc.toList.toArray >>= fun v => ret v) _ _ _
    unfold Builtin.Tuple.tupleExact
    refine wpAny_bind (wpAny_newObj_type ?_ (show acc.toList.toArray.size ≤ sizeLine by simp only [Array.toArray_toList]; rw [hacc.1]; exact hsz))
    refine wpAny_pure ⟨_, rfl, ?_⟩
    have e : acc.toList.toArray = acc := by simp
    rw [e]
    exact h s' acc hk hg hd hos hacc

theorem dat_bytes {news : List (Addr × Obj)} : ∀ (r : List UInt8) (vs : List Value), vs.length = r.length → (∀ j v, vs[j]? = some v → ByteAt r.toArray j v) → DatAll news vs ((rowI r).map .int)
  | [], [], _, _ => .nil
  | [], _ :: _, h, _ => by simp at h
  | _ :: _, [], h, _ => by simp at h
  | c :: r, v :: vs, h, k => by
    obtain ⟨c', u, e, rfl⟩ := k 0 v rfl
    have e' : c = c' := by simpa using e
    subst e'
    refine .cons (.int _ u) (dat_bytes r vs (by simpa using h) fun j v hj => ?_)
    obtain ⟨c', u, e, rfl⟩ := k (j + 1) v (by simpa using hj)
    exact ⟨c', u, by simpa using e, rfl⟩

section
variable {prog : Program} {w : World} {A : Around} {E : Value → Shared → Prop} {s : Shared} {h₀ : Heap} {L : Addr} {m : Str → Option Value} {news : List (Addr × Obj)}
theorem call_tuple_bytes {Q : Value → Shared → Prop} {r : List UInt8} {t : Tok} (hh : A.handled = none) (hsz : r.length ≤ 2 ^ 20) (F : Fr h₀ L s.heap m) (N : News h₀ L s.heap news)
    (h : ∀ h' tk d vs, Fr h₀ L h' m → News h₀ L h' ((d, { cls := .type "tuple", data := .seq vs.toArray 0 }) :: news) → (∀ p ∈ news, p.1 < d) → (∀ nw, DatAll nw vs ((rowI r).map .int)) → Q (.ref d) { s with heap := h', toks := tk }) :
    wpAny (model prog w) A (call (.type "tuple") [.bytes r.toArray t]) Q E s := by
  have hz : r.toArray.size ≤ sizeLine := by rw [List.size_toArray, sizeLine_eq]; omega
  refine callType_new PySem.F.called_tuple (by decide) (PySem.F.typeCall_tuple_1 _) (PySem.F.newCall_tuple_1 _) (fun obj => PySem.F.args_object_init_2 obj _) PySem.F.entry_tuple_new
    (meets_tuple_new_bytes r.toArray t hz) ⟨hh, fun s' acc hk hg hd hos hacc => ⟨⟨_, Heap.get?_push_size _ rfl, rfl⟩, ?_⟩⟩
  obtain ⟨h', g', d', tk', os'⟩ := s'
  have e1 : g' = s.gens := hg
  have e2 : d' = s.drawn := hd
  have e3 : os' = s.os := hos
  subst e1 e2 e3
  have k2 : ∀ b o, s.heap.get? b = some o → (h'.push { cls := .type "tuple", data := .seq acc }).get? b = some o := fun b o e => Heap.get?_push_of_some _ (hk b o e)
  have F1 := Fr_ext F hk
  have N1 := News_ext N hk
  refine h _ _ h'.objs.size acc.toList (Fr_ext F k2) ?_ (fun p hp => Heap.lt_size (N1 p hp).1) (fun nw => dat_bytes r acc.toList ?_ ?_)
  · exact News_new F1 N1 (fun b o e => Heap.get?_push_of_some _ e) (by rw [Array.toArray_toList]; exact Heap.get?_push_size _ rfl)
  · have := hacc.1; simpa using this
  · intro j v hj
    exact hacc.2 j v (by simpa using hj)
end
end Mine
end

section
open PySem PySem.W PyProof.Rows PySem.SeqAt
set_option maxRecDepth 100000
set_option maxHeartbeats 8000000
namespace Mine
theorem fillKT (P : Params) : Mine.hx.heap_39 P = Mine.hx.heap_39 P ∧ PySem.Challenge.rw_nq0011_01 = PySem.Challenge.rw_nq0011_01 := by
  k_fill
  exact ⟨rfl, rfl⟩

/-- the four rows made of a row -/
def turns (wd : Nat) (r : List UInt8) : List (List UInt8) := [(r.take wd).reverse ++ r.drop wd, r.take wd ++ (r.drop wd).reverse, (r.take wd).reverse ++ (r.drop wd).reverse, r.reverse]
def pushes (wd : Nat) (cs : List Int) (x : Pr) : List Pr := List.zipWith (fun c r => (x.1 + c, r)) cs (turns wd x.2)

section
variable {prog p : Program} {w : World} {A : Around} {s : Shared} {h₀ : Heap} {L : Addr} {m mg mb : Str → Option Value} {loose : List Str} {rest : List (Addr × Obj)}

local macro_rules | `(tactic| k_all) => `(tactic| assumption)
local macro_rules | `(tactic| walk_at "exec While Name cons nil") => `(tactic| with_reducible refine halt ?_)
local macro_rules | `(tactic| walk_at "eval ListComp") => `(tactic| with_reducible refine halt ?_)
local macro_rules | `(tactic| walk_at "truthy ref") => `(tactic| with_reducible refine halt ?_)
local macro_rules | `(tactic| walk_at "call ref cons nil") => `(tactic| with_reducible refine halt ?_)
local macro_rules | `(tactic| walk_at "storeName") => `(tactic| (k_here; k_dflt (refine' storeX_L ?F ?N ?_ ?a ?b; (case F => k_asm); (case N => k_asm); (case a => rfl); (case b => rfl); k_whole; intro h' F' N'; (try dsimp only at F'); (try dsimp only); (try k_sweep))))
local macro_rules | `(tactic| walk_at "eval Name") => `(tactic| (k_here; k_dflt (refine' ld ?k1 ?k2 ?_; (case k1 => k_asm); (case k2 => assumption); k_whole)))

local macro_rules | `(tactic| walk_at "subscriptTail Name Slice bytes ref") => `(tactic| (k_here; (with_reducible rename Fr _ _ _ _ => F'); (with_reducible rename News _ _ _ _ => N'); (first | refine cutTo (s := ⟨_, _, _, _, _⟩) F' N' (by assumption) ?_ | refine cutFrom (s := ⟨_, _, _, _, _⟩) F' N' (by assumption) ?_); clear F' N'; intro h' t' k' F' N'; (try dsimp only at F'); (try dsimp only)))

local macro_rules | `(tactic| walk_at "binaryOp Add bytes bytes") => `(tactic| (k_here; refine bytes_add_K (by simp; omega) rfl ?_; intro t' k'; (try dsimp only)))

local macro_rules | `(tactic| walk_at "eval Name") => `(tactic| (k_here; (with_reducible show wpAny _ _ (eval (Expr.Name _ _) (compEnvC _ _ _ _)) _ _ _); k_dflt (first
  | refine LCgL.ld_own (by k_asm) (by k_mem) (by assumption) (by assumption) ?_
  | refine ld_builtR (by k_asm) (by k_asm) (by k_asm) (by k_is) (by boot_by_name) (by decide) ?_)))

local macro_rules | `(tactic| walk_at "CompEnd none") => `(tactic| (refine LCg.CompEnd.intro (by k_asm) (by k_asm) _ (fun p h => h) (by assumption) (.inr ⟨_, .head _, rfl, _, rfl⟩) ?_))

local macro_rules | `(tactic| walk_at "exec For Tuple Call cons nil") => `(tactic| with_reducible refine halt ?_)
local macro_rules | `(tactic| walk_at "call type:zip cons nil") => `(tactic| with_reducible refine halt ?_)

/-- between the turns -/
def TdI (Inv : List Pr → List Pr → Prop) (s : Shared) (g : Heap) (L' l Tl P : Addr) (wd : Nat) (t1 : Tok) (rest : List (Addr × Obj)) (k : Nat) (s' : Shared) : Prop :=
  ∃ zs ts nz nt rest' m' h' tk', s' = { s with heap := h', toks := tk' } ∧ Fr g L' h' m' ∧ News g L' h' ((l, listOf (valsOf zs).toArray nz) :: (Tl, listOf (valsOf ts).toArray nt) :: rest') ∧ (∀ q ∈ rest, q ∈ rest') ∧
    (∀ q ∈ rest', q.1 ≠ l) ∧ (∀ q ∈ rest', q.1 ≠ Tl) ∧ Good rest' zs ∧ Good rest' ts ∧ HeapOk ilt2 zs ∧ Inv (zs.map (·.2)) (ts.map (·.2)) ∧
    m' (Str.ofString "heap") = some (.ref l) ∧ m' (Str.ofString "told") = some (.ref Tl) ∧ m' (Str.ofString "width") = some (.int (wd : Int) t1) ∧ m' (Str.ofString "prices") = some (.ref P) ∧ k = 5 * (8 - ts.length) + zs.length

abbrev Q4 := Int × Tok × List UInt8 × Tok
def itm (q : Q4) : Itm := .pair (fun _ => .int q.1 q.2.1) (.bytes q.2.2.1.toArray q.2.2.2)
/-- between the pushes -/
def FoI (I l Tl P : Addr) (wd : Nat) (t1 : Tok) (pr : Int) (tp : Tok) (rs keep : List (Addr × Obj)) (ts : List It) (nt : Nat) (tgt : List Pr) (its : List Itm) (mm : Str → Option Value) (news : List (Addr × Obj)) : Prop :=
  ∃ (qs : List Q4) (zs : List It) (nz : Nat) (rs' : List (Addr × Obj)), its = qs.map itm ∧ news = (l, listOf (valsOf zs).toArray nz) :: (Tl, listOf (valsOf ts).toArray nt) :: rs' ∧ (∀ q ∈ rs, q ∈ rs') ∧ (∀ q ∈ keep, q ∈ rs') ∧
    (∀ q ∈ rs', q.1 ≠ l) ∧ (∀ q ∈ rs', q.1 ≠ Tl) ∧ (∀ q ∈ news, @LT.lt Nat _ q.1 I ∨ @LT.lt Nat _ (I + 4) q.1) ∧ Good rs' zs ∧ HeapOk ilt2 zs ∧ (zs.map (·.2) ++ qs.map fun q => (pr + q.1, q.2.2.1)).Perm tgt ∧ zs.length + qs.length ≤ 200 ∧
    (∀ q ∈ qs, q.2.2.1.length ≤ 2 ^ 20) ∧ mm (Str.ofString "heap") = some (.ref l) ∧ mm (Str.ofString "told") = some (.ref Tl) ∧ mm (Str.ofString "width") = some (.int (wd : Int) t1) ∧ mm (Str.ofString "prices") = some (.ref P) ∧ mm (Str.ofString "price") = some (.int pr tp)

theorem td_start {Inv : List Pr → List Pr → Prop} {g h : Heap} {L' l Tl P d : Addr} {m' : Str → Option Value} {n1 n2 n3 wd : Nat} {t t1 : Tok} {sv : Value} {start : List UInt8}
    (F1 : Fr g L' h m') (N1 : News g L' h ((Tl, listOf #[] n1) :: (l, listOf #[.ref d] n2) :: (d, { cls := .type "tuple", data := .seq #[.int 0 t, sv] n3 }) :: rest))
    (a1 : ∀ q ∈ rest, q.1 < d) (a2 : d < l ∧ AllLt l rest) (a3 : l < Tl ∧ d < Tl ∧ AllLt Tl rest) (hsv : DatIn rest sv (rowD start)) (hinit : Inv [(0, start)] [])
    (e1 : m' (Str.ofString "heap") = some (.ref l)) (e2 : m' (Str.ofString "told") = some (.ref Tl)) (e3 : m' (Str.ofString "width") = some (.int (wd : Int) t1)) (e4 : m' (Str.ofString "prices") = some (.ref P)) :
    ∀ tk, TdI Inv s g L' l Tl P wd t1 rest 41 { s with heap := h, toks := tk } := by
  have lt1 : @LT.lt Nat _ d l := a2.1
  have lt2 : @LT.lt Nat _ l Tl := a3.1
  intro tk
  refine ⟨[(.ref d, (0, start))], [], n2, n1, (d, { cls := .type "tuple", data := .seq #[.int 0 t, sv] n3 }) :: rest, m', h, tk, rfl, F1, ?_, fun q hq => .tail _ hq, ?_, ?_, ?_, ?_, ?_, hinit, e1, e2, e3, e4, rfl⟩
  · intro q hq
    rcases List.mem_cons.mp hq with rfl | hq
    · exact N1 _ (.tail _ (.head _))
    · rcases List.mem_cons.mp hq with rfl | hq
      · exact N1 _ (.head _)
      · exact N1 _ (.tail _ (.tail _ hq))
  · intro q hq
    rcases List.mem_cons.mp hq with rfl | hq
    · exact Nat.ne_of_lt lt1
    · exact Nat.ne_of_lt (Nat.lt_trans (a1 q hq) lt1)
  · intro q hq
    rcases List.mem_cons.mp hq with rfl | hq
    · exact Nat.ne_of_lt (Nat.lt_trans lt1 lt2)
    · exact Nat.ne_of_lt (Nat.lt_trans (a1 q hq) (Nat.lt_trans lt1 lt2))
  · intro z hz
    rw [List.mem_singleton.mp hz]
    exact DatIn.tuple (vs := [.int 0 t, sv]) (.head _) (.cons (.int 0 t) (.cons (hsv.mono fun _ h => .tail _ h) .nil))
  · intro z hz; cases hz
  · intro i a b hi ha hb
    cases i with
    | zero => omega
    | succ i => simp at ha

theorem told_X {sv : Value} {start : List UInt8} {wd : Nat} {t1 : Tok} {P : Addr} {np : Nat} {c1 c2 c3 c4 : Int} {u1 u2 u3 u4 : Tok} {Q E : Value → Shared → Prop} (Inv : List Pr → List Pr → Prop)
    (hperm : ∀ H H' T, H.Perm H' → Inv H T → Inv H' T)
    (hskip : ∀ x H T, Inv (x :: H) T → (∀ y ∈ H, plt y x = false) → x.2 ∈ T.map (·.2) → Inv H T)
    (htake : ∀ x H T, Inv (x :: H) T → (∀ y ∈ H, plt y x = false) → x.2 ∉ T.map (·.2) → Inv (H ++ pushes wd [c1, c2, c3, c4] x) (T ++ [x]))
    (hlen : ∀ H T, Inv H T → T.length ≤ 8 ∧ H.length ≤ 100 ∧ ∀ x ∈ H, x.2.length = 2 * wd)
    (hinit : Inv [(0, start)] [])
    (F : Fr h₀ L s.heap m) (X : (Mine.hx.heap_39 w.params).In h₀) (N : News h₀ L s.heap rest) (T : TopRead p loose mg mb h₀)
    (hsv : DatIn rest sv (rowD start)) (hP : (P, listOf [.int c1 u1, .int c2 u2, .int c3 u3, .int c4 u4].toArray np) ∈ rest) (hwd : 0 < wd) (hwz : wd ≤ 100)
    (hdp : A.depth + 4 < recursionLimit) (hh : A.handled = none) (hu : A.units + 200 < cLine)
    (h : ∀ Tl ts nt rest' h' tk, Fr h₀ L h' m → News h₀ L h' ((Tl, listOf (valsOf ts).toArray nt) :: rest') → (∀ q ∈ rest, q ∈ rest') → (∀ q ∈ rest', q.1 ≠ Tl) → Good rest' ts → ts.length ≤ 8 → Inv [] (ts.map (·.2)) → Q (.ref Tl) { s with heap := h', toks := tk }) :
    wpX (model prog w) A (call (.ref 54) [sv, .int (wd : Int) t1, .ref P]) Q E s := by
  refine' callMyX (binds := [(Str.ofString "start", sv), (Str.ofString "width", .int (wd : Int) t1), (Str.ofString "prices", .ref P)]) F X N T ?k6 ?k7 ?k8 ?k9 ?kB ?_ ?c2 ?c3 ?c4 ?c5
  (case k6 => k_is)
  (case k7 => k_is)
  (case k8 => omega)
  (case k9 => rfl)
  (case kB => exact locs rfl)
  (case c2 => exact rfl)
  (case c3 => exact rfl)
  (case c4 => exact rfl)
  (case c5 => decide)
  intro g L' h' FG' F' N' X' T'
  refine wpX_leaf ?_
  k_fold
  repeat' walk1
  refine wpX_leaf ?_
  k_fold
  repeat' walk1
  rename Fr _ _ _ _ => F1
  rename News _ _ _ _ => N1
  have I0 := td_start (s := s) F1 N1 (by assumption) (by assumption) (by assumption) hsv hinit rfl rfl rfl rfl
  rename_i l hA lA hB Tl hC lC hD
  clear F1 N1
  refine wpX_execs_cons ?_
  refine wpX_mono (whileX (E := NoE) (Q := fun f s' => f = .next ∧ ∃ ts nz nt rest' m' h' tk', s' = { s with heap := h', toks := tk' } ∧ Fr g L' h' m' ∧ News g L' h' ((l, listOf #[] nz) :: (Tl, listOf (valsOf ts).toArray nt) :: rest') ∧ (∀ q ∈ rest, q ∈ rest') ∧
    (∀ q ∈ rest', q.1 ≠ l) ∧ (∀ q ∈ rest', q.1 ≠ Tl) ∧ Good rest' ts ∧ Inv [] (ts.map (·.2)) ∧ m' (Str.ofString "told") = some (.ref Tl)) (TdI Inv s g L' l Tl P wd t1 rest) 41 (I0 _) ?turn) ?fin (fun _ _ x => x)
  case fin =>
    rintro _ _ ⟨rfl, ts, nz, nt, rest', m', h2, tk2, rfl, F2, N2, r1, r2, r3, G2, I2, e1⟩
    dsimp only
    refine wpX_any ?_
    k_fold
    repeat' walk1
    exact ⟨_, _, F2, fun q hq => N2 q (.tail _ hq), fun F3 N3 => h Tl ts nt rest' _ _ F3 N3 r1 r3 G2 (by have := (hlen _ _ I2).1; simpa using this) I2⟩
  case turn =>
    rintro k s' ⟨zs, ts, nz, nt, rest', m', h2, tk2, rfl, F2, N2, r1, r2, r3, Gz, Gt, Hz, I2, e1, e2, e3, e4, hk⟩
    repeat' walk1
    have hzl : zs.length ≤ 100 := by have := (hlen _ _ I2).2.1; simpa using this
    refine unhalt (truthZ (by assumption) (by omega) ?_)
    intro tk3
    have hcases : zs = [] ∨ ∃ zs0 y, zs = zs0 ++ [y] := by
      rcases List.eq_nil_or_concat zs with h | ⟨zs0, y, h⟩
      · exact .inl h
      · exact .inr ⟨zs0, y, by simpa using h⟩
    rcases hcases with rfl | ⟨zs0, y, rfl⟩
    · rw [if_neg (by simp)]
      exact ⟨rfl, ts, nz, nt, rest', m', h2, _, rfl, F2, N2, r1, r2, r3, Gt, I2, e2⟩
    · rw [if_pos (by simp)]
      have hlT : @Ne Nat l Tl := Nat.ne_of_lt lC.1
      have r4 : ∀ q ∈ (Tl, listOf (valsOf ts).toArray nt) :: rest', q.1 ≠ l := fun q hq => by
        rcases List.mem_cons.mp hq with rfl | hq
        · exact Ne.symm hlT
        · exact r2 q hq
      refine wpX_leaf ?_
      k_fold
      repeat' walk1
      simp only [List.length_append, List.length_singleton] at hzl hk
      refine unhalt (pop_spec F2 X' N2 T' r4 (Gz.mono fun _ h => .tail _ h) (by omega) (by show A.depth + 1 + 2 < recursionLimit; omega) (by show A.units + 3 + 80 < cLine; omega) ?_)
      intro r zs1 n1 h3 tk4 F3 N3 hpop
      obtain ⟨hH1, hP1, hM1⟩ := pop_ok ord_ilt2 y Hz
      rw [← hpop] at hH1 hP1 hM1
      dsimp only at hH1 hP1 hM1
      have Gr : DatIn rest' r.1 (pairD r.2) := Gz r (hP1.subset (.head _))
      obtain ⟨ap, np1, tp, rv, hv, hm, hrv⟩ := Good.open Gr
      rw [hv]
      have hm3 : (ap, ({ cls := .type "tuple", data := .seq #[.int r.2.1 tp, rv] np1 } : Obj)) ∈ (l, listOf (valsOf zs1).toArray n1) :: (Tl, listOf (valsOf ts).toArray nt) :: rest' := .tail _ (.tail _ hm)
      repeat' walk1
      refine assign2 hh F3 N3 hm3 rfl rfl rfl ?_
      intro h4 tk5 F4 N4
      k_unfold
      dsimp only
      clear F3 N3 F2 N2
      refine wpX_leaf ?_
      k_fold
      repeat' walk1
      -- TAIL
      replace F4 : Fr g L' h4 _ := F4
      replace N4 : News g L' h4 _ := N4
      refine' unhalt (rows_comp (zs := ts) (rest := rest') hh Gt ?c0 ?c1 ?c1b ?c1c ?c2 ?c3 ?c4 ?c5 ?_)
      case c0 => have := (hlen _ _ I2).1; simp at this; omega
      case c1 => decide
      case c1b => decide
      case c1c => decide
      case c2 => rfl
      case c3 => rfl
      case c4 => rfl
      case c5 => decide
      refine wpAny_Name' rfl rfl F4.ns e2 ?_
      refine ⟨Tl, rfl, ⟨_, (N4 _ (.tail _ (.head _))).1, rfl, nt, rfl⟩, (fun q hq => (N4 q (.tail _ (.tail _ hq))).1), ?_⟩
      intro us h5 tk6 n5 keep5 hD5 hdat5
      have N5 := News_at F4 N4 keep5 (Nat.le_succ _) hD5
      have F5 := Fr_ext F4 keep5
      clear F4 N4 hm3
      dsimp only
      have sub5 : ∀ q ∈ rest', q ∈ (h4.objs.size + 1, listOf us.toArray n5) :: (l, listOf (valsOf zs1).toArray n1) :: (Tl, listOf (valsOf ts).toArray nt) :: rest' := fun q hq => .tail _ (.tail _ (.tail _ hq))
      refine in_rows (rs := ts.map fun z => z.2.2) (r := r.2.2) N5 (.head _) ((by rw [List.map_map]; exact hdat5 : DatAll _ us _).mono sub5) (hrv.mono sub5) (by show A.units + 3 + 8 < cLine; omega) ?_
      replace N5 : News g L' h5 _ := fun q hq => N5 q (.tail _ hq)
      have Gz1 : Good rest' zs1 := fun z hz => Gz z (hP1.subset (.tail _ hz))
      have I3 : Inv (r.2 :: zs1.map (·.2)) (ts.map (·.2)) := hperm _ _ _ (hP1.symm.map (·.2)) I2
      have hM2 : ∀ y ∈ zs1.map (·.2), plt y r.2 = false := fun y hy => by
        obtain ⟨z, hz, rfl⟩ := List.mem_map.mp hy
        exact hM1 z hz
      have hl1 : zs1.length = zs0.length := by have := hP1.length_eq; simp at this; omega
      have hts : (ts.map (·.2)).map (·.2) = ts.map fun z => z.2.2 := by rw [List.map_map]; rfl
      clear keep5 hD5 hdat5 sub5 us
      by_cases hin : r.2.2 ∈ ts.map fun z => z.2.2
      · rw [decide_eq_true hin]
        repeat' walk1
        refine ⟨_, ?_, zs1, ts, n1, nt, rest', _, _, _, rfl, F5, N5, r1, r2, r3, Gz1, Gt, hH1, hskip _ _ _ I3 hM2 (hts ▸ hin), e1, e2, e3, e4, rfl⟩
        omega
      rw [decide_eq_false hin]
      repeat' walk1
      clear Gz Hz I2 hP1 hM1 hpop hv hm Gr
      refine wpX_leaf ?_
      k_fold
      repeat' walk1
      rename Fr g L' _ _ => F6
      rename News g L' _ _ => N6
      rename _ ∧ _ ∧ AllLt _ rest' => lD
      rename_i d h6
      have offd : ∀ q ∈ rest', q.1 ≠ d := fun q hq => Nat.ne_of_lt (kst_ltOf lD.2.2 q hq)
      have hdl : @Ne Nat d l := Nat.ne_of_gt lD.1
      have hdT : @Ne Nat d Tl := Nat.ne_of_gt lD.2.1
      refine appendZ (x := (.ref d, r.2)) F6 (News_rotA N6) (fun q hq => ?_) (by have := (hlen _ _ I3).1; simp at this; omega) ?_
      · rcases List.mem_cons.mp hq with rfl | hq
        · exact hdT
        rcases List.mem_cons.mp hq with rfl | hq
        · exact hlT
        exact r3 q hq
      intro h7 F7 N7
      replace N7 := News_rotA N7
      clear F6 N6
      generalize hrr : (d, ({ cls := .type "tuple", data := .seq #[.int r.2.1 tp, rv] } : Obj)) :: rest' = rs at N7
      have s1 : ∀ q ∈ rest, q ∈ rs := fun q hq => by rw [← hrr]; exact .tail _ (r1 q hq)
      have s2 : ∀ q ∈ rs, q.1 ≠ l := fun q hq => by
        rw [← hrr] at hq
        rcases List.mem_cons.mp hq with rfl | hq
        · exact hdl
        · exact r2 q hq
      have s3 : ∀ q ∈ rs, q.1 ≠ Tl := fun q hq => by
        rw [← hrr] at hq
        rcases List.mem_cons.mp hq with rfl | hq
        · exact hdT
        · exact r3 q hq
      have sub7 : ∀ q ∈ rest', q ∈ rs := fun q hq => by rw [← hrr]; exact .tail _ hq
      have Gz7 : Good rs zs1 := Gz1.mono sub7
      have Gt7 : Good rs (ts ++ [(.ref d, r.2)]) := fun z hz => by
        rcases List.mem_append.mp hz with hz | hz
        · exact (Gt z hz).mono sub7
        · rw [List.mem_singleton.mp hz]
          exact DatIn.tuple (vs := [.int r.2.1 tp, rv]) (by rw [← hrr]; exact .head _) (.cons (.int _ tp) (.cons (hrv.mono sub7) .nil))
      have hrv7 := hrv.mono sub7
      clear hrr Gz1 Gt hrv r1 r2 r3 r4 sub7 offd hdl hdT lD
      dsimp -zeta (zetaDelta := true) only
      refine wpX_leaf ?_
      k_fold
      repeat' walk1
      obtain ⟨ar, nr, vr, rfl, hmr, hir⟩ := row_open hrv7
      have hrl : r.2.2.length = 2 * wd := (hlen _ _ I3).2.2 _ (.head _)
      have hrz : r.2.2.length ≤ 16777216 := by omega
      refine call_bytes_tuple (ns := rowI r.2.2) ⟨_, (N7 _ (.tail _ (.tail _ hmr))).1, rfl, nr, rfl⟩ hir (rowI_byte _) (by rw [hir.length, rowI_length, sizeLine_eq]; omega) hh ?_
      intro h8 tt8 tk8 keep8
      have F8 := Fr_ext F7 keep8
      have N8 := News_ext N7 keep8
      clear F7 N7 keep8
      rw [byteArr_row]
      try dsimp only at F8
      try dsimp only at N8
      try dsimp only
      repeat' walk1
      refine wpX_execs_cons (wpX_Assign_Name (wpX_List ?_))
      refine wpX_spliced_cons ?_
      refine wpX_BinOp (wpX_Call ?_)
      k_fold
      repeat' walk1
      rename Fr g L' _ _ => F9
      rename News g L' _ _ => N9
      refine wpX_callDef X' (by k_is) ?_
      k_fold
      repeat' walk1
      rename Fr g L' _ _ => FA
      rename News g L' _ _ => NA
      refine byteswap_X (c := 1) FA X' NA T' (by omega) (by omega) (by first | omega | (simp; omega)) (by first | omega | (simp; omega)) (by show A.depth + 1 < recursionLimit; omega) hh (by show A.units + 3 + 40 < cLine; omega) ?_
      intro h10 tk10 tt10 F10 N10
      rw [swapL_one (by simp; omega)]
      clear FA NA
      try dsimp only
      refine wpX_any ?_
      k_fold
      repeat' walk1
      refine wpX_spliced_cons ?_
      refine wpX_BinOp (wpX_any ?_)
      k_fold
      repeat' walk1
      refine wpX_Call ?_
      k_fold
      repeat' walk1
      rename Fr g L' _ _ => F9
      rename News g L' _ _ => N9
      refine wpX_callDef X' (by k_is) ?_
      k_fold
      repeat' walk1
      rename Fr g L' _ _ => FA
      rename News g L' _ _ => NA
      refine byteswap_X (c := 1) FA X' NA T' (by omega) (by omega) (by first | omega | (simp; omega)) (by first | omega | (simp; omega)) (by show A.depth + 1 < recursionLimit; omega) hh (by show A.units + 3 + 40 < cLine; omega) ?_
      intro h10 tk10 tt10 F10 N10
      rw [swapL_one (by simp; omega)]
      clear FA NA
      try dsimp only
      k_fold
      repeat' walk1
      refine wpX_spliced_cons ?_
      refine wpX_Call ?_
      k_fold
      repeat' walk1
      rename Fr g L' _ _ => F9
      rename News g L' _ _ => N9
      refine wpX_callDef X' (by k_is) ?_
      k_fold
      repeat' walk1
      rename Fr g L' _ _ => FA
      rename News g L' _ _ => NA
      refine byteswap_X (c := 2) FA X' NA T' (by omega) (by omega) (by first | omega | (simp; omega)) (by first | omega | (simp; omega)) (by show A.depth + 1 < recursionLimit; omega) hh (by show A.units + 3 + 40 < cLine; omega) ?_
      intro h10 tk10 tt10 F10 N10
      rw [swapL_two hwd hrl]
      clear FA NA
      try dsimp only
      refine wpX_spliced_cons ?_
      refine wpX_Call ?_
      k_fold
      repeat' walk1
      rename Fr g L' _ _ => F9
      rename News g L' _ _ => N9
      refine wpX_callDef X' (by k_is) ?_
      k_fold
      repeat' walk1
      rename Fr g L' _ _ => FA
      rename News g L' _ _ => NA
      rw [show (2 * (wd : Int)) = ((2 * wd : Nat) : Int) from by omega]
      refine byteswap_X (c := 1) FA X' NA T' (by omega) (by omega) (by first | omega | (simp; omega)) (by first | omega | (simp; omega)) (by show A.depth + 1 < recursionLimit; omega) hh (by show A.units + 3 + 40 < cLine; omega) ?_
      intro h10 tk10 tt10 F10 N10
      rw [swapL_one hrl]
      clear FA NA
      try dsimp only
      refine wpX_spliced_nil ?_
      k_fold
      repeat' walk1
      refine wpX_leaf ?_
      k_fold
      repeat' walk1
      rename Fr g L' _ _ => F11
      rename News g L' _ _ => N11
      refine unhalt (comp_split F11 N11 ?comp ?_)
      case comp =>
        refine LCt.ListComp_T (F₀ := F11) (by with_unfolding_all rfl) (by decide) (by rfl) (by decide) (by rfl) ?_
        walk1
        refine LCt.CompSrcT.ledger hh F11 N11 (.head _) (by rw [sizeLine_eq]; exact Nat.le_of_ble_eq_true rfl) ?_
        intro g'
        change LCt.CompRestT _ _ _ _ _ _ _ _ _ _ _ _ _ _ _ _ 4 _ _ _
        clear F11 N11
        repeat' walk1
        exact ⟨_, _, _, rfl, rfl, by assumption, by assumption, by assumption⟩
      clear F11 N11
      intro D12 h12 tk12 F12 N12 o12
      dsimp only
      repeat' walk1
      refine wpX_leaf ?_
      k_fold
      repeat' walk1
      rename _ ∧ _ ∧ AllLt _ rs => lM
      rename Fr g L' _ _ => F13
      refine unhalt (For_turns F13 ?_)
      repeat' walk1
      rename News g L' _ _ => N13
      have N14 := News_zip N13
      clear N13
      refine unhalt (ktu_zip (xs := [.int c1 u1, .int c2 u2, .int c3 u3, .int c4 u4]) hh F13 N14 (.tail _ (.tail _ (.tail _ (s1 _ hP)))) rfl rfl (.tail _ (.tail _ (.head _))) rfl rfl ?_)
      intro I hI
      refine (?hall : ∀ its mm news, FoI I l Tl P wd t1 r.2.1 tp rs ?kp (ts ++ [(.ref d, r.2)]) (nt + 1) (zs1.map (·.2) ++ pushes wd [c1, c2, c3, c4] r.2) its mm news → ItemsRest prog w _ _ g _ _ _ _ _ _ ?kp its mm news) _ _ _ ?init
      case init =>
        refine ⟨[(c1, u1, _, _), (c2, u2, _, _), (c3, u3, _, _), (c4, u4, _, _)], zs1, n1, _, rfl, rfl, fun q hq => .tail _ hq, ?_, ?_, ?_, ?_, ?_, hH1, ?_, ?_, ?_, e1, e2, e3, e4, rfl⟩
        · intro q hq
          rcases List.mem_cons.mp hq with rfl | hq
          · exact .tail _ (s1 _ hP)
          rcases List.mem_cons.mp hq with rfl | hq
          · exact .head _
          cases hq
        · intro q hq
          rcases List.mem_cons.mp hq with rfl | hq
          · exact Nat.ne_of_gt lM.1
          · exact s2 q hq
        · intro q hq
          rcases List.mem_cons.mp hq with rfl | hq
          · exact Nat.ne_of_gt lM.2.1
          · exact s3 q hq
        · exact fun q hq => .inl (hI q hq)
        · exact Gz7.mono fun q hq => .tail _ hq
        · exact List.Perm.refl _
        · show zs1.length + 4 ≤ 200; omega
        · intro q hq
          simp only [List.mem_cons, List.not_mem_nil, or_false] at hq
          rcases hq with rfl | rfl | rfl | rfl <;> simp <;> omega
      case hall =>
        clear F13 N14 hI lM
        intro its
        induction its with
        | nil => 
          rintro mm news ⟨qs, zs, nz, rs', hq, rfl, k1, k2, k3, k4, k5, k6, k7, k8, k9, kA, kB, kC, kD, kE, kF⟩
          refine ItemsRest.zero (fun h tk F N => ?_)
          have hq0 : qs = [] := by cases qs with
            | nil => rfl
            | cons => cases hq
          subst hq0
          have I4 := htake _ _ _ I3 hM2 (hts ▸ hin)
          have hT8 : ts.length + 1 ≤ 8 := by have := (hlen _ _ I4).1; simpa using this
          have hzl2 : zs.length = zs0.length + 4 := by have := k8.length_eq; simp [pushes, turns] at this; omega
          refine wpX_any ?_
          repeat' walk1
          replace F : Fr g L' h mm := F
          replace N : News g L' h _ := N
          refine ⟨_, ?_, zs, ts ++ [(.ref d, r.2)], nz, nt + 1, rs', mm, h, tk, rfl, F, N, fun q hq => k1 q (s1 q hq), k3, k4, k6, Gt7.mono k1, k7, ?_, kB, kC, kD, kE, rfl⟩
          · rw [hk, List.length_append, List.length_singleton]; omega
          · rw [List.map_append]
            exact hperm _ _ _ (by simpa using k8.symm) I4
        | cons it its ih => 
          rintro mm news ⟨qs, zs, nz, rs', hq, rfl, k1, k2, k3, k4, k5, k6, k7, k8, k9, kA, kB, kC, kD, kE, kF⟩
          cases qs with
          | nil => cases hq
          | cons q qs =>
            obtain ⟨rfl, rfl⟩ : it = itm q ∧ its = qs.map itm := by simpa using hq
            refine ItemsRest.pair (fun T t h tk hT F => ?_)
            refine AllObj.cons (fun o1 z1 => AllObj.cons fun o2 z2 => AllObj.cons fun o3 z3 => AllObj.cons fun o4 z4 => AllObj.cons fun o5 z5 => AllObj.nil fun N => ?_)
            clear z1 z2 z3 z4 z5 hq
            refine assign2' hh F N hT rfl rfl rfl ?_
            intro h2 tk2 F2 N2
            replace F2 : Fr g L' h2 _ := F2
            replace N2 : News g L' h2 _ := N2
            simp only [List.cons_append, List.nil_append] at N2
            clear F N hT
            repeat' walk1
            refine call_tuple_bytes hh (kA q (.head _)) F2 N2 ?_
            intro h4 tk4 d1 vs F4 N4 lt4 hdat
            clear F2 N2
            repeat' walk1
            rename Fr g L' _ _ => F5
            rename News g L' _ _ => N5
            rename _ ∧ _ ∧ _ ∧ _ ∧ _ ∧ _ ∧ _ ∧ _ ∧ AllLt _ rs' => lt5
            rename_i d2 h5
            have hd2 := kst_ltOf lt5.2.2.2.2.2.2.2.2
            have hTll : @Ne Nat Tl l := Ne.symm hlT
            have hIl : ∀ j, j ≤ 4 → @Ne Nat (I + j) l := fun j hj e => by
              have : @LT.lt Nat _ l I ∨ @LT.lt Nat _ (I + 4) l := k5 _ (.head _)
              rw [← e] at this
              rcases this with h | h
              · have h' : (I : Nat) + j < I := h
                omega
              · have h' : (I : Nat) + 4 < I + j := h
                omega
            have hd1l : @Ne Nat d1 l := Nat.ne_of_gt (lt4 _ (.tail _ (.tail _ (.tail _ (.tail _ (.tail _ (.head _)))))))
            have hd1T : @Ne Nat d1 Tl := Nat.ne_of_gt (lt4 _ (.tail _ (.tail _ (.tail _ (.tail _ (.tail _ (.tail _ (.head _))))))))
            have hd1I : @LT.lt Nat _ (I + 4) d1 := lt4 _ (.head _)
            have hd2l : @Ne Nat d2 l := Nat.ne_of_gt lt5.2.2.2.2.2.2.1
            have hd2T : @Ne Nat d2 Tl := Nat.ne_of_gt lt5.2.2.2.2.2.2.2.1
            have hd2I : @LT.lt Nat _ (I + 4) d2 := lt5.2.1
            refine unhalt (push_spec (n := nz) (x := (.ref d2, (r.2.1 + q.1, q.2.2.1))) (rest := (d2, { cls := Value.type "tuple", data := Data.seq #[Value.int (r.2.1 + q.1) tk2, Value.ref d1] }) :: (d1, { cls := Value.type "tuple", data := Data.seq vs.toArray }) :: (I + 4, o1) :: (I + 2, o2) :: (I + 3, o3) :: (I, o4) :: (I + 1, o5) :: (Tl, listOf (valsOf (ts ++ [(Value.ref d, r.2)])).toArray (nt + 1)) :: rs') F5 X' (fun z hz => N5 z ?_) T' ?_ (k6.mono ?_) ?_ (by simp at k9; omega) (by show A.depth + 1 + 1 < recursionLimit; omega) (by show A.units + 3 + 60 < cLine; omega) ?_)
            · simp only [List.mem_cons] at hz ⊢
              rcases hz with h | h | h | h | h | h | h | h | h | h <;> simp [h]
            · intro z hz
              simp only [List.mem_cons] at hz
              rcases hz with rfl | rfl | rfl | rfl | rfl | rfl | rfl | rfl | hz
              · exact hd2l
              · exact hd1l
              · exact hIl 4 (by omega)
              · exact hIl 2 (by omega)
              · exact hIl 3 (by omega)
              · exact hIl 0 (by omega)
              · exact hIl 1 (by omega)
              · exact hTll
              · exact k3 z hz
            · intro z hz; simp [hz]
            · refine DatIn.tuple (vs := [.int (r.2.1 + q.1) tk2, .ref d1]) (.head _) (.cons (.int _ tk2) (.cons ?_ .nil))
              exact DatIn.tuple (vs := vs) (.tail _ (.head _)) (hdat _)
            intro zs' nz' h6 tk6 F6 N6 hz'
            clear F5 N5
            obtain ⟨hH', hP'⟩ := push_ok ord_ilt2 (Value.ref d2, (r.2.1 + q.1, q.2.2.1)) k7
            rw [← hz'] at hH' hP'
            repeat' walk1
            replace F6 : Fr g L' h6 _ := F6
            generalize hX2 : ({ cls := Value.type "tuple", data := Data.seq #[Value.int (r.2.1 + q.1) tk2, Value.ref d1] } : Obj) = X2 at N6
            generalize hX1 : ({ cls := Value.type "tuple", data := Data.seq vs.toArray } : Obj) = X1 at N6
            refine ⟨h6, tk6, _, (l, listOf (valsOf zs').toArray nz') :: (Tl, listOf (valsOf (ts ++ [(Value.ref d, r.2)])).toArray (nt + 1)) :: (d2, X2) :: (d1, X1) :: rs', rfl, F6, ?_, ?_, ?_, ?_⟩
            · intro z hz
              refine N6 z ?_
              simp only [List.cons_append, List.nil_append, List.mem_cons] at hz ⊢
              rcases hz with h | h | h | h | h | h | h | h | h | h <;> simp [h]
            · intro z hz y hy
              have far : @LT.lt Nat _ z.1 I ∨ @LT.lt Nat _ (I + 4) z.1 := by
                rcases List.mem_cons.mp hz with rfl | hz
                · exact k5 (l, listOf (valsOf zs).toArray nz) (.head _)
                rcases List.mem_cons.mp hz with rfl | hz
                · exact k5 _ (.tail _ (.head _))
                rcases List.mem_cons.mp hz with rfl | hz
                · exact .inr hd2I
                rcases List.mem_cons.mp hz with rfl | hz
                · exact .inr hd1I
                exact k5 _ (.tail _ (.tail _ hz))
              have ny : ∃ j : Nat, j ≤ 4 ∧ y.1 = I + j := by
                simp only [List.mem_cons, List.not_mem_nil, or_false] at hy
                rcases hy with rfl | rfl | rfl | rfl | rfl
                · exact ⟨4, by omega, rfl⟩
                · exact ⟨2, by omega, rfl⟩
                · exact ⟨3, by omega, rfl⟩
                · exact ⟨0, by omega, rfl⟩
                · exact ⟨1, by omega, rfl⟩
              obtain ⟨j, hj, ey⟩ := ny
              intro e
              rw [e, ey] at far
              rcases far with h | h
              · have h' : (I : Nat) + j < I := h
                omega
              · have h' : (I : Nat) + 4 < I + j := h
                omega
            · exact ⟨.tail _ (.tail _ (.tail _ (.tail _ (k2 _ (.head _))))), .tail _ (.tail _ (.tail _ (.tail _ (k2 _ (.tail _ (.head _)))))), trivial⟩
            · refine ih _ _ ⟨qs, zs', nz', (d2, X2) :: (d1, X1) :: rs', rfl, rfl, fun z hz => .tail _ (.tail _ (k1 z hz)), fun z hz => .tail _ (.tail _ (k2 z hz)), ?_, ?_, ?_, ?_, hH', ?_, ?_, fun z hz => kA z (.tail _ hz), kB, kC, kD, kE, kF⟩
              · intro z hz
                rcases List.mem_cons.mp hz with rfl | hz
                · exact hd2l
                rcases List.mem_cons.mp hz with rfl | hz
                · exact hd1l
                exact k3 z hz
              · intro z hz
                rcases List.mem_cons.mp hz with rfl | hz
                · exact hd2T
                rcases List.mem_cons.mp hz with rfl | hz
                · exact hd1T
                exact k4 z hz
              · intro z hz
                rcases List.mem_cons.mp hz with rfl | hz
                · exact k5 (l, listOf (valsOf zs).toArray nz) (.head _)
                rcases List.mem_cons.mp hz with rfl | hz
                · exact k5 _ (.tail _ (.head _))
                rcases List.mem_cons.mp hz with rfl | hz
                · exact .inr hd2I
                rcases List.mem_cons.mp hz with rfl | hz
                · exact .inr hd1I
                exact k5 _ (.tail _ (.tail _ hz))
              · intro z hz
                rcases List.mem_cons.mp (hP'.subset hz) with rfl | hz
                · refine DatIn.tuple (vs := [.int (r.2.1 + q.1) tk2, .ref d1]) (by rw [← hX2]; exact .head _) (.cons (.int _ tk2) (.cons ?_ .nil))
                  exact DatIn.tuple (vs := vs) (by rw [← hX1]; exact .tail _ (.head _)) (hdat _)
                · exact (k6 z hz).mono fun p hp => .tail _ (.tail _ hp)
              · refine List.Perm.trans ?_ k8
                refine ((hP'.map (·.2)).append_right _).trans ?_
                simp only [List.map_cons, List.cons_append]
                exact List.perm_middle.symm
              · have := hP'.length_eq
                simp at this k9
                omega
end
end Mine
end

section
set_option maxHeartbeats 2000000
namespace Mine
theorem exMin {S : Type} (P : S → Prop) (f : S → Int) : ∀ (l : List S), (∃ q, q ∈ l ∧ P q) → ∃ q, q ∈ l ∧ P q ∧ ∀ q', q' ∈ l → P q' → f q ≤ f q'
  | [], h => by obtain ⟨q, hq, _⟩ := h; cases hq
  | a :: l, h => by
    by_cases hl : ∃ q, q ∈ l ∧ P q
    · obtain ⟨q, hq, hP, hm⟩ := exMin P f l hl
      by_cases ha : P a ∧ f a ≤ f q
      · refine ⟨a, .head _, ha.1, fun q' hq' hP' => ?_⟩
        rcases List.mem_cons.mp hq' with rfl | hq'
        · exact Int.le_refl _
        · exact Int.le_trans ha.2 (hm q' hq' hP')
      · refine ⟨q, .tail _ hq, hP, fun q' hq' hP' => ?_⟩
        rcases List.mem_cons.mp hq' with rfl | hq'
        · have : ¬ f q' ≤ f q := fun h => ha ⟨hP', h⟩
          omega
        · exact hm q' hq' hP'
    · obtain ⟨q, hq, hP⟩ := h
      have hqa : q = a := by
        rcases List.mem_cons.mp hq with h | h
        · exact h
        · exact absurd ⟨q, h, hP⟩ hl
      subst hqa
      refine ⟨q, .head _, hP, fun q' hq' hP' => ?_⟩
      rcases List.mem_cons.mp hq' with rfl | hq'
      · exact Int.le_refl _
      · exact absurd ⟨q', hq', hP'⟩ hl

section
variable (c1 c2 c3 c4 : Int) (one two : List UInt8) (wd : Nat)
/-- p is the least price of the row r -/
def IsD (r : List UInt8) (p : Int) : Prop := (∃ q, rho one two q = r ∧ Pq c1 c2 c3 c4 q = p) ∧ ∀ q, rho one two q = r → p ≤ Pq c1 c2 c3 c4 q
variable {c1 c2 c3 c4 one two wd}
theorem IsD.uniq {r : List UInt8} {p p' : Int} (h : IsD c1 c2 c3 c4 one two r p) (h' : IsD c1 c2 c3 c4 one two r p') : p = p' := by
  obtain ⟨⟨q, hq, e⟩, m⟩ := h
  obtain ⟨⟨q', hq', e'⟩, m'⟩ := h'
  have := m q' hq'
  have := m' q hq
  omega
theorem exD (q : Bool × Bool × Bool) : ∃ p, IsD c1 c2 c3 c4 one two (rho one two q) p ∧ p ≤ Pq c1 c2 c3 c4 q := by
  obtain ⟨q0, _, h1, h2⟩ := exMin (fun q' => rho one two q' = rho one two q) (Pq c1 c2 c3 c4) states ⟨q, mem_states q, rfl⟩
  exact ⟨_, ⟨⟨q0, h1, rfl⟩, fun q' h => h2 q' (mem_states q') h⟩, h2 q (mem_states q) rfl⟩
theorem start_rho : rho one two (false, false, false) = one ++ two := rfl
theorem D1 (h1 : 1 ≤ c1) (h2 : 1 ≤ c2) (h3 : 1 ≤ c3) (h4 : 1 ≤ c4) : IsD c1 c2 c3 c4 one two (one ++ two) 0 :=
  ⟨⟨(false, false, false), rfl, (P_all h1 h2 h3 h4).1⟩, fun q _ => (P_all h1 h2 h3 h4).2.1 q⟩
theorem D2 (h1 : 1 ≤ c1) (h2 : 1 ≤ c2) (h3 : 1 ≤ c3) (h4 : 1 ≤ c4) (l1 : one.length = wd) (l2 : two.length = wd) {r : List UInt8} {p : Int} (h : IsD c1 c2 c3 c4 one two r p) {i : Nat} (hi : i < 4) :
    ∃ p', IsD c1 c2 c3 c4 one two (opR wd i r) p' ∧ p' ≤ p + cst c1 c2 c3 c4 i := by
  obtain ⟨⟨q, hq, e⟩, m⟩ := h
  obtain ⟨p', hp', hle⟩ := exD (c1 := c1) (c2 := c2) (c3 := c3) (c4 := c4) (one := one) (two := two) (opS i q)
  refine ⟨p', ?_, ?_⟩
  · rw [← hq, opR_rho l1 l2]; exact hp'
  · have := (P_all h1 h2 h3 h4).2.2.1 i q hi
    omega
theorem D3 (h1 : 1 ≤ c1) (h2 : 1 ≤ c2) (h3 : 1 ≤ c3) (h4 : 1 ≤ c4) (l1 : one.length = wd) (l2 : two.length = wd) {r : List UInt8} {p : Int} (h : IsD c1 c2 c3 c4 one two r p) (hr : r ≠ one ++ two) :
    ∃ i r' p', i < 4 ∧ IsD c1 c2 c3 c4 one two r' p' ∧ opR wd i r' = r ∧ p' + cst c1 c2 c3 c4 i = p := by
  obtain ⟨⟨q, hq, e⟩, m⟩ := id h
  have hq0 : q ≠ (false, false, false) := fun e0 => hr (by rw [← hq, e0]; rfl)
  obtain ⟨i, hi, he⟩ := (P_all h1 h2 h3 h4).2.2.2 q hq0
  obtain ⟨p', hp', hle⟩ := exD (c1 := c1) (c2 := c2) (c3 := c3) (c4 := c4) (one := one) (two := two) (opS i q)
  have eop : opR wd i (rho one two (opS i q)) = r := by rw [opR_rho l1 l2, opS_opS, hq]
  obtain ⟨p2, hp2, hle2⟩ := D2 h1 h2 h3 h4 l1 l2 hp' hi
  rw [eop] at hp2
  have := hp2.uniq h
  exact ⟨i, _, p', hi, hp', eop, by omega⟩
theorem cst_pos (h1 : 1 ≤ c1) (h2 : 1 ≤ c2) (h3 : 1 ≤ c3) (h4 : 1 ≤ c4) (i : Nat) : 1 ≤ cst c1 c2 c3 c4 i := by
  match i with
  | 0 => exact h1
  | 1 => exact h2
  | 2 => exact h3
  | i + 3 => exact h4

variable (c1 c2 c3 c4 one two wd)
/-- what holds between the turns of the search -/
structure Dij (H T : List Pr) : Prop where
  a : ∀ x ∈ T, IsD c1 c2 c3 c4 one two x.2 x.1
  b : T.Pairwise (fun x y => plt x y = true)
  nd : (T.map (·.2)).Nodup
  c : ∀ x ∈ H, ∃ p, IsD c1 c2 c3 c4 one two x.2 p ∧ p ≤ x.1
  d : ∀ x ∈ T, ∀ i, i < 4 → (x.1 + cst c1 c2 c3 c4 i, opR wd i x.2) ∈ H ∨ opR wd i x.2 ∈ T.map (·.2)
  e : one ++ two ∈ T.map (·.2) ∨ (0, one ++ two) ∈ H
  g : ∀ t ∈ T, ∀ h ∈ H, plt h t = false
  l : H.length ≤ 1 + 4 * T.length
variable {c1 c2 c3 c4 one two wd}
theorem plt_price {x y : Pr} (h : plt x y = false) : y.1 ≤ x.1 := by
  unfold plt at h
  by_cases e : x.1 = y.1
  · omega
  · rw [if_neg e] at h
    have := of_decide_eq_false h
    omega
theorem plt_of_lt {x y : Pr} (h : x.1 < y.1) : plt x y = true ∧ plt y x = false := by
  unfold plt
  rw [if_neg (by omega), if_neg (by omega)]
  exact ⟨decide_eq_true h, decide_eq_false (by omega)⟩

theorem reach (h1 : 1 ≤ c1) (h2 : 1 ≤ c2) (h3 : 1 ≤ c3) (h4 : 1 ≤ c4) (l1 : one.length = wd) (l2 : two.length = wd) {H T : List Pr} (I : Dij c1 c2 c3 c4 one two wd H T) :
    ∀ (n : Nat) (r : List UInt8) (p : Int), p.toNat ≤ n → IsD c1 c2 c3 c4 one two r p → r ∉ T.map (·.2) → ∃ h, h ∈ H ∧ h.1 ≤ p := by
  have nn : ∀ {r p}, IsD c1 c2 c3 c4 one two r p → 0 ≤ p := fun {r p} h => by
    obtain ⟨⟨q, hq, e⟩, _⟩ := h
    have := (P_all h1 h2 h3 h4).2.1 q
    omega
  intro n
  induction n with
  | zero =>
    intro r p hp hD hr
    by_cases e : r = one ++ two
    · rcases I.e with h | h
      · exact absurd (e ▸ h) hr
      · exact ⟨_, h, by have := nn hD; simp; omega⟩
    · obtain ⟨i, r', p', hi, hD', he, hs⟩ := D3 h1 h2 h3 h4 l1 l2 hD e
      have := nn hD'
      have := cst_pos h1 h2 h3 h4 i
      omega
  | succ n ih =>
    intro r p hp hD hr
    by_cases e : r = one ++ two
    · rcases I.e with h | h
      · exact absurd (e ▸ h) hr
      · exact ⟨_, h, by have := nn hD; simp; omega⟩
    · obtain ⟨i, r', p', hi, hD', he, hs⟩ := D3 h1 h2 h3 h4 l1 l2 hD e
      have h0 := nn hD'
      have hc := cst_pos h1 h2 h3 h4 i
      by_cases hm : r' ∈ T.map (·.2)
      · obtain ⟨x, hx, ex⟩ := List.mem_map.mp hm
        have hxa := I.a x hx
        rw [ex] at hxa
        have ep := hxa.uniq hD'
        rcases I.d x hx i hi with h | h
        · exact ⟨_, h, by show x.1 + _ ≤ p; omega⟩
        · rw [ex, he] at h
          exact absurd h hr
      · obtain ⟨h, hh, hle⟩ := ih r' p' (by omega) hD' hm
        exact ⟨h, hh, by omega⟩

theorem dij_perm {H H' T : List Pr} (hp : H.Perm H') (I : Dij c1 c2 c3 c4 one two wd H T) : Dij c1 c2 c3 c4 one two wd H' T :=
  ⟨I.a, I.b, I.nd, fun x hx => I.c x (hp.symm.subset hx), fun x hx i hi => (I.d x hx i hi).imp (fun h => hp.subset h) id, I.e.imp id (fun h => hp.subset h), fun t ht h hh => I.g t ht h (hp.symm.subset hh), by have := hp.length_eq; have := I.l; omega⟩
theorem dij_skip {x : Pr} {H T : List Pr} (I : Dij c1 c2 c3 c4 one two wd (x :: H) T) (hx : x.2 ∈ T.map (·.2)) : Dij c1 c2 c3 c4 one two wd H T := by
  refine ⟨I.a, I.b, I.nd, fun y hy => I.c y (.tail _ hy), fun y hy i hi => ?_, ?_, fun t ht h hh => I.g t ht h (.tail _ hh), by have := I.l; simp at this; omega⟩
  · rcases I.d y hy i hi with h | h
    · rcases List.mem_cons.mp h with e | h
      · exact .inr (by rw [← e] at hx; exact hx)
      · exact .inl h
    · exact .inr h
  · rcases I.e with h | h
    · exact .inl h
    · rcases List.mem_cons.mp h with e | h
      · exact .inl (by rw [← e] at hx; exact hx)
      · exact .inr h
theorem dij_take (h1 : 1 ≤ c1) (h2 : 1 ≤ c2) (h3 : 1 ≤ c3) (h4 : 1 ≤ c4) (l1 : one.length = wd) (l2 : two.length = wd) {x : Pr} {H T : List Pr} (I : Dij c1 c2 c3 c4 one two wd (x :: H) T) (hm : ∀ y ∈ H, plt y x = false) (hx : x.2 ∉ T.map (·.2)) :
    Dij c1 c2 c3 c4 one two wd (H ++ [(x.1 + c1, opR wd 0 x.2), (x.1 + c2, opR wd 1 x.2), (x.1 + c3, opR wd 2 x.2), (x.1 + c4, opR wd 3 x.2)]) (T ++ [x]) := by
  have pushed : ∀ y ∈ [(x.1 + c1, opR wd 0 x.2), (x.1 + c2, opR wd 1 x.2), (x.1 + c3, opR wd 2 x.2), (x.1 + c4, opR wd 3 x.2)], ∃ i, i < 4 ∧ y = (x.1 + cst c1 c2 c3 c4 i, opR wd i x.2) := fun y hy => by
    simp only [List.mem_cons, List.not_mem_nil, or_false] at hy
    rcases hy with rfl | rfl | rfl | rfl
    · exact ⟨0, by omega, rfl⟩
    · exact ⟨1, by omega, rfl⟩
    · exact ⟨2, by omega, rfl⟩
    · exact ⟨3, by omega, rfl⟩
  have inpush : ∀ i, i < 4 → (x.1 + cst c1 c2 c3 c4 i, opR wd i x.2) ∈ [(x.1 + c1, opR wd 0 x.2), (x.1 + c2, opR wd 1 x.2), (x.1 + c3, opR wd 2 x.2), (x.1 + c4, opR wd 3 x.2)] := fun i hi => by
    have : i = 0 ∨ i = 1 ∨ i = 2 ∨ i = 3 := by omega
    rcases this with rfl | rfl | rfl | rfl <;> simp [cst]
  obtain ⟨p, hD, hle⟩ := I.c x (.head _)
  have hxD : IsD c1 c2 c3 c4 one two x.2 x.1 := by
    obtain ⟨h, hh, hl⟩ := reach h1 h2 h3 h4 l1 l2 I p.toNat x.2 p (Nat.le_refl _) hD hx
    have : x.1 ≤ h.1 := by
      rcases List.mem_cons.mp hh with rfl | hh
      · exact Int.le_refl _
      · exact plt_price (hm h hh)
    have e : p = x.1 := by omega
    rw [← e]; exact hD
  have hTx : ∀ t ∈ T, plt t x = true := fun t ht => by
    cases h : plt t x with
    | true => rfl
    | false =>
      have e := plt_tri h (I.g t ht x (.head _))
      exact absurd (List.mem_map_of_mem (f := (·.2)) ht) (by rw [e]; exact hx)
  refine ⟨?_, ?_, ?_, ?_, ?_, ?_, ?_, ?_⟩
  · intro y hy
    rcases List.mem_append.mp hy with hy | hy
    · exact I.a y hy
    · rw [List.mem_singleton.mp hy]; exact hxD
  · rw [List.pairwise_append]
    exact ⟨I.b, List.pairwise_singleton _ _, fun t ht y hy => by rw [List.mem_singleton.mp hy]; exact hTx t ht⟩
  · rw [List.map_append, List.nodup_append]
    refine ⟨I.nd, by simp, fun a ha b hb => ?_⟩
    have : b = x.2 := by simpa using hb
    rw [this]
    intro e
    exact hx (e ▸ ha)
  · intro y hy
    rcases List.mem_append.mp hy with hy | hy
    · exact I.c y (.tail _ hy)
    · obtain ⟨i, hi, rfl⟩ := pushed y hy
      exact D2 h1 h2 h3 h4 l1 l2 hxD hi
  · intro y hy i hi
    rcases List.mem_append.mp hy with hy | hy
    · rcases I.d y hy i hi with h | h
      · rcases List.mem_cons.mp h with e | h
        · exact .inr (by rw [List.map_append]; exact List.mem_append_right _ (by rw [← e]; simp))
        · exact .inl (List.mem_append_left _ h)
      · exact .inr (by rw [List.map_append]; exact List.mem_append_left _ h)
    · rw [List.mem_singleton.mp hy]
      exact .inl (List.mem_append_right _ (inpush i hi))
  · rcases I.e with h | h
    · exact .inl (by rw [List.map_append]; exact List.mem_append_left _ h)
    · rcases List.mem_cons.mp h with e | h
      · exact .inl (by rw [List.map_append]; exact List.mem_append_right _ (by rw [← e]; simp))
      · exact .inr (List.mem_append_left _ h)
  · intro t ht h hh
    rcases List.mem_append.mp hh with hh | hh
    · rcases List.mem_append.mp ht with ht | ht
      · exact I.g t ht h (.tail _ hh)
      · rw [List.mem_singleton.mp ht]; exact hm h hh
    · obtain ⟨i, hi, rfl⟩ := pushed h hh
      have hc := cst_pos h1 h2 h3 h4 i
      have htx : t.1 ≤ x.1 := by
        rcases List.mem_append.mp ht with ht | ht
        · exact plt_price (plt_ord.asym (hTx t ht))
        · rw [List.mem_singleton.mp ht]; exact Int.le_refl _
      exact (plt_of_lt (by show t.1 < x.1 + _; omega)).2
  · have := I.l
    simp at this ⊢
    omega
theorem dij_init (h1 : 1 ≤ c1) (h2 : 1 ≤ c2) (h3 : 1 ≤ c3) (h4 : 1 ≤ c4) : Dij c1 c2 c3 c4 one two wd [(0, one ++ two)] [] :=
  ⟨fun _ h => (nomatch h), List.Pairwise.nil, List.nodup_nil, fun x hx => (by rw [List.mem_singleton.mp hx]; exact ⟨0, D1 h1 h2 h3 h4, Int.le_refl _⟩), fun _ h => (nomatch h), .inr (.head _), fun _ h => (nomatch h), (by simp)⟩
end
end Mine
end

section
set_option maxHeartbeats 2000000
namespace Mine
/-- the table, of the sorted pairs, after i turns -/
def tabP (ps : List Pr) : Nat → List Pr
  | 0 => []
  | i + 1 => match ps[i]? with
    | some z => if z.2 ∈ (ps.take i).map (·.2) then tabP ps i else tabP ps i ++ [z]
    | none => tabP ps i
theorem mem_tab (ps : List Pr) (x : Pr) : ∀ n, x ∈ tabP ps n ↔ ∃ i, i < n ∧ ps[i]? = some x ∧ x.2 ∉ (ps.take i).map (·.2)
  | 0 => by simp [tabP]
  | n + 1 => by
    have ih := mem_tab ps x n
    unfold tabP
    have split : (∃ i, i < n + 1 ∧ ps[i]? = some x ∧ x.2 ∉ (ps.take i).map (·.2)) ↔ (∃ i, i < n ∧ ps[i]? = some x ∧ x.2 ∉ (ps.take i).map (·.2)) ∨ (ps[n]? = some x ∧ x.2 ∉ (ps.take n).map (·.2)) := by
      constructor
      · rintro ⟨i, hi, h⟩
        by_cases e : i = n
        · subst e; exact .inr h
        · exact .inl ⟨i, by omega, h⟩
      · rintro (⟨i, hi, h⟩ | h)
        · exact ⟨i, by omega, h⟩
        · exact ⟨n, by omega, h⟩
    rw [split, ← ih]
    cases hz : ps[n]? with
    | none => simp
    | some z =>
      dsimp only
      by_cases hm : z.2 ∈ (ps.take n).map (·.2)
      · rw [if_pos hm]
        constructor
        · exact .inl
        · rintro (h | ⟨h, h'⟩)
          · exact h
          · cases h; exact absurd hm h'
      · rw [if_neg hm, List.mem_append, List.mem_singleton]
        constructor
        · rintro (h | rfl)
          · exact .inl h
          · exact .inr ⟨rfl, hm⟩
        · rintro (h | ⟨h, _⟩)
          · exact .inl h
          · cases h; exact .inr rfl
def Sorted (ps : List Pr) : Prop := ∀ (i j : Nat) (a b : Pr), i < j → ps[i]? = some a → ps[j]? = some b → plt b a = false
theorem tab_sorted {ps : List Pr} (hs : Sorted ps) : ∀ n, (tabP ps n).Pairwise (fun x y => plt x y = true)
  | 0 => List.Pairwise.nil
  | n + 1 => by
    have ih := tab_sorted hs n
    unfold tabP
    cases hz : ps[n]? with
    | none => exact ih
    | some z =>
      dsimp only
      by_cases hm : z.2 ∈ (ps.take n).map (·.2)
      · rw [if_pos hm]; exact ih
      · rw [if_neg hm, List.pairwise_append]
        refine ⟨ih, List.pairwise_singleton _ _, fun y hy w hw => ?_⟩
        rw [List.mem_singleton.mp hw]
        obtain ⟨i, hi, hyi, _⟩ := (mem_tab ps y n).mp hy
        cases h : plt y z with
        | true => rfl
        | false =>
          have e := plt_tri h (hs i n y z hi hyi hz)
          refine absurd ?_ hm
          rw [← e]
          refine List.mem_map.mpr ⟨y, List.mem_of_getElem? (i := i) ?_, rfl⟩
          rw [List.getElem?_take, if_pos hi]; exact hyi
theorem sorted_uniq : ∀ (a b : List Pr), a.Pairwise (fun x y => plt x y = true) → b.Pairwise (fun x y => plt x y = true) → (∀ x, x ∈ a ↔ x ∈ b) → a = b
  | [], [], _, _, _ => rfl
  | [], y :: b, _, _, h => by have := (h y).mpr (.head _); cases this
  | x :: a, [], _, _, h => by have := (h x).mp (.head _); cases this
  | x :: a, y :: b, ha, hb, h => by
    rw [List.pairwise_cons] at ha hb
    have hxy : x = y := by
      have h1 := (h x).mp (.head _)
      have h2 := (h y).mpr (.head _)
      rcases List.mem_cons.mp h1 with e | h1
      · exact e
      rcases List.mem_cons.mp h2 with e | h2
      · exact e.symm
      have k1 := hb.1 x h1
      have k2 := ha.1 y h2
      have := plt_ord.asym k1
      rw [k2] at this; cases this
    subst hxy
    have e := sorted_uniq a b ha.2 hb.2 fun z => by
      have nx : ∀ z, z ∈ a → z ≠ x := fun z hz e => by have := ha.1 z hz; rw [e, plt_ord.irrefl] at this; cases this
      have ny : ∀ z, z ∈ b → z ≠ x := fun z hz e => by have := hb.1 z hz; rw [e, plt_ord.irrefl] at this; cases this
      constructor
      · intro hz
        rcases List.mem_cons.mp ((h z).mp (.tail _ hz)) with e | h'
        · exact absurd e (nx z hz)
        · exact h'
      · intro hz
        rcases List.mem_cons.mp ((h z).mpr (.tail _ hz)) with e | h'
        · exact absurd e (ny z hz)
        · exact h'
    rw [e]

theorem first_idx (P : Pr → Prop) : ∀ (ps : List Pr) (x : Pr), x ∈ ps → P x → ∃ i y, ps[i]? = some y ∧ P y ∧ ∀ z, z ∈ ps.take i → ¬ P z
  | [], _, h, _ => nomatch h
  | a :: ps, x, h, hP => by
    by_cases ha : P a
    · exact ⟨0, a, rfl, ha, fun z hz => by simp at hz⟩
    · rcases List.mem_cons.mp h with rfl | h
      · exact absurd hP ha
      · obtain ⟨i, y, h1, h2, h3⟩ := first_idx P ps x h hP
        refine ⟨i + 1, y, by simpa using h1, h2, fun z hz => ?_⟩
        rw [List.take_succ_cons] at hz
        rcases List.mem_cons.mp hz with rfl | hz
        · exact ha
        · exact h3 z hz
section
variable {c1 c2 c3 c4 : Int} {one two : List UInt8} {wd : Nat}
def eightP (c1 c2 c3 c4 : Int) (one two : List UInt8) : List Pr := states.map fun q => (Pq c1 c2 c3 c4 q, rho one two q)
theorem mem_eight {x : Pr} : x ∈ eightP c1 c2 c3 c4 one two ↔ ∃ q, rho one two q = x.2 ∧ Pq c1 c2 c3 c4 q = x.1 := by
  unfold eightP
  rw [List.mem_map]
  constructor
  · rintro ⟨q, _, rfl⟩; exact ⟨q, rfl, rfl⟩
  · rintro ⟨q, h1, h2⟩; exact ⟨q, mem_states q, Prod.ext h2 h1⟩
theorem tab_isD {ps : List Pr} (hs : Sorted ps) (hp : ps.Perm (eightP c1 c2 c3 c4 one two)) {n : Nat} (hn : n = ps.length) (x : Pr) : x ∈ tabP ps n ↔ IsD c1 c2 c3 c4 one two x.2 x.1 := by
  have key : ∀ x, x ∈ tabP ps n → IsD c1 c2 c3 c4 one two x.2 x.1 := fun x hx => by
    obtain ⟨i, hi, hxi, hfirst⟩ := (mem_tab ps x n).mp hx
    refine ⟨mem_eight.mp (hp.subset (List.mem_of_getElem? hxi)), fun q hq => ?_⟩
    have hm : (Pq c1 c2 c3 c4 q, x.2) ∈ ps := hp.symm.subset (mem_eight.mpr ⟨q, hq, rfl⟩)
    obtain ⟨j, hj⟩ := List.mem_iff_getElem?.mp hm
    by_cases hlt : j < i
    · refine absurd ?_ hfirst
      refine List.mem_map.mpr ⟨(Pq c1 c2 c3 c4 q, x.2), List.mem_of_getElem? (i := j) (by rw [List.getElem?_take, if_pos hlt]; exact hj), rfl⟩
    · by_cases e : j = i
      · subst e
        rw [hxi] at hj
        have := Option.some.inj hj
        rw [this]; exact Int.le_refl _
      · have := plt_price (hs i j x _ (by omega) hxi hj)
        exact this
  refine ⟨key x, fun hD => ?_⟩
  obtain ⟨q, h1, h2⟩ := hD.1
  have hm : x ∈ ps := hp.symm.subset (mem_eight.mpr ⟨q, h1, h2⟩)
  obtain ⟨i, y, hy, hP, hf⟩ := first_idx (fun y => y.2 = x.2) ps x hm rfl
  have hil : i < n := by
    rcases Nat.lt_or_ge i ps.length with h | h
    · omega
    · rw [List.getElem?_eq_none h] at hy; cases hy
  have hyt : y ∈ tabP ps n := (mem_tab ps y n).mpr ⟨i, hil, hy, fun h => by
    obtain ⟨z, hz, e⟩ := List.mem_map.mp h
    exact hf z hz (e.trans hP)⟩
  have hyD := key y hyt
  rw [hP] at hyD
  have e := hyD.uniq hD
  have : y = x := Prod.ext e hP
  rw [← this]; exact hyt
/-- the search tells the table -/
theorem told_table (h1 : 1 ≤ c1) (h2 : 1 ≤ c2) (h3 : 1 ≤ c3) (h4 : 1 ≤ c4) (l1 : one.length = wd) (l2 : two.length = wd) {T ps : List Pr} (I : Dij c1 c2 c3 c4 one two wd [] T) (hs : Sorted ps) (hp : ps.Perm (eightP c1 c2 c3 c4 one two)) :
    T = tabP ps 8 := by
  have hl : (8 : Nat) = ps.length := by have := hp.length_eq; simpa [eightP, states] using this.symm
  refine sorted_uniq _ _ I.b (tab_sorted hs 8) fun x => ?_
  rw [tab_isD hs hp hl]
  refine ⟨I.a x, fun hD => ?_⟩
  by_cases hm : x.2 ∈ T.map (·.2)
  · obtain ⟨y, hy, e⟩ := List.mem_map.mp hm
    have hyD := I.a y hy
    rw [e] at hyD
    have : y = x := Prod.ext (hyD.uniq hD) e
    rw [← this]; exact hy
  · obtain ⟨h, hh, _⟩ := reach h1 h2 h3 h4 l1 l2 I x.1.toNat x.2 x.1 (Nat.le_refl _) hD hm
    cases hh
theorem nodup_le {α : Type} [DecidableEq α] : ∀ (l m : List α), l.Nodup → (∀ x, x ∈ l → x ∈ m) → l.length ≤ m.length
  | [], _, _, _ => Nat.zero_le _
  | a :: l, m, h, hs => by
    rw [List.nodup_cons] at h
    have := nodup_le l (m.erase a) h.2 fun x hx => (List.mem_erase_of_ne (fun e => h.1 (by rw [← e]; exact hx))).mpr (hs x (.tail _ hx))
    rw [List.length_erase_of_mem (hs a (.head _))] at this
    have hpos : 0 < m.length := List.length_pos_of_mem (hs a (.head _))
    simp only [List.length_cons]; omega
theorem dij_len (l1 : one.length = wd) (l2 : two.length = wd) {H T : List Pr} (I : Dij c1 c2 c3 c4 one two wd H T) : T.length ≤ 8 ∧ H.length ≤ 100 ∧ ∀ x ∈ H, x.2.length = 2 * wd := by
  have h8 : T.length ≤ 8 := by
    have := nodup_le (T.map (·.2)) (states.map (rho one two)) I.nd fun r hr => by
      obtain ⟨x, hx, rfl⟩ := List.mem_map.mp hr
      obtain ⟨⟨q, hq, _⟩, _⟩ := I.a x hx
      exact List.mem_map.mpr ⟨q, mem_states q, hq⟩
    simpa [states] using this
  refine ⟨h8, by have := I.l; omega, fun x hx => ?_⟩
  obtain ⟨p, ⟨⟨q, hq, _⟩, _⟩, _⟩ := I.c x hx
  rw [← hq]; exact rho_len l1 l2 q
end
end Mine
end

section
open PySem PySem.W PyProof.Rows PySem.SeqAt
set_option maxRecDepth 100000
set_option maxHeartbeats 8000000
namespace Mine
section
variable {prog p : Program} {w : World} {A : Around} {s : Shared} {K : Frag} {h₀ : Heap} {L : Addr} {m mg mb : Str → Option Value} {loose : List Str} {news : List (Addr × Obj)}

/-- a called def's end, with a part of the ledger left at home -/
def RetMyR (h₀ : Heap) (L : Addr) (m : Str → Option Value) (g : Heap) (L' : Addr) (news rest : List (Addr × Obj)) (Q : Value → Shared → Prop) (v : Value) (s' : Shared) : Prop :=
  ∃ m' news', Fr g L' s'.heap m' ∧ News g L' s'.heap news' ∧ (∀ q ∈ news, q ∈ news') ∧ (Fr h₀ L s'.heap m → News h₀ L s'.heap news' → News h₀ L s'.heap rest → Q v s')

/-- the same, with a part of the ledger left at home -/
theorem callMyCR {rest : List (Addr × Obj)} {Q : Value → Shared → Prop} {E : Value → Shared → Prop} {name qual : Str} {params : Arguments} {body : List Stmt} {scope : Scope} {dV kV doc pm cdv ct oc : Value} {an od : Option Addr} {osl : Array (Option Value)} {f : Addr} {args : List Value} {binds : List (Str × Value)}
    (F : Fr h₀ L s.heap m) (X : K.In h₀) (N : News h₀ L s.heap news) (NR : News h₀ L s.heap rest) (T : TopRead p loose mg mb h₀)
    (ho : K.lookup f = some ⟨oc, od, .func (fnOf name qual params body scope dV kV doc pm an cdv ct), osl⟩) (hcd : codeIn K cdv qual = true) (hroom : A.depth < recursionLimit)
    (hbind : bindArgs (fnOf name qual params body scope dV kV doc pm an cdv ct) ⟨args, []⟩ = pure binds)
    (hkind : (binds.all fun y => scope.names.lookup y.1 == some .local || scope.names.lookup y.1 == some .cell) = true)
    (hnd : ((cellsFrom 0 scope.names []).map (·.1)).Nodup)
    (h : ∀ g L' h₁ tk cells, Fr h₀ L g m → Fr g L' h₁ (bindL (envOfC qual scope L' f cdv).kindOf binds fun _ => none) → News g L' h₁ (cells ++ news) →
      CellsAre (bindC (envOfC qual scope L' f cdv).kindOf binds fun _ => none) (cellsFrom (L' + 1) scope.names []) cells → K.In g → TopRead p loose mg mb g → (∀ p ∈ news, p.1 < L') →
      wpAny (model prog w) (A.deeper (envOfC qual scope L' f cdv)) (execs body (envOfC qual scope L' f cdv))
        (fun fl s' => RetMyR h₀ L m g L' news rest Q (match fl with | .ret v => v | _ => .none) s')
        NoE { s with heap := h₁, toks := tk })
    (hco : scope.isCoroutine = false) (hgen : scope.isGenerator = false) (hk : scope.kind = .function) : wpAny (model prog w) A (call (.ref f) args) Q E s := by
  have XS := X.keeps F.keep
  have nm : ∀ b o, h₀.get? b = some o → b ∉ news.map (·.1) := fun b o e q => by
    obtain ⟨x, hx, rfl⟩ := List.mem_map.mp q
    rw [(N x hx).2.2] at e; cases e
  have st : h₀.StaysIn (hideAll s.heap (news.map (·.1))) := fun b o e => hideAll_get _ (F.keep b o e) (nm b o e)
  obtain ⟨oL, es, ep, hL, hLd, hLk, hLf⟩ := F.ns
  have nL : L ∉ news.map (·.1) := fun q => by
    obtain ⟨x, hx, e⟩ := List.mem_map.mp q
    exact (N x hx).2.1 e
  have hLg := hideAll_get (news.map (·.1)) hL nL
  refine wpAny_call (codeAny_call_function hroom (XS _ _ ho) rfl hco hgen rfl (codeRec_of XS hcd) ?_)
  rw [show bindArgs (fnOf name qual params body scope dV kV doc pm an cdv ct) ⟨args, []⟩ = pure binds from hbind]
  refine wpAny_pure (wpAny_newFunctionEnv_cells hk (kindsX hkind _) fun env' he s' x => ?_)
  subst he
  refine ⟨(T.nolimit.keeps F.keep).keeps x.toInCall.keep, codeAny_func ?_⟩
  obtain ⟨h₁, tk, rfl, _⟩ := x.done
  have hk₁ := x.toInCall.keep
  obtain ⟨cells, NC, Y⟩ := Cl.news (h₀ := s.heap) (Nat.le_refl _) fun n c hm => ⟨x.cell n c (lookup_of_mem_nodup (cellsFrom_names scope.names 0 (s.heap.objs.size + 1) [] [] rfl ▸ hnd) hm), x.above n c hm⟩
  have body9 := h (hideAll s.heap (news.map fun x : Addr × Obj => x.1)) s.heap.objs.size h₁ tk cells ⟨⟨oL, es, ep, hLg, hLd, hLk, hLf⟩, st, F.above⟩
    ⟨x.toInCall.ns, fun b o e => hk₁ b o (of_hideAll _ e), Nat.le_of_eq (hideAll_size _ _)⟩ (fun p hp => ?_) Y (X.keeps st) (T.keeps st) (fun p hp => Heap.lt_size (N p hp).1)
  · refine wpAny_mono body9 (fun fl s' hl => ?_) fun _ _ y => y.elim
    obtain ⟨m', news', F', N', sub, k⟩ := hl
    have old : ∀ q ∈ rest, s'.heap.get? q.1 = some q.2 := fun q hq => by
      by_cases hm : q.1 ∈ news.map (·.1)
      · obtain ⟨p, hp, e⟩ := List.mem_map.mp hm
        have e1 := (N p hp).1
        rw [e, (NR q hq).1] at e1
        have : q = p := Prod.ext e.symm (Option.some.inj e1)
        rw [this]
        exact (N' p (sub p hp)).1
      · exact F'.keep _ _ (hideAll_get _ (NR q hq).1 hm)
    refine k ⟨⟨oL, es, ep, F'.keep L oL hLg, hLd, hLk, hLf⟩, fun b o e => F'.keep b o (st b o e), F.above⟩ (fun x hx => ⟨(N' x hx).1, fun q => ?_, ?_⟩) (fun q hq => ⟨old q hq, (NR q hq).2⟩)
    · have := (N' x hx).2.2; rw [q, hLg] at this; cases this
    · cases q : h₀.get? x.1 with
      | none => rfl
      | some o => have := (N' x hx).2.2; rw [st _ _ q] at this; cases this
  · rcases List.mem_append.mp hp with hp | hp
    · refine ⟨(NC p hp).1, (NC p hp).2.1, ?_⟩
      cases q : (hideAll s.heap (news.map (·.1))).get? p.1 with
      | none => rfl
      | some o => have := of_hideAll _ q; rw [(NC p hp).2.2] at this; cases this
    · exact ⟨hk₁ _ _ (N p hp).1, Nat.ne_of_lt (Heap.lt_size (N p hp).1), hideAll_none _ (List.mem_map_of_mem hp)⟩
end
end Mine
end

section
open PySem PySem.W PyProof.Rows
set_option maxRecDepth 100000
set_option maxHeartbeats 4000000
namespace Mine

/-- the tree, run by an order, asks below n alone and ends in P -/
def Goes {α : Type} (n : Nat) (c : Nat → Nat → Bool) : KasT α → (α → Prop) → Prop
  | .ret a, P => P a
  | .ask i j k, P => i < n ∧ j < n ∧ Goes n c (k (c i j)) P
theorem Goes.mono {α : Type} {n : Nat} {c : Nat → Nat → Bool} {P P' : α → Prop} (h : ∀ a, P a → P' a) : ∀ {t : KasT α}, Goes n c t P → Goes n c t P'
  | .ret _, g => h _ g
  | .ask _ _ _, ⟨a, b, g⟩ => ⟨a, b, Goes.mono h g⟩
theorem Goes.bind {α β : Type} {n : Nat} {c : Nat → Nat → Bool} {P : β → Prop} {f : α → KasT β} : ∀ {t : KasT α}, Goes n c t (fun a => Goes n c (f a) P) → Goes n c (t.bind f) P
  | .ret _, g => g
  | .ask _ _ _, ⟨a, b, g⟩ => ⟨a, b, Goes.bind g⟩
theorem Goes.wp {α : Type} {n : Nat} {c : Nat → Nat → Bool} {P : α → Prop} {cmp : Nat → Nat → (Bool → Shared → Prop) → Shared → Prop} {Q : α → Shared → Prop} {s : Shared}
    (hc : ∀ i j C, i < n → j < n → C (c i j) s → cmp i j C s) (hQ : ∀ a, P a → Q a s) : ∀ {t : KasT α}, Goes n c t P → t.kasWp cmp Q s
  | .ret _, g => hQ _ g
  | .ask i j _, ⟨a, b, g⟩ => hc i j _ a b (Goes.wp hc hQ g)

def PermOk (n : Nat) (p : Array Nat) : Prop := p.toList.Perm (List.range n)
theorem PermOk.size {n : Nat} {p : Array Nat} (h : PermOk n p) : p.size = n := by
  have := List.Perm.length_eq h
  simpa using this
theorem PermOk.lt {n : Nat} {p : Array Nat} (h : PermOk n p) {i : Nat} (hi : i < n) : p.getD i 0 < n := by
  have hs := h.size
  have e : p.getD i 0 = p[i]'(by omega) := by simp [Array.getD, hs, hi]
  rw [e]
  have : p[i]'(by omega) ∈ p.toList := by simp
  exact List.mem_range.mp (List.Perm.subset h this)
theorem PermOk.of {n : Nat} {p q : Array Nat} (h : PermOk n p) (hq : q.Perm p) : PermOk n q := (Array.perm_iff_toList_perm.mp hq).trans h

section
variable {β : Type} {lt : β → β → Bool} {key : Nat → β} {n : Nat}

def Ky (key : Nat → β) (p : Array Nat) (i : Nat) : β := key (p.getD i 0)
theorem Ky_congr {p q : Array Nat} {i j : Nat} (h : p[i]? = q[j]?) : Ky key p i = Ky key q j := by
  unfold Ky
  rw [Array.getD_eq_getD_getElem?, Array.getD_eq_getD_getElem?, h]
def Srt (lt : β → β → Bool) (key : Nat → β) (p : Array Nat) (k : Nat) : Prop := ∀ i j, i < j → j < k → lt (Ky key p j) (Ky key p i) = false
def Dsc (lt : β → β → Bool) (key : Nat → β) (p : Array Nat) (k : Nat) : Prop := ∀ i j, i < j → j < k → lt (Ky key p i) (Ky key p j) = false
def Tie (key : Nat → β) (p : Array Nat) (a b : Nat) : Prop := ∀ i, a ≤ i → i < b → Ky key p i = Ky key p (b - 1)

theorem Ky_rev {p : Array Nat} {i j : Nat} (hj : j ≤ p.size) (k : Nat) : Ky key (kas_rev p i j) k = if i ≤ k ∧ k < j then Ky key p (i + j - 1 - k) else Ky key p k := by
  have e := getElem?_mirror_all (i := i) hj k
  unfold kas_rev
  by_cases h1 : i ≤ k ∧ k < j
  · rw [if_pos h1] at e ⊢; exact Ky_congr e
  · rw [if_neg h1] at e ⊢; exact Ky_congr e
theorem Ky_rev_tie {p : Array Nat} {i j : Nat} (hj : j ≤ p.size) (t : Tie key p i j) (k : Nat) : Ky key (kas_rev p i j) k = Ky key p k := by
  rw [Ky_rev hj]
  by_cases h1 : i ≤ k ∧ k < j
  · rw [if_pos h1, t _ (by omega) (by omega), t k h1.1 h1.2]
  · rw [if_neg h1]
theorem PermOk.rev {p : Array Nat} (h : PermOk n p) (i j : Nat) : PermOk n (kas_rev p i j) := h.of (mirror_perm _ _ _ _)
theorem PermOk.bubble {p : Array Nat} (h : PermOk n p) (i j : Nat) : PermOk n (bubble p i j) := h.of (bubble_perm _ _ _)
theorem Ky_bubble {p : Array Nat} {src d : Nat} (hs : src < p.size) (hd : d ≤ src) (k : Nat) :
    Ky key (bubble p src d) k = if k = src - d then Ky key p src else if src - d < k ∧ k ≤ src then Ky key p (k - 1) else Ky key p k := by
  have e := getElem?_bubble hs d hd k
  by_cases h1 : k = src - d
  · rw [if_pos h1] at e ⊢; exact Ky_congr e
  · rw [if_neg h1] at e ⊢
    by_cases h2 : src - d < k ∧ k ≤ src
    · rw [if_pos h2] at e ⊢; exact Ky_congr e
    · rw [if_neg h2] at e ⊢; exact Ky_congr e

/-- the order asked -/
abbrev cOf (lt : β → β → Bool) (key : Nat → β) (i j : Nat) : Bool := lt (key i) (key j)

theorem asc_ok (o : Ord lt) {p : Array Nat} (hp : PermOk n p) : ∀ (f a : Nat), 1 ≤ a → a + f ≤ n → Srt lt key p a →
    Goes n (cOf lt key) (kas_asc p f a) (fun m => a ≤ m ∧ m ≤ a + f ∧ Srt lt key p m ∧ (m < a + f → lt (Ky key p m) (Ky key p (m - 1)) = true))
  | 0, a, _, _, hs => ⟨Nat.le_refl _, Nat.le_refl _, hs, fun h => absurd h (Nat.lt_irrefl _)⟩
  | f + 1, a, h1, hf, hs => by
    unfold kas_asc
    refine ⟨hp.lt (by omega), hp.lt (by omega), ?_⟩
    cases hc : cOf lt key (p.getD a 0) (p.getD (a - 1) 0) with
    | true =>
      show Goes _ _ (if true = true then _ else _) _
      rw [if_pos rfl]
      exact ⟨Nat.le_refl _, by omega, hs, fun _ => hc⟩
    | false =>
      show Goes _ _ (if false = true then _ else _) _
      rw [if_neg (by simp)]
      refine Goes.mono (fun m hm => ⟨by omega, by omega, hm.2.2.1, fun h => hm.2.2.2 (by omega)⟩) (asc_ok o hp f (a + 1) (by omega) (by omega) fun i j hij hj => ?_)
      by_cases e : j = a
      · subst e
        by_cases e2 : i = j - 1
        · rw [e2]; exact hc
        · exact o.neg _ _ _ hc (hs i (j - 1) (by omega) (by omega))
      · exact hs i j hij (by omega)

theorem desc_ok (o : Ord lt) (tri : ∀ a b, lt a b = false → lt b a = false → a = b) : ∀ (f : Nat) (p : Array Nat) (a q : Nat), PermOk n p → 1 ≤ a → a + f ≤ n → Dsc lt key p a → q + 1 ≤ a → Tie key p (a - (q + 1)) a →
    Goes n (cOf lt key) (kas_desc f p a q) (fun r => PermOk n r.1 ∧ a ≤ r.2.1 ∧ r.2.1 ≤ a + f ∧ Dsc lt key r.1 r.2.1 ∧ r.2.2 + 1 ≤ r.2.1 ∧ Tie key r.1 (r.2.1 - (r.2.2 + 1)) r.2.1)
  | 0, p, a, q, hp, _, _, hd, hq, ht => ⟨hp, Nat.le_refl _, Nat.le_refl _, hd, hq, ht⟩
  | f + 1, p, a, q, hp, h1, hf, hd, hq, ht => by
    have hsz := hp.size
    unfold kas_desc
    refine ⟨hp.lt (by omega), hp.lt (by omega), ?_⟩
    have more : ∀ (p' : Array Nat), (∀ i, Ky key p' i = Ky key p i) → lt (Ky key p (a - 1)) (Ky key p a) = false → Dsc lt key p' (a + 1) := fun p' e h i j hij hj => by
      rw [e i, e j]
      by_cases e1 : j = a
      · subst e1
        by_cases e2 : i = j - 1
        · rw [e2]; exact h
        · exact o.neg _ _ _ (hd i (j - 1) (by omega) (by omega)) h
      · exact hd i j hij (by omega)
    have one : ∀ (p' : Array Nat), Tie key p' (a + 1 - (0 + 1)) (a + 1) := fun p' i hi hj => by
      have : i = a + 1 - 1 := by omega
      rw [this]
    cases hc : cOf lt key (p.getD a 0) (p.getD (a - 1) 0) with
    | true =>
      show Goes _ _ (if true = true then _ else _) _
      rw [if_pos rfl]
      have hc' := o.asym hc
      by_cases hq0 : q > 0
      · rw [if_pos hq0]
        have e := Ky_rev_tie (key := key) (p := p) (by omega : a ≤ p.size) ht
        exact Goes.mono (fun r hr => ⟨hr.1, by omega, by omega, hr.2.2.2⟩) (desc_ok o tri f _ (a + 1) 0 (hp.rev _ _) (by omega) (by omega) (more _ e hc') (by omega) (one _))
      · rw [if_neg hq0]
        exact Goes.mono (fun r hr => ⟨hr.1, by omega, by omega, hr.2.2.2⟩) (desc_ok o tri f _ (a + 1) 0 hp (by omega) (by omega) (more _ (fun _ => rfl) hc') (by omega) (one _))
    | false =>
      show Goes _ _ (if false = true then _ else _) _
      rw [if_neg (by simp)]
      refine ⟨hp.lt (by omega), hp.lt (by omega), ?_⟩
      cases hd' : cOf lt key (p.getD (a - 1) 0) (p.getD a 0) with
      | true =>
        show Goes _ _ (if true = true then _ else _) _
        rw [if_pos rfl]
        exact ⟨hp, Nat.le_refl _, (show a ≤ a + (f + 1) by omega), hd, hq, ht⟩
      | false =>
        show Goes _ _ (if false = true then _ else _) _
        rw [if_neg (by simp)]
        have eq : Ky key p (a - 1) = Ky key p a := tri _ _ hd' hc
        refine Goes.mono (fun r hr => ⟨hr.1, by omega, by omega, hr.2.2.2⟩) (desc_ok o tri f p (a + 1) (q + 1) hp (by omega) (by omega) (more _ (fun _ => rfl) hd') (by omega) fun i hi hj => ?_)
        by_cases e : i = a
        · rw [e]; rfl
        · rw [ht i (by omega) (by omega)]
          exact eq

abbrev CntOk (lt : β → β → Bool) (key : Nat → β) (n : Nat) (r : Nat × Array Nat) : Prop := PermOk n r.2 ∧ 1 ≤ r.1 ∧ r.1 ≤ n ∧ Srt lt key r.2 r.1

theorem tail3_ok (o : Ord lt) {p : Array Nat} (hp : PermOk n p) {a : Nat} (h1 : 1 ≤ a) (ha : a ≤ n) (hd : Dsc lt key p a) : Goes n (cOf lt key) (kas_tail3 a n p) (CntOk lt key n) := by
  have hsz := hp.size
  unfold kas_tail3
  refine Goes.bind (Goes.mono (fun m hm => ?_) (asc_ok o (hp.rev 0 a) (n - a) a h1 (by omega) fun i j hij hj => ?_))
  · exact ⟨hp.rev 0 a, by omega, by omega, hm.2.2.1⟩
  · rw [Ky_rev (by omega), Ky_rev (by omega), if_pos ⟨Nat.zero_le _, hj⟩, if_pos ⟨Nat.zero_le _, by omega⟩]
    exact hd _ _ (by omega) (by omega)

theorem descPart_ok (o : Ord lt) (tri : ∀ a b, lt a b = false → lt b a = false → a = b) {p : Array Nat} (hp : PermOk n p) {a : Nat} (ha : a + 1 ≤ n) (hd : Dsc lt key p (a + 1)) : Goes n (cOf lt key) (kas_descPart a n p) (CntOk lt key n) := by
  unfold kas_descPart
  refine Goes.bind (Goes.mono (fun r hr => ?_) (desc_ok o tri (n - (a + 1)) p (a + 1) 0 hp (by omega) (by omega) hd (by omega) fun i hi hj => ?_))
  · obtain ⟨k1, k2, k3, k4, k5, k6⟩ := hr
    have hsz := k1.size
    by_cases hq : r.2.2 > 0
    · rw [if_pos hq]
      refine tail3_ok o (k1.rev _ _) (by omega) (by omega) fun i j hij hj => ?_
      rw [Ky_rev_tie (by omega) k6, Ky_rev_tie (by omega) k6]
      exact k4 i j hij hj
    · rw [if_neg hq]
      exact tail3_ok o k1 (by omega) (by omega) k4
  · have : i = a + 1 - 1 := by omega
    rw [this]

theorem count_ok (o : Ord lt) (tri : ∀ a b, lt a b = false → lt b a = false → a = b) {p : Array Nat} (hp : PermOk n p) (hn : 1 ≤ n) : Goes n (cOf lt key) (kas_count n p) (CntOk lt key n) := by
  have hsz := hp.size
  unfold kas_count
  refine Goes.bind (Goes.mono (fun m hm => ?_) (asc_ok o hp (n - 1) 1 (Nat.le_refl _) (by omega) fun i j hij hj => by omega))
  obtain ⟨k1, k2, k3, k4⟩ := hm
  by_cases e : (m == n) = true
  · rw [if_pos e]
    exact ⟨hp, k1, by omega, k3⟩
  · rw [if_neg e]
    have hmn : m < n := by
      have : m ≠ n := by simpa using e
      omega
    have hlast := o.asym (k4 (by omega))
    by_cases h1 : m > 1
    · rw [if_pos h1]
      refine ⟨hp.lt (by omega), hp.lt (by omega), ?_⟩
      cases hc : cOf lt key (p.getD 0 0) (p.getD (m - 1) 0) with
      | true =>
        show Goes _ _ (if true = true then _ else _) _
        rw [if_pos rfl]; exact ⟨hp, k1, by omega, k3⟩
      | false =>
        show Goes _ _ (if false = true then _ else _) _
        rw [if_neg (by simp)]
        have hc' : lt (Ky key p 0) (Ky key p (m - 1)) = false := hc
        have tie : Tie key p 0 m := fun i _ hi => by
          by_cases e1 : i = m - 1
          · rw [e1]
          · refine tri _ _ ?_ (k3 i (m - 1) (by omega) (by omega))
            by_cases e0 : i = 0
            · rw [e0]; exact hc'
            · exact o.neg _ _ _ (k3 0 i (by omega) (by omega)) hc'
        have er := Ky_rev_tie (key := key) (by omega : m ≤ p.size) tie
        refine descPart_ok o tri (hp.rev 0 m) (by omega) fun i j hij hj => ?_
        rw [er, er]
        by_cases e1 : j = m
        · rw [e1, tie i (by omega) (by omega)]; exact hlast
        · rw [tie i (by omega) (by omega), tie j (by omega) (by omega)]; exact o.irrefl _
    · rw [if_neg h1]
      have m1 : m = 1 := by omega
      subst m1
      refine descPart_ok o tri hp (by omega) fun i j hij hj => ?_
      have e1 : i = 0 := by omega
      have e2 : j = 1 := by omega
      rw [e1, e2]; exact hlast

theorem place_ok (o : Ord lt) {p : Array Nat} (hp : PermOk n p) {k : Nat} (hk : k < n) (hs : Srt lt key p k) : ∀ (f l r : Nat), r ≤ k → l ≤ r → r - l ≤ f → (∀ i, i < l → lt (Ky key p k) (Ky key p i) = false) → (∀ i, r ≤ i → i < k → lt (Ky key p k) (Ky key p i) = true) →
    Goes n (cOf lt key) (kas_place p k f l r) (fun l => l ≤ k ∧ (∀ i, i < l → lt (Ky key p k) (Ky key p i) = false) ∧ (∀ i, l ≤ i → i < k → lt (Ky key p k) (Ky key p i) = true))
  | 0, l, r, hr, hl, hf, a1, a2 => ⟨by omega, a1, fun i hi hik => a2 i (by omega) hik⟩
  | f + 1, l, r, hr, hl, hf, a1, a2 => by
    unfold kas_place
    by_cases e : l ≥ r
    · rw [if_pos e]
      exact ⟨by omega, a1, fun i hi hik => a2 i (by omega) hik⟩
    · rw [if_neg e]
      refine ⟨hp.lt (by omega), hp.lt (by omega), ?_⟩
      cases hc : cOf lt key (p.getD k 0) (p.getD ((l + r) / 2) 0) with
      | true =>
        show Goes _ _ (if true = true then _ else _) _
        rw [if_pos rfl]
        refine place_ok o hp hk hs f l ((l + r) / 2) (by omega) (by omega) (by omega) a1 fun i hi hik => ?_
        by_cases e1 : i = (l + r) / 2
        · rw [e1]; exact hc
        · cases h : lt (Ky key p k) (Ky key p i) with
          | true => rfl
          | false =>
            have := o.neg _ _ _ h (hs ((l + r) / 2) i (by omega) hik)
            have hc' : lt (Ky key p k) (Ky key p ((l + r) / 2)) = true := hc
            rw [this] at hc'; cases hc'
      | false =>
        show Goes _ _ (if false = true then _ else _) _
        rw [if_neg (by simp)]
        refine place_ok o hp hk hs f ((l + r) / 2 + 1) r (by omega) (by omega) (by omega) (fun i hi => ?_) a2
        by_cases e1 : i = (l + r) / 2
        · rw [e1]; exact hc
        · exact o.neg _ _ _ hc (hs i ((l + r) / 2) (by omega) (by omega))

theorem bin_ok (o : Ord lt) : ∀ (f : Nat) (p : Array Nat) (k : Nat), PermOk n p → k + f = n → Srt lt key p k → Goes n (cOf lt key) (kas_bin f p k) (fun p => PermOk n p ∧ Srt lt key p n)
  | 0, p, k, hp, hk, hs => by
    have : k = n := by omega
    subst this
    exact ⟨hp, hs⟩
  | f + 1, p, k, hp, hk, hs => by
    have hsz := hp.size
    unfold kas_bin
    refine Goes.bind (Goes.mono (fun l hl => ?_) (place_ok o hp (by omega) hs k 0 k (Nat.le_refl _) (Nat.zero_le _) (by omega) (fun i hi => absurd hi (Nat.not_lt_zero _)) fun i hi hik => by omega))
    obtain ⟨h1, h2, h3⟩ := hl
    refine bin_ok o f _ (k + 1) (hp.bubble _ _) (by omega) fun i j hij hj => ?_
    have el : k - (k - l) = l := by omega
    rw [Ky_bubble (by omega) (by omega), Ky_bubble (by omega) (by omega), el]
    by_cases ej : j = l
    · rw [if_pos ej, if_neg (by omega), if_neg (by omega)]
      exact h2 i (by omega)
    · rw [if_neg ej]
      by_cases ei : i = l
      · rw [if_pos ei, if_pos (by omega)]
        exact o.asym (h3 (j - 1) (by omega) (by omega))
      · rw [if_neg ei]
        by_cases ej2 : l < j ∧ j ≤ k
        · rw [if_pos ej2]
          by_cases ei2 : l < i ∧ i ≤ k
          · rw [if_pos ei2]; exact hs _ _ (by omega) (by omega)
          · rw [if_neg ei2]; exact hs _ _ (by omega) (by omega)
        · rw [if_neg ej2]
          by_cases ei2 : l < i ∧ i ≤ k
          · exact absurd hj (by omega)
          · rw [if_neg ei2]; exact hs _ _ hij (by omega)

theorem sort_ok (o : Ord lt) (tri : ∀ a b, lt a b = false → lt b a = false → a = b) (hn : 1 ≤ n) : Goes n (cOf lt key) (kas_sort n) (fun p => PermOk n p ∧ Srt lt key p n) := by
  have hp : PermOk n (List.toArray (List.range n)) := List.Perm.refl _
  unfold kas_sort
  refine Goes.bind (Goes.mono (fun r hr => ?_) (count_ok o tri hp hn))
  obtain ⟨k1, k2, k3, k4⟩ := hr
  by_cases e : r.1 < n
  · rw [if_pos e]
    have em : max r.1 1 = r.1 := by omega
    rw [em]
    exact bin_ok o _ _ _ k1 (by omega) k4
  · rw [if_neg e]
    have : r.1 = n := by omega
    rw [this] at k4
    exact ⟨k1, k4⟩
end
end Mine
end

section
open PySem PySem.W PyProof.Rows PySem.SeqAt
set_option maxRecDepth 100000
set_option maxHeartbeats 8000000
namespace Mine
section
variable {prog p : Program} {w : World} {A : Around} {E : Value → Shared → Prop} {s : Shared} {h₀ : Heap} {L l : Addr} {m : Str → Option Value} {news rest : List (Addr × Obj)} {n : Nat}

theorem keyLt_pair {v u : Value} {x y : Pr} {Q : Bool → Shared → Prop} (N : News h₀ L s.heap news) (hx : DatIn news v (pairD x)) (hy : DatIn news u (pairD y)) (hu : A.units + 8 < cLine) (h : Q (plt x y) s) :
    wpAny (model prog w) A (keyLt' (tuples' true) v u) Q E s := by
  obtain ⟨a, n1, t, rv, rfl, hm, hrv⟩ := Good.open hx
  obtain ⟨b, n2, t', ru, rfl, hm2, hru⟩ := Good.open hy
  refine kat_lt (N _ hm).1 rfl (N _ hm2).1 rfl ?_
  show KatLex prog w A true false Q [(.int x.1 t, .int y.1 t'), (rv, ru)] 0 s
  refine kat_cons ?_
  have e1 := EqAt.int_int (A := A) (s := s) x.1 t y.1 t'
  have e : (x.1 == y.1) = decide (x.1 = y.1) := by by_cases h : x.1 = y.1 <;> simp [h]
  rw [e] at e1
  refine e1 prog w _ _ ?_
  by_cases hxy : x.1 = y.1
  · rw [decide_eq_true hxy]
    refine kat_yes (kat_cons ?_)
    have e2 : EqAt A s rv ru (decide (x.2 = y.2)) := eqAt_dat N 2 2 hrv hru (rowOk 1 _) (rowOk 1 _) (by omega) _ ⟨fun e => by rw [of_decide_eq_true e], fun e => decide_eq_true (rowD_inj e)⟩
    refine e2 prog w _ _ ?_
    by_cases h' : x.2 = y.2
    · rw [decide_eq_true h']
      refine kat_yes (kat_nil ?_)
      have e : plt x y = false := by
        unfold plt
        rw [if_pos hxy, h', ilt_irrefl]
      rw [e] at h
      exact h
    · rw [decide_eq_false h']
      refine kat_no (kat_one _ _ (ltAt_row N hrv hru (by omega) prog w _ _ ?_))
      unfold plt at h
      rw [if_pos hxy] at h
      exact h
  · rw [decide_eq_false hxy]
    refine kat_no ?_
    unfold plt at h
    rw [if_neg hxy] at h
    have := kat_lt_int (prog := prog) (w := w) (A := A) (E := fun _ _ => False) (s := s) (x := x.1) (y := y.1) (t := t) (u := t') (Q := Q) h
    rw [keyLt'_oneType] at this
    exact this

theorem good_tups {h : Heap} (N : News h₀ L h news) : ∀ (zs : List It), Good news zs → ∃ fs : List Value, KatTups h (valsOf zs) fs ∧ fs.length = zs.length ∧ ∀ v ∈ fs, ∃ i t, v = .int i t
  | [], _ => ⟨[], trivial, rfl, fun v hv => by cases hv⟩
  | z :: zs, G => by
    obtain ⟨fs, h1, h2, h3⟩ := good_tups N zs (fun y hy => G y (.tail _ hy))
    obtain ⟨a, n1, t, rv, hv, hm, hrv⟩ := Good.open (G z (.head _))
    refine ⟨.int z.2.1 t :: fs, ⟨⟨a, _, _, _, hv, (N _ hm).1, rfl, rfl, rfl⟩, h1⟩, by simp [h2], fun v hv => ?_⟩
    rcases List.mem_cons.mp hv with rfl | hv
    · exact ⟨_, _, rfl⟩
    · exact h3 v hv

def dflt : It := (.none, (0, []))
theorem range_map (zs : List It) : (List.range zs.length).map (fun i => zs.getD i dflt) = zs := by
  apply List.ext_getElem
  · simp
  · intro i h1 h2
    simp [h2]

theorem sortZ {zs : List It} {Q : Value → Shared → Prop} (F : Fr h₀ L s.heap m) (N : News h₀ L s.heap ((l, listOf (valsOf zs).toArray n) :: rest)) (hr : ∀ q ∈ rest, q.1 ≠ l) (G : Good rest zs) (h2 : 2 ≤ zs.length) (h64 : zs.length < 64) (hu : A.units + 9 < cLine)
    (h : ∀ zs' n' h', zs'.Perm zs → (∀ (i j : Nat) (a b : It), i < j → zs'[i]? = some a → zs'[j]? = some b → plt b.2 a.2 = false) → Fr h₀ L h' m → News h₀ L h' ((l, listOf (valsOf zs').toArray n') :: rest) → Q .none { s with heap := h' }) :
    wpAny (model prog w) A (call (.builtin "list.sort") [.ref l]) Q E s := by
  refine kat_lsort (vs := valsOf zs) F N (UpdF.head hr) (by simp) (by simpa using h2) (by simpa using h64) fun e1 h' F' N' => ?_
  have N2 : News h₀ L h' rest := fun q hq => N' q (.tail _ hq)
  obtain ⟨fs, t1, t2, t3⟩ := good_tups N2 zs G
  refine kat_kind (T := .type "int") t1 (by omega) (fun v hv => ?_) (by decide) ?_
  · obtain ⟨i, t, rfl⟩ := t3 v hv
    exact .now
  · have hlen : (valsOf zs).length = zs.length := by simp
    have get : ∀ i, i < zs.length → (zs.getD i dflt) ∈ zs ∧ (valsOf zs).getD i Value.none = (zs.getD i dflt).1 := fun i hi => by
      have e : zs.getD i dflt = zs[i] := by simp [hi]
      refine ⟨by rw [e]; exact List.getElem_mem hi, ?_⟩
      rw [e]; simp [hi]
    refine Goes.wp (n := (valsOf zs).length) (c := cOf plt fun i => (zs.getD i dflt).2) (P := fun p => PermOk (valsOf zs).length p ∧ Srt plt (fun i => (zs.getD i dflt).2) p (valsOf zs).length) (fun i j C hi hj hC => ?_) (fun p hp => ?_) (sort_ok plt_ord (fun a b => plt_tri) (by omega))
    · rw [hlen] at hi hj
      show wpAny _ _ (keyLt' (tuples' true) _ _) _ _ _
      rw [(get i hi).2, (get j hj).2]
      exact keyLt_pair N2 (G _ (get i hi).1) (G _ (get j hj).1) (by show A.units + 1 + 8 < cLine; omega) hC
    · rw [hlen] at hp
      obtain ⟨hp, hs⟩ := hp
      refine KasFin.intro F' N' (UpdF.head hr) fun h'' c F'' N'' => ?_
      have hin : ∀ i ∈ p.toList, i < zs.length := fun i hi => List.mem_range.mp (List.Perm.subset hp hi)
      have ev : (p.toList.map fun i => (valsOf zs).getD i Value.none) = valsOf (p.toList.map fun i => zs.getD i dflt) := by
        show _ = (p.toList.map fun i => zs.getD i dflt).map (·.1)
        rw [List.map_map]
        exact List.map_congr_left fun i hi => (get i (hin i hi)).2
      rw [ev] at N''
      refine h (p.toList.map fun i => zs.getD i dflt) c h'' ?_ ?_ F'' N''
      · have := List.Perm.map (fun i => zs.getD i dflt) hp
        rwa [range_map] at this
      · intro i j a b hij ha hb
        have hps := hp.size
        have k : ∀ i a, (p.toList.map fun i => zs.getD i dflt)[i]? = some a → i < zs.length ∧ a.2 = Ky (fun i => (zs.getD i dflt).2) p i := fun i a ha => by
          have hi : i < zs.length := by
            rcases Nat.lt_or_ge i zs.length with h' | h'
            · exact h'
            · rw [List.getElem?_eq_none (by simp; omega)] at ha; cases ha
          refine ⟨hi, ?_⟩
          rw [List.getElem?_map] at ha
          have e2 : p.toList[i]? = some (p.getD i 0) := by
            rw [Array.getElem?_toList]
            have hi' : i < p.size := by omega
            simp [Array.getD, hi']
          rw [e2] at ha
          simp only [Option.map_some, Option.some.injEq] at ha
          rw [← ha]; rfl
        obtain ⟨i1, i2⟩ := k i a ha
        obtain ⟨j1, j2⟩ := k j b hb
        rw [i2, j2]
        exact hs i j hij j1
end
end Mine
end

section
open PySem PySem.W PySem.Calls PyProof.Rows PySem.SeqAt
set_option maxRecDepth 100000
set_option maxHeartbeats 8000000
namespace Mine
/-- the table, of the sorted items, after i turns -/
def tabZ (zs : List It) : Nat → List It
  | 0 => []
  | i + 1 => match zs[i]? with
    | some z => if z.2.2 ∈ (zs.take i).map (fun z => z.2.2) then tabZ zs i else tabZ zs i ++ [z]
    | none => tabZ zs i
theorem tabZ_mem (zs : List It) : ∀ n, ∀ z ∈ tabZ zs n, z ∈ zs
  | 0, z, h => nomatch h
  | n + 1, z, h => by
    unfold tabZ at h
    cases hz : zs[n]? with
    | none => rw [hz] at h; exact tabZ_mem zs n z h
    | some y =>
      rw [hz] at h
      dsimp only at h
      split at h
      · exact tabZ_mem zs n z h
      · rcases List.mem_append.mp h with h | h
        · exact tabZ_mem zs n z h
        · rw [List.mem_singleton.mp h]; exact List.mem_of_getElem? hz
section
variable {prog : Program} {w : World} {A : Around} {s : Shared} {h₀ : Heap} {L : Addr} {m : Str → Option Value} {env : Env}

theorem tab_rest {zs : List It} {lp Cc : Addr} {n : Nat} {oc : Obj} {rest : List (Addr × Obj)} {pr k price row : Str} {p1 p2 p3 p4 p5 p6 p7 p8 p9 p10 p11 p12 p13 p14 p15 q1 q2 q3 : Pos} {scope scope2 : Scope} {cl : List (Str × Addr)} {Fin : List Value → List (Addr × Obj) → Prop}
    (hh : A.handled = none) (hu : A.units + 9 < cLine) (hG : Good rest zs) (hz : zs.length < 2 ^ 20) (hcl : cl.lookup pr = some Cc) (hoc : oc.data = .cell (some (.ref lp))) (hCc : (Cc, oc) ∈ rest)
    (hkind : ∀ C, (compEnvC scope cl C env).scope.kind = .function) (hkp : ∀ C, (compEnvC scope cl C env).kindOf pr = some .cell) (hkk : ∀ C, (compEnvC scope cl C env).kindOf k = some .local)
    (hpd : (pr == ("__debug__" : Str)) = false) (hkd : (k == ("__debug__" : Str)) = false)
    (hfree : ∀ x ∈ scope2.names, x.2 ≠ .free) (hnames : ∀ x ∈ scope2.names, x.2 = .local → scope2.names.lookup x.1 = some .local)
    (hcell : ∀ y ∈ scope2.names, y.2 ≠ .cell) (hkind2 : scope2.kind = .function) (hxa : scope2.names.lookup price = some .local) (hxb : scope2.names.lookup row = some .local) (hbd : (row == ("__debug__" : Str)) = false)
    (hfin : ∀ ys news', (∀ q ∈ (lp, listOf (valsOf zs).toArray n) :: rest, q ∈ news') → ys = valsOf (tabZ zs zs.length) → Fin ys news') :
    ∀ (j i : Nat) (news : List (Addr × Obj)), i + j = zs.length → (∀ q ∈ (lp, listOf (valsOf zs).toArray n) :: rest, q ∈ news) →
      LCt.CompRestT prog w A h₀ L m env (.Compare (.Subscript (.Subscript (.Name pr p1) (.Name k p2) p3) (.Constant (.int 1) 0 p4) p5) [.NotIn] [.ListComp (.Name row p6) [⟨.Tuple [.Name price p7, .Name row p8] 0 p9, .Subscript (.Name pr p10) (.Slice none (some (.Name k p11)) none p12) p13, [], 0⟩] scope2 p14] p15)
        (.Subscript (.Name pr q1) (.Name k q2) q3) k scope cl s (fun _ => True) (fun i v => ∃ t, v = .int (0 + (i : Int)) t) Fin j i (valsOf (tabZ zs i)) news := by
  intro j
  induction j with
  | zero =>
    intro i news hij hsub
    have : i = zs.length := by omega
    subst this
    exact LCt.CompRestT.zero (hfin _ _ hsub rfl)
  | succ j ih =>
    intro i news hij hsub
    refine LCt.CompRestT.succ ?_
    intro v I oI C oC D m₂ h tk E' hv hC hx F N off ne
    obtain ⟨t, rfl⟩ := hv
    have hi : i < zs.length := by omega
    obtain ⟨z, hzi⟩ : ∃ z, zs[i]? = some z := ⟨_, List.getElem?_eq_getElem hi⟩
    have up : ∀ q ∈ news, q ∈ (I, oI) :: (C, oC) :: (D, LCg.lst (valsOf (tabZ zs i))) :: news := fun q hq => .tail _ (.tail _ (.tail _ hq))
    have subr : ∀ q ∈ rest, q ∈ news := fun q hq => hsub q (.tail _ hq)
    have cut : ∀ {h' : Heap} {ns : List (Addr × Obj)}, News h₀ L h' ns → (∀ q ∈ news, q ∈ ns) → News h₀ L h' [(lp, listOf (valsOf zs).toArray n)] := fun N' hs q hq => by
      rw [List.mem_singleton.mp hq]
      exact N' _ (hs _ (hsub _ (.head _)))
    obtain ⟨T, nT, tT, rv, hv, hm, hrv⟩ := Good.open (hG.get hzi)
    have hik : (0 + (i : Int)) = ((i : Nat) : Int) := by omega
    refine wpAny_isTrue_Compare1 (Subscript_ (Subscript_ ?_)) rfl
    refine lcf_cell N hcl (up _ (subr _ hCc)) hoc ?_ (hkind C) (hkp C) hpd
    refine LCgL.ld_own N (.tail _ (.head _)) hC hx ?_ (hkind C) (hkk C) hkd
    refine itemZ (cut N up) hik hzi hz ?_
    refine wpAny_Constant_int ?_
    rw [hv]
    refine item_tupleT (l := [.int z.2.1 tT, rv]) ⟨_, (N _ (up _ (subr _ hm))).1, rfl, nT, rfl⟩ (by decide) (by decide) (j := 1) (show seqIndex? 1 2 = some 1 by decide) rfl ?_
    have hlen : (zs.take i).length < 2 ^ 20 := by rw [List.length_take]; omega
    refine rows_comp (zs := zs.take i) (rest := rest) hh (fun z hz => hG z (List.mem_of_mem_take hz)) hlen hfree hnames hcell hkind2 hxa hxb hbd ?_
    refine Subscript_ ?_
    refine lcf_cell (s := ⟨_, _, _, _, _⟩) N hcl (up _ (subr _ hCc)) hoc ?_ (hkind C) (hkp C) hpd
    refine wpAny_Slice ?_
    rw [evalPart_none, evalPart_some]
    refine wpAny_pure ?_
    refine LCgL.ld_own (s := ⟨_, _, _, _, _⟩) N (.tail _ (.head _)) hC hx ?_ (hkind C) (hkk C) hkd
    refine wpAny_pure ?_
    refine slice_list (s := ⟨_, _, _, _, _⟩) F N ⟨_, (N _ (up _ (hsub _ (.head _)))).1, rfl, n, rfl⟩ .none (.int _ _) ?_ (hsz := by rw [List.size_toArray, List.length_map, sizeLine_eq]; omega)
    intro h1 F1 N1
    have e1 : slicePick (valsOf zs).toArray none (some (0 + (i : Int))) none = (valsOf (zs.take i)).toArray := by
      rw [hik, slicePick_upto (valsOf zs).toArray i (by simp; omega)]
      simp [List.map_take]
    rw [e1] at N1
    refine ⟨_, rfl, ⟨_, (N1 _ (.head _)).1, rfl, _, rfl⟩, fun q hq => (N1 q (.tail _ (up _ (subr _ hq)))).1, ?_⟩
    intro us h2 tk2 n2 keep2 hD2 hdat2
    have N2 := News_at F1 N1 keep2 (Nat.le_succ _) hD2
    have F2 := Fr_ext F1 keep2
    dsimp only
    have up2 : ∀ q ∈ (I, oI) :: (C, oC) :: (D, LCg.lst (valsOf (tabZ zs i))) :: news, q ∈ _ := fun q hq => List.mem_cons_of_mem (h1.objs.size + 1, listOf us.toArray n2) (List.mem_cons_of_mem (h.objs.size + 1, ({ cls := .type "list", data := .seq (valsOf (zs.take i)).toArray } : Obj)) hq)
    have sub5 := fun q hq => up2 q (up q (subr q hq))
    refine notIn_rows (rs := (zs.take i).map fun z => z.2.2) (r := z.2.2) N2 (.head _) ((by rw [List.map_map]; exact hdat2 : DatAll _ us _).mono sub5) (hrv.mono sub5) (by omega) ?_
    refine wpAny_truthy_bool ?_
    by_cases hin : z.2.2 ∈ (zs.take i).map fun z => z.2.2
    · rw [decide_eq_true hin]
      simp only [Bool.not_true, Bool.false_eq_true, if_false]
      have e : tabZ zs (i + 1) = tabZ zs i := by
        show (match zs[i]? with | some z => _ | none => _) = _
        rw [hzi]; exact if_pos hin
      refine LCg.CompEnd.intro F2 N2 news (fun p hp => up2 p hp) off trivial ?_
      have := ih (i + 1) news (by omega) hsub
      rw [e] at this
      exact this
    · rw [decide_eq_false hin]
      simp only [Bool.not_false, if_true]
      have e : tabZ zs (i + 1) = tabZ zs i ++ [z] := by
        show (match zs[i]? with | some z => _ | none => _) = _
        rw [hzi]; exact if_neg hin
      refine Subscript_ ?_
      refine lcf_cell N2 hcl (up2 _ (up _ (subr _ hCc))) hoc ?_ (hkind C) (hkp C) hpd
      refine LCgL.ld_own N2 (up2 _ (.tail _ (.head _))) hC hx ?_ (hkind C) (hkk C) hkd
      refine itemZ (cut N2 fun q hq => up2 q (up q hq)) hik hzi hz ?_
      refine LCg.CompEnd.intro F2 N2 news (fun p hp => up2 p hp) off trivial ?_
      have := ih (i + 1) news (by omega) hsub
      rw [e] at this
      have e3 : valsOf (tabZ zs i ++ [z]) = valsOf (tabZ zs i) ++ [z.1] := by simp
      rw [e3] at this
      exact this
end
end Mine
end

section
set_option maxHeartbeats 2000000
open PySem PySem.W PyProof.Rows
namespace Mine
theorem tabZ_map (zs : List It) : ∀ n, (tabZ zs n).map (·.2) = tabP (zs.map (·.2)) n
  | 0 => rfl
  | n + 1 => by
    have ih := tabZ_map zs n
    unfold tabZ tabP
    rw [List.getElem?_map]
    cases hz : zs[n]? with
    | none => exact ih
    | some z =>
      simp only [Option.map_some]
      have e : ((zs.map (·.2)).take n).map (·.2) = (zs.take n).map fun z => z.2.2 := by rw [← List.map_take, List.map_map]; rfl
      rw [e]
      by_cases h : z.2.2 ∈ (zs.take n).map fun z => z.2.2
      · rw [if_pos h, if_pos h]; exact ih
      · rw [if_neg h, if_neg h, List.map_append, ih]; rfl
theorem sorted_map {zs : List It} (h : ∀ (i j : Nat) (a b : It), i < j → zs[i]? = some a → zs[j]? = some b → plt b.2 a.2 = false) : Sorted (zs.map (·.2)) := by
  intro i j a b hij ha hb
  rw [List.getElem?_map] at ha hb
  cases hx : zs[i]? with
  | none => rw [hx] at ha; cases ha
  | some x =>
    cases hy : zs[j]? with
    | none => rw [hy] at hb; cases hb
    | some y =>
      rw [hx] at ha
      rw [hy] at hb
      have e1 := Option.some.inj ha
      have e2 := Option.some.inj hb
      rw [← e1, ← e2]
      exact h i j x y hij hx hy
/-- the end of the walk of _law_table -/
theorem tab_end {h₀ h : Heap} {L lp D : Addr} {zs zs' : List It} {ys : List Value} {n : Nat} {rw9 news rest : List (Addr × Obj)} {c1 c2 c3 c4 : Int} {one two : List UInt8} {R : Prop}
    (hz9 : zs.map (·.2) = eightP c1 c2 c3 c4 one two) (G9 : Good rw9 zs) (hperm : zs'.Perm zs) (hz8 : zs'.length = 8)
    (hsort : ∀ (i j : Nat) (a b : It), i < j → zs'[i]? = some a → zs'[j]? = some b → plt b.2 a.2 = false)
    (hsub : ∀ q ∈ (lp, listOf (valsOf zs').toArray n) :: rw9, q ∈ news) (hys : ys = valsOf (tabZ zs' zs'.length))
    (N : News h₀ L h ((D, LCg.lst ys) :: news)) (NR : News h₀ L h rest)
    (k : ∀ ts ps nt rest', News h₀ L h ((D, listOf (valsOf ts).toArray nt) :: rest') → (∀ q ∈ rest, q ∈ rest') → Good rest' ts → Sorted ps → ps.Perm (eightP c1 c2 c3 c4 one two) → ts.map (·.2) = tabP ps 8 → R) : R := by
  subst hys
  refine k (tabZ zs' zs'.length) (zs'.map (·.2)) (valsOf (tabZ zs' zs'.length)).length (news ++ rest) (fun q hq => ?_) (fun q hq => List.mem_append_right _ hq) (fun z hz => ?_) (sorted_map hsort) ?_ ?_
  · rcases List.mem_cons.mp hq with rfl | hq
    · exact N _ (.head _)
    · rcases List.mem_append.mp hq with hq | hq
      · exact N q (.tail _ hq)
      · exact NR q hq
  · exact (G9 z (hperm.subset (tabZ_mem _ _ z hz))).mono fun q hq => List.mem_append_left _ (hsub q (.tail _ hq))
  · rw [← hz9]; exact hperm.map _
  · rw [tabZ_map, hz8]
end Mine
end

section
open PySem PySem.W PyProof.Rows PySem.SeqAt
set_option maxRecDepth 100000
set_option maxHeartbeats 8000000
namespace Mine
/-- what the map of the frame bears throughout -/
def TbM (O1 O2 P : Addr) (ex : (Str → Option Value) → Prop) (mm : Str → Option Value) : Prop :=
  mm (Str.ofString "one") = some (.ref O1) ∧ mm (Str.ofString "two") = some (.ref O2) ∧ mm (Str.ofString "prices") = some (.ref P) ∧ ex mm
/-- between the turns of _law_table's loops: k pairs are made -/
def TbJ (lp : Addr) (e8 : List Pr) (base gd : List (Addr × Obj)) (k : Nat) (M : (Str → Option Value) → Prop) (mm : Str → Option Value) (nx : List (Addr × Obj)) : Prop :=
  ∃ (zs : List It) (n : Nat) (new : List (Addr × Obj)), nx = (lp, listOf (valsOf zs).toArray n) :: (new ++ base) ∧ (∀ q ∈ new, ∀ b ∈ base, q.1 ≠ b.1) ∧ (∀ q ∈ new ++ base, q.1 ≠ lp) ∧ Good (new ++ gd) zs ∧ zs.map (·.2) = e8.take k ∧ M mm
def TbS (s : Shared) (g : Heap) (L lp : Addr) (e8 : List Pr) (base gd : List (Addr × Obj)) (k : Nat) (M : (Str → Option Value) → Prop) (f : Flow) (s' : Shared) : Prop :=
  f = .next ∧ ∃ h tk mm nx, s' = { s with heap := h, toks := tk } ∧ TbJ lp e8 base gd k M mm nx ∧ Fr g L h mm ∧ News g L h nx
/-- a statement of the innermost body is done: new objects on top of L0 -/
def BdS (s : Shared) (g : Heap) (L : Addr) (L0 : List (Addr × Obj)) (ex : (Str → Option Value) → List (Addr × Obj) → List (Addr × Obj) → Prop) (f : Flow) (s' : Shared) : Prop :=
  f = .next ∧ ∃ h tk mm new, s' = { s with heap := h, toks := tk } ∧ Fr g L h mm ∧ News g L h (new ++ L0) ∧ (∀ q ∈ new, ∀ b ∈ L0, b.1 < q.1) ∧ ex mm new (new ++ L0)
/-- a name that holds a row -/
def Holds1 (nm : Str) (r : List UInt8) (mm : Str → Option Value) (led : List (Addr × Obj)) : Prop :=
  ∃ (H : Addr) (us : List Value) (n : Nat), mm nm = some (.ref H) ∧ (H, ({ cls := .type "tuple", data := .seq us.toArray n } : Obj)) ∈ led ∧ IntsAre us (rowI r)
/-- the three counters -/
def Cnt (x y z : Int) (tx ty tz : Tok) (mm : Str → Option Value) : Prop :=
  mm (Str.ofString "changed") = some (.int x tx) ∧ mm (Str.ofString "first") = some (.int y ty) ∧ mm (Str.ofString "second") = some (.int z tz)
theorem bd_new {s : Shared} {g h : Heap} {L D : Addr} {o : Obj} {mm : Str → Option Value} {L0 : List (Addr × Obj)} {ex : (Str → Option Value) → List (Addr × Obj) → List (Addr × Obj) → Prop} (F : Fr g L h mm) (N : News g L h ((D, o) :: L0)) (l : ∀ p ∈ L0, p.1 < D) (hex : ex mm [(D, o)] ((D, o) :: L0)) (tk : Nat) :
    BdS s g L L0 ex .next { s with heap := h, toks := tk } :=
  ⟨rfl, h, tk, mm, [(D, o)], rfl, F, N, (fun q hq b hb => by rw [List.mem_singleton.mp hq]; exact l b hb), hex⟩
theorem bd_old {s : Shared} {g h : Heap} {L : Addr} {mm : Str → Option Value} {L0 : List (Addr × Obj)} {ex : (Str → Option Value) → List (Addr × Obj) → List (Addr × Obj) → Prop} (F : Fr g L h mm) (N : News g L h L0) (hex : ex mm [] L0) (tk : Nat) :
    BdS s g L L0 ex .next { s with heap := h, toks := tk } :=
  ⟨rfl, h, tk, mm, [], rfl, F, N, (fun _ hq => nomatch hq), hex⟩
theorem Holds1.mono {nm : Str} {r : List UInt8} {mm : Str → Option Value} {led led' : List (Addr × Obj)} (h : Holds1 nm r mm led) (hs : ∀ q ∈ led, q ∈ led') : Holds1 nm r mm led' := by
  obtain ⟨H, us, n, a, b, c⟩ := h
  exact ⟨H, us, n, a, hs _ b, c⟩
theorem st_eq {c1 c2 c3 c4 x y z : Int} {one two : List UInt8} (hx : x = 0 ∨ x = 1) (hy : y = 0 ∨ y = 1) (hz : z = 0 ∨ z = 1) :
    (priceF c1 c2 c3 c4 x y z, if x = 1 then rv (decide ((z + x).fmod 2 = 1)) two ++ rv (decide ((y + x).fmod 2 = 1)) one else rv (decide ((y + x).fmod 2 = 1)) one ++ rv (decide ((z + x).fmod 2 = 1)) two) =
      (Pq c1 c2 c3 c4 (decide (x = 1), decide (y = 1), decide (z = 1)), rho one two (decide (x = 1), decide (y = 1), decide (z = 1))) := by
  rcases hx with rfl | rfl <;> rcases hy with rfl | rfl <;> rcases hz with rfl | rfl <;> rfl
theorem eight_at {c1 c2 c3 c4 : Int} {one two : List UInt8} {i j k : Nat} (hi : i < 2) (hj : j < 2) (hk : k < 2) {x y z : Int} (ex : x = (i : Int)) (ey : y = (j : Int)) (ez : z = (k : Int)) :
    (eightP c1 c2 c3 c4 one two)[0 + 4 * i + 2 * j + 1 * k]? = some (Pq c1 c2 c3 c4 (decide (x = 1), decide (y = 1), decide (z = 1)), rho one two (decide (x = 1), decide (y = 1), decide (z = 1))) := by
  subst ex ey ez
  have hi : i = 0 ∨ i = 1 := by omega
  have hj : j = 0 ∨ j = 1 := by omega
  have hk : k = 0 ∨ k = 1 := by omega
  rcases hi with rfl | rfl <;> rcases hj with rfl | rfl <;> rcases hk with rfl | rfl <;> rfl
/-- the list first, whatever has been made since -/
theorem News_front {g h : Heap} {L : Addr} {lp : Addr} {ol : Obj} {d : Addr × Obj} {base L0 L1 L2 L3 n1 n2 n3 : List (Addr × Obj)} (e0 : (lp, ol) :: base = L0) (e1 : n1 ++ L0 = L1) (e2 : n2 ++ L1 = L2) (e3 : n3 ++ L2 = L3) (N : News g L h (d :: L3)) :
    News g L h ((lp, ol) :: ((d :: (n3 ++ (n2 ++ n1))) ++ base)) := by
  subst e0 e1 e2 e3
  intro q hq
  refine N q ?_
  simp only [List.mem_cons, List.mem_append, List.cons_append] at hq ⊢
  rcases hq with h | h | (h | h | h) | h
  · exact .inr (.inr (.inr (.inr (.inl h))))
  · exact .inl h
  · exact .inr (.inl h)
  · exact .inr (.inr (.inl h))
  · exact .inr (.inr (.inr (.inl h)))
  · exact .inr (.inr (.inr (.inr (.inr h))))
theorem front_off {g h : Heap} {L d : Addr} {o : Obj} {L0 L1 L2 L3 n1 n2 n3 : List (Addr × Obj)} (e1 : n1 ++ L0 = L1) (e2 : n2 ++ L1 = L2) (e3 : n3 ++ L2 = L3) (o1 : ∀ q ∈ n1, ∀ b ∈ L0, b.1 < q.1) (o2 : ∀ q ∈ n2, ∀ b ∈ L1, b.1 < q.1) (o3 : ∀ q ∈ n3, ∀ b ∈ L2, b.1 < q.1) (_N : News g L h ((d, o) :: L3)) (od : ∀ b ∈ L3, b.1 < d) :
    ∀ q ∈ (d, o) :: (n3 ++ (n2 ++ n1)), ∀ b ∈ L0, b.1 < q.1 := by
  subst e1 e2 e3
  intro q hq b hb
  rcases List.mem_cons.mp hq with rfl | hq
  · exact od b (List.mem_append_right _ (List.mem_append_right _ (List.mem_append_right _ hb)))
  rcases List.mem_append.mp hq with hq | hq
  · exact o3 q hq b (List.mem_append_right _ (List.mem_append_right _ hb))
  rcases List.mem_append.mp hq with hq | hq
  · exact o2 q hq b (List.mem_append_right _ hb)
  · exact o1 q hq b hb
section
variable {prog : Program} {w : World} {A : Around} {s : Shared} {env : Env} {h₀ : Heap} {x : Str} {body : List Stmt} {Q : Flow → Shared → Prop}
theorem rangeTb {r lp : Addr} {t₀ u₀ v₀ : Tok} {m₀ : Str → Option Value} {e8 : List Pr} {base gd : List (Addr × Obj)} {zs₀ : List It} {n₀ : Nat} {M : (Str → Option Value) → Prop} (k c : Nat)
    (hh : A.handled = none) (hr : IsRange s.heap r 0 2 1 t₀ u₀ v₀) (F : Fr h₀ env.locals s.heap m₀) (N : News h₀ env.locals s.heap ((lp, listOf (valsOf zs₀).toArray n₀) :: base)) (o₀ : ∀ q ∈ base, q.1 ≠ lp) (s₀ : ∀ q ∈ gd, q ∈ base) (G₀ : Good gd zs₀) (z₀ : zs₀.map (·.2) = e8.take k) (M₀ : M m₀)
    (hM : ∀ mm v, M mm → M (fun y => if y = x then some v else mm y))
    (turn : ∀ (i : Nat) (v : Int) (t : Tok) (base' gd' : List (Addr × Obj)) (zs : List It) (n : Nat) (mm : Str → Option Value) (h : Heap) (tk : Nat), i < 2 → v = (i : Int) → (∀ q ∈ base, q ∈ base') → Fr h₀ env.locals h mm → News h₀ env.locals h ((lp, listOf (valsOf zs).toArray n) :: base') → (∀ q ∈ base', q.1 ≠ lp) → (∀ q ∈ gd', q ∈ base') → Good gd' zs →
      zs.map (·.2) = e8.take (k + c * i) → M mm → mm x = some (.int v t) → wpAny (model prog w) A (execs body env) (TbS s h₀ env.locals lp e8 base' gd' (k + c * (i + 1)) M) NoE { s with heap := h, toks := tk })
    (done : ∀ f s', TbS s h₀ env.locals lp e8 base gd (k + c * 2) M f s' → Q f s') :
    wpAny (model prog w) A (pyIter (.ref r)) (fun it s₂ => LoopAtV prog w A h₀ env x body Q NoE it s₂) NoE s := by
  refine rangeMy (n := 2) (fun i => TbJ lp e8 base gd (k + c * i) M) hh hr (by decide) (by decide) F N ⟨zs₀, n₀, [], rfl, (fun _ h => nomatch h), o₀, G₀, z₀, M₀⟩ ?_ ?_
  · rintro i t m₁ nx h tk own hi hoff ⟨zs, n, new, rfl, o1, o2, G, hz, hm⟩ F1 N1
    have N2 : News h₀ env.locals h ((lp, listOf (valsOf zs).toArray n) :: (new ++ base ++ own)) := N1
    have e : (0 + (i : Int) * 1) = (i : Int) := by omega
    rw [e] at F1
    refine wpAny_mono (turn i i t (new ++ base ++ own) (new ++ gd) zs n _ h tk hi rfl (fun q hq => List.mem_append_left _ (List.mem_append_right _ hq)) F1 N2 ?_ ?_ G hz (hM _ _ hm) (if_pos rfl)) (fun f s' hS => ?_) fun _ _ e => e
    · intro q hq
      rcases List.mem_append.mp hq with hq | hq
      · exact o2 q hq
      · exact hoff q hq lp (List.mem_cons_self ..)
    · intro q hq
      rcases List.mem_append.mp hq with hq | hq
      · exact List.mem_append_left _ (List.mem_append_left _ hq)
      · exact List.mem_append_left _ (List.mem_append_right _ (s₀ q hq))
    · obtain ⟨rfl, h2, tk2, mm2, nx2, rfl, ⟨zs2, n2, new2, rfl, p1, p2, G2, hz2, hm2⟩, F2, N3⟩ := hS
      refine ⟨h2, tk2, mm2, _, (lp, listOf (valsOf zs2).toArray n2) :: ((new2 ++ new) ++ base), rfl, F2, N3, ?_, ?_, ?_, zs2, n2, new2 ++ new, rfl, ?_, ?_, ?_, hz2, hm2⟩
      · intro q hq
        rcases List.mem_cons.mp hq with rfl | hq
        · exact .head _
        · refine .tail _ ?_
          rw [List.append_assoc] at hq
          rcases List.mem_append.mp hq with hq | hq
          · exact List.mem_append_left _ hq
          · exact List.mem_append_right _ (List.mem_append_left _ hq)
      · intro q hq
        exact .tail _ (List.mem_append_right _ (List.mem_append_right _ hq))
      · intro q hq b hb
        obtain ⟨b', hb', rfl⟩ := List.mem_map.mp hb
        rcases List.mem_cons.mp hb' with rfl | hb'
        · exact hoff q hq lp (List.mem_cons_self ..)
        · rw [List.append_assoc] at hb'
          rcases List.mem_append.mp hb' with hb' | hb'
          · exact fun e => p1 b' hb' q (List.mem_append_right _ hq) e.symm
          · exact hoff q hq b'.1 (List.mem_map.mpr ⟨b', .tail _ hb', rfl⟩)
      · intro q hq b hb
        rcases List.mem_append.mp hq with hq | hq
        · exact p1 q hq b (List.mem_append_left _ (List.mem_append_right _ hb))
        · exact o1 q hq b hb
      · intro q hq
        rw [List.append_assoc] at hq
        rcases List.mem_append.mp hq with hq | hq
        · exact p2 q (List.mem_append_left _ hq)
        · exact o2 q hq
      · rw [List.append_assoc]; exact G2
  · rintro m₁ nx h tk hJ F1 N1
    exact done _ _ ⟨rfl, h, tk, m₁, nx, rfl, hJ, F1, N1⟩
end
end Mine
end

section
open PySem PySem.W PyProof.Rows PySem.SeqAt
set_option maxRecDepth 100000
set_option maxHeartbeats 8000000
namespace Mine
theorem fillKL (P : Params) : Mine.hx.heap_39 P = Mine.hx.heap_39 P ∧ PySem.Challenge.rw_nq0011_01 = PySem.Challenge.rw_nq0011_01 := by
  k_fill
  exact ⟨rfl, rfl⟩
section
variable {prog p : Program} {w : World} {A : Around} {s : Shared} {h₀ : Heap} {L : Addr} {m mg mb : Str → Option Value} {loose : List Str} {rest : List (Addr × Obj)}
local macro_rules | `(tactic| k_all) => `(tactic| assumption)
local macro_rules | `(tactic| walk_at "pyIter ref") => `(tactic| with_reducible refine halt ?_)
local macro_rules | `(tactic| walk_at "exec For Name Call cons nil") => `(tactic| with_reducible refine halt ?_)
local macro_rules | `(tactic| walk_at "subscriptTail Name Slice ref ref") => `(tactic| (k_here; (with_reducible show wpAny _ _ (subscriptTail _ (PySem.Expr.Slice none none (some _) _) (Value.ref _) (Value.ref _)) _ _ _); refine slice_tuple_rev (s := ⟨_, _, _, _, _⟩) (by k_asm) (by k_asm) (News.isTup (by k_asm) (by assumption)) (by omega) ?_; intro D' h' F' N' l1))
local macro_rules | `(tactic| walk_at "binaryOp Add ref ref") => `(tactic| (k_here; refine addTup (by k_asm) (by k_asm) (by assumption) (by assumption) (by assumption) (by assumption) (by omega) ?_; intro D' h' F' N' l1))
local macro_rules | `(tactic| walk_at "call ref cons nil") => `(tactic| (k_here; refine price_spec (by k_asm) (by k_asm) (by k_asm) (by k_asm) (by assumption) (by assumption) (by assumption) (by assumption) (by assumption) rfl (by assumption) ?_; intro h' tk' t' F' N'; (try dsimp only)))
local macro_rules | `(tactic| walk_at "call builtin:list.append cons") => `(tactic| with_reducible refine halt ?_)
local macro_rules | `(tactic| walk_at "eval ListComp") => `(tactic| with_reducible refine halt ?_)
local macro_rules | `(tactic| walk_at "CompSrcT") => `(tactic| with_reducible refine halt ?_)
local macro_rules | `(tactic| walk_at "call builtin:list.sort cons nil") => `(tactic| with_reducible refine halt ?_)
local macro_rules | `(tactic| walk_at "storeName") => `(tactic| (k_here; k_dflt (refine' storeX_L ?F ?N ?_ ?a ?b; (case F => k_asm); (case N => k_asm); (case a => rfl); (case b => rfl); k_whole; intro h' F' N'; (try dsimp only at F'); (try dsimp only); (try k_sweep))))
local macro_rules | `(tactic| walk_at "eval Name") => `(tactic| (k_here; k_dflt (refine' ld ?k1 ?k2 ?_; (case k1 => k_asm); (case k2 => assumption); k_whole)))
theorem table_spec {O1 O2 P : Addr} {n1 n2 np : Nat} {c1 c2 c3 c4 : Int} {u1 u2 u3 u4 : Tok} {vs1 vs2 : List Value} {one two : List UInt8} {Q E : Value → Shared → Prop}
    (F : Fr h₀ L s.heap m) (X : (Mine.hx.heap_39 w.params).In h₀) (N : News h₀ L s.heap rest) (T : TopRead p loose mg mb h₀)
    (hP : (P, listOf [.int c1 u1, .int c2 u2, .int c3 u3, .int c4 u4].toArray np) ∈ rest)
    (hO1 : (O1, { cls := .type "tuple", data := .seq vs1.toArray n1 }) ∈ rest) (hO2 : (O2, { cls := .type "tuple", data := .seq vs2.toArray n2 }) ∈ rest) (i1 : IntsAre vs1 (rowI one)) (i2 : IntsAre vs2 (rowI two))
    (hw1 : 0 < one.length ∧ one.length ≤ 3) (hw2 : 0 < two.length ∧ two.length ≤ 3) (hdp : A.depth + 5 < recursionLimit) (hh : A.handled = none) (hu : A.units + 203 < cLine)
    (h : ∀ D ts ps nt rest' h' tk, Fr h₀ L h' m → News h₀ L h' ((D, listOf (valsOf ts).toArray nt) :: rest') → (∀ q ∈ rest, q ∈ rest') → Good rest' ts → Sorted ps → ps.Perm (eightP c1 c2 c3 c4 one two) → ts.map (·.2) = tabP ps 8 → Q (.ref D) { s with heap := h', toks := tk }) :
    wpAny (model prog w) A (call (.ref 66) [.ref O1, .ref O2, .ref P]) Q E s := by
  obtain ⟨ah, ar, afr, agu, aun⟩ := A
  cases (show ah = none from hh)
  have N0 : News h₀ L s.heap [(O1, { cls := .type "tuple", data := .seq vs1.toArray n1 }), (O2, { cls := .type "tuple", data := .seq vs2.toArray n2 }), (P, listOf [.int c1 u1, .int c2 u2, .int c3 u3, .int c4 u4].toArray np)] := fun q hq => by
    rcases List.mem_cons.mp hq with rfl | hq
    · exact N _ hO1
    rcases List.mem_cons.mp hq with rfl | hq
    · exact N _ hO2
    rcases List.mem_cons.mp hq with rfl | hq
    · exact N _ hP
    · cases hq
  refine' callMyCR (rest := rest) (binds := [(Str.ofString "one", .ref O1), (Str.ofString "two", .ref O2), (Str.ofString "prices", .ref P)]) F X N0 N T ?k6 ?k7 ?k8 ?k9 ?kB ?kD ?_ ?c2 ?c3 ?c4
  (case k6 => k_is)
  (case k7 => k_is)
  (case k8 => have : ar + 5 < recursionLimit := hdp; show ar < recursionLimit; omega)
  (case k9 => rfl)
  (case kB => exact rfl)
  (case kD => decide +kernel)
  (case c2 => exact rfl)
  (case c3 => exact rfl)
  (case c4 => exact rfl)
  clear N0
  have hl1 : 0 < vs1.length ∧ vs1.length ≤ 3 := ⟨by rw [i1.length, rowI_length]; omega, by rw [i1.length, rowI_length]; omega⟩
  have hl2 : 0 < vs2.length ∧ vs2.length ≤ 3 := ⟨by rw [i2.length, rowI_length]; omega, by rw [i2.length, rowI_length]; omega⟩
  have hd5 : ar + 1 + 4 < recursionLimit := hdp
  have hu5 : aun + 3 + 200 < cLine := hu
  intro g L' h' tk cells FG' F' N' Y' X' T' l1
  k_lt l1
  k_cells Y'
  simp only [List.cons_append, List.nil_append] at N'
  clear N F hO1 hO2 hP X T
  refine wpAny_execs_cons ?_
  k_fold
  repeat' walk1
  rename_i lp hA lA h1 oc F1 N1 hoc
  have lp1 : @LT.lt Nat _ (L' + 1) lp ∧ @LT.lt Nat _ O1 lp ∧ @LT.lt Nat _ O2 lp ∧ @LT.lt Nat _ P lp := lA
  refine unhalt (wpAny_mono (forMy (Q := TbS s g L' lp (eightP c1 c2 c3 c4 one two) [(L' + 1, oc), (O1, { cls := .type "tuple", data := .seq vs1.toArray n1 }), (O2, { cls := .type "tuple", data := .seq vs2.toArray n2 }), (P, listOf #[.int c1 u1, .int c2 u2, .int c3 u3, .int c4 u4] np)] [] (0 + 4 * 2) (TbM O1 O2 P fun _ => True)) g rfl rfl ?_) ?fin (fun _ _ x => x))
  case fin =>
    rintro _ _ ⟨rfl, h2, tk2, mm, nx, rfl, ⟨zs, n2', new, rfl, p1, p2, G2, hz2, hm2⟩, F2, N2⟩
    clear F1 N1
    try clear i1r
    generalize hrw : new ++ [(L' + 1, oc), (O1, ({ cls := .type "tuple", data := .seq vs1.toArray n1 } : Obj)), (O2, { cls := .type "tuple", data := .seq vs2.toArray n2 }), (P, listOf #[.int c1 u1, .int c2 u2, .int c3 u3, .int c4 u4] np)] = rw9 at N2 p2
    have hkeep : ∀ q ∈ [(O1, ({ cls := .type "tuple", data := .seq vs1.toArray n1 } : Obj)), (O2, { cls := .type "tuple", data := .seq vs2.toArray n2 }), (P, listOf #[.int c1 u1, .int c2 u2, .int c3 u3, .int c4 u4] np)], q ∈ rw9 := fun q hq => hrw ▸ List.mem_append_right _ (.tail _ hq)
    have hcm : (L' + 1, oc) ∈ rw9 := hrw ▸ List.mem_append_right _ (.head _)
    have G9 : Good rw9 zs := fun z hz => (G2 z hz).mono fun q hq => by
      rw [List.append_nil] at hq
      exact hrw ▸ List.mem_append_left _ hq
    have hz9 : zs.map (·.2) = eightP c1 c2 c3 c4 one two := hz2
    have hzl : zs.length = 8 := by have := congrArg List.length hz9; simpa [eightP, states] using this
    clear G2 hz2 hm2 p1 hrw
    dsimp only
    generalize hLg : (lp, listOf (valsOf zs).toArray n2') :: rw9 = Lg at N2
    have hlpg : (lp, listOf (valsOf zs).toArray n2') ∈ Lg := hLg ▸ .head _
    have hcg : (L' + 1, oc) ∈ Lg := hLg ▸ .tail _ hcm
    repeat' walk1
    rename Fr g _ _ _ => F2
    rename News g _ _ _ => N2
    rw [← hLg] at N2
    clear hlpg hcg hLg
    refine unhalt (sortZ F2 N2 p2 G9 (by omega) (by omega) (by show aun + 3 + 9 < cLine; omega) ?_)
    intro zs' n10 h10 hperm hsort F10 N10
    repeat' walk1
    refine unhalt (LCt.ListComp_T (F₀ := F10) (by with_unfolding_all rfl) (by decide) (by rfl) (by decide) (by rfl) ?_)
    repeat' walk1
    rename Fr g _ _ _ => F11
    rename News g _ _ _ => N11
    refine unhalt (LCt.CompSrcT.range (n := 8) (by rfl) F11 N11 (by assumption) (by decide) (by rfl) (by rw [sizeLine_eq]; omega) ?_)
    intro g'
    have hz8 : zs'.length = 8 := by rw [hperm.length_eq, hzl]
    refine tab_rest (zs := zs') (n := n10) (rest := rw9) (by rfl) (by show aun + 3 + 9 < cLine; omega) (fun z hz => G9 z (hperm.subset hz)) (by omega) (by rfl) (by assumption) hcm (fun _ => by rfl) (fun _ => by rfl) (fun _ => by rfl) (by decide) (by decide) (by decide) (by decide) (by decide) (by rfl) (by rfl) (by rfl) (by decide) ?_ 8 0 _ (by omega) (fun q hq => hq)
    intro ys news' hsub hys D h12 tk12 F12 N12 o12
    refine ⟨_, _, F12, N12, fun q hq => .tail _ (hsub q (.tail _ (hkeep q hq))), fun F13 N13 NR => ?_⟩
    exact tab_end hz9 G9 hperm hz8 hsort hsub hys N13 NR fun ts ps nt rest' a1 a2 a3 a4 a5 a6 => h D ts ps nt rest' _ _ F13 a1 a2 a3 a4 a5 a6
  repeat' walk1
  rename IsRange _ _ _ _ _ _ _ _ => R2
  rename Fr g _ _ _ => F2
  rename News g _ _ _ => N2
  refine unhalt (rangeTb (zs₀ := []) (gd := []) 0 4 rfl R2 F2 N2 ?o2 (fun _ h => nomatch h) (fun _ h => nomatch h) rfl ⟨rfl, rfl, rfl, trivial⟩ (fun mm v ⟨a, b, c, _⟩ => ⟨a, b, c, trivial⟩) ?t2 (fun _ _ h => h))
  case o2 =>
    intro q hq
    simp only [List.mem_cons, List.not_mem_nil, or_false] at hq
    rcases hq with rfl | rfl | rfl | rfl
    · exact Nat.ne_of_lt lp1.1
    · exact Nat.ne_of_lt lp1.2.1
    · exact Nat.ne_of_lt lp1.2.2.1
    · exact Nat.ne_of_lt lp1.2.2.2
  case t2 =>
    clear F2 N2 R2
    try clear F1
    try clear N1
    intro i x tx base2 gd2 zs2 n2' mm2 h2 tk2 hi ex sub2 F2 N2 o2 s2 G2 hz2 M2 ex2
    refine wpAny_execs_cons (wpAny_mono (forMy (Q := TbS s g L' lp (eightP c1 c2 c3 c4 one two) base2 gd2 (0 + 4 * i + 2 * 2) (TbM O1 O2 P fun mm => mm (Str.ofString "changed") = some (.int x tx))) g rfl rfl ?_) ?fin2 (fun _ _ x => x))
    case fin2 =>
      rintro _ _ ⟨rfl, h3, tk3, mm, nx, rfl, ⟨zs, n3, new, rfl, p1, p2, G3, hz3, ⟨m1, m2, m3, _⟩⟩, F3, N3⟩
      exact wpAny_execs_nil ⟨rfl, h3, tk3, mm, _, rfl, ⟨zs, n3, new, rfl, p1, p2, G3, hz3, ⟨m1, m2, m3, trivial⟩⟩, F3, N3⟩
    replace F2 : Fr g L' h2 mm2 := F2
    replace N2 : News g L' h2 _ := N2
    repeat' walk1
    rename IsRange _ _ _ _ _ _ _ _ => R3
    rename Fr g _ _ _ => F3
    rename News g _ _ _ => N3
    refine unhalt (rangeTb (zs₀ := zs2) (gd := gd2) (base := base2) (0 + 4 * i) 2 rfl R3 F3 N3 o2 s2 G2 hz2 ⟨M2.1, M2.2.1, M2.2.2.1, ex2⟩ (fun mm v ⟨a, b, c, d⟩ => ⟨a, b, c, d⟩) ?t3 (fun _ _ h => h))
    clear F3 N3 R3
    clear G2 hz2 M2 ex2 o2 s2
    intro j y ty base3 gd3 zs3 n3' mm3 h3 tk3 hj ey sub3 F3 N3 o3 s3 G3 hz3 M3 ey2
    refine wpAny_execs_cons (wpAny_mono (forMy (Q := TbS s g L' lp (eightP c1 c2 c3 c4 one two) base3 gd3 (0 + 4 * i + 2 * j + 1 * 2) (TbM O1 O2 P fun mm => mm (Str.ofString "changed") = some (.int x tx) ∧ mm (Str.ofString "first") = some (.int y ty))) g rfl rfl ?_) ?fin3 (fun _ _ x => x))
    case fin3 =>
      rintro _ _ ⟨rfl, h3, tk3, mm, nx, rfl, ⟨zs, n3, new, rfl, p1, p2, G3, hz3, ⟨m1, m2, m3, m4, _⟩⟩, F3, N3⟩
      exact wpAny_execs_nil ⟨rfl, h3, tk3, mm, _, rfl, ⟨zs, n3, new, rfl, p1, p2, G3, hz3, ⟨m1, m2, m3, m4⟩⟩, F3, N3⟩
    replace F3 : Fr g L' h3 mm3 := F3
    replace N3 : News g L' h3 _ := N3
    repeat' walk1
    rename IsRange _ _ _ _ _ _ _ _ => R4
    rename Fr g _ _ _ => F4
    rename News g _ _ _ => N4
    refine unhalt (rangeTb (zs₀ := zs3) (gd := gd3) (base := base3) (0 + 4 * i + 2 * j) 1 rfl R4 F4 N4 o3 s3 G3 hz3 ⟨M3.1, M3.2.1, M3.2.2.1, M3.2.2.2, ey2⟩ (fun mm v ⟨a, b, c, d, e⟩ => ⟨a, b, c, d, e⟩) ?t4 (fun _ _ h => h))
    clear F4 N4 R4
    clear G3 hz3 M3 ey2 o3 s3
    intro k z tz base4 gd4 zs4 n4' mm4 h4 tk4 hk ez sub4 F4 N4 o4 s4 G4 hz4 M4 ez2
    replace F4 : Fr g L' h4 mm4 := F4
    replace N4 : News g L' h4 ((lp, listOf (valsOf zs4).toArray n4') :: base4) := N4
    obtain ⟨m1, m2, m3, m4, m5⟩ := M4
    have x01 : x = 0 ∨ x = 1 := by omega
    have y01 : y = 0 ∨ y = 1 := by omega
    have z01 : z = 0 ∨ z = 1 := by omega
    have sub : ∀ q ∈ [(L' + 1, oc), (O1, ({ cls := .type "tuple", data := .seq vs1.toArray n1 } : Obj)), (O2, { cls := .type "tuple", data := .seq vs2.toArray n2 }), (P, listOf #[.int c1 u1, .int c2 u2, .int c3 u3, .int c4 u4] np)], q ∈ (lp, listOf (valsOf zs4).toArray n4') :: base4 := fun q hq => .tail _ (sub4 q (sub3 q (sub2 q hq)))
    generalize hL0 : (lp, listOf (valsOf zs4).toArray n4') :: base4 = L0 at N4 sub
    have hO1 := sub _ (.tail _ (.head _))
    have hO2 := sub _ (.tail _ (.tail _ (.head _)))
    refine wpAny_execs_cons (wpAny_mono (Q := BdS s g L' L0 fun mm _ led => TbM O1 O2 P (Cnt x y z tx ty tz) mm ∧ Holds1 (Str.ofString "head") (rv (decide ((y + x).fmod 2 = 1)) one) mm led) ?st1 ?go1 (fun _ _ x => x))
    case st1 =>
      clear h
      repeat' walk1
      all_goals (try k_data)
      · rename Fr g _ _ _ => F5
        rename News g _ _ _ => N5
        rename Int.fmod _ _ = 1 => ha
        refine bd_new F5 N5 (by assumption) ⟨⟨m1, m2, m3, m4, m5, ez2⟩, _, _, _, rfl, .head _, ?_⟩ _
        rw [decide_eq_true ha]
        exact ints_row_reverse i1
      · rename Fr g _ _ _ => F5
        rename News g _ _ _ => N5
        rename Int.fmod _ _ ≠ 1 => ha
        refine bd_old F5 N5 ⟨⟨m1, m2, m3, m4, m5, ez2⟩, _, _, _, rfl, hO1, ?_⟩ _
        rw [decide_eq_false ha]
        exact i1
    clear F4 N4 m1 m2 m3 m4 m5 ez2
    rintro _ _ ⟨rfl, h5, tk5, mm5, new5, rfl, F5, N5, off5, ⟨m1, m2, m3, m4, m5, m6⟩, hd5'⟩
    dsimp only
    generalize hL1 : new5 ++ L0 = L1 at N5 hd5'
    have up1 : ∀ q ∈ L0, q ∈ L1 := fun q hq => hL1 ▸ List.mem_append_right _ hq
    replace hO2 := up1 _ hO2
    refine wpAny_execs_cons (wpAny_mono (Q := BdS s g L' L1 fun mm _ led => TbM O1 O2 P (Cnt x y z tx ty tz) mm ∧ Holds1 (Str.ofString "head") (rv (decide ((y + x).fmod 2 = 1)) one) mm led ∧ Holds1 (Str.ofString "tail") (rv (decide ((z + x).fmod 2 = 1)) two) mm led) ?st2 ?go2 (fun _ _ x => x))
    case st2 =>
      clear h
      repeat' walk1
      all_goals (try k_data)
      · rename Fr g _ _ _ => F6
        rename News g _ _ _ => N6
        rename Int.fmod _ _ = 1 => ha
        refine bd_new F6 N6 (by assumption) ⟨⟨m1, m2, m3, m4, m5, m6⟩, hd5'.mono (fun q hq => .tail _ hq), _, _, _, rfl, .head _, ?_⟩ _
        rw [decide_eq_true ha]
        exact ints_row_reverse i2
      · rename Fr g _ _ _ => F6
        rename News g _ _ _ => N6
        rename Int.fmod _ _ ≠ 1 => ha
        refine bd_old F6 N6 ⟨⟨m1, m2, m3, m4, m5, m6⟩, hd5', _, _, _, rfl, hO2, ?_⟩ _
        rw [decide_eq_false ha]
        exact i2
    clear F5 N5 m1 m2 m3 m4 m5 m6 hd5'
    rintro _ _ ⟨rfl, h6, tk6, mm6, new6, rfl, F6, N6, off6, ⟨m1, m2, m3, m4, m5, m6⟩, ⟨Hd, us, nH, e1, hH, iH⟩, ⟨Tl, ut, nT, e2, hT, iT⟩⟩
    dsimp only
    generalize hL2 : new6 ++ L1 = L2 at N6 hH hT
    have up2 : ∀ q ∈ L1, q ∈ L2 := fun q hq => hL2 ▸ List.mem_append_right _ hq
    have ph : 0 < us.length := by rw [iH.length, rowI_length, rv_len]; omega
    have pt : 0 < ut.length := by rw [iT.length, rowI_length, rv_len]; omega
    have ph3 : us.length ≤ 3 := by rw [iH.length, rowI_length, rv_len]; omega
    have pt3 : ut.length ≤ 3 := by rw [iT.length, rowI_length, rv_len]; omega
    refine wpAny_execs_cons (wpAny_mono (Q := BdS s g L' L2 fun mm new _ => TbM O1 O2 P (Cnt x y z tx ty tz) mm ∧ Holds1 (Str.ofString "row") (if x = 1 then rv (decide ((z + x).fmod 2 = 1)) two ++ rv (decide ((y + x).fmod 2 = 1)) one else rv (decide ((y + x).fmod 2 = 1)) one ++ rv (decide ((z + x).fmod 2 = 1)) two) mm new) ?st3 ?go3 (fun _ _ x => x))
    case st3 =>
      clear h
      repeat' walk1
      all_goals (try k_data)
      · rename Fr g _ _ _ => F7
        rename News g _ _ _ => N7
        rename x = 1 => ha
        refine bd_new F7 N7 (by assumption) ⟨⟨m1, m2, m3, m4, m5, m6⟩, _, _, _, rfl, .head _, ?_⟩ _
        rw [if_pos ha]
        exact ints_row_append iT iH
      · rename Fr g _ _ _ => F7
        rename News g _ _ _ => N7
        rename x ≠ 1 => ha
        refine bd_new F7 N7 (by assumption) ⟨⟨m1, m2, m3, m4, m5, m6⟩, _, _, _, rfl, .head _, ?_⟩ _
        rw [if_neg ha]
        exact ints_row_append iH iT
    clear F6 N6 m1 m2 m3 m4 m5 m6 e1 hH iH e2 hT iT ph pt ph3 pt3
    rintro _ _ ⟨rfl, h7, tk7, mm7, new7, rfl, F7, N7, off7, ⟨m1, m2, m3, m4, m5, m6⟩, ⟨R, ur, nR, e1, hR, iR⟩⟩
    dsimp only
    have st := st_eq (c1 := c1) (c2 := c2) (c3 := c3) (c4 := c4) (one := one) (two := two) x01 y01 z01
    have e8 := eight_at (c1 := c1) (c2 := c2) (c3 := c3) (c4 := c4) (one := one) (two := two) hi hj hk ex ey ez
    rw [← st] at e8
    generalize (if x = 1 then rv (decide ((z + x).fmod 2 = 1)) two ++ rv (decide ((y + x).fmod 2 = 1)) one else rv (decide ((y + x).fmod 2 = 1)) one ++ rv (decide ((z + x).fmod 2 = 1)) two) = rr at e8 iR
    clear st
    generalize hL3 : new7 ++ L2 = L3 at N7
    have up3 : ∀ q ∈ L0, q ∈ L3 := fun q hq => hL3 ▸ List.mem_append_right _ (up2 _ (up1 _ hq))
    have hP3 := up3 _ (sub _ (.tail _ (.tail _ (.tail _ (.head _)))))
    have hC3 := up3 _ (sub _ (.head _))
    have hlp3 : (lp, listOf (valsOf zs4).toArray n4') ∈ L3 := up3 _ (hL0 ▸ .head _)
    clear hO1 hO2
    refine wpAny_execs_cons ?_
    repeat' walk1
    all_goals (try k_data)
    rename Fr g _ _ _ => F8
    rename News g _ _ _ => N8
    rename ∀ p ∈ L3, p.1 < _ => l8
    have N9 := News_front hL0 hL1 hL2 hL3 N8
    have fo := front_off hL1 hL2 hL3 off5 off6 off7 N8 l8
    have f0 : ∀ q ∈ (_ : List (Addr × Obj)), ∀ b ∈ base4, b.1 < q.1 := fun q hq b hb => fo q hq b (hL0 ▸ .tail _ hb)
    have hoff : ∀ q ∈ (_ : List (Addr × Obj)), q.1 ≠ lp := fun q hq => by
      rcases List.mem_append.mp hq with hq | hq
      · exact Nat.ne_of_gt (fo q hq (lp, listOf (valsOf zs4).toArray n4') (hL0 ▸ .head _))
      · exact o4 q hq
    have hlen4 : zs4.length ≤ 8 := by
      have := congrArg List.length hz4
      rw [List.length_map, List.length_take] at this
      omega
    refine unhalt (appendZ (x := (.ref _, (priceF c1 c2 c3 c4 x y z, rr))) F8 N9 hoff (by omega) ?_)
    intro h9 F9 N10
    repeat' walk1
    refine ⟨rfl, h9, _, mm7, _, rfl, ⟨_, _, _, rfl, fun q hq b hb => Nat.ne_of_gt (f0 q hq b hb), hoff, ?_, ?_, m1, m2, m3, m4, m5⟩, F9, N10⟩
    · intro q hq
      rcases List.mem_append.mp hq with hq | hq
      · exact (G4 q hq).mono fun b hb => List.mem_append_right _ hb
      · rw [List.mem_singleton.mp hq]
        exact pair_dat (List.mem_append_left _ (.head _)) (List.mem_append_left _ (.tail _ (List.mem_append_left _ hR))) iR
    · rw [List.map_append, hz4, show 0 + 4 * i + 2 * j + 1 * (k + 1) = (0 + 4 * i + 2 * j + 1 * k) + 1 from by omega, List.take_add_one, e8]
      rfl
end
end Mine
end

section
open PySem PySem.W PyProof.Rows PySem.SeqAt
set_option maxRecDepth 100000
set_option maxHeartbeats 8000000
namespace Mine
section
variable {prog p : Program} {w : World} {A : Around} {s : Shared} {K : Frag} {mg mb : Str → Option Value} {loose : List Str}
theorem callTopX {Q : Value → Shared → Prop} {E : Value → Shared → Prop} {name qual : Str} {params : Arguments} {body : List Stmt} {scope : Scope} {dV kV doc pm cdv ct oc : Value} {an od : Option Addr} {osl : Array (Option Value)} {f : Addr} {args : List Value} {binds : List (Str × Value)}
    (X : K.In s.heap) (T : TopRead p loose mg mb s.heap)
    (ho : K.lookup f = some ⟨oc, od, .func (fnOf name qual params body scope dV kV doc pm an cdv ct), osl⟩) (hcd : codeIn K cdv qual = true) (hroom : A.depth < recursionLimit)
    (hbind : bindArgs (fnOf name qual params body scope dV kV doc pm an cdv ct) ⟨args, []⟩ = pure binds) (hloc : ∀ y ∈ binds, scope.names.lookup y.1 = some .local)
    (h : ∀ L h₁, Fr s.heap L h₁ (fun y => binds.reverse.lookup y) → News s.heap L h₁ [] →
      wpX (model prog w) (A.deeper (envOf qual scope L f cdv)) (execs body (envOf qual scope L f cdv)) (fun fl s' => Q (match fl with | .ret v => v | _ => .none) s') NoE { s with heap := h₁, toks := s.toks + binds.length })
    (hco : scope.isCoroutine = false) (hgen : scope.isGenerator = false) (hk : scope.kind = .function)
    (hcell : ∀ x ∈ scope.names, x.2 ≠ .cell) : wpX (model prog w) A (call (.ref f) args) Q E s := by
  refine wpX_call (codeX_call_def (fd := fnOf name qual params body scope dV kV doc pm an cdv ct) (body := body) (binds := binds) hroom (X _ _ ho) rfl T.nolimit (codeRec_of X hcd) rfl (BindsTo.of_eq hbind) hcell hloc (fun h₁ hns hk₁ => ?_) hco hgen hk)
  exact h _ h₁ ⟨hns, hk₁, Nat.le_refl _⟩ fun q hq => nomatch hq
end
theorem fillKX (P : Params) : Mine.hx.heap_39 P = Mine.hx.heap_39 P ∧ PySem.Challenge.rw_nq0011_01 = PySem.Challenge.rw_nq0011_01 := by
  k_fill
  exact ⟨rfl, rfl⟩
section
variable {prog p : Program} {w : World} {s : Shared} {mg mb : Str → Option Value} {loose : List Str}
def St1 (s : Shared) (L a : Addr) (f : Flow) (s' : Shared) : Prop :=
  f = .next ∧ ∃ (wd : Nat) (t : Tok) (h' : Heap) (tk : Nat), 1 ≤ wd ∧ wd ≤ 3 ∧ s' = { s with heap := h', toks := tk } ∧ Fr s.heap L h' (fun y => if y = Str.ofString "size" then some (.int (wd : Int) t) else List.lookup y [(Str.ofString "script", Value.ref a)].reverse)
def mkRow (ns : List Int) : List UInt8 := ns.map fun i => UInt8.ofNat i.toNat
theorem mkRow_rowI : ∀ {ns : List Int}, (∀ i ∈ ns, 0 ≤ i ∧ i < 256) → rowI (mkRow ns) = ns
  | [], _ => rfl
  | i :: ns, h => by
    have ih := mkRow_rowI (ns := ns) fun j hj => h j (.tail _ hj)
    have h1 := h i (.head _)
    simp only [rowI, mkRow, List.map_cons] at ih ⊢
    rw [ih]
    have e : (UInt8.ofNat i.toNat).toNat = i.toNat := by rw [UInt8.toNat_ofNat']; omega
    rw [e]
    congr 1
    omega
theorem plain_get {h : Heap} {D : Addr} {items : Array Value} (x : h.PlainList D items) : ∃ n, h.get? D = some (listOf items n) := x
def St2 (s : Shared) (L a : Addr) (wd : Nat) (t1 : Tok) (f : Flow) (s' : Shared) : Prop :=
  f = .next ∧ ∃ (O : Addr) (n : Nat) (us : List Value) (r : List UInt8) (h' : Heap) (tk : Nat), IntsAre us (rowI r) ∧ r.length = 2 * wd ∧ s' = { s with heap := h', toks := tk } ∧ News s.heap L h' [(O, { cls := .type "tuple", data := .seq us.toArray n })] ∧
    Fr s.heap L h' (fun y => if y = Str.ofString "octets" then some (.ref O) else if y = Str.ofString "size" then some (.int (wd : Int) t1) else List.lookup y [(Str.ofString "script", Value.ref a)].reverse)
def St3 (s : Shared) (L a : Addr) (wd : Nat) (t1 : Tok) (O : Addr) (nO : Nat) (us : List Value) (f : Flow) (s' : Shared) : Prop :=
  f = .next ∧ ∃ (P : Addr) (np : Nat) (c1 c2 c3 c4 : Int) (u1 u2 u3 u4 : Tok) (h' : Heap) (tk : Nat), 1 ≤ c1 ∧ 1 ≤ c2 ∧ 1 ≤ c3 ∧ 1 ≤ c4 ∧ s' = { s with heap := h', toks := tk } ∧
    News s.heap L h' [(P, listOf [.int c1 u1, .int c2 u2, .int c3 u3, .int c4 u4].toArray np), (O, { cls := .type "tuple", data := .seq us.toArray nO })] ∧
    Fr s.heap L h' (fun y => if y = Str.ofString "fares" then some (.ref P) else if y = Str.ofString "octets" then some (.ref O) else if y = Str.ofString "size" then some (.int (wd : Int) t1) else List.lookup y [(Str.ofString "script", Value.ref a)].reverse)
theorem four_ints {ys : List Value} {ms : List Int} (h : IntsAre ys ms) (hl : ms.length = 4) : ∃ c1 c2 c3 c4 u1 u2 u3 u4, ys = [.int c1 u1, .int c2 u2, .int c3 u3, .int c4 u4] ∧ ms = [c1, c2, c3, c4] := by
  match ms, hl with
  | [c1, c2, c3, c4], _ =>
    cases h with
    | cons _ u1 h =>
      cases h with
      | cons _ u2 h =>
        cases h with
        | cons _ u3 h =>
          cases h with
          | cons _ u4 h =>
            cases h with
            | nil => exact ⟨_, _, _, _, u1, u2, u3, u4, rfl, rfl⟩
theorem good_dat {news : List (Addr × Obj)} : ∀ {ts : List It}, Good news ts → DatAll news (valsOf ts) ((ts.map (·.2)).map pairD)
  | [], _ => .nil
  | _ :: _, h => .cons (h _ (.head _)) (good_dat fun z hz => h z (.tail _ hz))
theorem pairs_inj : ∀ {a b : List Pr}, a = b → a.map pairD = b.map pairD
  | _, _, rfl => rfl
local macro_rules | `(tactic| walk_at "call type:tuple") => `(tactic| with_reducible refine halt ?_)
local macro_rules | `(tactic| walk_at "call ref cons nil") => `(tactic| with_reducible refine halt ?_)
local macro_rules | `(tactic| walk_at "subscriptTail Name Slice ref ref") => `(tactic| ((with_reducible show wpAny _ _ (subscriptTail (PySem.Expr.Name _ _) (PySem.Expr.Slice _ (some (PySem.Expr.Name _ _)) none _) (Value.ref _) (Value.ref _)) _ _ _); with_reducible refine halt ?_))
local macro_rules | `(tactic| walk_at "subscriptTail Name Slice ref ref") => `(tactic| ((with_reducible show wpAny _ _ (subscriptTail (PySem.Expr.Name _ _) (PySem.Expr.Slice (some (PySem.Expr.Name _ _)) none none _) (Value.ref _) (Value.ref _)) _ _ _); with_reducible refine halt ?_))
local macro_rules | `(tactic| walk_at "compareOp Eq ref ref") => `(tactic| with_reducible refine halt ?_)
theorem law_X {a : Addr} {vs : List Value} {ns : List Int} {Q E : Value → Shared → Prop} (X : (Mine.hx.heap_39 w.params).In s.heap) (T : TopRead p loose mg mb s.heap)
    (hl : s.heap.IsList a vs.toArray) (hi : IntsAre vs ns) (hn : ns.length ≤ 63)
    (h : ∀ L h' m tk, Fr s.heap L h' m → Q (.bool true) { s with heap := h', toks := tk }) :
    wpX (model prog w) callerA (call (.ref 71) [.ref a]) Q E s := by
  refine' callTopX (binds := [(Str.ofString "script", .ref a)]) X T ?k6 ?k7 ?k8 ?k9 ?kB ?_ ?c2 ?c3 ?c4 ?c5
  (case k6 => k_is)
  (case k7 => k_is)
  (case k8 => decide)
  (case k9 => rfl)
  (case kB => exact locs rfl)
  (case c2 => exact rfl)
  (case c3 => exact rfl)
  (case c4 => exact rfl)
  (case c5 => decide)
  intro L h0 F0 N0
  refine wpX_leaf (wpAny_mono (Q := St1 s L a) ?st1 ?go1 (fun _ _ x => x))
  case st1 =>
    k_fold
    repeat' walk1
    · rename Fr s.heap L _ _ => F1
      exact ⟨rfl, 1, _, _, _, by omega, by omega, rfl, F1⟩
    · rename Fr s.heap L _ _ => F1
      have e : (2 + (ns.length : Int).fmod 2) = ((2 + ns.length % 2 : Nat) : Int) := by
        rw [Int.fmod_eq_emod_of_nonneg _ (by omega)]; omega
      rw [e] at F1
      exact ⟨rfl, 2 + ns.length % 2, _, _, _, by omega, by omega, rfl, F1⟩
  case go1 =>
    rintro f s1 ⟨rfl, wd, t1, h1, tk1, hw1, hw3, rfl, F1⟩
    have N1 : News s.heap L h1 [] := fun q hq => nomatch hq
    clear F0 N0
    dsimp only
    refine wpX_leaf (wpAny_mono (Q := St2 s L a wd t1) ?st2 ?go2 (fun _ _ x => x))
    case st2 =>
      k_fold
      repeat' walk1
      rename Fr s.heap L _ _ => F2
      rename News s.heap L _ _ => N2
      rename CarriedAll _ _ => C2
      rename Heap.IsList _ _ _ => L2
      rename_i a2 _
      have I2 : IntsAre _ _ := CarriedAll.intsOf C2
      rw [List.filter_eq_self.mpr fun _ _ => rfl] at I2
      have hlen2 : ((ns ++ [1, 2, 3, 4, 5, 6]).take (2 * (wd : Int)).toNat).length = 2 * wd := by
        rw [List.length_take, List.length_append]
        simp only [List.length_cons, List.length_nil]
        omega
      have R2 := mkRow_rowI (ns := ((ns ++ [1, 2, 3, 4, 5, 6]).take (2 * (wd : Int)).toNat).map fun a : Int => a.fmod 256) (fun i hi => by
        obtain ⟨j, _, rfl⟩ := List.mem_map.mp hi
        rw [Int.fmod_eq_emod_of_nonneg _ (by omega)]
        omega)
      refine unhalt (kde_tupleOf F2 N2 L2 ?_ rfl ?_)
      · rw [List.size_toArray, I2.length, List.length_map, hlen2]; omega
      intro O h3 F3 N3 lt3
      repeat' walk1
      rename Fr s.heap L _ _ => F4
      rename News s.heap L _ _ => N4
      rw [← R2] at I2
      refine ⟨rfl, O, 0, _, _, _, _, I2, ?_, rfl, fun q hq => N4 q ?_, F4⟩
      · rw [mkRow, List.length_map, List.length_map, hlen2]
      · rw [List.mem_singleton.mp hq]
        exact .head _
    case go2 =>
      rintro f s2 ⟨rfl, O, nO, us, r, h2, tk2, hus, hr, rfl, N2, F2⟩
      clear F1 N1
      dsimp only
      refine wpX_leaf (wpAny_mono (Q := St3 s L a wd t1 O nO us) ?st3 ?go3 (fun _ _ x => x))
      case st3 =>
        k_fold
        repeat' walk1
        rename Fr s.heap L _ _ => F3
        rename News s.heap L _ _ => N3
        rename CarriedAll _ _ => C3
        rename NewPlain _ _ _ _ => P3
        rename s.heap.get? _ = none => Z3
        have I3 : IntsAre _ _ := CarriedAll.intsOf (f := fun x : Int => 1 + x.fmod 20) C3
        rw [List.filter_eq_self.mpr fun _ _ => rfl] at I3
        have hlen3 : ((ns.reverse ++ [4, 0, 9, 2]).take 4).length = 4 := by
          rw [List.length_take, List.length_append]
          simp only [List.length_cons, List.length_nil]
          omega
        obtain ⟨c1, c2, c3, c4, u1, u2, u3, u4, e3, e4⟩ := four_ints I3 (by rw [List.length_map, hlen3])
        have pos : ∀ c ∈ [c1, c2, c3, c4], 1 ≤ c := fun c hc => by
          rw [← e4] at hc
          obtain ⟨j, _, rfl⟩ := List.mem_map.mp hc
          rw [Int.fmod_eq_emod_of_nonneg _ (by omega)]
          omega
        obtain ⟨n3, G3⟩ := plain_get P3.1
        have NL := P3.ne_locals F3
        refine ⟨rfl, _, n3, c1, c2, c3, c4, u1, u2, u3, u4, _, _, pos _ (by simp), pos _ (by simp), pos _ (by simp), pos _ (by simp), rfl, fun q hq => ?_, F3⟩
        rcases List.mem_cons.mp hq with rfl | hq
        · rw [e3] at G3
          exact ⟨G3, NL, Z3⟩
        · rw [List.mem_singleton.mp hq]
          exact N3 _ (by k_mem)
      case go3 =>
        rintro f s3 ⟨rfl, P, np, c1, c2, c3, c4, u1, u2, u3, u4, h3, tk3, b1, b2, b3, b4, rfl, N3, F3⟩
        clear F2 N2
        dsimp only
        refine wpX_execs_cons (wpX_Return_some (wpX_Compare1 (wpX_Call ?_) rfl))
        k_fold
        repeat' walk1
        refine wpX_callDef X (by k_is) ?_
        k_fold
        repeat' walk1
        have hone : (r.take wd).length = wd := by rw [List.length_take]; omega
        have htwo : (r.drop wd).length = wd := by rw [List.length_drop]; omega
        have hcat : r.take wd ++ r.drop wd = r := List.take_append_drop _ _
        refine told_X (Dij c1 c2 c3 c4 (r.take wd) (r.drop wd) wd) (start := r) (fun H H' T' hp I => dij_perm hp I) (fun x H T' I _ hx => dij_skip I hx) (fun x H T' I hm hx => dij_take b1 b2 b3 b4 hone htwo I hm hx) (fun H T' I => dij_len hone htwo I)
          (by have := dij_init (one := r.take wd) (two := r.drop wd) (wd := wd) b1 b2 b3 b4; rwa [hcat] at this) F3 X N3 T (DatIn.tuple (.tail _ (.head _)) (dat_ints hus)) (.head _) hw1 (by omega) (by show callerA.depth + 1 + 4 < recursionLimit; decide) rfl (by show callerA.units + 3 + 200 < cLine; decide) ?_
        intro Tl ts nt rest' h4 tk4 F4 N4 sub4 off4 G4 len4 I4
        clear F3 N3
        dsimp only
        k_fold
        repeat' walk1
        have hul : us.length = 2 * wd := by rw [hus.length, rowI_length, hr]
        have hO4 := sub4 _ (.tail _ (.head _))
        refine unhalt (slice_tuple_to (s := ⟨_, _, _, _, _⟩) F4 N4 ⟨_, (N4 _ (.tail _ hO4)).1, rfl, nO, rfl⟩ (by omega) (by omega) ?_)
        intro O1 h5 F5 N5 lt5
        clear F4
        repeat' walk1
        refine unhalt (slice_tuple_from (s := ⟨_, _, _, _, _⟩) F5 N5 ⟨_, (N5 _ (.tail _ (.tail _ hO4))).1, rfl, nO, rfl⟩ (by omega) (by omega) (by omega) ?_)
        intro O2 h6 F6 N6 lt6
        clear F5
        repeat' walk1
        have i1 : IntsAre (us.take wd) (rowI (r.take wd)) := by
          have := hus.take wd
          rwa [show (rowI r).take wd = rowI (r.take wd) from by simp [rowI, List.map_take]] at this
        have i2 : IntsAre (us.drop wd) (rowI (r.drop wd)) := by
          have := hus.drop wd
          rwa [show (rowI r).drop wd = rowI (r.drop wd) from by simp [rowI, List.map_drop]] at this
        refine unhalt (table_spec F6 X N6 T (.tail _ (.tail _ (.tail _ (sub4 _ (.head _))))) (.tail _ (.head _)) (.head _) i1 i2 (by omega) (by omega) (by show callerA.depth + 1 + 5 < recursionLimit; decide) rfl (by show callerA.units + 3 + 203 < cLine; decide) ?_)
        intro D us2 ps nt2 rest2 h7 tk7 F7 N7 sub7 G7 S7 P7 e7
        clear F6
        have eT := told_table b1 b2 b3 b4 hone htwo I4 S7 P7
        dsimp only
        have up7 : ∀ q ∈ rest', q ∈ (D, listOf (valsOf us2).toArray nt2) :: rest2 := fun q hq => .tail _ (sub7 _ (.tail _ (.tail _ (.tail _ hq))))
        refine kqd_eq N7 (.tail _ (sub7 _ (.tail _ (.tail _ (.head _))))) rfl rfl (good_dat G4) up7 (.head _) rfl rfl (good_dat G7) (fun q hq => .tail _ hq) ?_ ?_ (by show callerA.units + 3 + 64 < cLine; decide) ?_
        · intro d hd
          obtain ⟨x, _, rfl⟩ := List.mem_map.mp hd
          exact pairOk 6 x
        · intro d hd
          obtain ⟨x, _, rfl⟩ := List.mem_map.mp hd
          exact pairOk 6 x
        · rw [eT, e7]
          simp only [decide_true]
          exact h _ _ _ _ F7
end
end Mine
end

section
open PySem PySem.W PyProof.Rows PySem.SeqAt
set_option maxRecDepth 100000
set_option maxHeartbeats 8000000
namespace Mine
theorem main : PySem.Challenge.rw_nq0011_01.Holds := by
  refine Mine.hx ?_
  k_fill
  intro w s₀ s₁ mg mb G Y fa o pm cd doc dV kV ho hd hcd hD hmg hg args vals as hpre hlay hrd hwl hlo
  have KX := kIn_of Y
  refine Ground.open G ?_
  intro T B D TE TW
  have e71 : mg (Str.ofString "law") = some (.ref 71) := mg_of KX T.g (by k_is)
  have efa : fa = 71 := by
    have h1 : some (Value.ref fa) = some (.ref 71) := hmg.symm.trans e71
    exact Value.ref.inj (Option.some.inj h1)
  subst efa
  wrow_args hpre hlay hrd hwl hlo
  rename Heap.IsList _ _ _ => hL
  rename IntsAre _ _ => hI
  rename ¬ _ < _ => hN
  refine law_X KX (topRead_of T) hL hI (by omega) ?_
  intro L h' m tk F
  refine GoodW.toG (goodW_bool F hg ?_ ?_)
  · exact fun _ => rfl
  · first | kc_post | wrow_post
end Mine
end

open PySem PySem.W PyProof.Rows
theorem PySem.Challenge.cw_nq0011_01_holds : PySem.Challenge.rw_nq0011_01.Holds :=
  Mine.main
